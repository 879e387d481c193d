import JvmDerived
import JvmDerived.Pilot.@@N@@Statement
import JvmDerived.Pilot.@@N@@Code
set_option linter.unusedVariables false
set_option linter.unusedSimpArgs false
/- laws to paste: Road.backV, Road.eqW, Road.codOf (cut by pick.py; bodies as the Statement names them) -/
namespace Jvm.Pilot.@@N@@
namespace StrChars
open Jvm Sem ClassFile Op Lib Jvm.Stand Jvm.Free.XT Jvm.Free.ALB Jvm.Free.JM Jvm.Free
open Jvm.Lib.Cold (StaticIs)
/-- a char array whose places are chars -/
def Ch (a : Addr) (A : Cell) (U : State) : Prop := Arr .char a A U ∧ Typed .char A
theorem Ch.mv {a : Addr} {A : Cell} {U U' : State} (h : Ch a A U) (hal : U.vm.Alike U'.vm) (hh : U'.heap = U.heap) : Ch a A U' := ⟨h.1.mv hal hh, h.2⟩
theorem Ch.keep {a : Addr} {A : Cell} {U U' : State} (h : Ch a A U) (hal : U.vm.Alike U'.vm) (hk : U'.heap[a]? = some A) : Ch a A U' := ⟨h.1.keep hal hk, h.2⟩
/-- what place i of a char[]'s cell holds -/
def cv (A : Cell) (i : Nat) : Int32 := match A.slots[i]? with | some (.int x) => x | _ => 0
theorem Ch.get {a : Addr} {A : Cell} {U : State} (h : Ch a A U) {i : Nat} (hi : i < A.slots.size) : A.slots[i]? = some (.int (cv A i)) := by
  have e := Array.getElem?_eq_getElem hi
  have f := h.2 i _ e
  unfold cv; rw [e]
  generalize A.slots[i] = v at f
  cases v <;> simp [fits] at f ⊢
/-- the byte that i2b leaves of a char -/
def lo8 (x : Int32) : Int32 := x.toInt8.toInt32
theorem fits_lo8 (y : Int32) : fits .byte (.int (lo8 y)) = true := by
  have h1 := y.toInt8.le_toInt
  have h2 := y.toInt8.toInt_lt
  simp only [lo8, fits, Bool.and_eq_true, decide_eq_true_eq, Int32.le_iff_toInt_le, Int8.toInt_toInt32, show (-128 : Int32).toInt = -128 from by decide, show (127 : Int32).toInt = 127 from by decide]
  omega
/-- A' is A but that each place j of lo .. hi - 1 holds f j -/
def Laid (A A' : Cell) (lo hi : Nat) (f : Nat → Value) : Prop := A'.cls = A.cls ∧ A'.vm = A.vm ∧ A'.slots.size = A.slots.size ∧ ∀ i, A'.slots[i]? = if lo ≤ i ∧ i < hi then some (f i) else A.slots[i]?
theorem Laid.zero (A : Cell) (lo : Nat) (f : Nat → Value) : Laid A A lo (lo + 0) f := ⟨rfl, rfl, rfl, fun i => by rw [if_neg (by omega)]⟩
theorem Laid.step {A Ak : Cell} {lo k : Nat} {f : Nat → Value} {v : Value} (h : Laid A Ak lo k f) (hlo : lo ≤ k) (hk : k < Ak.slots.size) (hv : v = f k) : Laid A (Ak.setSlot k v) lo (k + 1) f := by
  refine ⟨h.1, h.2.1, by simpa [Cell.setSlot] using h.2.2.1, fun i => ?_⟩
  by_cases e : k = i
  · subst e; rw [Cell.slots_setSlot_self v hk, if_pos (by omega), hv]
  · rw [Cell.slots_setSlot_ne v e, h.2.2.2 i]
    by_cases q : lo ≤ i ∧ i < k
    · rw [if_pos q, if_pos (by omega)]
    · rw [if_neg q, if_neg (by omega)]
def U16 : String := "java/lang/StringUTF16"
namespace Cmp5
def yN : MethodName := ⟨"java/lang/StringUTF16", "compress", "([CI[BII)I"⟩
abbrev yB : ByteArray := jdk_52_method_21_code
theorem d0 : decode yB 0 = .ok (.iconst 0, 1) := by decide +kernel
theorem d1 : decode yB 1 = .ok (.istore 5, 2) := by decide +kernel
theorem d3 : decode yB 3 = .ok (.iload 5, 2) := by decide +kernel
theorem d5 : decode yB 5 = .ok (.iload 4, 2) := by decide +kernel
theorem d7 : decode yB 7 = .ok (.if_icmp (.ge) 37, 3) := by decide +kernel
theorem d10 : decode yB 10 = .ok (.aload_n 0, 1) := by decide +kernel
theorem d11 : decode yB 11 = .ok (.iload_n 1, 1) := by decide +kernel
theorem d12 : decode yB 12 = .ok (.caload, 1) := by decide +kernel
theorem d13 : decode yB 13 = .ok (.istore 6, 2) := by decide +kernel
theorem d15 : decode yB 15 = .ok (.iload 6, 2) := by decide +kernel
theorem d17 : decode yB 17 = .ok (.sipush 255, 3) := by decide +kernel
theorem d20 : decode yB 20 = .ok (.if_icmp (.le) 6, 3) := by decide +kernel
theorem d26 : decode yB 26 = .ok (.aload_n 2, 1) := by decide +kernel
theorem d27 : decode yB 27 = .ok (.iload_n 3, 1) := by decide +kernel
theorem d28 : decode yB 28 = .ok (.iload 6, 2) := by decide +kernel
theorem d30 : decode yB 30 = .ok (.i2b, 1) := by decide +kernel
theorem d31 : decode yB 31 = .ok (.bastore, 1) := by decide +kernel
theorem d32 : decode yB 32 = .ok (.iinc 1 1, 3) := by decide +kernel
theorem d35 : decode yB 35 = .ok (.iinc 3 1, 3) := by decide +kernel
theorem d38 : decode yB 38 = .ok (.iinc 5 1, 3) := by decide +kernel
theorem d41 : decode yB 41 = .ok (.goto (-38), 3) := by decide +kernel
theorem d44 : decode yB 44 = .ok (.iload 4, 2) := by decide +kernel
theorem d46 : decode yB 46 = .ok (.ireturn, 1) := by decide +kernel
def site : List Cond := []
def tab : Cond := tabOf yN yB 7 (some .int) site
def P (b : Addr) (A : Cell) (d : Addr) (B : Cell) (o q len : Nat) (args : Array Value) (s : State) : Prop := args = #[.ref b, .int (Int32.ofNat o), .ref d, .int (Int32.ofNat q), .int (Int32.ofNat len)] ∧ Ch b A s ∧ Arr .byte d B s ∧ b ≠ d ∧ o + len ≤ A.slots.size ∧ q + len ≤ B.slots.size ∧ ∀ i, i < len → ¬ 255 < cv A (o + i)
def E (b : Addr) (A : Cell) (d : Addr) (B : Cell) (o q len : Nat) (r : Option Value) (s u : State) : Prop := r = some (.int (Int32.ofNat len)) ∧ ∃ B', Put d B' s u ∧ Laid B B' q (q + len) (fun j => Value.int (lo8 (cv A (o + (j - q)))))
/-- no char of the range above 255: len; the places written hold each char's low byte -/
theorem law (l : Launch) (b : Addr) (A : Cell) (d : Addr) (B : Cell) (o q len : Nat) : Law l yN 5 5 0 0 yB 7 (some .int) site (P b A d B o q len) (E b A d B o q len) (copyLocs d q len) 0 0 := by
  refine Law.of_walk (plainFor_of_name (by decide +kernel)) (by decide +kernel) (by decide +kernel) (by decide) (fun _ _ h => by rw [h.1]; rfl) (fun _ U U' hal hh h => ⟨h.1, h.2.1.mv hal hh, h.2.2.1.mv hal hh, h.2.2.2⟩) (fun r U U' V V' h1 hal h2 h => ⟨h.1, h.2.elim fun B' q => ⟨B', q.1.mv h1 h2, q.2⟩⟩) ?_
  intro p e s m args below meth c s₁ X0 hexec hbytes hml hret hlk hnm hown hh0 W hP
  obtain ⟨rfl, hA, hB, hne, l1, l2, hp⟩ := hP
  have c1 : Steps p.tables e below (s₁.setTop (entryFrame m #[.ref b, .int (Int32.ofNat o), .ref d, .int (Int32.ofNat q), .int (Int32.ofNat len)] 7)) (s₁.setTop (mkF m 0 #[.val (.ref b), .val (.int (Int32.ofNat o)), .val (.ref d), .val (.int (Int32.ofNat q)), .val (.int (Int32.ofNat len)), .unset, .unset] [])) := entry rfl
  have hA0 := hA.1.mv X0.warmed.alike hh0
  have hB0 := hB.mv X0.warmed.alike hh0
  have a31 := hA.1.2.2.2
  have c2 : Steps p.tables e below (s₁.setTop (entryFrame m #[.ref b, .int (Int32.ofNat o), .ref d, .int (Int32.ofNat q), .int (Int32.ofNat len)] 7)) (s₁.setTop (mkF m 3 #[.val (.ref b), .val (.int (Int32.ofNat o)), .val (.ref d), .val (.int (Int32.ofNat q)), .val (.int (Int32.ofNat len)), .val (.int 0), .unset] [])) := c1.trans (by
    refine iconstV X0.here hexec rfl 0 (hb hbytes d0) (by decide) ?_
    refine XS.istore X0.here hexec rfl (hb hbytes d1) rfl rfl ?_
    exact Steps.refl _)
  have loop : ∀ (r i : Nat), i + r = len → ∀ (z : Slot), (z = .unset ∨ ∃ w, z = .val w ∧ w.category = 1) → ∀ (Tl : State) (Bk : Cell), Stand p l e { frames := 0, locals := 0, cells := 0, slots := 0 } s m #[.ref b, .int (Int32.ofNat o), .ref d, .int (Int32.ofNat q), .int (Int32.ofNat len)] below meth c Tl ([] ++ copyLocs d q i) 0 0 → Put d Bk s₁ Tl → Laid B Bk q (q + i) (fun j => Value.int (lo8 (cv A (o + (j - q))))) →
      Steps p.tables e below (s₁.setTop (entryFrame m #[.ref b, .int (Int32.ofNat o), .ref d, .int (Int32.ofNat q), .int (Int32.ofNat len)] 7)) (Tl.setTop (mkF m 3 #[.val (.ref b), .val (.int (Int32.ofNat (o + i))), .val (.ref d), .val (.int (Int32.ofNat (q + i))), .val (.int (Int32.ofNat len)), .val (.int (Int32.ofNat i)), z] [])) → ∃ (T' : State) (B' : Cell) (z' : Slot), Stand p l e { frames := 0, locals := 0, cells := 0, slots := 0 } s m #[.ref b, .int (Int32.ofNat o), .ref d, .int (Int32.ofNat q), .int (Int32.ofNat len)] below meth c T' ([] ++ copyLocs d q len) 0 0 ∧ Put d B' s₁ T' ∧ Laid B B' q (q + len) (fun j => Value.int (lo8 (cv A (o + (j - q))))) ∧
      Steps p.tables e below (s₁.setTop (entryFrame m #[.ref b, .int (Int32.ofNat o), .ref d, .int (Int32.ofNat q), .int (Int32.ofNat len)] 7)) (T'.setTop (mkF m 3 #[.val (.ref b), .val (.int (Int32.ofNat (o + len))), .val (.ref d), .val (.int (Int32.ofNat (q + len))), .val (.int (Int32.ofNat len)), .val (.int (Int32.ofNat len)), z'] [])) := by
    intro r
    induction r with
    | zero =>
      intro i hi z hz Tl Bk Xl pl fl cl
      have hil : i = len := by omega
      rw [hil] at Xl fl cl
      exact ⟨Tl, Bk, z, Xl, pl, fl, cl⟩
    | succ r ih =>
      intro i hi z hz Tl Bk Xl pl fl cl
      have all := X0.warmed.alike.symm.trans Xl.warmed.alike
      have hAl := hA0.keep all (pl.other hne hA0.1)
      have hBk := hB0.like all pl.1 fl.1 fl.2.1 fl.2.2.1
      have hlt : q + i < Bk.slots.size := by rw [fl.2.2.1]; omega
      have c3 : Steps p.tables e below (s₁.setTop (entryFrame m #[.ref b, .int (Int32.ofNat o), .ref d, .int (Int32.ofNat q), .int (Int32.ofNat len)] 7)) (Tl.setTop (mkF m 12 #[.val (.ref b), .val (.int (Int32.ofNat (o + i))), .val (.ref d), .val (.int (Int32.ofNat (q + i))), .val (.int (Int32.ofNat len)), .val (.int (Int32.ofNat i)), z] [.int (Int32.ofNat (o + i)), .ref b])) := cl.trans (by
        refine XS.iload Xl.here hexec rfl (hb hbytes d3) rfl ?_
        refine XS.iload Xl.here hexec rfl (hb hbytes d5) rfl ?_
        refine XS.icmpNo Xl.here hexec rfl (hb hbytes d7) rfl (ii_ge_f (lt32 (by omega) (by omega))) ?_
        refine XS.aloadN Xl.here hexec rfl (hb hbytes d10) rfl rfl ?_
        refine XS.iloadN Xl.here hexec rfl (hb hbytes d11) rfl ?_
        exact Steps.refl _)
      have c4 : Steps p.tables e below (s₁.setTop (entryFrame m #[.ref b, .int (Int32.ofNat o), .ref d, .int (Int32.ofNat q), .int (Int32.ofNat len)] 7)) (Tl.setTop (mkF m 13 #[.val (.ref b), .val (.int (Int32.ofNat (o + i))), .val (.ref d), .val (.int (Int32.ofNat (q + i))), .val (.int (Int32.ofNat len)), .val (.int (Int32.ofNat i)), z] [.int (cv A (o + i))])) := c3.trans (by
        refine Xl.aget hexec hAl rfl (hA.get (i := o + i) (by omega)) rfl rfl (hb hbytes d12) ?_
        exact Steps.refl _)
      have c5 : Steps p.tables e below (s₁.setTop (entryFrame m #[.ref b, .int (Int32.ofNat o), .ref d, .int (Int32.ofNat q), .int (Int32.ofNat len)] 7)) (Tl.setTop (mkF m 15 #[.val (.ref b), .val (.int (Int32.ofNat (o + i))), .val (.ref d), .val (.int (Int32.ofNat (q + i))), .val (.int (Int32.ofNat len)), .val (.int (Int32.ofNat i)), .val (.int (cv A (o + i)))] [])) := c4.trans (by
        refine XS.istoreS Xl.here hexec rfl (hb hbytes d13) rfl rfl hz ?_
        exact Steps.refl _)
      have c6 : Steps p.tables e below (s₁.setTop (entryFrame m #[.ref b, .int (Int32.ofNat o), .ref d, .int (Int32.ofNat q), .int (Int32.ofNat len)] 7)) (Tl.setTop (mkF m 31 #[.val (.ref b), .val (.int (Int32.ofNat (o + i))), .val (.ref d), .val (.int (Int32.ofNat (q + i))), .val (.int (Int32.ofNat len)), .val (.int (Int32.ofNat i)), .val (.int (cv A (o + i)))] [.int (lo8 (cv A (o + i))), .int (Int32.ofNat (q + i)), .ref d])) := c5.trans (by
        refine XS.iload Xl.here hexec rfl (hb hbytes d15) rfl ?_
        refine sipushV Xl.here hexec rfl 255 (hb hbytes d17) (by decide) ?_
        refine XS.icmpYes Xl.here hexec rfl (pc0 := 20) rfl (hb hbytes d20) rfl (ii_le_t (hp i (by omega))) (by decide) rfl ?_
        refine XS.aloadN Xl.here hexec rfl (hb hbytes d26) rfl rfl ?_
        refine XS.iloadN Xl.here hexec rfl (hb hbytes d27) rfl ?_
        refine XS.iload Xl.here hexec rfl (hb hbytes d28) rfl ?_
        refine i2b Xl.here hexec rfl (hb hbytes d30) rfl ?_
        exact Steps.refl _)
      obtain ⟨T7, X7, p7, st7⟩ := Xl.aput hexec hBk rfl hlt rfl (fits_lo8 (cv A (o + i))) (g := (mkF m 31 #[.val (.ref b), .val (.int (Int32.ofNat (o + i))), .val (.ref d), .val (.int (Int32.ofNat (q + i))), .val (.int (Int32.ofNat len)), .val (.int (Int32.ofNat i)), .val (.int (cv A (o + i)))] [.int (lo8 (cv A (o + i))), .int (Int32.ofNat (q + i)), .ref d])) rfl (rest := []) rfl (hb hbytes d31)
      have c8 : Steps p.tables e below (s₁.setTop (entryFrame m #[.ref b, .int (Int32.ofNat o), .ref d, .int (Int32.ofNat q), .int (Int32.ofNat len)] 7)) (T7.setTop (mkF m 32 #[.val (.ref b), .val (.int (Int32.ofNat (o + i))), .val (.ref d), .val (.int (Int32.ofNat (q + i))), .val (.int (Int32.ofNat len)), .val (.int (Int32.ofNat i)), .val (.int (cv A (o + i)))] [])) := c6.trans (st7 _ (Steps.refl _))
      have c9 : Steps p.tables e below (s₁.setTop (entryFrame m #[.ref b, .int (Int32.ofNat o), .ref d, .int (Int32.ofNat q), .int (Int32.ofNat len)] 7)) (T7.setTop (mkF m 3 #[.val (.ref b), .val (.int (Int32.ofNat (o + i) + 1)), .val (.ref d), .val (.int (Int32.ofNat (q + i) + 1)), .val (.int (Int32.ofNat len)), .val (.int (Int32.ofNat i + 1)), .val (.int (cv A (o + i)))] [])) := c8.trans (by
        refine iincV X7.here hexec rfl 1 (hb hbytes d32) (by decide) rfl rfl ?_
        refine iincV X7.here hexec rfl 1 (hb hbytes d35) (by decide) rfl rfl ?_
        refine iincV X7.here hexec rfl 1 (hb hbytes d38) (by decide) rfl rfl ?_
        refine XS.goto X7.here hexec rfl (pc0 := 41) rfl (hb hbytes d41) (by decide) rfl ?_
        exact Steps.refl _)
      have c10 : Steps p.tables e below (s₁.setTop (entryFrame m #[.ref b, .int (Int32.ofNat o), .ref d, .int (Int32.ofNat q), .int (Int32.ofNat len)] 7)) (T7.setTop (mkF m 3 #[.val (.ref b), .val (.int (Int32.ofNat (o + (i + 1)))), .val (.ref d), .val (.int (Int32.ofNat (q + (i + 1)))), .val (.int (Int32.ofNat len)), .val (.int (Int32.ofNat (i + 1))), .val (.int (cv A (o + i)))] [])) := by
        have := c9
        rw [succ32, succ32, succ32] at this
        exact this
      exact ih (i + 1) (by omega) _ (Or.inr ⟨_, rfl, rfl⟩) T7 _ (by rw [copyLocs_step, ← List.append_assoc]; exact X7) (pl.trans p7) (fl.step (by omega) hlt (by simp)) c10
  obtain ⟨T9, B9, z9, X9, p9, f9, g9⟩ := loop len 0 (by omega) .unset (Or.inl rfl) s₁ B (by simpa [copyLocs] using X0) ⟨hB0.1, fun _ _ => rfl, rfl⟩ (Laid.zero _ _ _) c2
  have c11 : Steps p.tables e below (s₁.setTop (entryFrame m #[.ref b, .int (Int32.ofNat o), .ref d, .int (Int32.ofNat q), .int (Int32.ofNat len)] 7)) (T9.setTop (mkF m 46 #[.val (.ref b), .val (.int (Int32.ofNat (o + len))), .val (.ref d), .val (.int (Int32.ofNat (q + len))), .val (.int (Int32.ofNat len)), .val (.int (Int32.ofNat len)), z9] [.int (Int32.ofNat len)])) := g9.trans (by
    refine XS.iload X9.here hexec rfl (hb hbytes d3) rfl ?_
    refine XS.iload X9.here hexec rfl (hb hbytes d5) rfl ?_
    refine XS.icmpYes X9.here hexec rfl (pc0 := 7) rfl (hb hbytes d7) rfl (ii_ge_t (nlt32 (by omega) (Nat.le_refl _))) (by decide) rfl ?_
    refine XS.iload X9.here hexec rfl (hb hbytes d44) rfl ?_
    exact Steps.refl _)
  exact ⟨T9, some (.int (Int32.ofNat len)), _, _, _, X9, by simp, rfl, rfl, (fun h => by cases h), ⟨rfl, B9, p9.from hh0, f9⟩, fun fs hl => c11.trans (X9.ireturnOut hexec hret rfl (Or.inl rfl) (hb hbytes d46) hl)⟩
end Cmp5
namespace Cmp3
def yN : MethodName := ⟨"java/lang/StringUTF16", "compress", "([CII)[B"⟩
abbrev yB : ByteArray := jdk_52_method_16_code
theorem d0 : decode yB 0 = .ok (.iload_n 2, 1) := by decide +kernel
theorem d1 : decode yB 1 = .ok (.newarray .byte, 2) := by decide +kernel
theorem d3 : decode yB 3 = .ok (.astore_n 3, 1) := by decide +kernel
theorem d4 : decode yB 4 = .ok (.aload_n 0, 1) := by decide +kernel
theorem d5 : decode yB 5 = .ok (.iload_n 1, 1) := by decide +kernel
theorem d6 : decode yB 6 = .ok (.aload_n 3, 1) := by decide +kernel
theorem d7 : decode yB 7 = .ok (.iconst 0, 1) := by decide +kernel
theorem d8 : decode yB 8 = .ok (.iload_n 2, 1) := by decide +kernel
theorem d9 : decode yB 9 = .ok (.invokestatic 115, 3) := by decide +kernel
theorem d12 : decode yB 12 = .ok (.istore 4, 2) := by decide +kernel
theorem d14 : decode yB 14 = .ok (.iload 4, 2) := by decide +kernel
theorem d16 : decode yB 16 = .ok (.iload_n 2, 1) := by decide +kernel
theorem d17 : decode yB 17 = .ok (.if_icmp (.eq) 40, 3) := by decide +kernel
theorem d57 : decode yB 57 = .ok (.aload_n 3, 1) := by decide +kernel
theorem d58 : decode yB 58 = .ok (.areturn, 1) := by decide +kernel
def site : List Cond := [.arrayClass .byte, Cmp5.tab] ++ staticW U16 115 Cmp5.yN
def tab : Cond := tabOf yN yB 6 (some (.array .byte)) site
def P (b : Addr) (A : Cell) (o len : Nat) (args : Array Value) (s : State) : Prop := args = #[.ref b, .int (Int32.ofNat o), .int (Int32.ofNat len)] ∧ Ch b A s ∧ o + len ≤ A.slots.size ∧ len ≤ 536870912 ∧ ∀ i, i < len → ¬ 255 < cv A (o + i)
def E (b : Addr) (A : Cell) (o len : Nat) (r : Option Value) (s u : State) : Prop := NewArr .byte "[B" len (fun j => .int (lo8 (cv A (o + j)))) r s u ∧ u.heap.size = s.heap.size + 1
/-- no char of the range above 255: a new byte[] of their low bytes -/
theorem law (l : Launch) (b : Addr) (A : Cell) (o len : Nat) : Law l yN 3 3 1 18 yB 6 (some (.array .byte)) site (P b A o len) (E b A o len) [] 1 len := by
  refine Law.of_walk (plainFor_of_name (by decide +kernel)) (by decide +kernel) (by decide +kernel) (by decide) (fun _ _ h => by rw [h.1]; rfl) (fun _ U U' hal hh h => ⟨h.1, h.2.1.mv hal hh, h.2.2⟩) (fun r U U' V V' h1 hal h2 h => ⟨NewArr.mv r U U' V V' h1 hal h2 h.1, by rw [h1, h2]; exact h.2⟩) ?_
  intro p e s m args below meth c s₁ X0 hexec hbytes hml hret hlk hnm hown hh0 W hP
  obtain ⟨rfl, hA, l1, l2, hp⟩ := hP
  have a31 := hA.1.2.2.2
  have c1 : Steps p.tables e below (s₁.setTop (entryFrame m #[.ref b, .int (Int32.ofNat o), .int (Int32.ofNat len)] 6)) (s₁.setTop (mkF m 0 #[.val (.ref b), .val (.int (Int32.ofNat o)), .val (.int (Int32.ofNat len)), .unset, .unset, .unset] [])) := entry rfl
  have c2 : Steps p.tables e below (s₁.setTop (entryFrame m #[.ref b, .int (Int32.ofNat o), .int (Int32.ofNat len)] 6)) (s₁.setTop (mkF m 1 #[.val (.ref b), .val (.int (Int32.ofNat o)), .val (.int (Int32.ofNat len)), .unset, .unset, .unset] [.int (Int32.ofNat len)])) := c1.trans (by
    refine XS.iloadN X0.here hexec rfl (hb hbytes d0) rfl ?_
    exact Steps.refl _)
  obtain ⟨T3, B3, X3, ba3, bs3, bv3, bh3, bf3, st3⟩ := X0.anew hexec (atype := .byte) (wk W (.arrayClass .byte)) rfl (by show len * 1 ≤ _; omega) (by omega) (g := (mkF m 1 #[.val (.ref b), .val (.int (Int32.ofNat o)), .val (.int (Int32.ofNat len)), .unset, .unset, .unset] [.int (Int32.ofNat len)])) rfl (hb hbytes d1) (rest := []) rfl (Nat.le_refl _) (by show 0 + len ≤ len; omega)
  rw [hh0] at ba3 st3
  have kp3 : XT.Kept s T3 := (XT.Kept.of_eq hh0).push bh3
  have hA3 := hA.keep X3.warmed.alike (kp3 _ _ hA.1.1)
  have hne : b ≠ s.heap.size := hA.1.ne
  have c4 : Steps p.tables e below (s₁.setTop (entryFrame m #[.ref b, .int (Int32.ofNat o), .int (Int32.ofNat len)] 6)) (T3.setTop (mkF m 3 #[.val (.ref b), .val (.int (Int32.ofNat o)), .val (.int (Int32.ofNat len)), .unset, .unset, .unset] [.ref s.heap.size])) := c2.trans (st3 _ (Steps.refl _))
  have c5 : Steps p.tables e below (s₁.setTop (entryFrame m #[.ref b, .int (Int32.ofNat o), .int (Int32.ofNat len)] 6)) (T3.setTop (mkF m 9 #[.val (.ref b), .val (.int (Int32.ofNat o)), .val (.int (Int32.ofNat len)), .val (.ref s.heap.size), .unset, .unset] [.int (Int32.ofNat len), .int 0, .ref s.heap.size, .int (Int32.ofNat o), .ref b])) := c4.trans (by
    refine XS.astoreN X3.here hexec rfl (hb hbytes d3) rfl rfl rfl ?_
    refine XS.aloadN X3.here hexec rfl (hb hbytes d4) rfl rfl ?_
    refine XS.iloadN X3.here hexec rfl (hb hbytes d5) rfl ?_
    refine XS.aloadN X3.here hexec rfl (hb hbytes d6) rfl rfl ?_
    refine iconstV X3.here hexec rfl 0 (hb hbytes d7) (by decide) ?_
    refine XS.iloadN X3.here hexec rfl (hb hbytes d8) rfl ?_
    exact Steps.refl _)
  obtain ⟨v6, T6, X6, E6, g6⟩ := X3.callS hexec (Cmp5.law l b A s.heap.size B3 o 0 len) hown (wks W (staticW U16 115 Cmp5.yN)) (wk W Cmp5.tab) (W := 0) (Nat.le_of_ble_eq_true rfl) (Nat.le_of_ble_eq_true rfl) (Nat.le_refl _) (by show 0 + len + 0 ≤ len; omega) (g := (mkF m 9 #[.val (.ref b), .val (.int (Int32.ofNat o)), .val (.int (Int32.ofNat len)), .val (.ref s.heap.size), .unset, .unset] [.int (Int32.ofNat len), .int (Int32.ofNat 0), .ref s.heap.size, .int (Int32.ofNat o), .ref b])) rfl (by rw [hml]; rfl) c5 (argsL := [.ref b, .int (Int32.ofNat o), .ref s.heap.size, .int (Int32.ofNat 0), .int (Int32.ofNat len)]) (rest := []) rfl rfl (by show 2 * 0 + 0 ≤ _; decide) (hb hbytes d9) (⟨rfl, hA3, ba3, hne, l1, by rw [bs3]; simp, hp⟩)
  obtain ⟨rfl, B6, p6, f6⟩ := E6
  have c7 : Steps p.tables e below (s₁.setTop (entryFrame m #[.ref b, .int (Int32.ofNat o), .int (Int32.ofNat len)] 6)) (T6.setTop (mkF m 12 #[.val (.ref b), .val (.int (Int32.ofNat o)), .val (.int (Int32.ofNat len)), .val (.ref s.heap.size), .unset, .unset] [.int (Int32.ofNat len)])) := g6
  have c8 : Steps p.tables e below (s₁.setTop (entryFrame m #[.ref b, .int (Int32.ofNat o), .int (Int32.ofNat len)] 6)) (T6.setTop (mkF m 58 #[.val (.ref b), .val (.int (Int32.ofNat o)), .val (.int (Int32.ofNat len)), .val (.ref s.heap.size), .val (.int (Int32.ofNat len)), .unset] [.ref s.heap.size])) := c7.trans (by
    refine XS.istore X6.here hexec rfl (hb hbytes d12) rfl rfl ?_
    refine XS.iload X6.here hexec rfl (hb hbytes d14) rfl ?_
    refine XS.iloadN X6.here hexec rfl (hb hbytes d16) rfl ?_
    refine XS.icmpYes X6.here hexec rfl (pc0 := 17) rfl (hb hbytes d17) rfl (ii_eq_t rfl) (by decide) rfl ?_
    refine XS.aloadN X6.here hexec rfl (hb hbytes d57) rfl rfl ?_
    exact Steps.refl _)
  have X8 := X6.wide (L' := []) (cells' := 1) (slots' := len) (fun x hx hlt => by
    simp only [List.nil_append, copyLocs, List.mem_map, List.mem_range] at hx
    obtain ⟨i, -, rfl⟩ := hx
    exact absurd hlt (Nat.lt_irrefl _)) (Nat.le_refl _) (by omega)
  exact ⟨T6, some (.ref s.heap.size), _, _, _, X8, rfl, rfl, rfl, (fun h => by cases h), ⟨⟨rfl, B6, ba3.like (X3.warmed.alike.symm.trans X6.warmed.alike) p6.1 f6.1 f6.2.1 f6.2.2.1, f6.2.1.trans bv3, by rw [X6.warmed.alike.findClass, f6.1]; exact bf3, by rw [f6.2.2.1, bs3]; simp, fun j hj => by rw [f6.2.2.2 j, if_pos (by omega)]; rfl, kp3.put p6 (Nat.le_refl _)⟩, by rw [p6.2.2, bh3, hh0]; simp⟩, fun fs hl => c8.trans (X8.areturnOut hexec rfl hret rfl (hb hbytes d58) hl)⟩
end Cmp3
namespace CodL
def yN : MethodName := ⟨"java/lang/StringUTF16", "coderFromArrayLen", "([BI)B"⟩
abbrev yB : ByteArray := jdk_52_method_15_code
theorem d0 : decode yB 0 = .ok (.iload_n 1, 1) := by decide +kernel
theorem d1 : decode yB 1 = .ok (.aload_n 0, 1) := by decide +kernel
theorem d2 : decode yB 2 = .ok (.arraylength, 1) := by decide +kernel
theorem d3 : decode yB 3 = .ok (.isub, 1) := by decide +kernel
theorem d4 : decode yB 4 = .ok (.bipush 31, 2) := by decide +kernel
theorem d6 : decode yB 6 = .ok (.iushr, 1) := by decide +kernel
theorem d7 : decode yB 7 = .ok (.i2b, 1) := by decide +kernel
theorem d8 : decode yB 8 = .ok (.ireturn, 1) := by decide +kernel
def site : List Cond := []
def tab : Cond := tabOf yN yB 2 (some .byte) site
def P (d : Addr) (B : Cell) (args : Array Value) (s : State) : Prop := args = #[.ref d, .int (Int32.ofNat B.slots.size)] ∧ Arr .byte d B s
def E (r : Option Value) (s u : State) : Prop := XT.PureE (some (.int 0)) r s u
/-- an array as long as the number of chars: LATIN1 -/
theorem law (l : Launch) (d : Addr) (B : Cell) : Law l yN 2 2 0 0 yB 2 (some .byte) site (P d B) E [] 0 0 := by
  refine Law.of_walk (plainFor_of_name (by decide +kernel)) (by decide +kernel) (by decide +kernel) (by decide) (fun _ _ h => by rw [h.1]; rfl) (fun _ U U' hal hh h => ⟨h.1, h.2.mv hal hh⟩) (fun r U U' V V' h1 hal h2 h => XT.PureE.mv r U U' V V' h1 hal h2 h) ?_
  intro p e s m args below meth c s₁ X0 hexec hbytes hml hret hlk hnm hown hh0 W hP
  obtain ⟨rfl, hB⟩ := hP
  have hB0 := hB.mv X0.warmed.alike hh0
  have c1 : Steps p.tables e below (s₁.setTop (entryFrame m #[.ref d, .int (Int32.ofNat B.slots.size)] 2)) (s₁.setTop (mkF m 0 #[.val (.ref d), .val (.int (Int32.ofNat B.slots.size))] [])) := entry rfl
  have c2 : Steps p.tables e below (s₁.setTop (entryFrame m #[.ref d, .int (Int32.ofNat B.slots.size)] 2)) (s₁.setTop (mkF m 2 #[.val (.ref d), .val (.int (Int32.ofNat B.slots.size))] [.ref d, .int (Int32.ofNat B.slots.size)])) := c1.trans (by
    refine XS.iloadN X0.here hexec rfl (hb hbytes d0) rfl ?_
    refine XS.aloadN X0.here hexec rfl (hb hbytes d1) rfl rfl ?_
    exact Steps.refl _)
  have c3 : Steps p.tables e below (s₁.setTop (entryFrame m #[.ref d, .int (Int32.ofNat B.slots.size)] 2)) (s₁.setTop (mkF m 8 #[.val (.ref d), .val (.int (Int32.ofNat B.slots.size))] [.int (lo8 (ushr (Int32.ofNat B.slots.size - Int32.ofNat B.slots.size) 31))])) := c2.trans (by
    refine X0.alen hexec hB0 rfl rfl (hb hbytes d2) ?_
    refine XS.isub X0.here hexec rfl (hb hbytes d3) rfl ?_
    refine bipushV X0.here hexec rfl 31 (hb hbytes d4) (by decide) ?_
    refine iushr X0.here hexec rfl (hb hbytes d6) rfl ?_
    refine i2b X0.here hexec rfl (hb hbytes d7) rfl ?_
    exact Steps.refl _)
  have e0 : lo8 (ushr (Int32.ofNat B.slots.size - Int32.ofNat B.slots.size) 31) = 0 := by rw [Int32.sub_self]; decide
  rw [e0] at c3
  exact ⟨s₁, some (.int 0), _, _, _, X0, rfl, rfl, rfl, (fun h => by cases h), ⟨rfl, hh0⟩, fun fs hl => c3.trans (X0.ireturnOut hexec hret rfl (Or.inr (Or.inr (Or.inl rfl))) (hb hbytes d8) hl)⟩
end CodL
/-- the String at a is Latin-1 over a new byte[] (the heap's one new cell): the low bytes of the len chars of A from o on; every cell but a is kept -/
def Got (a : Addr) (D : Cell) (fV fC : Field) (A : Cell) (o len : Nat) (r : Option Value) (s u : State) : Prop := r = none ∧ ∃ D' V : Cell, Blank "java/lang/String" a D' u ∧ Same D D' [fV.slot, fC.slot] ∧ D'.slots[fV.slot]? = some (.ref s.heap.size) ∧ D'.slots[fC.slot]? = some (.int 0) ∧ Arr .byte s.heap.size V u ∧ V.vm = .none ∧ u.vm.findClass "[B" = some V.cls ∧ V.slots.size = len ∧ (∀ j, j < len → V.slots[j]? = some (.int (lo8 (cv A (o + j))))) ∧ (∀ (y : Addr) (c : Cell), y ≠ a → s.heap[y]? = some c → u.heap[y]? = some c) ∧ u.heap.size = s.heap.size + 1
theorem Got.mv {a : Addr} {D A : Cell} {fV fC : Field} {o len : Nat} : ∀ r (U U' V V' : State), U'.heap = U.heap → V.vm.Alike V'.vm → V'.heap = V.heap → Got a D fV fC A o len r U V → Got a D fV fC A o len r U' V' :=
  fun r U U' V V' h1 hal h2 ⟨e0, D', X, a1, a2, a3, a4, a5, a6, a7, a8, a9, a10, a11⟩ => ⟨e0, D', X, a1.mv hal h2, a2, by rw [h1]; exact a3, a4, by rw [h1]; exact a5.mv hal h2, a6, by rw [hal.findClass]; exact a7, a8, a9, by rw [h1, h2]; exact a10, by rw [h1, h2]; exact a11⟩
namespace New4
def yN : MethodName := ⟨"java/lang/String", "<init>", "([CIILjava/lang/Void;)V"⟩
abbrev yB : ByteArray := jdk_42_method_149_code
theorem d0 : decode yB 0 = .ok (.aload_n 0, 1) := by decide +kernel
theorem d1 : decode yB 1 = .ok (.invokespecial 1, 3) := by decide +kernel
theorem d4 : decode yB 4 = .ok (.iload_n 3, 1) := by decide +kernel
theorem d5 : decode yB 5 = .ok (.ifCond (.ne) 22, 3) := by decide +kernel
theorem d27 : decode yB 27 = .ok (.getstatic 38, 3) := by decide +kernel
theorem d30 : decode yB 30 = .ok (.ifCond (.eq) 28, 3) := by decide +kernel
theorem d33 : decode yB 33 = .ok (.aload_n 1, 1) := by decide +kernel
theorem d34 : decode yB 34 = .ok (.iload_n 2, 1) := by decide +kernel
theorem d35 : decode yB 35 = .ok (.iload_n 3, 1) := by decide +kernel
theorem d36 : decode yB 36 = .ok (.invokestatic 177, 3) := by decide +kernel
theorem d39 : decode yB 39 = .ok (.astore 5, 2) := by decide +kernel
theorem d41 : decode yB 41 = .ok (.aload_n 0, 1) := by decide +kernel
theorem d42 : decode yB 42 = .ok (.aload 5, 2) := by decide +kernel
theorem d44 : decode yB 44 = .ok (.iload_n 3, 1) := by decide +kernel
theorem d45 : decode yB 45 = .ok (.invokestatic 47, 3) := by decide +kernel
theorem d48 : decode yB 48 = .ok (.putfield 15, 3) := by decide +kernel
theorem d51 : decode yB 51 = .ok (.aload_n 0, 1) := by decide +kernel
theorem d52 : decode yB 52 = .ok (.aload 5, 2) := by decide +kernel
theorem d54 : decode yB 54 = .ok (.putfield 9, 3) := by decide +kernel
theorem d57 : decode yB 57 = .ok (.return_, 1) := by decide +kernel
def site : List Cond := [.fieldLink "java/lang/String" 38 "java/lang/String" "COMPACT_STRINGS" "Z", Cmp3.tab, CodL.tab, .laysFinal "java/lang/String" "java/lang/String" "value" "[B", .fieldLink "java/lang/String" 9 "java/lang/String" "value" "[B", .laysFinal "java/lang/String" "java/lang/String" "coder" "B", .fieldLink "java/lang/String" 15 "java/lang/String" "coder" "B"] ++ objW "java/lang/String" 1 ++ staticW "java/lang/String" 177 Cmp3.yN ++ staticW "java/lang/String" 47 CodL.yN
def tab : Cond := tabOf yN yB 6 none site
def P (a : Addr) (D : Cell) (fV fC : Field) (b : Addr) (A : Cell) (z : Int32) (o len : Nat) (args : Array Value) (s : State) : Prop := args = #[.ref a, .ref b, .int (Int32.ofNat o), .int (Int32.ofNat len), .null] ∧ Blank "java/lang/String" a D s ∧ Found "java/lang/String" "value" "[B" fV s ∧ Found "java/lang/String" "coder" "B" fC s ∧ Ch b A s ∧ StaticIs s "java/lang/String" "COMPACT_STRINGS" "Z" (.int z) ∧ ¬ z = 0 ∧ 0 < len ∧ o + len ≤ A.slots.size ∧ len ≤ 536870912 ∧ ∀ i, i < len → ¬ 255 < cv A (o + i)
def E (a : Addr) (D : Cell) (fV fC : Field) (A : Cell) (o len : Nat) (r : Option Value) (s u : State) : Prop := Got a D fV fC A o len r s u
/-- len > 0, no char of the range above 255: a Latin-1 String of their low bytes -/
theorem law (l : Launch) (a : Addr) (D : Cell) (fV fC : Field) (b : Addr) (A : Cell) (z : Int32) (o len : Nat) : Law l yN 5 4 2 35 yB 6 none site (P a D fV fC b A z o len) (E a D fV fC A o len) [⟨a, fC.slot⟩, ⟨a, fV.slot⟩] 1 len := by
  refine Law.of_walk (plainFor_of_name (by decide +kernel)) (by decide +kernel) (by decide +kernel) (by decide) (fun _ _ h => by rw [h.1]; rfl) (fun _ U U' hal hh h => ⟨h.1, h.2.1.mv hal hh, h.2.2.1.al hal, h.2.2.2.1.al hal, h.2.2.2.2.1.mv hal hh, h.2.2.2.2.2.1.there hal hh, h.2.2.2.2.2.2⟩) (fun r U U' V V' h1 hal h2 h => Got.mv r U U' V V' h1 hal h2 h) ?_
  intro p e s m args below meth c s₁ X0 hexec hbytes hml hret hlk hnm hown hh0 W hP
  obtain ⟨rfl, hB, f1, f2, hA, s1, hz, l0, l1, l2, hp⟩ := hP
  have a31 := hA.1.2.2.2
  have c1 : Steps p.tables e below (s₁.setTop (entryFrame m #[.ref a, .ref b, .int (Int32.ofNat o), .int (Int32.ofNat len), .null] 6)) (s₁.setTop (mkF m 0 #[.val (.ref a), .val (.ref b), .val (.int (Int32.ofNat o)), .val (.int (Int32.ofNat len)), .val .null, .unset] [])) := entry rfl
  have c2 : Steps p.tables e below (s₁.setTop (entryFrame m #[.ref a, .ref b, .int (Int32.ofNat o), .int (Int32.ofNat len), .null] 6)) (s₁.setTop (mkF m 1 #[.val (.ref a), .val (.ref b), .val (.int (Int32.ofNat o)), .val (.int (Int32.ofNat len)), .val .null, .unset] [.ref a])) := c1.trans (by
    refine XS.aloadN X0.here hexec rfl (hb hbytes d0) rfl rfl ?_
    exact Steps.refl _)
  obtain ⟨T3, X3, q3, st3⟩ := X0.oinit hexec hown (wks W (objW "java/lang/String" 1)) (g := (mkF m 1 #[.val (.ref a), .val (.ref b), .val (.int (Int32.ofNat o)), .val (.int (Int32.ofNat len)), .val .null, .unset] [.ref a])) rfl (by rw [hml]; rfl) (rest := []) rfl (hb hbytes d1) (W := 0) (by show 2 * 0 + 0 ≤ _; decide) (Nat.le_of_ble_eq_true rfl) (Nat.le_of_ble_eq_true rfl)
  have hh3 := q3.trans hh0
  have c4 : Steps p.tables e below (s₁.setTop (entryFrame m #[.ref a, .ref b, .int (Int32.ofNat o), .int (Int32.ofNat len), .null] 6)) (T3.setTop (mkF m 27 #[.val (.ref a), .val (.ref b), .val (.int (Int32.ofNat o)), .val (.int (Int32.ofNat len)), .val .null, .unset] [])) := (c2.trans (st3 _ (Steps.refl _))).trans (by
    refine XS.iloadN X3.here hexec rfl (hb hbytes d4) rfl ?_
    refine XS.ifYes X3.here hexec rfl (pc0 := 5) rfl (hb hbytes d5) rfl (i0_ne_t (nz32 (by omega) l0)) (by decide) rfl ?_
    exact Steps.refl _)
  obtain ⟨T5, X5, q5, st5⟩ := X3.sget hexec hown (wk W (.fieldLink "java/lang/String" 38 "java/lang/String" "COMPACT_STRINGS" "Z")) s1 (fun _ _ h => by rw [hh3]; exact h) (g := (mkF m 27 #[.val (.ref a), .val (.ref b), .val (.int (Int32.ofNat o)), .val (.int (Int32.ofNat len)), .val .null, .unset] [])) rfl (hb hbytes d27)
  have hh5 := q5.trans hh3
  have c6 : Steps p.tables e below (s₁.setTop (entryFrame m #[.ref a, .ref b, .int (Int32.ofNat o), .int (Int32.ofNat len), .null] 6)) (T5.setTop (mkF m 30 #[.val (.ref a), .val (.ref b), .val (.int (Int32.ofNat o)), .val (.int (Int32.ofNat len)), .val .null, .unset] [.int z])) := c4.trans (st5 _ (Steps.refl _))
  have c7 : Steps p.tables e below (s₁.setTop (entryFrame m #[.ref a, .ref b, .int (Int32.ofNat o), .int (Int32.ofNat len), .null] 6)) (T5.setTop (mkF m 36 #[.val (.ref a), .val (.ref b), .val (.int (Int32.ofNat o)), .val (.int (Int32.ofNat len)), .val .null, .unset] [.int (Int32.ofNat len), .int (Int32.ofNat o), .ref b])) := c6.trans (by
    refine XS.ifNo X5.here hexec rfl (hb hbytes d30) rfl (i0_eq_f hz) ?_
    refine XS.aloadN X5.here hexec rfl (hb hbytes d33) rfl rfl ?_
    refine XS.iloadN X5.here hexec rfl (hb hbytes d34) rfl ?_
    refine XS.iloadN X5.here hexec rfl (hb hbytes d35) rfl ?_
    exact Steps.refl _)
  obtain ⟨v8, T8, X8, E8, g8⟩ := X5.callS hexec (Cmp3.law l b A o len) hown (wks W (staticW "java/lang/String" 177 Cmp3.yN)) (wk W Cmp3.tab) (W := 0) (Nat.le_of_ble_eq_true rfl) (Nat.le_of_ble_eq_true rfl) (Nat.le_refl _) (by show 0 + len ≤ len; omega) (g := (mkF m 36 #[.val (.ref a), .val (.ref b), .val (.int (Int32.ofNat o)), .val (.int (Int32.ofNat len)), .val .null, .unset] [.int (Int32.ofNat len), .int (Int32.ofNat o), .ref b])) rfl (by rw [hml]; rfl) c7 (argsL := [.ref b, .int (Int32.ofNat o), .int (Int32.ofNat len)]) (rest := []) rfl rfl (by show 2 * 0 + 0 ≤ _; decide) (hb hbytes d36) (⟨rfl, hA.mv X5.warmed.alike hh5, l1, l2, hp⟩)
  obtain ⟨e8, z8⟩ := E8
  obtain ⟨rfl, N, n1, n2, n3, n4, n5, n6⟩ := NewArr.mv _ T5 s _ _ hh5.symm (Vm.Alike.refl _) rfl e8
  rw [hh5] at z8
  have hB1 := hB.keep X8.warmed.alike (n6 _ _ hB.1)
  have hne : s.heap.size ≠ a := (Nat.ne_of_lt (Array.getElem?_eq_some_iff.mp hB.1).1).symm
  have c9 : Steps p.tables e below (s₁.setTop (entryFrame m #[.ref a, .ref b, .int (Int32.ofNat o), .int (Int32.ofNat len), .null] 6)) (T8.setTop (mkF m 39 #[.val (.ref a), .val (.ref b), .val (.int (Int32.ofNat o)), .val (.int (Int32.ofNat len)), .val .null, .unset] [.ref s.heap.size])) := g8
  have c10 : Steps p.tables e below (s₁.setTop (entryFrame m #[.ref a, .ref b, .int (Int32.ofNat o), .int (Int32.ofNat len), .null] 6)) (T8.setTop (mkF m 45 #[.val (.ref a), .val (.ref b), .val (.int (Int32.ofNat o)), .val (.int (Int32.ofNat len)), .val .null, .val (.ref s.heap.size)] [.int (Int32.ofNat N.slots.size), .ref s.heap.size, .ref a])) := by
    have hc : Steps p.tables e below (s₁.setTop (entryFrame m #[.ref a, .ref b, .int (Int32.ofNat o), .int (Int32.ofNat len), .null] 6)) (T8.setTop (mkF m 45 #[.val (.ref a), .val (.ref b), .val (.int (Int32.ofNat o)), .val (.int (Int32.ofNat len)), .val .null, .val (.ref s.heap.size)] [.int (Int32.ofNat len), .ref s.heap.size, .ref a])) := c9.trans (by
      refine XS.astore X8.here hexec rfl (hb hbytes d39) rfl rfl rfl ?_
      refine XS.aloadN X8.here hexec rfl (hb hbytes d41) rfl rfl ?_
      refine XS.aload X8.here hexec rfl (hb hbytes d42) rfl rfl ?_
      refine XS.iloadN X8.here hexec rfl (hb hbytes d44) rfl ?_
      exact Steps.refl _)
    rw [n4]; exact hc
  obtain ⟨v11, T11, X11, E11, g11⟩ := X8.callS hexec (CodL.law l s.heap.size N) hown (wks W (staticW "java/lang/String" 47 CodL.yN)) (wk W CodL.tab) (W := 1) (Nat.le_of_ble_eq_true rfl) (Nat.le_of_ble_eq_true rfl) (Nat.le_refl _) (by show 0 + len + 0 ≤ len; omega) (g := (mkF m 45 #[.val (.ref a), .val (.ref b), .val (.int (Int32.ofNat o)), .val (.int (Int32.ofNat len)), .val .null, .val (.ref s.heap.size)] [.int (Int32.ofNat N.slots.size), .ref s.heap.size, .ref a])) rfl (by rw [hml]; rfl) c10 (argsL := [.ref s.heap.size, .int (Int32.ofNat N.slots.size)]) (rest := [.ref a]) rfl rfl (by show 2 * 0 + (1 + 0) ≤ _; decide) (hb hbytes d45) (⟨rfl, n1⟩)
  obtain ⟨rfl, q11⟩ := E11
  have hB11 := hB1.mv (X8.warmed.alike.symm.trans X11.warmed.alike) q11
  have c12 : Steps p.tables e below (s₁.setTop (entryFrame m #[.ref a, .ref b, .int (Int32.ofNat o), .int (Int32.ofNat len), .null] 6)) (T11.setTop (mkF m 48 #[.val (.ref a), .val (.ref b), .val (.int (Int32.ofNat o)), .val (.int (Int32.ofNat len)), .val .null, .val (.ref s.heap.size)] [.int 0, .ref a])) := g11
  obtain ⟨T13, X13, p13, bl13, sl13, st13⟩ := X11.finit hexec hown (wk W (.fieldLink "java/lang/String" 15 "java/lang/String" "coder" "B")) (Or.inr ⟨_, (wk W (.laysFinal "java/lang/String" "java/lang/String" "coder" "B"))⟩) (Or.inl ⟨rfl, hnm⟩) f2 (Or.inl rfl) hB11 (t := .byte) (by decide +kernel) rfl (g := (mkF m 48 #[.val (.ref a), .val (.ref b), .val (.int (Int32.ofNat o)), .val (.int (Int32.ofNat len)), .val .null, .val (.ref s.heap.size)] [.int 0, .ref a])) rfl (rest := []) rfl (hb hbytes d48)
  have c14 : Steps p.tables e below (s₁.setTop (entryFrame m #[.ref a, .ref b, .int (Int32.ofNat o), .int (Int32.ofNat len), .null] 6)) (T13.setTop (mkF m 54 #[.val (.ref a), .val (.ref b), .val (.int (Int32.ofNat o)), .val (.int (Int32.ofNat len)), .val .null, .val (.ref s.heap.size)] [.ref s.heap.size, .ref a])) := (c12.trans (st13 _ (Steps.refl _))).trans (by
    refine XS.aloadN X13.here hexec rfl (hb hbytes d51) rfl rfl ?_
    refine XS.aload X13.here hexec rfl (hb hbytes d52) rfl rfl ?_
    exact Steps.refl _)
  obtain ⟨T15, X15, p15, bl15, sl15, st15⟩ := X13.finit hexec hown (wk W (.fieldLink "java/lang/String" 9 "java/lang/String" "value" "[B")) (Or.inr ⟨_, (wk W (.laysFinal "java/lang/String" "java/lang/String" "value" "[B"))⟩) (Or.inl ⟨rfl, hnm⟩) f1 (Or.inl rfl) bl13 (t := (.array .byte)) (by decide +kernel) rfl (g := (mkF m 54 #[.val (.ref a), .val (.ref b), .val (.int (Int32.ofNat o)), .val (.int (Int32.ofNat len)), .val .null, .val (.ref s.heap.size)] [.ref s.heap.size, .ref a])) rfl (rest := []) rfl (hb hbytes d54)
  have c16 : Steps p.tables e below (s₁.setTop (entryFrame m #[.ref a, .ref b, .int (Int32.ofNat o), .int (Int32.ofNat len), .null] 6)) (T15.setTop (mkF m 57 #[.val (.ref a), .val (.ref b), .val (.int (Int32.ofNat o)), .val (.int (Int32.ofNat len)), .val .null, .val (.ref s.heap.size)] [])) := c14.trans (st15 _ (Steps.refl _))
  have ap := apart (Or.inr ⟨_, (wk W (.laysFinal "java/lang/String" "java/lang/String" "value" "[B"))⟩) (Or.inr ⟨_, (wk W (.laysFinal "java/lang/String" "java/lang/String" "coder" "B"))⟩) f1 f2 (t₁ := .array .byte) (t₂ := .byte) (by decide +kernel) (by decide +kernel) (by decide)
  have al := X8.warmed.alike.symm.trans X15.warmed.alike
  have n7 : T11.heap[s.heap.size]? = some N := by rw [q11]; exact n1.1
  exact ⟨T15, none, _, _, _, X15, by simp, rfl, by omega, (fun _ => rfl), ⟨rfl, _, N, bl15, ((Same.refl D _).set _ (by simp)).set _ (by simp), sl15, (Cell.slots_setSlot_ne _ ap).trans sl13, n1.keep al (p15.other hne (p13.other hne n7)), n2, by rw [al.findClass]; exact n3, n4, n5, fun y c h1 h2 => p15.other h1 (p13.other h1 (by rw [q11]; exact n6 y c h2)), by rw [p15.2.2, p13.2.2, q11]; exact z8⟩, fun fs hl => c16.trans (X15.returnOut hexec hret (hb hbytes d57) hl)⟩
end New4
namespace New1
def yN : MethodName := ⟨"java/lang/String", "<init>", "([C)V"⟩
abbrev yB : ByteArray := jdk_42_method_3_code
theorem d0 : decode yB 0 = .ok (.aload_n 0, 1) := by decide +kernel
theorem d1 : decode yB 1 = .ok (.aload_n 1, 1) := by decide +kernel
theorem d2 : decode yB 2 = .ok (.iconst 0, 1) := by decide +kernel
theorem d3 : decode yB 3 = .ok (.aload_n 1, 1) := by decide +kernel
theorem d4 : decode yB 4 = .ok (.arraylength, 1) := by decide +kernel
theorem d5 : decode yB 5 = .ok (.aconst_null, 1) := by decide +kernel
theorem d6 : decode yB 6 = .ok (.invokespecial 27, 3) := by decide +kernel
theorem d9 : decode yB 9 = .ok (.return_, 1) := by decide +kernel
def site : List Cond := [New4.tab] ++ initW "java/lang/String" 27 New4.yN
def tab : Cond := tabOf yN yB 2 none site
def P (a : Addr) (D : Cell) (fV fC : Field) (b : Addr) (A : Cell) (z : Int32) (args : Array Value) (s : State) : Prop := args = #[.ref a, .ref b] ∧ Blank "java/lang/String" a D s ∧ Found "java/lang/String" "value" "[B" fV s ∧ Found "java/lang/String" "coder" "B" fC s ∧ Ch b A s ∧ StaticIs s "java/lang/String" "COMPACT_STRINGS" "Z" (.int z) ∧ ¬ z = 0 ∧ 0 < A.slots.size ∧ A.slots.size ≤ 536870912 ∧ ∀ i, i < A.slots.size → ¬ 255 < cv A i
def E (a : Addr) (D : Cell) (fV fC : Field) (A : Cell) (r : Option Value) (s u : State) : Prop := Got a D fV fC A 0 A.slots.size r s u
/-- new String(chars), not empty, no char above 255: a Latin-1 String of their low bytes -/
theorem law (l : Launch) (a : Addr) (D : Cell) (fV fC : Field) (b : Addr) (A : Cell) (z : Int32) : Law l yN 2 1 3 52 yB 2 none site (P a D fV fC b A z) (E a D fV fC A) [⟨a, fC.slot⟩, ⟨a, fV.slot⟩] 1 A.slots.size := by
  refine Law.of_walk (plainFor_of_name (by decide +kernel)) (by decide +kernel) (by decide +kernel) (by decide) (fun _ _ h => by rw [h.1]; rfl) (fun _ U U' hal hh h => ⟨h.1, h.2.1.mv hal hh, h.2.2.1.al hal, h.2.2.2.1.al hal, h.2.2.2.2.1.mv hal hh, h.2.2.2.2.2.1.there hal hh, h.2.2.2.2.2.2⟩) (fun r U U' V V' h1 hal h2 h => Got.mv r U U' V V' h1 hal h2 h) ?_
  intro p e s m args below meth c s₁ X0 hexec hbytes hml hret hlk hnm hown hh0 W hP
  obtain ⟨rfl, hB, f1, f2, hA, s1, hz, l0, l2, hp⟩ := hP
  have c1 : Steps p.tables e below (s₁.setTop (entryFrame m #[.ref a, .ref b] 2)) (s₁.setTop (mkF m 0 #[.val (.ref a), .val (.ref b)] [])) := entry rfl
  have c2 : Steps p.tables e below (s₁.setTop (entryFrame m #[.ref a, .ref b] 2)) (s₁.setTop (mkF m 6 #[.val (.ref a), .val (.ref b)] [.null, .int (Int32.ofNat A.slots.size), .int 0, .ref b, .ref a])) := c1.trans (by
    refine XS.aloadN X0.here hexec rfl (hb hbytes d0) rfl rfl ?_
    refine XS.aloadN X0.here hexec rfl (hb hbytes d1) rfl rfl ?_
    refine iconstV X0.here hexec rfl 0 (hb hbytes d2) (by decide) ?_
    refine XS.aloadN X0.here hexec rfl (hb hbytes d3) rfl rfl ?_
    refine X0.alen hexec (hA.1.mv X0.warmed.alike hh0) rfl rfl (hb hbytes d4) ?_
    refine XS.aconstNull X0.here hexec rfl (hb hbytes d5) ?_
    exact Steps.refl _)
  obtain ⟨v3, T3, X3, E3, g3⟩ := X0.callN hexec (New4.law l a D fV fC b A z 0 A.slots.size) rfl hown (wks W (initW "java/lang/String" 27 New4.yN)) (W New4.tab (by simp only [site, List.mem_cons, List.mem_append, true_or, or_true])) (W := 0) (Nat.le_of_ble_eq_true rfl) (Nat.le_of_ble_eq_true rfl) (Nat.le_refl _) (by show 0 + A.slots.size ≤ A.slots.size; omega) (g := (mkF m 6 #[.val (.ref a), .val (.ref b)] [.null, .int (Int32.ofNat A.slots.size), .int (Int32.ofNat 0), .ref b, .ref a])) rfl (by rw [hml]; rfl) c2 (argsL := [.ref b, .int (Int32.ofNat 0), .int (Int32.ofNat A.slots.size), .null]) (rest := []) rfl rfl (by show 2 * 0 + 0 ≤ _; decide) (hb hbytes d6) (⟨rfl, hB.mv X0.warmed.alike hh0, f1.al X0.warmed.alike, f2.al X0.warmed.alike, hA.mv X0.warmed.alike hh0, s1.there X0.warmed.alike hh0, hz, l0, by omega, l2, fun i hi => by rw [Nat.zero_add]; exact hp i hi⟩)
  have e0 := Got.mv _ s₁ s _ _ hh0.symm (Vm.Alike.refl _) rfl E3
  obtain rfl := e0.1
  have c4 : Steps p.tables e below (s₁.setTop (entryFrame m #[.ref a, .ref b] 2)) (T3.setTop (mkF m 9 #[.val (.ref a), .val (.ref b)] [])) := g3
  exact ⟨T3, none, _, _, _, X3, by simp, rfl, by omega, (fun _ => rfl), e0, fun fs hl => c4.trans (X3.returnOut hexec hret (hb hbytes d9) hl)⟩
theorem pays {l : Launch} {R : Room} {p : Program} {e : Env} {below : List Frame} {s : State} {sargs : Array Value} {len W : Nat} (a : Addr) (D : Cell) (fV fC : Field) (b : Addr) (A : Cell) (z : Int32) (htab : tab.before sargs s = true) (hfr : 4 ≤ R.frames) (hlo : W + 65 ≤ R.locals) :
    Back l R p e below s sargs yN len W (fun A₁ a₁ => A₁.cells + 1 ≤ R.cells ∧ A₁.slots + A.slots.size ≤ R.slots ∧ P a D fV fC b A z a₁ A₁.U) (fun A₁ _ v₁ B₁ => E a D fV fC A v₁ A₁.U B₁.U ∧ B₁.locs = A₁.locs ++ [⟨a, fC.slot⟩, ⟨a, fV.slot⟩] ∧ B₁.cells = A₁.cells + 1 ∧ B₁.slots = A₁.slots + A.slots.size) :=
  (law l a D fV fC b A z).pays htab hfr (by omega)
end New1
/-- the byte, read back as charAt reads it, is the char -/
theorem lo8_mask {x : Int32} (h0 : ¬ x < 0) (h1 : ¬ 255 < x) : lo8 x &&& 255 = x := by
  have t : ∀ k : Fin 256, lo8 (Int32.ofNat k.val) &&& 255 = Int32.ofNat k.val := by decide +kernel
  rw [Int32.lt_iff_toInt_lt] at h0 h1
  have e0 : (0 : Int32).toInt = 0 := rfl
  have e1 : (255 : Int32).toInt = 255 := rfl
  obtain ⟨k, hk⟩ : ∃ k : Nat, x.toInt = k := ⟨x.toInt.toNat, by omega⟩
  have hx : x = Int32.ofNat k := Int32.toInt_inj.mp (by rw [hk, Int32.toInt_ofNat_small (by omega)])
  rw [hx]
  exact t ⟨k, by omega⟩
end StrChars
namespace StrChars.Road
open Jvm Sem ClassFile Op Lib Jvm.Stand Jvm.Free Jvm.Free.XT
open Jvm.Lib.Cold (StaticIs)
abbrev ST : String := "java/lang/String"
/-- every table word that New1's law asks, flat -/
abbrev words : List Jvm.Cond := [.code New1.yN New1.yB 2 none, .initialized ST, .methodLink ST 27 New4.yN, .instanceMethod New4.yN,
  .code New4.yN New4.yB 6 none, .fieldLink ST 38 ST "COMPACT_STRINGS" "Z", .laysFinal ST ST "value" "[B", .fieldLink ST 9 ST "value" "[B", .laysFinal ST ST "coder" "B", .fieldLink ST 15 ST "coder" "B",
  .methodLink ST 1 Lib.objectInit, .instanceMethod Lib.objectInit, .code Lib.objectInit ⟨#[0xb1]⟩ 1 none, .methodLink ST 177 Cmp3.yN, .static Cmp3.yN, .methodLink ST 47 CodL.yN, .static CodL.yN,
  .code Cmp3.yN Cmp3.yB 6 (some (.array .byte)), .initialized U16, .arrayClass .byte, .methodLink U16 115 Cmp5.yN, .static Cmp5.yN, .code Cmp5.yN Cmp5.yB 7 (some .int), .code CodL.yN CodL.yB 2 (some .byte)]
theorem tab_of {a : Array Value} {s : State} (h : ∀ w ∈ words, w.before a s = true) : New1.tab.before a s = true := by
  have h5 : Cmp5.tab.before a s = true := unparts (wk h (.code Cmp5.yN Cmp5.yB 7 (some .int))) (wks h (.initialized Cmp5.yN.cls :: Cmp5.site))
  have hc : CodL.tab.before a s = true := unparts (wk h (.code CodL.yN CodL.yB 2 (some .byte))) (wks h (.initialized CodL.yN.cls :: CodL.site))
  have q5 : ∀ w ∈ Cmp5.tab :: words, w.before a s = true := fun w hw => (List.mem_cons.mp hw).elim (fun e => e ▸ h5) (h w)
  have h3 : Cmp3.tab.before a s = true := unparts (wk q5 (.code Cmp3.yN Cmp3.yB 6 (some (.array .byte)))) (wks q5 (.initialized Cmp3.yN.cls :: Cmp3.site))
  have q3 : ∀ w ∈ Cmp3.tab :: CodL.tab :: words, w.before a s = true := fun w hw => (List.mem_cons.mp hw).elim (fun e => e ▸ h3) fun hw => (List.mem_cons.mp hw).elim (fun e => e ▸ hc) (h w)
  have h4 : New4.tab.before a s = true := unparts (wk q3 (.code New4.yN New4.yB 6 none)) (wks q3 (.initialized New4.yN.cls :: New4.site))
  have q4 : ∀ w ∈ New4.tab :: words, w.before a s = true := fun w hw => (List.mem_cons.mp hw).elim (fun e => e ▸ h4) (h w)
  exact unparts (wk q4 (.code New1.yN New1.yB 2 none)) (wks q4 (.initialized New1.yN.cls :: New1.site))
/-- the words ride from the start Z to the walk's own state -/
theorem moved {Z s : State} {a0 args : Array Value} (hZ : Z.Warmed39 s.vm) (hw : ∀ d ∈ words, d.before a0 Z = true) : ∀ d ∈ words, d.before args s = true := fun d hd => by
  have q := hw d hd
  have t : ∀ d ∈ words, d = .arrayClass .byte ∨ (d.onTables && d.keepsFace) = true := by decide +kernel
  rcases t d hd with rfl | t
  · exact RoadKit.mvA hZ q
  · exact RoadKit.mv hZ q t
/-- WHAT COMES BACK, over the tables of the start Z: h the heap at the call, h' behind it -/
def Q (Z : State) (x : Addr) (A : Cell) (h : Heap) (v : Option Value) (h' : Heap) (L : List Loc) : Prop := v = none ∧ (∀ y ∈ L, y.base = x) ∧ RoadKit.Keep h h' [x] ∧ h'.size = h.size + 1 ∧ RoadKit.Exa Z h' x ST ∧ RoadKit.Fld Z h' x ST "value" "[B" (.ref h.size) ∧ RoadKit.Fld Z h' x ST "coder" "B" (.int 0) ∧
  (∃ V : Cell, RoadKit.Arr Z h' h.size V .byte ∧ V.vm = .none ∧ Z.vm.findClass "[B" = some V.cls ∧ V.slots.size = A.slots.size ∧ ∀ j, j < A.slots.size → V.slots[j]? = some (.int (lo8 (cv A j)))) ∧
  ∀ (O n d : String) (w : Value), RoadKit.Fld Z h x O n d w → RoadKit.slotOf Z O n d ≠ RoadKit.slotOf Z ST "value" "[B" → RoadKit.slotOf Z O n d ≠ RoadKit.slotOf Z ST "coder" "B" → RoadKit.Fld Z h' x O n d w
/-- **new String(chars) AT A CALL, IN THE ROAD'S FORM**: for specialBack behind newO: x the fresh String, b the char[] with the cell A -/
theorem back {p : Program} {l : Launch} {e : Env} {R : Room} {s : State} {args : Array Value} {below : List Frame} {len W : Nat} {Z : State} {a0 : Array Value} {h : Heap} (hZ : Z.Warmed39 s.vm) (hw : ∀ d ∈ words, d.before a0 Z = true) {kI : Nat} (wi : (Jvm.Cond.instantiable ST kI).before a0 Z = true)
    {x b : Addr} {A : Cell} {z : Int32} {v0 c0 : Value} (E : RoadKit.Exa Z h x ST) (V : RoadKit.Fld Z h x ST "value" "[B" v0) (C : RoadKit.Fld Z h x ST "coder" "B" c0) (K : RoadKit.Arr Z h b A .char) (hty : Typed .char A) (S : RoadKit.Sta Z h ST "COMPACT_STRINGS" "Z" (.int z)) (hz : ¬ z = 0)
    (l0 : 0 < A.slots.size) (l2 : A.slots.size ≤ 536870912) (hp : ∀ i, i < A.slots.size → ¬ 255 < cv A i) (hfr : 4 ≤ R.frames) (hlo : W + 65 ≤ R.locals) :
    Back l R p e below s args New1.yN len W (fun P a => a = #[.ref x, .ref b] ∧ P.U.heap = h ∧ P.cells + 1 ≤ R.cells ∧ P.slots + A.slots.size ≤ R.slots)
      (fun P _ v B => ∃ L, Q Z x A h v B.U.heap L ∧ B.locs = P.locs ++ L ∧ B.cells = P.cells + 1 ∧ B.slots = P.slots + A.slots.size) := by
  intro m meth c P g ig mk a X hg hsize hdg hW hn hp'
  obtain ⟨rfl, rfl, r1, r2⟩ := hp'
  have al : Z.vm.Alike P.U.vm := hZ.alike.trans X.warmed.alike
  obtain ⟨D, cfV, kV, iV, fV, hD, gV, stV, knV, obV, asV, slV⟩ := id V
  obtain ⟨D', cfC, kC, iC, fC, hD', gC, stC, -, -, asC, slC⟩ := id C
  cases hD.symm.trans hD'
  obtain ⟨D2, kD, e1, e2, e3, e4, e5⟩ := id E
  cases hD.symm.trans e1
  obtain ⟨c2, k2, i1, i2, i3, -⟩ := Cond.instantiable_spec wi
  cases e2.symm.trans i1
  cases e3.symm.trans i2
  obtain ⟨kU, u1, u2⟩ := al.2.2 _ _ e3
  have hB : Blank ST x D P.U := ⟨hD, ⟨knV, fun q hq => by rw [hq] at obV; cases obV⟩, by rw [al.findClass]; exact e2, kU, u1, by rw [u2]; exact i3, by rw [u2]; exact e5 i3⟩
  have F1 : Found ST "value" "[B" fV P.U := ⟨SBG.found_only al ⟨cfV, kV, iV, gV⟩, stV⟩
  have F2 : Found ST "coder" "B" fC P.U := ⟨SBG.found_only al ⟨cfC, kC, iC, gC⟩, stC⟩
  have hA : Ch b A P.U := ⟨⟨K.1, State.isArrayOf_alike al K.2.1, K.2.2, by omega⟩, hty⟩
  have hS : StaticIs P.U ST "COMPACT_STRINGS" "Z" (.int z) := by
    obtain ⟨cfS, iS, kS, fS, st, cS, t1, t2, t3, t4, t5, t6, t7⟩ := S
    exact StaticIs.there (s := { Z with heap := P.U.heap }) ⟨cfS, iS, kS, fS, st, cS, t1, t2, t3, t4, t5, (fun q => by rw [q] at t6; cases t6), t7⟩ al rfl
  obtain ⟨v, B, X', ⟨⟨hv, E', V', q1, q2, q3, q4, q5, q6, q7, q8, q9, q10, q11⟩, hl, hc, hs⟩, st⟩ := New1.pays x D fV fC b A z (tab_of (moved hZ hw)) hfr hlo m meth c P g ig mk _ X hg hsize hdg hW hn ⟨r1, r2, rfl, hB, F1, F2, hA, hS, hz, l0, l2, hp⟩
  have al' : Z.vm.Alike B.U.vm := hZ.alike.trans X'.warmed.alike
  have hsz : E'.slots.size = D.slots.size := by
    obtain ⟨-, -, -, kB, w1, w2, w3⟩ := q1
    obtain ⟨kB', y1, y2⟩ := al'.2.2 _ _ e3
    rw [q2.2.1] at w1
    cases w1.symm.trans y1
    rw [w3, e5 i3, y2]
  refine ⟨v, B, X', ⟨_, ⟨hv, ?_, ⟨by omega, fun y cy hy hn' => q10 y cy (by simpa using hn') hy, fun y cy hy => ?_⟩, q11, ⟨E', _, q1.1, by rw [q2.2.1]; exact e2, by rw [q2.2.1]; exact e3, by rw [q2.1]; exact obV, fun _ => by rw [hsz]; exact e5 i3⟩,
    ⟨E', cfV, kV, iV, fV, q1.1, gV, stV, by rw [q2.1]; exact knV, by rw [q2.1]; exact obV, by rw [q2.2.1]; exact asV, q3⟩, ⟨E', cfC, kC, iC, fC, q1.1, gC, stC, by rw [q2.1]; exact knV, by rw [q2.1]; exact obV, by rw [q2.2.1]; exact asC, q4⟩,
    ⟨V', ⟨q5.1, State.isArrayOf_alike al'.symm q5.2.1, q5.2.2.1⟩, q6, by rw [← al'.findClass]; exact q7, q8, fun j hj => by have := q9 j hj; rwa [Nat.zero_add] at this⟩, fun O n d w F n1 n2 => ?_⟩, hl, hc, hs⟩, st⟩
  · intro y hy
    simp only [List.mem_cons, List.not_mem_nil, or_false] at hy
    rcases hy with rfl | rfl <;> rfl
  · by_cases q : y = x
    · subst q
      cases hD.symm.trans hy
      exact ⟨E', q1.1, q2.2.1, q2.1, hsz⟩
    · exact ⟨cy, q10 y cy q hy, rfl, rfl, rfl⟩
  · obtain ⟨D3, cf, k, i, f, g1, g2, g3, g4, g5, g6, g7⟩ := F
    cases hD.symm.trans g1
    simp only [RoadKit.slotOf, g2, gV, gC, Option.map_some, Option.getD_some] at n1 n2
    exact ⟨E', cf, k, i, f, q1.1, g2, g3, by rw [q2.1]; exact g4, by rw [q2.1]; exact g5, by rw [q2.2.1]; exact g6, by rw [q2.2.2 f.slot (by simp [n1, n2])]; exact g7⟩
end StrChars.Road
namespace StrChars.Road
open Jvm Sem ClassFile Op Lib Jvm.Stand Jvm.Free Jvm.Free.XT
/-- WHAT COMES BACK, the byte[] as a list of values -/
def QA (Z : State) (x : Addr) (zn : Int32) (cs : List Int32) (h : Heap) (v : Option Value) (h' : Heap) (L : List Loc) : Prop := v = none ∧ (∀ y ∈ L, y.base = x) ∧ RoadKit.Keep h h' [x] ∧ h'.size = h.size + 1 ∧ RoadKit.Exa Z h' x ST ∧ RoadKit.Fld Z h' x ST "value" "[B" (.ref h.size) ∧ RoadKit.Fld Z h' x ST "coder" "B" (.int 0) ∧
  (∃ kb, Z.vm.findClass "[B" = some kb ∧ RoadKit.Arv Z h' h.size kb .byte zn (cs.map fun c => .int (lo8 c)) (.int 0)) ∧
  ∀ (O n d : String) (w : Value), RoadKit.Fld Z h x O n d w → RoadKit.slotOf Z O n d ≠ RoadKit.slotOf Z ST "value" "[B" → RoadKit.slotOf Z O n d ≠ RoadKit.slotOf Z ST "coder" "B" → RoadKit.Fld Z h' x O n d w
/-- **new String(chars) AT A CALL, THE ARRAYS AS LISTS**: the char[] at b holds cs, not empty, no char above 255 -/
theorem backArv {p : Program} {l : Launch} {e : Env} {R : Room} {s : State} {args : Array Value} {below : List Frame} {len W : Nat} {Z : State} {a0 : Array Value} {h : Heap} (hZ : Z.Warmed39 s.vm) (hw : ∀ d ∈ words, d.before a0 Z = true) {kI : Nat} (wi : (Jvm.Cond.instantiable ST kI).before a0 Z = true)
    {x b : Addr} {k : ClassId} {zn z : Int32} {cs : List Int32} {dv v0 c0 : Value} (E : RoadKit.Exa Z h x ST) (V : RoadKit.Fld Z h x ST "value" "[B" v0) (C : RoadKit.Fld Z h x ST "coder" "B" c0) (K : RoadKit.Arv Z h b k .char zn (cs.map Value.int) dv) (S : RoadKit.Sta Z h ST "COMPACT_STRINGS" "Z" (.int z)) (hz : ¬ z = 0)
    (hlen : zn.toNatClampNeg = cs.length) (h0 : 0 < cs.length) (hbig : cs.length ≤ 536870912) (hall : ∀ c ∈ cs, ¬ 255 < c) (hfr : 4 ≤ R.frames) (hlo : W + 65 ≤ R.locals) :
    Back l R p e below s args New1.yN len W (fun P a => a = #[.ref x, .ref b] ∧ P.U.heap = h ∧ P.cells + 1 ≤ R.cells ∧ P.slots + cs.length ≤ R.slots)
      (fun P _ v B => ∃ L, QA Z x zn cs h v B.U.heap L ∧ B.locs = P.locs ++ L ∧ B.cells = P.cells + 1 ∧ B.slots = P.slots + cs.length) := by
  obtain ⟨A, K1, K2, K3, K4, K5, K6⟩ := K
  have e : A.slots.size = cs.length := K3.trans hlen
  have hat : ∀ (i : Nat) (hi : i < cs.length), A.slots[i]? = some (.int cs[i]) := fun i hi => by rw [K5 i (by omega)]; simp [List.getD_eq_getElem?_getD, hi]
  have hcv : ∀ (i : Nat) (hi : i < cs.length), cv A i = cs[i] := fun i hi => by unfold cv; rw [hat i hi]
  have hty : Typed .char A := fun i v hv => by
    have hi : i < A.slots.size := (Array.getElem?_eq_some_iff.mp hv).1
    have q := K5 i hi
    rw [hv] at q
    rw [Option.some.inj q]
    exact K6 i hi
  refine Back.mono (back hZ hw wi E V C K1 hty S hz (by omega) (by omega) (fun i hi => by rw [hcv i (by omega)]; exact hall _ (List.getElem_mem _)) hfr hlo) (fun P a hp => ⟨hp.1, hp.2.1, hp.2.2.1, by rw [e]; exact hp.2.2.2⟩) (fun P a v B hp hq => ?_)
  obtain ⟨L, ⟨q1, q2, q3, q4, q5, q6, q7, ⟨V', v1, v2, v3, v4, v5⟩, q9⟩, hl, hc, hs⟩ := hq
  refine ⟨L, ⟨q1, q2, q3, q4, q5, q6, q7, ⟨V'.cls, v3, V', v1, rfl, by rw [v4, e, hlen], K4, fun i hi => ?_, fun i hi => ?_⟩, q9⟩, hl, hc, by rw [hs, e]⟩
  · have hi' : i < cs.length := by omega
    rw [v5 i (by omega), hcv i hi']; simp [List.getD_eq_getElem?_getD, hi']
  · have hi' : i < cs.length := by omega
    simp only [List.getD_eq_getElem?_getD, List.getElem?_map, List.getElem?_eq_getElem hi', Option.map_some, Option.getD_some]
    exact fits_lo8 _
end StrChars.Road
namespace StrChars.Road
open Jvm Sem ClassFile Op Lib Jvm.Stand Jvm.Free Jvm.Free.XT
/-- WHAT COMES BACK, in the writer's own shape -/
def QV (Z : State) (x : Addr) (N : Int32) (bs : List Int32) (h : Heap) (n0 : Nat) (v : Option Value) (h' : Heap) (L : List Loc) : Prop := v = none ∧ RoadKit.Fr n0 L ∧ RoadKit.Keep h h' [x] ∧ RoadKit.Exa Z h' x ST ∧ RoadKit.Fld Z h' x ST "coder" "B" (.int 0) ∧
  ∃ (t : Addr) (kb : ClassId), n0 ≤ t ∧ h.size ≤ t ∧ ¬ t = x ∧ RoadKit.Fld Z h' x ST "value" "[B" (.ref t) ∧ RoadKit.Arv Z h' t kb .byte N (bs.map Value.int) (.int 0)
/-- **new String(chars) AT A CALL, FOR THE WRITER**: a char[] of n known ints, each 0 to 255 -/
theorem backV {p : Program} {l : Launch} {e : Env} {R : Room} {s : State} {args : Array Value} {below : List Frame} {len W : Nat} {Z : State} {a0 : Array Value} {h : Heap} (hZ : Z.Warmed39 s.vm) (hw : ∀ d ∈ words, d.before a0 Z = true) {kI : Nat} (wi : (Jvm.Cond.instantiable ST kI).before a0 Z = true)
    {x b : Addr} {kC : ClassId} {cs bs : List Int32} {d v0 c0 : Value} {z N : Int32} {n n0 : Nat} (hx0 : n0 ≤ x) (hh0 : n0 ≤ h.size) (E : RoadKit.Exa Z h x ST) (V : RoadKit.Fld Z h x ST "value" "[B" v0) (C : RoadKit.Fld Z h x ST "coder" "B" c0) (K : RoadKit.Arv Z h b kC .char N (cs.map Value.int) d) (S : RoadKit.Sta Z h ST "COMPACT_STRINGS" "Z" (.int z)) (hz : ¬ z = 0)
    (hn : cs.length = n) (hN : N = Int32.ofNat n) (l0 : 0 < n) (l2 : n ≤ 4000) (hp : ∀ c ∈ cs, ¬ c < 0 ∧ ¬ (255 : Int32) < c) (hb : bs = cs.map (fun c => c.toInt8.toInt32)) (hfr : 4 ≤ R.frames) (hlo : W + 65 ≤ R.locals) :
    Back l R p e below s args (⟨"java/lang/String", "<init>", "([C)V"⟩ : MethodName) len W (fun P a => a = #[.ref x, .ref b] ∧ P.U.heap = h ∧ P.cells + 1 ≤ R.cells ∧ P.slots + n ≤ R.slots)
      (fun P _ v B => ∃ L, QV Z x N bs h n0 v B.U.heap L ∧ B.locs = P.locs ++ L ∧ B.cells = P.cells + 1 ∧ B.slots = P.slots + n) := by
  subst hn hN hb
  refine Back.mono (backArv hZ hw wi E V C K S hz (n32 (by omega)) l0 (by omega) (fun c hc => (hp c hc).2) hfr hlo) (fun P a hp => hp) (fun P a v B hp hq => ?_)
  obtain ⟨L, ⟨q1, q2, q3, q4, q5, q6, q7, ⟨kb, v1, v2⟩, q9⟩, hl, hc, hs⟩ := hq
  exact ⟨L, ⟨q1, fun y hy => by rw [q2 y hy]; exact hx0, q3, q5, q7, h.size, kb, hh0, Nat.le_refl _, Nat.ne_of_gt E.lt, q6, by rw [List.map_map]; exact v2⟩, hl, hc, hs⟩
end StrChars.Road
namespace StrChars
open Jvm Sem ClassFile Op Lib Jvm.Stand Jvm.Free.XT Jvm.Free.ALB Jvm.Free.JM Jvm.Free
open Jvm.Lib.Cold (StaticIs)
def hi8 (x : Int32) : Int32 := lo8 (x >>> ((8 : Int32) &&& 31))
/-- what StringUTF16.getChar makes of two bytes -/
def pairCh (u v : Int32) : Int32 := (((u &&& 255) <<< ((0 : Int32) &&& 31)) ||| ((v &&& 255) <<< ((8 : Int32) &&& 31))).toUInt32.toUInt16.toUInt32.toInt32
theorem lo8_and (x : Int32) : (lo8 x &&& 255).toBitVec.toNat = x.toBitVec.toNat % 256 := by
  have h : (lo8 x).toBitVec = (x.toBitVec.signExtend 8).signExtend 32 := by rw [lo8, Int8.toBitVec_toInt32, Int32.toBitVec_toInt8]
  rw [Int32.toBitVec_and, BitVec.toNat_and, h]
  have e : ((x.toBitVec.signExtend 8).signExtend 32).toNat % 256 = x.toBitVec.toNat % 256 := by
    rw [BitVec.toNat_signExtend]
    have hlt := x.toBitVec.isLt
    simp only [BitVec.toNat_setWidth, BitVec.toNat_signExtend]
    split <;> split <;> omega
  rw [← e]
  exact Nat.and_two_pow_sub_one_eq_mod _ 8
theorem pair_says {c : Int32} (h0 : ¬ c < 0) (h1 : ¬ 65535 < c) : pairCh (lo8 c) (hi8 c) = c := by
  rw [Int32.lt_iff_toInt_lt] at h0 h1
  have e0 : (0 : Int32).toInt = 0 := rfl
  have e1 : (65535 : Int32).toInt = 65535 := rfl
  have hc : c.toInt = c.toBitVec.toNat := by
    have := c.toBitVec.isLt
    have e : c.toInt = c.toBitVec.toInt := rfl
    rw [e] at h0 h1
    rw [e]
    rw [BitVec.toInt_eq_toNat_cond] at h0 h1 ⊢
    split at h0 <;> split <;> omega
  have hn : c.toBitVec.toNat < 65536 := by omega
  have a1 := lo8_and c
  have a2 : (hi8 c &&& 255).toBitVec.toNat = c.toBitVec.toNat / 256 := by
    rw [hi8, lo8_and]
    have e : ((8 : Int32) &&& 31) = 8 := by decide
    rw [e, Int32.toBitVec_shiftRight]
    have e2 : ((8 : Int32).toBitVec.smod 32) = 8#32 := by decide
    rw [e2, BitVec.sshiftRight_eq', BitVec.toNat_sshiftRight_of_msb_false (by rw [BitVec.msb_eq_false_iff_two_mul_lt]; omega)]
    show c.toBitVec.toNat >>> 8 % 256 = _
    rw [Nat.shiftRight_eq_div_pow]
    omega
  unfold pairCh
  apply Int32.toBitVec_inj.mp
  apply BitVec.eq_of_toNat_eq
  have f0 : ((0 : Int32) &&& 31) = 0 := by decide
  have f8 : ((8 : Int32) &&& 31) = 8 := by decide
  rw [f0, f8]
  have g : (((lo8 c &&& 255) <<< (0 : Int32)) ||| ((hi8 c &&& 255) <<< (8 : Int32))).toBitVec.toNat = c.toBitVec.toNat := by
    rw [Int32.toBitVec_or, Int32.toBitVec_shiftLeft, Int32.toBitVec_shiftLeft]
    have s0 : ((0 : Int32).toBitVec.smod 32) = 0#32 := by decide
    have s8 : ((8 : Int32).toBitVec.smod 32) = 8#32 := by decide
    rw [s0, s8, BitVec.toNat_or]
    simp only [BitVec.shiftLeft_eq', BitVec.toNat_shiftLeft, a1, a2]
    show (c.toBitVec.toNat % 256) <<< 0 % 2 ^ 32 ||| (c.toBitVec.toNat / 256) <<< 8 % 2 ^ 32 = _
    rw [Nat.shiftLeft_zero, Nat.mod_eq_of_lt (show c.toBitVec.toNat % 256 < 2 ^ 32 by omega), Nat.mod_eq_of_lt (show (c.toBitVec.toNat / 256) <<< 8 < 2 ^ 32 by rw [Nat.shiftLeft_eq]; omega), Nat.or_comm, ← Nat.shiftLeft_add_eq_or_of_lt (by omega), Nat.shiftLeft_eq]
    omega
  show BitVec.toNat (((((lo8 c &&& 255) <<< (0 : Int32)) ||| ((hi8 c &&& 255) <<< (8 : Int32))).toBitVec.setWidth 16).setWidth 32) = _
  rw [BitVec.toNat_setWidth, BitVec.toNat_setWidth, g]
  omega
end StrChars
namespace StrChars
open Jvm Sem ClassFile Op Lib Jvm.Stand Jvm.Free.XT Jvm.Free.ALB Jvm.Free.JM Jvm.Free
open Jvm.Lib.Cold (StaticIs)
/-- the array's cell V codes the n chars f 0 .. f (n - 1) by the coder cd, as the JDK does: coder 1 just where some char is above 255 -/
def Cod (cd : Int32) (n : Nat) (f : Nat → Int32) (V : Cell) : Prop := (cd = 0 ∧ V.slots.size = n ∧ ∀ j, j < n → V.slots[j]? = some (.int (lo8 (f j))) ∧ ¬ 255 < f j) ∨ (cd = 1 ∧ V.slots.size = 2 * n ∧ (∀ j, j < n → V.slots[2 * j]? = some (.int (lo8 (f j))) ∧ V.slots[2 * j + 1]? = some (.int (hi8 (f j)))) ∧ ∃ j, j < n ∧ 255 < f j)
/-- **x is a String of the n chars f 0 .. f (n - 1)**, Latin-1 or UTF-16; its array at t has the cell V -/
def Txt (x t : Addr) (V : Cell) (cd : Int32) (n : Nat) (f : Nat → Int32) (U : State) : Prop := Exact "java/lang/String" x U ∧ Has x "java/lang/String" "value" "[B" (.ref t) U ∧ Has x "java/lang/String" "coder" "B" (.int cd) U ∧ XT.Arr .byte t V U ∧ Cod cd n f V ∧ ∀ j, j < n → ¬ f j < 0 ∧ ¬ 65535 < f j
theorem Txt.mv {x t : Addr} {V : Cell} {cd : Int32} {n : Nat} {f : Nat → Int32} {U U' : State} (h : Txt x t V cd n f U) (hal : U.vm.Alike U'.vm) (hh : U'.heap = U.heap) : Txt x t V cd n f U' := ⟨h.1.mv hal hh, h.2.1.mv hal hh, h.2.2.1.mv hal hh, h.2.2.2.1.mv hal hh, h.2.2.2.2⟩
end StrChars
namespace StrChars.Road
open Jvm Sem ClassFile Op Lib Jvm.Stand Jvm.Free Jvm.Free.XT
open Jvm.Lib.Cold (StaticIs)
theorem consq {a : Array Value} {s : State} {c : Jvm.Cond} {L : List Jvm.Cond} (h0 : c.before a s = true) (h : ∀ w ∈ L, w.before a s = true) : ∀ w ∈ c :: L, w.before a s = true := fun w hw => (List.mem_cons.mp hw).elim (fun e => e ▸ h0) (h w)
/-- the bytes of the chars cs, low before high -/
def wideBytes : List Int32 → List Value
  | [] => []
  | c :: cs => .int (lo8 c) :: .int (hi8 c) :: wideBytes cs
theorem wide_lo (d : Value) : ∀ (cs : List Int32) (j : Nat), j < cs.length → (wideBytes cs).getD (2 * j) d = .int (lo8 (cs.getD j 0))
  | [], j, h => absurd h (Nat.not_lt_zero j)
  | c :: cs, 0, _ => rfl
  | c :: cs, j + 1, h => by
    have q := wide_lo d cs j (by simpa using h)
    rw [show 2 * (j + 1) = 2 * j + 1 + 1 from by omega]
    simpa [wideBytes] using q
theorem wide_hi (d : Value) : ∀ (cs : List Int32) (j : Nat), j < cs.length → (wideBytes cs).getD (2 * j + 1) d = .int (hi8 (cs.getD j 0))
  | [], j, h => absurd h (Nat.not_lt_zero j)
  | c :: cs, 0, _ => rfl
  | c :: cs, j + 1, h => by
    have q := wide_hi d cs j (by simpa using h)
    rw [show 2 * (j + 1) + 1 = 2 * j + 1 + 1 + 1 from by omega]
    simpa [wideBytes] using q
theorem low_at (d : Value) (cs : List Int32) (j : Nat) (h : j < cs.length) : (cs.map fun c => Value.int (lo8 c)).getD j d = .int (lo8 (cs.getD j 0)) := by
  simp [List.getD_eq_getElem?_getD, h]
/-- an array of N2 bytes vs codes the chars cs by the coder cd -/
def CodA (cs : List Int32) (cd N2 : Int32) (vs : List Value) : Prop := (cd = 0 ∧ N2 = Int32.ofNat cs.length ∧ vs = (cs.map fun c => Value.int (lo8 c)) ∧ ∀ c ∈ cs, ¬ 255 < c) ∨ (cd = 1 ∧ N2 = Int32.ofNat (2 * cs.length) ∧ vs = wideBytes cs ∧ ∃ c ∈ cs, 255 < c)
theorem CodA.cod {cs : List Int32} {cd N2 : Int32} {vs : List Value} {V : Cell} (h : CodA cs cd N2 vs) (hn : 2 * cs.length < 2 ^ 31) (hs : V.slots.size = N2.toNatClampNeg) (hv : RoadKit.Has V vs (.int 0)) : Cod cd cs.length (fun j => cs.getD j 0) V := by
  rcases h with ⟨rfl, rfl, rfl, h⟩ | ⟨rfl, rfl, rfl, c, hc, hw⟩
  · rw [n32 (by omega)] at hs
    exact Or.inl ⟨rfl, hs, fun j hj => ⟨by rw [hv j (by omega), low_at _ _ _ hj], by
      have e : cs.getD j 0 = cs[j] := by simp [List.getD_eq_getElem?_getD, hj]
      show ¬ 255 < cs.getD j 0
      rw [e]; exact h _ (List.getElem_mem _)⟩⟩
  · rw [n32 (by omega)] at hs
    obtain ⟨j, hj, rfl⟩ := List.getElem_of_mem hc
    exact Or.inr ⟨rfl, hs, fun j hj => ⟨by rw [hv _ (by omega), wide_lo _ _ _ hj], by rw [hv _ (by omega), wide_hi _ _ _ hj]⟩, j, hj, by
      have e : cs.getD j 0 = cs[j] := by simp [List.getD_eq_getElem?_getD, hj]
      show 255 < cs.getD j 0
      rw [e]; exact hw⟩
/-- an object of exactly java/lang/String, its two fields found: as the laws ask it -/
theorem strObj {Z U : State} {a0 : Array Value} {kI : Nat} (wi : (Jvm.Cond.instantiable ST kI).before a0 Z = true) (al : Z.vm.Alike U.vm) {x : Addr} {v0 c0 : Value} (E : RoadKit.Exa Z U.heap x ST) (V : RoadKit.Fld Z U.heap x ST "value" "[B" v0) (C : RoadKit.Fld Z U.heap x ST "coder" "B" c0) :
    ∃ (D : Cell) (fV fC : Field), Blank ST x D U ∧ Found ST "value" "[B" fV U ∧ Found ST "coder" "B" fC U ∧ D.slots[fV.slot]? = some v0 ∧ D.slots[fC.slot]? = some c0 ∧ RoadKit.slotOf Z ST "value" "[B" = fV.slot ∧ RoadKit.slotOf Z ST "coder" "B" = fC.slot := by
  obtain ⟨D, cfV, kV, iV, fV, hD, gV, stV, knV, obV, asV, slV⟩ := V
  obtain ⟨D', cfC, kC, iC, fC, hD', gC, stC, -, -, asC, slC⟩ := C
  cases hD.symm.trans hD'
  obtain ⟨D2, kD, e1, e2, e3, e4, e5⟩ := E
  cases hD.symm.trans e1
  obtain ⟨c2, k2, i1, i2, i3, -⟩ := Cond.instantiable_spec wi
  cases e2.symm.trans i1
  cases e3.symm.trans i2
  obtain ⟨kU, u1, u2⟩ := al.2.2 _ _ e3
  exact ⟨D, fV, fC, ⟨hD, ⟨knV, fun q hq => by rw [hq] at obV; cases obV⟩, by rw [al.findClass]; exact e2, kU, u1, by rw [u2]; exact i3, by rw [u2]; exact e5 i3⟩, ⟨SBG.found_only al ⟨cfV, kV, iV, gV⟩, stV⟩, ⟨SBG.found_only al ⟨cfC, kC, iC, gC⟩, stC⟩, slV, slC, by simp [RoadKit.slotOf, gV], by simp [RoadKit.slotOf, gC]⟩
theorem sta_is {Z U : State} (al : Z.vm.Alike U.vm) {C n d : String} {v : Value} (S : RoadKit.Sta Z U.heap C n d v) : StaticIs U C n d v := by
  obtain ⟨cfS, iS, kS, fS, st, cS, t1, t2, t3, t4, t5, t6, t7⟩ := S
  exact StaticIs.there (s := { Z with heap := U.heap }) ⟨cfS, iS, kS, fS, st, cS, t1, t2, t3, t4, t5, (fun q => by rw [q] at t6; cases t6), t7⟩ al rfl
end StrChars.Road
namespace StrChars
open Jvm Sem ClassFile Op Lib Jvm.Stand Jvm.Free.XT Jvm.Free.ALB Jvm.Free.JM Jvm.Free
open Jvm.Lib.Cold (StaticIs)
/-- what place i of a byte[]'s cell holds -/
def yv (A : Cell) (i : Nat) : Int32 := match A.slots[i]? with | some (.int x) => x | _ => 0
theorem yv_get {a : Addr} {A : Cell} {U : State} (h : XT.Arr .byte a A U) (ht : Typed .byte A) {i : Nat} (hi : i < A.slots.size) : A.slots[i]? = some (.int (yv A i)) := by
  have e := Array.getElem?_eq_getElem hi
  have f := ht i _ e
  unfold yv; rw [e]
  generalize A.slots[i] = v at f
  cases v <;> simp [fits] at f ⊢
/-- the two arrays are equal, place for place -/
def EqC (A B : Cell) : Prop := A.slots.size = B.slots.size ∧ ∀ i, i < A.slots.size → yv A i = yv B i
/-- a boolean that says whether p -/
def Says01 (q : Prop) (r : Option Value) (s u : State) : Prop := ∃ v : Int32, r = some (.int v) ∧ u.heap = s.heap ∧ ((v = 1 ∧ q) ∨ (v = 0 ∧ ¬ q))
theorem Says01.mv {q : Prop} : ∀ r (U U' V V' : State), U'.heap = U.heap → V.vm.Alike V'.vm → V'.heap = V.heap → Says01 q r U V → Says01 q r U' V' :=
  fun r U U' V V' h1 _ h2 ⟨v, a, b, c⟩ => ⟨v, a, by rw [h1, h2]; exact b, c⟩
namespace LEq
def yN : MethodName := ⟨"java/lang/StringLatin1", "equals", "([B[B)Z"⟩
abbrev yB : ByteArray := jdk_43_method_13_code
theorem d0 : decode yB 0 = .ok (.aload_n 0, 1) := by decide +kernel
theorem d1 : decode yB 1 = .ok (.arraylength, 1) := by decide +kernel
theorem d2 : decode yB 2 = .ok (.aload_n 1, 1) := by decide +kernel
theorem d3 : decode yB 3 = .ok (.arraylength, 1) := by decide +kernel
theorem d4 : decode yB 4 = .ok (.if_icmp (.ne) 30, 3) := by decide +kernel
theorem d7 : decode yB 7 = .ok (.iconst 0, 1) := by decide +kernel
theorem d8 : decode yB 8 = .ok (.istore_n 2, 1) := by decide +kernel
theorem d9 : decode yB 9 = .ok (.iload_n 2, 1) := by decide +kernel
theorem d10 : decode yB 10 = .ok (.aload_n 0, 1) := by decide +kernel
theorem d11 : decode yB 11 = .ok (.arraylength, 1) := by decide +kernel
theorem d12 : decode yB 12 = .ok (.if_icmp (.ge) 20, 3) := by decide +kernel
theorem d15 : decode yB 15 = .ok (.aload_n 0, 1) := by decide +kernel
theorem d16 : decode yB 16 = .ok (.iload_n 2, 1) := by decide +kernel
theorem d17 : decode yB 17 = .ok (.baload, 1) := by decide +kernel
theorem d18 : decode yB 18 = .ok (.aload_n 1, 1) := by decide +kernel
theorem d19 : decode yB 19 = .ok (.iload_n 2, 1) := by decide +kernel
theorem d20 : decode yB 20 = .ok (.baload, 1) := by decide +kernel
theorem d21 : decode yB 21 = .ok (.if_icmp (.eq) 5, 3) := by decide +kernel
theorem d24 : decode yB 24 = .ok (.iconst 0, 1) := by decide +kernel
theorem d25 : decode yB 25 = .ok (.ireturn, 1) := by decide +kernel
theorem d26 : decode yB 26 = .ok (.iinc 2 1, 3) := by decide +kernel
theorem d29 : decode yB 29 = .ok (.goto (-20), 3) := by decide +kernel
theorem d32 : decode yB 32 = .ok (.iconst 1, 1) := by decide +kernel
theorem d33 : decode yB 33 = .ok (.ireturn, 1) := by decide +kernel
theorem d34 : decode yB 34 = .ok (.iconst 0, 1) := by decide +kernel
theorem d35 : decode yB 35 = .ok (.ireturn, 1) := by decide +kernel
def site : List Cond := []
def tab : Cond := tabOf yN yB 3 (some .boolean) site
def P (a : Addr) (A : Cell) (b : Addr) (B : Cell) (args : Array Value) (s : State) : Prop := args = #[.ref a, .ref b] ∧ XT.Arr .byte a A s ∧ Typed .byte A ∧ XT.Arr .byte b B s ∧ Typed .byte B
/-- whether two byte[] are equal, place for place -/
theorem law (l : Launch) (a : Addr) (A : Cell) (b : Addr) (B : Cell) : Law l yN 2 2 0 0 yB 3 (some .boolean) site (P a A b B) (Says01 (EqC A B)) [] 0 0 := by
  refine Law.of_walk (plainFor_of_name (by decide +kernel)) (by decide +kernel) (by decide +kernel) (by decide) (fun _ _ h => by rw [h.1]; rfl) (fun _ U U' hal hh h => ⟨h.1, h.2.1.mv hal hh, h.2.2.1, h.2.2.2.1.mv hal hh, h.2.2.2.2⟩) (fun r U U' V V' h1 hal h2 h => Says01.mv r U U' V V' h1 hal h2 h) ?_
  intro p e s m args below meth c s₁ X0 hexec hbytes hml hret hlk hnm hown hh0 W hP
  obtain ⟨rfl, hA, tA, hB, tB⟩ := hP
  have a31 := hA.2.2.2
  have b31 := hB.2.2.2
  have hA0 := hA.mv X0.warmed.alike hh0
  have hB0 := hB.mv X0.warmed.alike hh0
  have c1 : Steps p.tables e below (s₁.setTop (entryFrame m #[.ref a, .ref b] 3)) (s₁.setTop (mkF m 0 #[.val (.ref a), .val (.ref b), .unset] [])) := entry rfl
  have c2 : Steps p.tables e below (s₁.setTop (entryFrame m #[.ref a, .ref b] 3)) (s₁.setTop (mkF m 4 #[.val (.ref a), .val (.ref b), .unset] [.int (Int32.ofNat B.slots.size), .int (Int32.ofNat A.slots.size)])) := c1.trans (by
    refine XS.aloadN X0.here hexec rfl (hb hbytes d0) rfl rfl ?_
    refine X0.alen hexec hA0 rfl rfl (hb hbytes d1) ?_
    refine XS.aloadN X0.here hexec rfl (hb hbytes d2) rfl rfl ?_
    refine X0.alen hexec hB0 rfl rfl (hb hbytes d3) ?_
    exact Steps.refl _)
  by_cases hs : A.slots.size = B.slots.size
  · have c3 : Steps p.tables e below (s₁.setTop (entryFrame m #[.ref a, .ref b] 3)) (s₁.setTop (mkF m 9 #[.val (.ref a), .val (.ref b), .val (.int 0)] [])) := c2.trans (by
      refine XS.icmpNo X0.here hexec rfl (hb hbytes d4) rfl (ii_ne_f (by rw [hs])) ?_
      refine iconstV X0.here hexec rfl 0 (hb hbytes d7) (by decide) ?_
      refine XS.istoreN X0.here hexec rfl (hb hbytes d8) rfl rfl ?_
      exact Steps.refl _)
    have loop : ∀ (r i : Nat), i + r = A.slots.size → (∀ j, j < i → yv A j = yv B j) → Steps p.tables e below (s₁.setTop (entryFrame m #[.ref a, .ref b] 3)) (s₁.setTop (mkF m 9 #[.val (.ref a), .val (.ref b), .val (.int (Int32.ofNat i))] [])) → ∃ (pc : Nat) (Ls : Array Slot) (v : Int32), (pc = 25 ∨ pc = 33) ∧ ((v = 1 ∧ EqC A B) ∨ (v = 0 ∧ ¬ EqC A B)) ∧ Steps p.tables e below (s₁.setTop (entryFrame m #[.ref a, .ref b] 3)) (s₁.setTop (mkF m pc Ls [.int v])) := by
      intro r
      induction r with
      | zero =>
        intro i hi he cl
        exact ⟨33, _, 1, Or.inr rfl, Or.inl ⟨rfl, hs, fun j hj => he j (by omega)⟩, cl.trans (by
          refine XS.iloadN X0.here hexec rfl (hb hbytes d9) rfl ?_
          refine XS.aloadN X0.here hexec rfl (hb hbytes d10) rfl rfl ?_
          refine X0.alen hexec hA0 rfl rfl (hb hbytes d11) ?_
          refine XS.icmpYes X0.here hexec rfl (pc0 := 12) rfl (hb hbytes d12) rfl (ii_ge_t (nlt32 (by omega) (by omega))) (by decide) rfl ?_
          refine iconstV X0.here hexec rfl 1 (hb hbytes d32) (by decide) ?_
          exact Steps.refl _)⟩
      | succ r ih =>
        intro i hi he cl
        have c4 : Steps p.tables e below (s₁.setTop (entryFrame m #[.ref a, .ref b] 3)) (s₁.setTop (mkF m 21 #[.val (.ref a), .val (.ref b), .val (.int (Int32.ofNat i))] [.int (yv B i), .int (yv A i)])) := cl.trans (by
          refine XS.iloadN X0.here hexec rfl (hb hbytes d9) rfl ?_
          refine XS.aloadN X0.here hexec rfl (hb hbytes d10) rfl rfl ?_
          refine X0.alen hexec hA0 rfl rfl (hb hbytes d11) ?_
          refine XS.icmpNo X0.here hexec rfl (hb hbytes d12) rfl (ii_ge_f (lt32 (by omega) (by omega))) ?_
          refine XS.aloadN X0.here hexec rfl (hb hbytes d15) rfl rfl ?_
          refine XS.iloadN X0.here hexec rfl (hb hbytes d16) rfl ?_
          refine X0.aget hexec hA0 rfl (yv_get hA tA (i := i) (by omega)) rfl rfl (hb hbytes d17) ?_
          refine XS.aloadN X0.here hexec rfl (hb hbytes d18) rfl rfl ?_
          refine XS.iloadN X0.here hexec rfl (hb hbytes d19) rfl ?_
          refine X0.aget hexec hB0 rfl (yv_get hB tB (i := i) (by omega)) rfl rfl (hb hbytes d20) ?_
          exact Steps.refl _)
        by_cases hv : yv A i = yv B i
        · have c5 : Steps p.tables e below (s₁.setTop (entryFrame m #[.ref a, .ref b] 3)) (s₁.setTop (mkF m 9 #[.val (.ref a), .val (.ref b), .val (.int (Int32.ofNat i + 1))] [])) := c4.trans (by
            refine XS.icmpYes X0.here hexec rfl (pc0 := 21) rfl (hb hbytes d21) rfl (ii_eq_t hv) (by decide) rfl ?_
            refine iincV X0.here hexec rfl 1 (hb hbytes d26) (by decide) rfl rfl ?_
            refine XS.goto X0.here hexec rfl (pc0 := 29) rfl (hb hbytes d29) (by decide) rfl ?_
            exact Steps.refl _)
          rw [succ32] at c5
          exact ih (i + 1) (by omega) (fun j hj => by
            by_cases e : j = i
            · rw [e]; exact hv
            · exact he j (by omega)) c5
        · exact ⟨25, _, 0, Or.inl rfl, Or.inr ⟨rfl, fun q => hv (q.2 i (by omega))⟩, c4.trans (by
            refine XS.icmpNo X0.here hexec rfl (hb hbytes d21) rfl (ii_eq_f hv) ?_
            refine iconstV X0.here hexec rfl 0 (hb hbytes d24) (by decide) ?_
            exact Steps.refl _)⟩
    obtain ⟨pc, Ls, v, hpc, hv, cz⟩ := loop A.slots.size 0 (by omega) (fun j hj => absurd hj (Nat.not_lt_zero j)) c3
    have nv : narrow .boolean (.int v) = .int v := by rcases hv with ⟨rfl, -⟩ | ⟨rfl, -⟩ <;> rfl
    rcases hpc with rfl | rfl
    · exact ⟨s₁, some (.int v), _, _, _, X0, rfl, rfl, rfl, (fun h => by cases h), ⟨v, rfl, hh0, hv⟩, fun fs hl => cz.trans (X0.ireturnOut hexec hret nv (Or.inr (Or.inl rfl)) (hb hbytes d25) hl)⟩
    · exact ⟨s₁, some (.int v), _, _, _, X0, rfl, rfl, rfl, (fun h => by cases h), ⟨v, rfl, hh0, hv⟩, fun fs hl => cz.trans (X0.ireturnOut hexec hret nv (Or.inr (Or.inl rfl)) (hb hbytes d33) hl)⟩
  · have c3 : Steps p.tables e below (s₁.setTop (entryFrame m #[.ref a, .ref b] 3)) (s₁.setTop (mkF m 35 #[.val (.ref a), .val (.ref b), .unset] [.int 0])) := c2.trans (by
      refine XS.icmpYes X0.here hexec rfl (pc0 := 4) rfl (hb hbytes d4) rfl (ii_ne_t (ne32 a31 b31 hs)) (by decide) rfl ?_
      refine iconstV X0.here hexec rfl 0 (hb hbytes d34) (by decide) ?_
      exact Steps.refl _)
    exact ⟨s₁, some (.int 0), _, _, _, X0, rfl, rfl, rfl, (fun h => by cases h), ⟨0, rfl, hh0, Or.inr ⟨rfl, fun q => hs q.1⟩⟩, fun fs hl => c3.trans (X0.ireturnOut hexec hret rfl (Or.inr (Or.inl rfl)) (hb hbytes d35) hl)⟩
end LEq
theorem Cod.ty {cd : Int32} {n : Nat} {f : Nat → Int32} {V : Cell} (h : Cod cd n f V) : Typed .byte V := fun i v hv => by
  have hi : i < V.slots.size := (Array.getElem?_eq_some_iff.mp hv).1
  rcases h with ⟨-, k1, k2⟩ | ⟨-, k1, k2, -⟩
  · rw [(k2 i (by omega)).1] at hv; cases hv; exact fits_lo8 _
  · rcases Nat.mod_two_eq_zero_or_one i with e | e
    · obtain ⟨j, rfl⟩ : ∃ j, i = 2 * j := ⟨i / 2, by omega⟩
      rw [(k2 j (by omega)).1] at hv; cases hv; exact fits_lo8 _
    · obtain ⟨j, rfl⟩ : ∃ j, i = 2 * j + 1 := ⟨i / 2, by omega⟩
      rw [(k2 j (by omega)).2] at hv; cases hv; exact fits_lo8 _
/-- the same text -/
def SameT (n : Nat) (f : Nat → Int32) (k : Nat) (g : Nat → Int32) : Prop := n = k ∧ ∀ j, j < n → f j = g j
theorem lo8_inj {x y : Int32} (h0 : ¬ x < 0) (h1 : ¬ 255 < x) (k0 : ¬ y < 0) (k1 : ¬ 255 < y) (h : lo8 x = lo8 y) : x = y := by
  rw [← lo8_mask h0 h1, ← lo8_mask k0 k1, h]
/-- arrays coded by one coder are equal just where the texts are -/
theorem Cod.eqv {cd : Int32} {n k : Nat} {f g : Nat → Int32} {V V' : Cell} (h : Cod cd n f V) (h' : Cod cd k g V') (hf : ∀ j, j < n → ¬ f j < 0 ∧ ¬ 65535 < f j) (hg : ∀ j, j < k → ¬ g j < 0 ∧ ¬ 65535 < g j) : EqC V V' ↔ SameT n f k g := by
  have yvv : ∀ {W : Cell} {i : Nat} {x : Int32}, W.slots[i]? = some (.int x) → yv W i = x := fun q => by unfold yv; rw [q]
  rcases h with ⟨rfl, k1, k2⟩ | ⟨rfl, k1, k2, -⟩
  · rcases h' with ⟨-, m1, m2⟩ | ⟨e, -⟩
    · constructor
      · rintro ⟨e1, e2⟩
        refine ⟨by omega, fun j hj => ?_⟩
        have q := e2 j (by omega)
        rw [yvv (k2 j hj).1, yvv (m2 j (by omega)).1] at q
        exact lo8_inj (hf j hj).1 (k2 j hj).2 (hg j (by omega)).1 (m2 j (by omega)).2 q
      · rintro ⟨rfl, e2⟩
        refine ⟨by omega, fun j hj => ?_⟩
        rw [yvv (k2 j (by omega)).1, yvv (m2 j (by omega)).1, e2 j (by omega)]
    · exact absurd e (by decide)
  · rcases h' with ⟨e, -⟩ | ⟨-, m1, m2, -⟩
    · exact absurd e (by decide)
    · constructor
      · rintro ⟨e1, e2⟩
        refine ⟨by omega, fun j hj => ?_⟩
        have q1 := e2 (2 * j) (by omega)
        have q2 := e2 (2 * j + 1) (by omega)
        rw [yvv (k2 j hj).1, yvv (m2 j (by omega)).1] at q1
        rw [yvv (k2 j hj).2, yvv (m2 j (by omega)).2] at q2
        rw [← pair_says (hf j hj).1 (hf j hj).2, ← pair_says (hg j (by omega)).1 (hg j (by omega)).2, q1, q2]
      · rintro ⟨rfl, e2⟩
        refine ⟨by omega, fun i hi => ?_⟩
        rcases Nat.mod_two_eq_zero_or_one i with e | e
        · obtain ⟨j, rfl⟩ : ∃ j, i = 2 * j := ⟨i / 2, by omega⟩
          rw [yvv (k2 j (by omega)).1, yvv (m2 j (by omega)).1, e2 j (by omega)]
        · obtain ⟨j, rfl⟩ : ∃ j, i = 2 * j + 1 := ⟨i / 2, by omega⟩
          rw [yvv (k2 j (by omega)).2, yvv (m2 j (by omega)).2, e2 j (by omega)]
/-- two codings differ: so do the texts -/
theorem Cod.dif {cd cd' : Int32} {n k : Nat} {f g : Nat → Int32} {V V' : Cell} (h : Cod cd n f V) (h' : Cod cd' k g V') (hne : ¬ cd = cd') : ¬ SameT n f k g := by
  rintro ⟨rfl, e⟩
  rcases h with ⟨rfl, -, k2⟩ | ⟨rfl, -, -, j, hj, hw⟩
  · rcases h' with ⟨rfl, -⟩ | ⟨-, -, -, j, hj, hw⟩
    · exact hne rfl
    · exact (k2 j hj).2 (by rw [e j hj]; exact hw)
  · rcases h' with ⟨-, -, m2⟩ | ⟨rfl, -⟩
    · exact (m2 j hj).2 (by rw [← e j hj]; exact hw)
    · exact hne rfl
/-- an object of exactly C is an instance of C -/
theorem cinst {p : Program} {l : Launch} {e : Env} {R : Room} {s : State} {m : MethodId} {args : Array Value} {below : List Frame} {meth : Method} {c : Code} {T : State} {locs : List Loc} {cells slots : Nat} (X : Stand p l e R s m args below meth c T locs cells slots) (hexec : p.tables.exec = Jvm.exec) {own C : String} {index : Nat} (hown : s.vm.findClass own = some m.cls) (hlink : (Cond.classLink own index C).before args s = true) {a : Addr} (hE : Exact C a T)
    {g : JFrame} (hg : g.method = m) {rest : List Value} (hstack : g.stack = .ref a :: rest) (hdg : decode c.code g.pc = .ok (.instanceof index, 3)) :
    ∃ T', Stand p l e R s m args below meth c T' locs cells slots ∧ T'.heap = T.heap ∧ ∀ target, Steps p.tables e below (T'.setTop { g with pc := g.pc + 3, stack := .int 1 :: rest }) target → Steps p.tables e below (T.setTop g) target := by
  obtain ⟨cB, h1, D, h2, h3, h4⟩ := hE
  have h1' : s.vm.findClass C = some cB := by rw [← X.warmed.alike.findClass]; exact h1
  obtain ⟨vm', X', st⟩ := X.instanceofYes hexec hown hlink h2 h4 h1' (by rw [h3]; exact Jvm.Free.SB.assignable_self _ _) hg hstack hdg
  exact ⟨_, X', rfl, st⟩
theorem cself {p : Program} {l : Launch} {e : Env} {R : Room} {s : State} {m : MethodId} {args : Array Value} {below : List Frame} {meth : Method} {c : Code} {T : State} {locs : List Loc} {cells slots : Nat} (X : Stand p l e R s m args below meth c T locs cells slots) (hexec : p.tables.exec = Jvm.exec) {own C : String} {index : Nat} (hown : s.vm.findClass own = some m.cls) (hlink : (Cond.classLink own index C).before args s = true) {a : Addr} (hE : Exact C a T)
    {g : JFrame} (hg : g.method = m) {rest : List Value} (hstack : g.stack = .ref a :: rest) (hdg : decode c.code g.pc = .ok (.checkcast index, 3)) :
    ∃ T', Stand p l e R s m args below meth c T' locs cells slots ∧ T'.heap = T.heap ∧ ∀ target, Steps p.tables e below (T'.setTop { g with pc := g.pc + 3, stack := .ref a :: rest }) target → Steps p.tables e below (T.setTop g) target := by
  obtain ⟨cB, h1, D, h2, h3, h4⟩ := hE
  have h1' : s.vm.findClass C = some cB := by rw [← X.warmed.alike.findClass]; exact h1
  obtain ⟨vm', X', st⟩ := X.checkcastYes hexec hown hlink h2 h4 h1' (by rw [h3]; exact Jvm.Free.SB.assignable_self _ _) hg hstack hdg
  exact ⟨_, X', rfl, fun t h => st t (by rw [← hstack] at h; exact h)⟩
namespace SEq
def yN : MethodName := ⟨"java/lang/String", "equals", "(Ljava/lang/Object;)Z"⟩
abbrev yB : ByteArray := jdk_42_method_66_code
theorem d0 : decode yB 0 = .ok (.aload_n 0, 1) := by decide +kernel
theorem d1 : decode yB 1 = .ok (.aload_n 1, 1) := by decide +kernel
theorem d2 : decode yB 2 = .ok (.if_acmp (.ne) 5, 3) := by decide +kernel
theorem d5 : decode yB 5 = .ok (.iconst 1, 1) := by decide +kernel
theorem d6 : decode yB 6 = .ok (.ireturn, 1) := by decide +kernel
theorem d7 : decode yB 7 = .ok (.aload_n 1, 1) := by decide +kernel
theorem d8 : decode yB 8 = .ok (.instanceof 10, 3) := by decide +kernel
theorem d11 : decode yB 11 = .ok (.ifCond (.eq) 43, 3) := by decide +kernel
theorem d14 : decode yB 14 = .ok (.aload_n 1, 1) := by decide +kernel
theorem d15 : decode yB 15 = .ok (.checkcast 10, 3) := by decide +kernel
theorem d18 : decode yB 18 = .ok (.astore_n 2, 1) := by decide +kernel
theorem d19 : decode yB 19 = .ok (.getstatic 38, 3) := by decide +kernel
theorem d22 : decode yB 22 = .ok (.ifCond (.eq) 14, 3) := by decide +kernel
theorem d25 : decode yB 25 = .ok (.aload_n 0, 1) := by decide +kernel
theorem d26 : decode yB 26 = .ok (.getfield 15, 3) := by decide +kernel
theorem d29 : decode yB 29 = .ok (.aload_n 2, 1) := by decide +kernel
theorem d30 : decode yB 30 = .ok (.getfield 15, 3) := by decide +kernel
theorem d33 : decode yB 33 = .ok (.if_icmp (.ne) 21, 3) := by decide +kernel
theorem d36 : decode yB 36 = .ok (.aload_n 0, 1) := by decide +kernel
theorem d37 : decode yB 37 = .ok (.getfield 9, 3) := by decide +kernel
theorem d40 : decode yB 40 = .ok (.aload_n 2, 1) := by decide +kernel
theorem d41 : decode yB 41 = .ok (.getfield 9, 3) := by decide +kernel
theorem d44 : decode yB 44 = .ok (.invokestatic 541, 3) := by decide +kernel
theorem d47 : decode yB 47 = .ok (.ifCond (.eq) 7, 3) := by decide +kernel
theorem d50 : decode yB 50 = .ok (.iconst 1, 1) := by decide +kernel
theorem d51 : decode yB 51 = .ok (.goto 4, 3) := by decide +kernel
theorem d54 : decode yB 54 = .ok (.iconst 0, 1) := by decide +kernel
theorem d55 : decode yB 55 = .ok (.ireturn, 1) := by decide +kernel
def site : List Cond := [.classLink "java/lang/String" 10 "java/lang/String", .fieldLink "java/lang/String" 38 "java/lang/String" "COMPACT_STRINGS" "Z", .fieldLink "java/lang/String" 15 "java/lang/String" "coder" "B", .fieldLink "java/lang/String" 9 "java/lang/String" "value" "[B", LEq.tab] ++ staticW "java/lang/String" 541 LEq.yN
def tab : Cond := tabOf yN yB 3 (some .boolean) site
def P (x t : Addr) (V : Cell) (cd : Int32) (n : Nat) (f : Nat → Int32) (y t' : Addr) (V' : Cell) (cd' : Int32) (k : Nat) (g : Nat → Int32) (z : Int32) (args : Array Value) (s : State) : Prop := args = #[.ref x, .ref y] ∧ Txt x t V cd n f s ∧ Txt y t' V' cd' k g s ∧ StaticIs s "java/lang/String" "COMPACT_STRINGS" "Z" (.int z) ∧ ¬ z = 0
/-- equals(Object) of two Strings: whether the texts are the same -/
theorem law (l : Launch) (x t : Addr) (V : Cell) (cd : Int32) (n : Nat) (f : Nat → Int32) (y t' : Addr) (V' : Cell) (cd' : Int32) (k : Nat) (g : Nat → Int32) (z : Int32) : Law l yN 2 1 1 14 yB 3 (some .boolean) site (P x t V cd n f y t' V' cd' k g z) (Says01 (SameT n f k g)) [] 0 0 := by
  refine Law.of_walk (plainFor_of_name (by decide +kernel)) (by decide +kernel) (by decide +kernel) (by decide) (fun _ _ h => by rw [h.1]; rfl) (fun _ U U' hal hh h => ⟨h.1, h.2.1.mv hal hh, h.2.2.1.mv hal hh, h.2.2.2.1.there hal hh, h.2.2.2.2⟩) (fun r U U' V V' h1 hal h2 h => Says01.mv r U U' V V' h1 hal h2 h) ?_
  intro p e s m args below meth c s₁ X0 hexec hbytes hml hret hlk hnm hown hh0 W hP
  obtain ⟨rfl, hx, hy, s1, hz⟩ := hP
  have c1 : Steps p.tables e below (s₁.setTop (entryFrame m #[.ref x, .ref y] 3)) (s₁.setTop (mkF m 2 #[.val (.ref x), .val (.ref y), .unset] [.ref y, .ref x])) := Steps.trans (entry rfl) (by
    show Steps p.tables e below (s₁.setTop (mkF m 0 #[.val (.ref x), .val (.ref y), .unset] [])) _
    refine XS.aloadN X0.here hexec rfl (hb hbytes d0) rfl rfl ?_
    refine XS.aloadN X0.here hexec rfl (hb hbytes d1) rfl rfl ?_
    exact Steps.refl _)
  by_cases hxy : x = y
  · have c2 : Steps p.tables e below (s₁.setTop (entryFrame m #[.ref x, .ref y] 3)) (s₁.setTop (mkF m 6 #[.val (.ref x), .val (.ref y), .unset] [.int 1])) := c1.trans (by
      refine acmpNo X0.here hexec rfl (hb hbytes d2) rfl rfl rfl (by simp [acmp, hxy]) ?_
      refine iconstV X0.here hexec rfl 1 (hb hbytes d5) (by decide) ?_
      exact Steps.refl _)
    subst hxy
    have ec : cd = cd' := by
      obtain ⟨D, fd, a1, a2, a3⟩ := hx.2.2.1
      obtain ⟨D', fd', b1, b2, b3⟩ := hy.2.2.1
      cases a1.symm.trans b1
      obtain ⟨q1, q2, q3, q4⟩ := a2.1
      obtain ⟨r1, r2, r3, r4⟩ := b2.1
      cases q4.symm.trans r4
      cases a3.symm.trans b3; rfl
    have et : t = t' := by
      obtain ⟨D, fd, a1, a2, a3⟩ := hx.2.1
      obtain ⟨D', fd', b1, b2, b3⟩ := hy.2.1
      cases a1.symm.trans b1
      obtain ⟨q1, q2, q3, q4⟩ := a2.1
      obtain ⟨r1, r2, r3, r4⟩ := b2.1
      cases q4.symm.trans r4
      cases a3.symm.trans b3; rfl
    subst ec et
    have ev : V = V' := by cases hx.2.2.2.1.1.symm.trans hy.2.2.2.1.1; rfl
    subst ev
    have hs : SameT n f k g := (Cod.eqv hx.2.2.2.2.1 hy.2.2.2.2.1 hx.2.2.2.2.2 hy.2.2.2.2.2).mp ⟨rfl, fun _ _ => rfl⟩
    exact ⟨s₁, some (.int 1), _, _, _, X0, rfl, rfl, rfl, (fun h => by cases h), ⟨1, rfl, hh0, Or.inl ⟨rfl, hs⟩⟩, fun fs hl => c2.trans (X0.ireturnOut hexec hret rfl (Or.inr (Or.inl rfl)) (hb hbytes d6) hl)⟩
  · have c2 : Steps p.tables e below (s₁.setTop (entryFrame m #[.ref x, .ref y] 3)) (s₁.setTop (mkF m 8 #[.val (.ref x), .val (.ref y), .unset] [.ref y])) := c1.trans (by
      refine acmpYes X0.here hexec rfl (pc0 := 2) rfl (hb hbytes d2) rfl rfl rfl (by simp [acmp, hxy]) (by decide) rfl ?_
      refine XS.aloadN X0.here hexec rfl (hb hbytes d7) rfl rfl ?_
      exact Steps.refl _)
    obtain ⟨T3, X3, q3, st3⟩ := cinst X0 hexec hown (wk W (.classLink "java/lang/String" 10 "java/lang/String")) (hy.mv X0.warmed.alike hh0).1 (g := (mkF m 8 #[.val (.ref x), .val (.ref y), .unset] [.ref y])) rfl (rest := []) rfl (hb hbytes d8)
    have hh3 := q3.trans hh0
    have c4 : Steps p.tables e below (s₁.setTop (entryFrame m #[.ref x, .ref y] 3)) (T3.setTop (mkF m 15 #[.val (.ref x), .val (.ref y), .unset] [.ref y])) := (c2.trans (st3 _ (Steps.refl _))).trans (by
      refine XS.ifNo X3.here hexec rfl (hb hbytes d11) rfl (i0_eq_f (by decide)) ?_
      refine XS.aloadN X3.here hexec rfl (hb hbytes d14) rfl rfl ?_
      exact Steps.refl _)
    obtain ⟨T5, X5, q5, st5⟩ := cself X3 hexec hown (wk W (.classLink "java/lang/String" 10 "java/lang/String")) (hy.mv X3.warmed.alike hh3).1 (g := (mkF m 15 #[.val (.ref x), .val (.ref y), .unset] [.ref y])) rfl (rest := []) rfl (hb hbytes d15)
    have hh5 := q5.trans hh3
    have c6 : Steps p.tables e below (s₁.setTop (entryFrame m #[.ref x, .ref y] 3)) (T5.setTop (mkF m 19 #[.val (.ref x), .val (.ref y), .val (.ref y)] [])) := (c4.trans (st5 _ (Steps.refl _))).trans (by
      refine XS.astoreN X5.here hexec rfl (hb hbytes d18) rfl rfl rfl ?_
      exact Steps.refl _)
    obtain ⟨T7, X7, q7, st7⟩ := X5.sget hexec hown (wk W (.fieldLink "java/lang/String" 38 "java/lang/String" "COMPACT_STRINGS" "Z")) s1 (fun _ _ h => by rw [hh5]; exact h) (g := (mkF m 19 #[.val (.ref x), .val (.ref y), .val (.ref y)] [])) rfl (hb hbytes d19)
    have hh7 := q7.trans hh5
    have c8 : Steps p.tables e below (s₁.setTop (entryFrame m #[.ref x, .ref y] 3)) (T7.setTop (mkF m 26 #[.val (.ref x), .val (.ref y), .val (.ref y)] [.ref x])) := (c6.trans (st7 _ (Steps.refl _))).trans (by
      refine XS.ifNo X7.here hexec rfl (hb hbytes d22) rfl (i0_eq_f hz) ?_
      refine XS.aloadN X7.here hexec rfl (hb hbytes d25) rfl rfl ?_
      exact Steps.refl _)
    obtain ⟨T9, X9, q9, st9⟩ := X7.hget hexec hown (wk W (.fieldLink "java/lang/String" 15 "java/lang/String" "coder" "B")) (hx.mv X7.warmed.alike hh7).2.2.1 (g := (mkF m 26 #[.val (.ref x), .val (.ref y), .val (.ref y)] [.ref x])) rfl (rest := []) rfl (hb hbytes d26)
    have hh9 := q9.trans hh7
    have c10 : Steps p.tables e below (s₁.setTop (entryFrame m #[.ref x, .ref y] 3)) (T9.setTop (mkF m 30 #[.val (.ref x), .val (.ref y), .val (.ref y)] [.ref y, .int cd])) := (c8.trans (st9 _ (Steps.refl _))).trans (by
      refine XS.aloadN X9.here hexec rfl (hb hbytes d29) rfl rfl ?_
      exact Steps.refl _)
    obtain ⟨T11, X11, q11, st11⟩ := X9.hget hexec hown (wk W (.fieldLink "java/lang/String" 15 "java/lang/String" "coder" "B")) (hy.mv X9.warmed.alike hh9).2.2.1 (g := (mkF m 30 #[.val (.ref x), .val (.ref y), .val (.ref y)] [.ref y, .int cd])) rfl (rest := [.int cd]) rfl (hb hbytes d30)
    have hh11 := q11.trans hh9
    have c12 : Steps p.tables e below (s₁.setTop (entryFrame m #[.ref x, .ref y] 3)) (T11.setTop (mkF m 33 #[.val (.ref x), .val (.ref y), .val (.ref y)] [.int cd', .int cd])) := c10.trans (st11 _ (Steps.refl _))
    by_cases hcd : cd = cd'
    · subst hcd
      have c13 : Steps p.tables e below (s₁.setTop (entryFrame m #[.ref x, .ref y] 3)) (T11.setTop (mkF m 37 #[.val (.ref x), .val (.ref y), .val (.ref y)] [.ref x])) := c12.trans (by
        refine XS.icmpNo X11.here hexec rfl (hb hbytes d33) rfl (ii_ne_f rfl) ?_
        refine XS.aloadN X11.here hexec rfl (hb hbytes d36) rfl rfl ?_
        exact Steps.refl _)
      obtain ⟨T14, X14, q14, st14⟩ := X11.hget hexec hown (wk W (.fieldLink "java/lang/String" 9 "java/lang/String" "value" "[B")) (hx.mv X11.warmed.alike hh11).2.1 (g := (mkF m 37 #[.val (.ref x), .val (.ref y), .val (.ref y)] [.ref x])) rfl (rest := []) rfl (hb hbytes d37)
      have hh14 := q14.trans hh11
      have c15 : Steps p.tables e below (s₁.setTop (entryFrame m #[.ref x, .ref y] 3)) (T14.setTop (mkF m 41 #[.val (.ref x), .val (.ref y), .val (.ref y)] [.ref y, .ref t])) := (c13.trans (st14 _ (Steps.refl _))).trans (by
        refine XS.aloadN X14.here hexec rfl (hb hbytes d40) rfl rfl ?_
        exact Steps.refl _)
      obtain ⟨T16, X16, q16, st16⟩ := X14.hget hexec hown (wk W (.fieldLink "java/lang/String" 9 "java/lang/String" "value" "[B")) (hy.mv X14.warmed.alike hh14).2.1 (g := (mkF m 41 #[.val (.ref x), .val (.ref y), .val (.ref y)] [.ref y, .ref t])) rfl (rest := [.ref t]) rfl (hb hbytes d41)
      have hh16 := q16.trans hh14
      have c17 : Steps p.tables e below (s₁.setTop (entryFrame m #[.ref x, .ref y] 3)) (T16.setTop (mkF m 44 #[.val (.ref x), .val (.ref y), .val (.ref y)] [.ref t', .ref t])) := c15.trans (st16 _ (Steps.refl _))
      obtain ⟨v18, T18, X18, E18, g18⟩ := X16.callS hexec (LEq.law l t V t' V') hown (wks W (staticW "java/lang/String" 541 LEq.yN)) (wk W LEq.tab) (W := 0) (Nat.le_of_ble_eq_true rfl) (Nat.le_of_ble_eq_true rfl) (Nat.le_refl _) (Nat.le_refl _) (g := (mkF m 44 #[.val (.ref x), .val (.ref y), .val (.ref y)] [.ref t', .ref t])) rfl (by rw [hml]; rfl) c17 (argsL := [.ref t, .ref t']) (rest := []) rfl rfl (by show 2 * 0 + 0 ≤ _; decide) (hb hbytes d44) (⟨rfl, hx.2.2.2.1.mv X16.warmed.alike hh16, hx.2.2.2.2.1.ty, hy.2.2.2.1.mv X16.warmed.alike hh16, hy.2.2.2.2.1.ty⟩)
      obtain ⟨v, rfl, q18, hv⟩ := E18
      have iff := Cod.eqv hx.2.2.2.2.1 hy.2.2.2.2.1 hx.2.2.2.2.2 hy.2.2.2.2.2
      rcases hv with ⟨rfl, he⟩ | ⟨rfl, he⟩
      · have c19 : Steps p.tables e below (s₁.setTop (entryFrame m #[.ref x, .ref y] 3)) (T18.setTop (mkF m 55 #[.val (.ref x), .val (.ref y), .val (.ref y)] [.int 1])) := Steps.trans g18 (by
          refine XS.ifNo X18.here hexec rfl (hb hbytes d47) rfl (i0_eq_f (by decide)) ?_
          refine iconstV X18.here hexec rfl 1 (hb hbytes d50) (by decide) ?_
          refine XS.goto X18.here hexec rfl (pc0 := 51) rfl (hb hbytes d51) (by decide) rfl ?_
          exact Steps.refl _)
        exact ⟨T18, some (.int 1), _, _, _, X18, rfl, rfl, rfl, (fun h => by cases h), ⟨1, rfl, q18.trans hh16, Or.inl ⟨rfl, iff.mp he⟩⟩, fun fs hl => c19.trans (X18.ireturnOut hexec hret rfl (Or.inr (Or.inl rfl)) (hb hbytes d55) hl)⟩
      · have c19 : Steps p.tables e below (s₁.setTop (entryFrame m #[.ref x, .ref y] 3)) (T18.setTop (mkF m 55 #[.val (.ref x), .val (.ref y), .val (.ref y)] [.int 0])) := Steps.trans g18 (by
          refine XS.ifYes X18.here hexec rfl (pc0 := 47) rfl (hb hbytes d47) rfl (i0_eq_t rfl) (by decide) rfl ?_
          refine iconstV X18.here hexec rfl 0 (hb hbytes d54) (by decide) ?_
          exact Steps.refl _)
        exact ⟨T18, some (.int 0), _, _, _, X18, rfl, rfl, rfl, (fun h => by cases h), ⟨0, rfl, q18.trans hh16, Or.inr ⟨rfl, fun q => he (iff.mpr q)⟩⟩, fun fs hl => c19.trans (X18.ireturnOut hexec hret rfl (Or.inr (Or.inl rfl)) (hb hbytes d55) hl)⟩
    · have c13 : Steps p.tables e below (s₁.setTop (entryFrame m #[.ref x, .ref y] 3)) (T11.setTop (mkF m 55 #[.val (.ref x), .val (.ref y), .val (.ref y)] [.int 0])) := c12.trans (by
        refine XS.icmpYes X11.here hexec rfl (pc0 := 33) rfl (hb hbytes d33) rfl (ii_ne_t hcd) (by decide) rfl ?_
        refine iconstV X11.here hexec rfl 0 (hb hbytes d54) (by decide) ?_
        exact Steps.refl _)
      exact ⟨T11, some (.int 0), _, _, _, X11, rfl, rfl, rfl, (fun h => by cases h), ⟨0, rfl, hh11, Or.inr ⟨rfl, Cod.dif hx.2.2.2.2.1 hy.2.2.2.2.1 hcd⟩⟩, fun fs hl => c13.trans (X11.ireturnOut hexec hret rfl (Or.inr (Or.inl rfl)) (hb hbytes d55) hl)⟩
theorem pays {l : Launch} {R : Room} {p : Program} {e : Env} {below : List Frame} {s : State} {sargs : Array Value} {len W : Nat} (x t : Addr) (V : Cell) (cd : Int32) (n : Nat) (f : Nat → Int32) (y t' : Addr) (V' : Cell) (cd' : Int32) (k : Nat) (g : Nat → Int32) (z : Int32) (htab : tab.before sargs s = true) (hfr : 2 ≤ R.frames) (hlo : W + 28 ≤ R.locals) :
    Back l R p e below s sargs yN len W (fun A₁ a₁ => A₁.cells + 0 ≤ R.cells ∧ A₁.slots + 0 ≤ R.slots ∧ P x t V cd n f y t' V' cd' k g z a₁ A₁.U) (fun A₁ _ v₁ B₁ => Says01 (SameT n f k g) v₁ A₁.U B₁.U ∧ B₁.locs = A₁.locs ++ [] ∧ B₁.cells = A₁.cells + 0 ∧ B₁.slots = A₁.slots + 0) :=
  (law l x t V cd n f y t' V' cd' k g z).pays htab hfr (by omega)
end SEq
end StrChars
namespace StrChars.Road
open Jvm Sem ClassFile Op Lib Jvm.Stand Jvm.Free Jvm.Free.XT
open Jvm.Lib.Cold (StaticIs)
/-- the words of String.equals(Object) -/
abbrev wordsEq : List Jvm.Cond := [.code SEq.yN SEq.yB 3 (some .boolean), .initialized ST, .classLink ST 10 ST, .fieldLink ST 38 ST "COMPACT_STRINGS" "Z", .fieldLink ST 15 ST "coder" "B", .fieldLink ST 9 ST "value" "[B", .methodLink ST 541 LEq.yN, .static LEq.yN, .code LEq.yN LEq.yB 3 (some .boolean), .initialized "java/lang/StringLatin1"]
theorem tabEq_of {a : Array Value} {s : State} (h : ∀ w ∈ wordsEq, w.before a s = true) : SEq.tab.before a s = true := by
  have hl : LEq.tab.before a s = true := unparts (wk h (.code LEq.yN LEq.yB 3 (some .boolean))) (wks h (.initialized LEq.yN.cls :: LEq.site))
  have q := consq hl h
  exact unparts (wk q (.code SEq.yN SEq.yB 3 (some .boolean))) (wks q (.initialized SEq.yN.cls :: SEq.site))
theorem movedEq {Z s : State} {a0 args : Array Value} (hZ : Z.Warmed39 s.vm) (hw : ∀ d ∈ wordsEq, d.before a0 Z = true) : ∀ d ∈ wordsEq, d.before args s = true := fun d hd => by
  have t : ∀ d ∈ wordsEq, (d.onTables && d.keepsFace) = true := by decide +kernel
  exact RoadKit.mv hZ (hw d hd) (t d hd)
/-- the road's facts of a String, as the laws ask it -/
theorem txt_of {Z U : State} {a0 : Array Value} {kI : Nat} (wi : (Jvm.Cond.instantiable ST kI).before a0 Z = true) (al : Z.vm.Alike U.vm) {x t : Addr} {kb : ClassId} {cs : List Int32} {cd N2 : Int32} {vs : List Value} (E : RoadKit.Exa Z U.heap x ST) (V : RoadKit.Fld Z U.heap x ST "value" "[B" (.ref t)) (C : RoadKit.Fld Z U.heap x ST "coder" "B" (.int cd)) (K : RoadKit.Arv Z U.heap t kb .byte N2 vs (.int 0)) (hc : CodA cs cd N2 vs) (hb : ∀ c ∈ cs, ¬ c < 0 ∧ ¬ (65535 : Int32) < c) (l2 : cs.length ≤ 4000) :
    ∃ A, Txt x t A cd cs.length (fun j => cs.getD j 0) U := by
  obtain ⟨A, K1, K2, K3, K4, K5, K6⟩ := K
  have hcod := hc.cod (by omega) K3 K5
  obtain ⟨D, fV, fC, hB, F1, F2, g1, g2, -, -⟩ := strObj wi al E V C
  exact ⟨A, ⟨_, hB.2.2.1, D, hB.1, rfl, by cases q : D.vm <;> first | rfl | exact absurd q (hB.2.1.2 _)⟩, Has.of hB F1 g1, Has.of hB F2 g2, ⟨K1.1, State.isArrayOf_alike al K1.2.1, K1.2.2, by rcases hcod with ⟨-, q, -⟩ | ⟨-, q, -⟩ <;> omega⟩, hcod, fun j hj => by
    have e : cs.getD j 0 = cs[j] := by simp [List.getD_eq_getElem?_getD, hj]
    show ¬ cs.getD j 0 < 0 ∧ ¬ 65535 < cs.getD j 0
    rw [e]; exact hb _ (List.getElem_mem _)⟩
theorem same_list (cs ds : List Int32) : SameT cs.length (fun j => cs.getD j 0) ds.length (fun j => ds.getD j 0) ↔ cs = ds := by
  constructor
  · rintro ⟨e, q⟩
    refine List.ext_getElem e fun j h1 h2 => ?_
    have := q j h1
    simpa [List.getD_eq_getElem?_getD, h1, h2] using this
  · rintro rfl
    exact ⟨rfl, fun _ _ => rfl⟩
/-- **equals(Object) OF TWO SUCH STRINGS**: 1 just where the chars are the same -/
theorem eqW {p : Program} {l : Launch} {e : Env} {R : Room} {s : State} {args : Array Value} {below : List Frame} {len W : Nat} {Z : State} {a0 : Array Value} {h : Heap} (hZ : Z.Warmed39 s.vm) (hw : ∀ d ∈ wordsEq, d.before a0 Z = true) {kI : Nat} (wi : (Jvm.Cond.instantiable ST kI).before a0 Z = true)
    {x t : Addr} {kb : ClassId} {cs : List Int32} {cd N2 : Int32} {vs : List Value} (E : RoadKit.Exa Z h x ST) (V : RoadKit.Fld Z h x ST "value" "[B" (.ref t)) (C : RoadKit.Fld Z h x ST "coder" "B" (.int cd)) (K : RoadKit.Arv Z h t kb .byte N2 vs (.int 0)) (hc : CodA cs cd N2 vs) (hb : ∀ c ∈ cs, ¬ c < 0 ∧ ¬ (65535 : Int32) < c) (l2 : cs.length ≤ 4000)
    {y t' : Addr} {kb' : ClassId} {ds : List Int32} {cd' N2' : Int32} {vs' : List Value} (E' : RoadKit.Exa Z h y ST) (V' : RoadKit.Fld Z h y ST "value" "[B" (.ref t')) (C' : RoadKit.Fld Z h y ST "coder" "B" (.int cd')) (K' : RoadKit.Arv Z h t' kb' .byte N2' vs' (.int 0)) (hc' : CodA ds cd' N2' vs') (hb' : ∀ c ∈ ds, ¬ c < 0 ∧ ¬ (65535 : Int32) < c) (l2' : ds.length ≤ 4000)
    {z : Int32} (S : RoadKit.Sta Z h ST "COMPACT_STRINGS" "Z" (.int z)) (hz : ¬ z = 0) (hfr : 2 ≤ R.frames) (hlo : W + 28 ≤ R.locals) :
    Back l R p e below s args (⟨"java/lang/String", "equals", "(Ljava/lang/Object;)Z"⟩ : MethodName) len W (fun P a => a = #[.ref x, .ref y] ∧ P.U.heap = h ∧ P.cells + 0 ≤ R.cells ∧ P.slots + 0 ≤ R.slots)
      (fun P _ v B => ∃ L, (((v = some (.int 1) ∧ cs = ds) ∨ (v = some (.int 0) ∧ ¬ cs = ds)) ∧ L = [] ∧ B.U.heap = h) ∧ B.locs = P.locs ++ L ∧ B.cells = P.cells + 0 ∧ B.slots = P.slots + 0) := by
  intro m meth c P g ig mk a X hg hsize hdg hW hn hp'
  obtain ⟨rfl, rfl, r1, r2⟩ := hp'
  have al : Z.vm.Alike P.U.vm := hZ.alike.trans X.warmed.alike
  obtain ⟨A, hx⟩ := txt_of wi al E V C K hc hb l2
  obtain ⟨A', hy⟩ := txt_of wi al E' V' C' K' hc' hb' l2'
  obtain ⟨v, B, X', ⟨⟨w, hv, hh, hq⟩, hl, hk, hs⟩, st⟩ := SEq.pays x t A cd cs.length (fun j => cs.getD j 0) y t' A' cd' ds.length (fun j => ds.getD j 0) z (tabEq_of (movedEq hZ hw)) hfr hlo m meth c P g ig mk _ X hg hsize hdg hW hn ⟨r1, r2, rfl, hx, hy, sta_is al S, hz⟩
  refine ⟨v, B, X', ⟨[], ⟨?_, rfl, hh⟩, hl, hk, hs⟩, st⟩
  rcases hq with ⟨rfl, q⟩ | ⟨rfl, q⟩
  · exact Or.inl ⟨hv, (same_list cs ds).mp q⟩
  · exact Or.inr ⟨hv, fun e => q ((same_list cs ds).mpr e)⟩
end StrChars.Road
namespace StrChars.Road
open Jvm Sem ClassFile Op Lib Jvm.Stand Jvm.Free Jvm.Free.XT
open Jvm.Lib.Cold (StaticIs)
/-- what backV says of its String, as the contracts of this text ask it: cs's low bytes, coder 0 -/
theorem codOf {cs : List Int32} {n : Nat} (hn : cs.length = n) (hb : ∀ c ∈ cs, ¬ 255 < c) : CodA cs 0 (Int32.ofNat n) ((cs.map lo8).map Value.int) := Or.inl ⟨rfl, by rw [hn], by simp [List.map_map, Function.comp_def], hb⟩
end StrChars.Road
end Jvm.Pilot.@@N@@
namespace Jvm.Pilot.@@N@@
open Jvm Jvm.ClassFile Sem Op Lib Jvm.Free Jvm.Stand Jvm.LawKit Jvm.RoadKit Bundle Jvm.Pilot.@@N@@.Jvm.D
section Own
variable {w : Bool} {p : Program} {l : Launch} {e : Env} {R : Room} {s : State} {m : MethodId} {args : Array Value} {below : List Frame} {meth : Method} {c : Code} {T : State} {cells slots n0 mx : Nat} {Z : State} {a0 : Array Value} {h : Heap} {bytes : ByteArray} {ret : Option FieldType} {own nm : String} {EL : List (String × Nat)} {sf : List Addr} {Q : Outcome → State → Prop} {pc q : Nat} {Ls : Array Slot} {st rest : List Value}
def own_Base (w : Bool) (s : State) (vm0 : Vm) (h : Heap) : Prop := (w = false ∧ vm0 = s.vm) ∨ (w = true ∧ ∃ k0, s.Since vm0 k0 ∧ k0 ≤ h.size)
/-- addresses that the walk has made and that are no literal's -/
def own_Sf (Z : State) (EL : List (String × Nat)) (vm : Vm) (h : Heap) (sf : List Addr) : Prop := ∀ x ∈ sf, Safe Z EL vm h x ∧ x < h.size
def own_At (w : Bool) (p : Program) (l : Launch) (e : Env) (R : Room) (s : State) (m : MethodId) (args : Array Value) (below : List Frame) (meth : Method) (c : Code) (bytes : ByteArray) (ret : Option FieldType) (own nm : String) (mx : Nat) (Z : State) (n0 : Nat) (a0 : Array Value) (EL : List (String × Nat)) (sf : List Addr) (T : State) (h : Heap) (cells slots : Nat) : Prop :=
  (p.tables.exec = Jvm.exec ∧ c.code = bytes ∧ meth.sig.returnType = ret ∧ meth.locks = false ∧ meth.name = nm ∧ c.maxLocals = mx) ∧
  ∃ (vm0 : Vm) (locs : List Loc), Stand p l e R (s.setVm vm0) m args below meth c T locs cells slots ∧ own_Base w s vm0 h ∧ Z.Warmed39 vm0 ∧ vm0.findClass own = some m.cls ∧ T.heap = h ∧ Fr n0 locs ∧ Old Z n0 h ∧ EW Z a0 EL ∧ CHr Z EL s.vm s.heap vm0 h ∧ own_Sf Z EL vm0 h sf
def own_Run (p : Program) (e : Env) (below : List Frame) (Q : Outcome → State → Prop) (m : MethodId) (T : State) (pc : Nat) (Ls : Array Slot) (st : List Value) : Prop :=
  ∃ s₂ o, Steps p.tables e below (T.setTop (mkF m pc Ls st)) s₂ ∧ s₂.status = .running ∧ Ended s₂ below o ∧ Q o s₂
def own_End : Bool → State → Outcome → State → List Loc → Nat → Nat → Prop
  | true, s, o, t, L, k, n => ReturnedEndW s o t L k n
  | false, s, o, t, L, k, n => FrameEnd s o t L k n
/-- what an invocation leaves: Qc of the value returned and the heap -/
def own_Q (w : Bool) (s : State) (rm : Room) (n0 : Nat) (Z : State) (EL : List (String × Nat)) (Qc : Option Value → Heap → Prop) (o : Outcome) (t : State) : Prop :=
  ∃ v L, o = .returned v ∧ (Qc v t.heap ∧ Fr n0 L ∧ Old Z n0 t.heap ∧ s.heap.size ≤ t.heap.size) ∧ CHr Z EL s.vm s.heap t.vm t.heap ∧ own_End w s o t L rm.cells rm.slots
def own_Met (w : Bool) (l : Launch) (Z : State) (n0 : Nat) (EL : List (String × Nat)) (sf : List Addr) (y : MethodName) (bytes : ByteArray) (mx : Nat) (ret : Option FieldType) (ws : List Jvm.Cond) (rm : Room) (as' : Array Value) (h : Heap) (Qc : Option Value → Heap → Prop) : Prop :=
  MetFree l y (head1 (Jvm.Cond.code y bytes mx ret :: ws) rm) (fun a U => a = as' ∧ Z.Warmed39 U.vm ∧ U.heap = h ∧ CHv Z EL U.vm h ∧ own_Sf Z EL U.vm h sf) (fun _ _ _ _ _ => True) (fun _ U o U' => own_Q w U rm n0 Z EL Qc o U')
theorem own_by {T' : State} {Ls' : Array Slot} {st' : List Value} (hs : ∀ t, Steps p.tables e below (T'.setTop (mkF m q Ls' st')) t → Steps p.tables e below (T.setTop (mkF m pc Ls st)) t) (k : own_Run p e below Q m T' q Ls' st') : own_Run p e below Q m T pc Ls st := by
  obtain ⟨a, o, h1, r⟩ := k
  exact ⟨a, o, hs _ h1, r⟩
theorem own_At.old (A : own_At w p l e R s m args below meth c bytes ret own nm mx Z n0 a0 EL sf T h cells slots) : Old Z n0 h := by obtain ⟨-, _, _, -, -, -, -, -, -, O, -⟩ := A; exact O
theorem own_At.fr (A : own_At w p l e R s m args below meth c bytes ret own nm mx Z n0 a0 EL sf T h cells slots) : n0 ≤ h.size := by have O := A.old; exact O.1 ▸ O.2.1
theorem own_Base.le {vm0 : Vm} {h h' : Heap} (B : own_Base w s vm0 h) (g : h.size ≤ h'.size) : own_Base w s vm0 h' := by
  rcases B with B | ⟨B, k0, B1, B2⟩
  · exact Or.inl B
  · exact Or.inr ⟨B, k0, B1, Nat.le_trans B2 g⟩
theorem own_ch0 {vm vm1 : Vm} {h h' : Heap} (g : h.size ≤ h'.size) : CHr Z [] vm h vm1 h' := by
  refine ⟨fun p hp => ?_, g, fun y B => ?_⟩
  · cases hp
  · obtain ⟨p, hp, -⟩ := B
    cases hp
theorem own_Sf.ext {vm : Vm} {h h' : Heap} (S : own_Sf Z EL vm h sf) (H : CHv Z EL vm h) (E : Ext h h') : own_Sf Z EL vm h' sf := fun x hx => ⟨(S x hx).1.ext E H, Nat.lt_of_lt_of_le (S x hx).2 E.1⟩
theorem own_Sf.new {vm : Vm} {h h' : Heap} (S : own_Sf Z EL vm h sf) (H : CHv Z EL vm h) (E : Ext h h') (g : h.size < h'.size) : own_Sf Z EL vm h' (h.size :: sf) := fun x hx => by
  rcases List.mem_cons.mp hx with rfl | hx
  · exact ⟨(Safe.new (Nat.le_refl _)).ext E H, g⟩
  · exact S.ext H E x hx
theorem own_Sf.wr {vm : Vm} {h h' : Heap} {a : Addr} {sl : Nat} {v : Value} (S : own_Sf Z EL vm h sf) (H : CHv Z EL vm h) (W : Wr h h' a sl v) (Sa : Safe Z EL vm h a) : own_Sf Z EL vm h' sf := fun x hx => ⟨Safe.wr W Sa H (S x hx).1, by rw [W.size]; exact (S x hx).2⟩
theorem own_Sf.ch {vm vm1 : Vm} {h h' : Heap} (S : own_Sf Z EL vm h sf) (C : CHr Z EL vm h vm1 h') : own_Sf Z EL vm1 h' sf := fun x hx => ⟨C.safe (S x hx).2 (S x hx).1, Nat.lt_of_lt_of_le (S x hx).2 C.2.1⟩
/-- what may be written: a made object, anything where there are no literals, no String and no byte[] -/
def own_Wok (Z : State) (EL : List (String × Nat)) (sf : List Addr) (h : Heap) (a : Addr) : Prop := a ∈ sf ∨ EL = [] ∨ (∃ C, Exa Z h a C ∧ C ≠ "java/lang/String" ∧ C ≠ "[B") ∨ ∃ cl ty, Arr Z h a cl ty ∧ ty ≠ .byte
theorem own_Wok.safe {vm : Vm} {a : Addr} (W : own_Wok Z EL sf h a) (hZ : Z.Warmed39 vm) (S : own_Sf Z EL vm h sf) : Safe Z EL vm h a := by
  rcases W with W | rfl | ⟨C, E, h1, h2⟩ | ⟨cl, ty, Ar, ht⟩
  · exact (S a W).1
  · exact fun B => by
      obtain ⟨p, hp, -⟩ := B
      cases hp
  · exact Safe.exa hZ.alike E h1 h2
  · exact Safe.arr hZ.alike Ar ht
/-- the entry -/
theorem own_enter {y : MethodName} {mx : Nat} {ws : List Jvm.Cond} {rm : Room} {as' : Array Value} {Qc : Option Value → Heap → Prop} (hpl : plainName own = true) (O : Old Z n0 h) (hEL : EW Z a0 EL) (hef : ∀ m, entryFrame m as' mx = mkF m 0 Ls [])
    (body : ∀ p e s m args below meth c T Q, Q = own_Q w s rm n0 Z EL Qc → own_At w p l e rm s m args below meth c bytes ret own nm mx Z n0 a0 EL sf T h 0 0 → own_Run p e below Q m T 0 Ls []) (ho : y.cls = own := by rfl) (hn : y.name = nm := by rfl) : own_Met w l Z n0 EL sf y bytes mx ret ws rm as' h Qc := by
  subst ho hn
  refine MetFree.of_bodySF (plainFor_of_name hpl) hisR ?_
  intro p e s m args below meth c s₁ Bd hml0 hP hK
  obtain ⟨rfl, hZ, hh, hCH, hSf⟩ := hP
  have X0 : Stand p l e rm s m args below meth c s₁ [] 0 0 := Stand.of_body Bd
  have e0 : s₁.heap = h := by rw [← hh, Bd.state]; rfl
  have hown : s.vm.findClass y.cls = some m.cls := findClass_of_methodNamed Bd.named
  have A : own_At w p l e rm s m args below meth c bytes ret y.cls y.name mx Z n0 a0 EL sf s₁ h 0 0 :=
    ⟨⟨Bd.exec, Bd.bytes, Bd.returns, Bd.notSynchronized, (name_of_methodNamed Bd.named Bd.method).1, hml0⟩, s.vm, [], X0, (by
      cases w
      · exact Or.inl ⟨rfl, rfl⟩
      · exact Or.inr ⟨rfl, 0, (State.WarmedH.refl s).since 0, Nat.zero_le _⟩), hZ, hown, e0, Fr.nil n0, O, hEL, (by rw [hh]; exact CHr.refl hCH), hSf⟩
  obtain ⟨s₂, o, h1, h2, h3, h4⟩ := body p e s m args below meth c s₁ _ rfl A
  exact ⟨s₂, o, castTop (hef m) h1, h2, h3, h4⟩
/-- the end of a walk, whatever the returning instruction -/
theorem own_end {rm : Room} {Qc : Option Value → Heap → Prop} (A : own_At w p l e R s m args below meth c bytes ret own nm mx Z n0 a0 EL sf T h cells slots) (hQ : Q = own_Q w s rm n0 Z EL Qc) (v : Option Value) (hv : ret = none → v = none) (hq : Qc v h) (hk : cells ≤ rm.cells) (hn : slots ≤ rm.slots)
    (hs : ∀ fs, (∀ (f : JFrame) (acts : List Action), f.method = m → f.locked = none → f.entered = [] → (doReturn e (T.setTop f) acts v).1 = T.setFrames fs) → Steps p.tables e below (T.setTop (mkF m pc Ls st)) (T.setFrames fs)) : own_Run p e below Q m T pc Ls st := by
  subst hQ
  obtain ⟨⟨hx, hby, hret, hlk, hnm, hml⟩, vm0, locs, X, B, hZ, hown, hT, N, O, hEL, Ch, Sf⟩ := A
  subst hT
  have Ch' := Ch.trans (CHv.at X hZ hEL Ch.1)
  rcases B with ⟨rfl, rfl⟩ | ⟨rfl, k0, B1, B2⟩
  · have X' : Stand p l e R s m args below meth c T locs cells slots := X
    obtain ⟨fs, hr, hrun, hended, hW, hsame⟩ := X'.leave (v := v) (fun z => hv (hret ▸ z)) hlk
    exact ⟨_, _, hs fs hr, hrun, hended, v, locs, rfl, ⟨hq, N, O, X'.same.2.1⟩, Ch', ⟨_, rfl⟩, hW, hsame.mono hk hn⟩
  · obtain ⟨fs, hr, hrun, hended, hW⟩ := X.leaveW B1 B2 (v := v) (fun z => hv (hret ▸ z)) hlk
    exact ⟨_, _, hs fs hr, hrun, hended, v, locs, rfl, ⟨hq, N, O, X.same.2.1⟩, Ch', hW.1, hW.2.1, hW.2.2.1, hW.2.2.2.mono hk hn⟩
theorem own_retN {z : Int32} {t : FieldType} {rm : Room} {Qc : Option Value → Heap → Prop} (A : own_At w p l e R s m args below meth c bytes (some t) own nm mx Z n0 a0 EL sf T h cells slots) (hQ : Q = own_Q w s rm n0 Z EL Qc) (ht : t = .boolean ∨ t = .byte ∨ t = .char ∨ t = .short) (hd : decode bytes pc = .ok (.ireturn, 1)) (hq : Qc (some (.int (nar t z))) h) (hk : cells ≤ rm.cells := by decide) (hn : slots ≤ rm.slots := by decide) : own_Run p e below Q m T pc Ls (.int z :: rest) := by
  obtain ⟨⟨hx, hby, hret, hlk, hnm, hml⟩, vm0, locs, X, r⟩ := id A
  subst hby
  exact own_end A hQ (some (.int (nar t z))) (fun z => by cases z) hq hk hn (fun fs hr => RoadKit.retN X hx hret ht hd hr)
theorem own_retI {z : Int32} {rm : Room} {Qc : Option Value → Heap → Prop} (A : own_At w p l e R s m args below meth c bytes (some .int) own nm mx Z n0 a0 EL sf T h cells slots) (hQ : Q = own_Q w s rm n0 Z EL Qc)  (hd : decode bytes pc = .ok (.ireturn, 1)) (hq : Qc (some (.int z)) h) (hk : cells ≤ rm.cells := by decide) (hn : slots ≤ rm.slots := by decide) : own_Run p e below Q m T pc Ls (.int z :: rest) := by
  obtain ⟨⟨hx, hby, hret, hlk, hnm, hml⟩, vm0, locs, X, r⟩ := id A
  subst hby
  exact own_end A hQ (some (.int z)) (fun z => by cases z) hq hk hn (fun fs hr => RoadKit.retOut X hx hret rfl (Or.inl ⟨rfl, Or.inl rfl, z, rfl⟩) hd hr)
theorem own_retJ {z : Int64} {rm : Room} {Qc : Option Value → Heap → Prop} (A : own_At w p l e R s m args below meth c bytes (some .long) own nm mx Z n0 a0 EL sf T h cells slots) (hQ : Q = own_Q w s rm n0 Z EL Qc)  (hd : decode bytes pc = .ok (.lreturn, 1)) (hq : Qc (some (.long z)) h) (hk : cells ≤ rm.cells := by decide) (hn : slots ≤ rm.slots := by decide) : own_Run p e below Q m T pc Ls (.long z :: rest) := by
  obtain ⟨⟨hx, hby, hret, hlk, hnm, hml⟩, vm0, locs, X, r⟩ := id A
  subst hby
  exact own_end A hQ (some (.long z)) (fun z => by cases z) hq hk hn (fun fs hr => RoadKit.retOut X hx hret rfl (Or.inr (Or.inl ⟨rfl, rfl, z, rfl⟩)) hd hr)
theorem own_retD {z : UInt64} {rm : Room} {Qc : Option Value → Heap → Prop} (A : own_At w p l e R s m args below meth c bytes (some .double) own nm mx Z n0 a0 EL sf T h cells slots) (hQ : Q = own_Q w s rm n0 Z EL Qc)  (hd : decode bytes pc = .ok (.dreturn, 1)) (hq : Qc (some (.double z)) h) (hk : cells ≤ rm.cells := by decide) (hn : slots ≤ rm.slots := by decide) : own_Run p e below Q m T pc Ls (.double z :: rest) := by
  obtain ⟨⟨hx, hby, hret, hlk, hnm, hml⟩, vm0, locs, X, r⟩ := id A
  subst hby
  exact own_end A hQ (some (.double z)) (fun z => by cases z) hq hk hn (fun fs hr => RoadKit.retOut X hx hret rfl (Or.inr (Or.inr (Or.inl ⟨rfl, rfl, z, rfl⟩))) hd hr)
theorem own_retA {z : Value} {t : FieldType} {rm : Room} {Qc : Option Value → Heap → Prop} (A : own_At w p l e R s m args below meth c bytes (some t) own nm mx Z n0 a0 EL sf T h cells slots) (hQ : Q = own_Q w s rm n0 Z EL Qc) (ht : t.isReference = true) (hz : z.isRef = true) (hnz : narrow t z = z) (hd : decode bytes pc = .ok (.areturn, 1)) (hq : Qc (some z) h) (hk : cells ≤ rm.cells := by decide) (hn : slots ≤ rm.slots := by decide) : own_Run p e below Q m T pc Ls (z :: rest) := by
  obtain ⟨⟨hx, hby, hret, hlk, hnm, hml⟩, vm0, locs, X, r⟩ := id A
  subst hby
  exact own_end A hQ (some z) (fun z => by cases z) hq hk hn (fun fs hr => RoadKit.retOut X hx hret hnz (Or.inr (Or.inr (Or.inr (Or.inr ⟨rfl, ht, hz⟩)))) hd hr)
theorem own_ret0 {rm : Room} {Qc : Option Value → Heap → Prop} (A : own_At w p l e R s m args below meth c bytes none own nm mx Z n0 a0 EL sf T h cells slots) (hQ : Q = own_Q w s rm n0 Z EL Qc) (hd : decode bytes pc = .ok (.return_, 1)) (hq : Qc none h) (hk : cells ≤ rm.cells := by decide) (hn : slots ≤ rm.slots := by decide) : own_Run p e below Q m T pc Ls [] := by
  obtain ⟨⟨hx, hby, hret, hlk, hnm, hml⟩, vm0, locs, X, r⟩ := id A
  subst hby
  exact own_end A hQ none (fun _ => rfl) hq hk hn (fun fs hr => X.returnOut hx hret hd hr)
theorem own_aloadN (A : own_At w p l e R s m args below meth c bytes ret own nm mx Z n0 a0 EL sf T h cells slots) {i : Fin 4} {v : Value} (hd : decode bytes pc = .ok (.aload_n i, 1)) (hl : Ls[i.val]? = some (.val v)) (hv : v.isRef = true) (k : own_Run p e below Q m T q Ls (v :: st)) (hq : pc + 1 = q := by rfl) : own_Run p e below Q m T pc Ls st := by
  obtain ⟨⟨hx, hby, -⟩, vm0, locs, X, -⟩ := A
  subst hby hq
  refine own_by (fun t z => ?_) k
  exact XS.aloadN X.here hx rfl hd hl hv z
theorem own_aload (A : own_At w p l e R s m args below meth c bytes ret own nm mx Z n0 a0 EL sf T h cells slots) {i : Nat} {v : Value} (hd : decode bytes pc = .ok (.aload i, 2)) (hl : Ls[i]? = some (.val v)) (hv : v.isRef = true) (k : own_Run p e below Q m T q Ls (v :: st)) (hq : pc + 2 = q := by rfl) : own_Run p e below Q m T pc Ls st := by
  obtain ⟨⟨hx, hby, -⟩, vm0, locs, X, -⟩ := A
  subst hby hq
  refine own_by (fun t z => ?_) k
  exact XS.aload X.here hx rfl hd hl hv z
theorem own_iloadN (A : own_At w p l e R s m args below meth c bytes ret own nm mx Z n0 a0 EL sf T h cells slots) {i : Fin 4} {v : Int32} (hd : decode bytes pc = .ok (.iload_n i, 1)) (hl : Ls[i.val]? = some (.val (.int v))) (k : own_Run p e below Q m T q Ls (.int v :: st)) (hq : pc + 1 = q := by rfl) : own_Run p e below Q m T pc Ls st := by
  obtain ⟨⟨hx, hby, -⟩, vm0, locs, X, -⟩ := A
  subst hby hq
  refine own_by (fun t z => ?_) k
  exact XS.iloadN X.here hx rfl hd hl z
theorem own_iload (A : own_At w p l e R s m args below meth c bytes ret own nm mx Z n0 a0 EL sf T h cells slots) {i : Nat} {v : Int32} (hd : decode bytes pc = .ok (.iload i, 2)) (hl : Ls[i]? = some (.val (.int v))) (k : own_Run p e below Q m T q Ls (.int v :: st)) (hq : pc + 2 = q := by rfl) : own_Run p e below Q m T pc Ls st := by
  obtain ⟨⟨hx, hby, -⟩, vm0, locs, X, -⟩ := A
  subst hby hq
  refine own_by (fun t z => ?_) k
  exact XS.iload X.here hx rfl hd hl z
theorem own_istoreN (A : own_At w p l e R s m args below meth c bytes ret own nm mx Z n0 a0 EL sf T h cells slots) {i : Fin 4} {v : Int32} {L' : Array Slot} (hd : decode bytes pc = .ok (.istore_n i, 1)) (hl : storeLocals Ls i.val (.int v) = some L') (k : own_Run p e below Q m T q L' rest) (hq : pc + 1 = q := by rfl) : own_Run p e below Q m T pc Ls (.int v :: rest) := by
  obtain ⟨⟨hx, hby, -⟩, vm0, locs, X, -⟩ := A
  subst hby hq
  refine own_by (fun t z => ?_) k
  exact XS.istoreN X.here hx rfl hd rfl hl z
theorem own_istore (A : own_At w p l e R s m args below meth c bytes ret own nm mx Z n0 a0 EL sf T h cells slots) {i : Nat} {v : Int32} {L' : Array Slot} (hd : decode bytes pc = .ok (.istore i, 2)) (hl : storeLocals Ls i (.int v) = some L') (k : own_Run p e below Q m T q L' rest) (hq : pc + 2 = q := by rfl) : own_Run p e below Q m T pc Ls (.int v :: rest) := by
  obtain ⟨⟨hx, hby, -⟩, vm0, locs, X, -⟩ := A
  subst hby hq
  refine own_by (fun t z => ?_) k
  exact XS.istore X.here hx rfl hd rfl hl z
theorem own_lloadN (A : own_At w p l e R s m args below meth c bytes ret own nm mx Z n0 a0 EL sf T h cells slots) {i : Fin 4} {v : Int64} (hd : decode bytes pc = .ok (.lload_n i, 1)) (hl : Ls[i.val]? = some (.val (.long v))) (k : own_Run p e below Q m T q Ls (.long v :: st)) (hq : pc + 1 = q := by rfl) : own_Run p e below Q m T pc Ls st := by
  obtain ⟨⟨hx, hby, -⟩, vm0, locs, X, -⟩ := A
  subst hby hq
  refine own_by (fun t z => ?_) k
  exact XS.lloadN X.here hx rfl hd hl z
theorem own_lload (A : own_At w p l e R s m args below meth c bytes ret own nm mx Z n0 a0 EL sf T h cells slots) {i : Nat} {v : Int64} (hd : decode bytes pc = .ok (.lload i, 2)) (hl : Ls[i]? = some (.val (.long v))) (k : own_Run p e below Q m T q Ls (.long v :: st)) (hq : pc + 2 = q := by rfl) : own_Run p e below Q m T pc Ls st := by
  obtain ⟨⟨hx, hby, -⟩, vm0, locs, X, -⟩ := A
  subst hby hq
  refine own_by (fun t z => ?_) k
  exact XS.lload X.here hx rfl hd hl z
theorem own_lstoreN (A : own_At w p l e R s m args below meth c bytes ret own nm mx Z n0 a0 EL sf T h cells slots) {i : Fin 4} {v : Int64} {L' : Array Slot} (hd : decode bytes pc = .ok (.lstore_n i, 1)) (hl : storeLocals Ls i.val (.long v) = some L') (k : own_Run p e below Q m T q L' rest) (hq : pc + 1 = q := by rfl) : own_Run p e below Q m T pc Ls (.long v :: rest) := by
  obtain ⟨⟨hx, hby, -⟩, vm0, locs, X, -⟩ := A
  subst hby hq
  refine own_by (fun t z => ?_) k
  exact XS.lstoreN X.here hx rfl hd rfl hl z
theorem own_lstore (A : own_At w p l e R s m args below meth c bytes ret own nm mx Z n0 a0 EL sf T h cells slots) {i : Nat} {v : Int64} {L' : Array Slot} (hd : decode bytes pc = .ok (.lstore i, 2)) (hl : storeLocals Ls i (.long v) = some L') (k : own_Run p e below Q m T q L' rest) (hq : pc + 2 = q := by rfl) : own_Run p e below Q m T pc Ls (.long v :: rest) := by
  obtain ⟨⟨hx, hby, -⟩, vm0, locs, X, -⟩ := A
  subst hby hq
  refine own_by (fun t z => ?_) k
  exact XS.lstore X.here hx rfl hd rfl hl z
theorem own_dloadN (A : own_At w p l e R s m args below meth c bytes ret own nm mx Z n0 a0 EL sf T h cells slots) {i : Fin 4} {v : UInt64} (hd : decode bytes pc = .ok (.dload_n i, 1)) (hl : Ls[i.val]? = some (.val (.double v))) (k : own_Run p e below Q m T q Ls (.double v :: st)) (hq : pc + 1 = q := by rfl) : own_Run p e below Q m T pc Ls st := by
  obtain ⟨⟨hx, hby, -⟩, vm0, locs, X, -⟩ := A
  subst hby hq
  refine own_by (fun t z => ?_) k
  exact XS.dloadN X.here hx rfl hd hl z
theorem own_dload (A : own_At w p l e R s m args below meth c bytes ret own nm mx Z n0 a0 EL sf T h cells slots) {i : Nat} {v : UInt64} (hd : decode bytes pc = .ok (.dload i, 2)) (hl : Ls[i]? = some (.val (.double v))) (k : own_Run p e below Q m T q Ls (.double v :: st)) (hq : pc + 2 = q := by rfl) : own_Run p e below Q m T pc Ls st := by
  obtain ⟨⟨hx, hby, -⟩, vm0, locs, X, -⟩ := A
  subst hby hq
  refine own_by (fun t z => ?_) k
  exact XS.dload X.here hx rfl hd hl z
theorem own_dstoreN (A : own_At w p l e R s m args below meth c bytes ret own nm mx Z n0 a0 EL sf T h cells slots) {i : Fin 4} {v : UInt64} {L' : Array Slot} (hd : decode bytes pc = .ok (.dstore_n i, 1)) (hl : storeLocals Ls i.val (.double v) = some L') (k : own_Run p e below Q m T q L' rest) (hq : pc + 1 = q := by rfl) : own_Run p e below Q m T pc Ls (.double v :: rest) := by
  obtain ⟨⟨hx, hby, -⟩, vm0, locs, X, -⟩ := A
  subst hby hq
  refine own_by (fun t z => ?_) k
  exact XS.dstoreN X.here hx rfl hd rfl hl z
theorem own_dstore (A : own_At w p l e R s m args below meth c bytes ret own nm mx Z n0 a0 EL sf T h cells slots) {i : Nat} {v : UInt64} {L' : Array Slot} (hd : decode bytes pc = .ok (.dstore i, 2)) (hl : storeLocals Ls i (.double v) = some L') (k : own_Run p e below Q m T q L' rest) (hq : pc + 2 = q := by rfl) : own_Run p e below Q m T pc Ls (.double v :: rest) := by
  obtain ⟨⟨hx, hby, -⟩, vm0, locs, X, -⟩ := A
  subst hby hq
  refine own_by (fun t z => ?_) k
  exact XS.dstore X.here hx rfl hd rfl hl z
theorem own_astoreN (A : own_At w p l e R s m args below meth c bytes ret own nm mx Z n0 a0 EL sf T h cells slots) {i : Fin 4} {v : Value} {L' : Array Slot} (hd : decode bytes pc = .ok (.astore_n i, 1)) (hv : v.isRef = true) (hl : storeLocals Ls i.val v = some L') (k : own_Run p e below Q m T q L' rest) (hq : pc + 1 = q := by rfl) : own_Run p e below Q m T pc Ls (v :: rest) := by
  obtain ⟨⟨hx, hby, -⟩, vm0, locs, X, -⟩ := A
  subst hby hq
  refine own_by (fun t z => ?_) k
  exact XS.astoreN X.here hx rfl hd rfl hv hl z
theorem own_astore (A : own_At w p l e R s m args below meth c bytes ret own nm mx Z n0 a0 EL sf T h cells slots) {i : Nat} {v : Value} {L' : Array Slot} (hd : decode bytes pc = .ok (.astore i, 2)) (hv : v.isRef = true) (hl : storeLocals Ls i v = some L') (k : own_Run p e below Q m T q L' rest) (hq : pc + 2 = q := by rfl) : own_Run p e below Q m T pc Ls (v :: rest) := by
  obtain ⟨⟨hx, hby, -⟩, vm0, locs, X, -⟩ := A
  subst hby hq
  refine own_by (fun t z => ?_) k
  exact XS.astore X.here hx rfl hd rfl hv hl z
theorem own_iconst (A : own_At w p l e R s m args below meth c bytes ret own nm mx Z n0 a0 EL sf T h cells slots) {i : Int} (v : Int32) (hd : decode bytes pc = .ok (.iconst i, 1)) (hv : Int32.ofInt i = v) (k : own_Run p e below Q m T q Ls (.int v :: st)) (hq : pc + 1 = q := by rfl) : own_Run p e below Q m T pc Ls st := by
  obtain ⟨⟨hx, hby, -⟩, vm0, locs, X, -⟩ := A
  subst hby hq hv
  refine own_by (fun t z => ?_) k
  exact XS.iconst X.here hx rfl hd z
theorem own_bipush (A : own_At w p l e R s m args below meth c bytes ret own nm mx Z n0 a0 EL sf T h cells slots) {i : Int} (v : Int32) (hd : decode bytes pc = .ok (.bipush i, 2)) (hv : (Int8.ofInt i).toInt32 = v) (k : own_Run p e below Q m T q Ls (.int v :: st)) (hq : pc + 2 = q := by rfl) : own_Run p e below Q m T pc Ls st := by
  obtain ⟨⟨hx, hby, -⟩, vm0, locs, X, -⟩ := A
  subst hby hq hv
  refine own_by (fun t z => ?_) k
  exact XS.bipush X.here hx rfl hd z
theorem own_sipush (A : own_At w p l e R s m args below meth c bytes ret own nm mx Z n0 a0 EL sf T h cells slots) {i : Int} (v : Int32) (hd : decode bytes pc = .ok (.sipush i, 3)) (hv : (Int16.ofInt i).toInt32 = v) (k : own_Run p e below Q m T q Ls (.int v :: st)) (hq : pc + 3 = q := by rfl) : own_Run p e below Q m T pc Ls st := by
  obtain ⟨⟨hx, hby, -⟩, vm0, locs, X, -⟩ := A
  subst hby hq hv
  refine own_by (fun t z => ?_) k
  exact XS.sipush X.here hx rfl hd z
theorem own_lconst (A : own_At w p l e R s m args below meth c bytes ret own nm mx Z n0 a0 EL sf T h cells slots) {i : Fin 2} (v : Int64) (hd : decode bytes pc = .ok (.lconst i, 1)) (hv : Int64.ofNat i = v) (k : own_Run p e below Q m T q Ls (.long v :: st)) (hq : pc + 1 = q := by rfl) : own_Run p e below Q m T pc Ls st := by
  obtain ⟨⟨hx, hby, -⟩, vm0, locs, X, -⟩ := A
  subst hby hq hv
  refine own_by (fun t z => ?_) k
  exact XS.lconst X.here hx rfl hd z
theorem own_aconstNull (A : own_At w p l e R s m args below meth c bytes ret own nm mx Z n0 a0 EL sf T h cells slots)  (hd : decode bytes pc = .ok (.aconst_null, 1))  (k : own_Run p e below Q m T q Ls (.null :: st)) (hq : pc + 1 = q := by rfl) : own_Run p e below Q m T pc Ls st := by
  obtain ⟨⟨hx, hby, -⟩, vm0, locs, X, -⟩ := A
  subst hby hq
  refine own_by (fun t z => ?_) k
  exact XS.aconstNull X.here hx rfl hd  z
theorem own_iadd (A : own_At w p l e R s m args below meth c bytes ret own nm mx Z n0 a0 EL sf T h cells slots) {x y : Int32} (hd : decode bytes pc = .ok (.iadd, 1))  (k : own_Run p e below Q m T q Ls (.int (x + y) :: rest)) (hq : pc + 1 = q := by rfl) : own_Run p e below Q m T pc Ls (.int y :: .int x :: rest) := by
  obtain ⟨⟨hx, hby, -⟩, vm0, locs, X, -⟩ := A
  subst hby hq
  refine own_by (fun t z => ?_) k
  exact XS.iadd X.here hx rfl hd rfl z
theorem own_ladd (A : own_At w p l e R s m args below meth c bytes ret own nm mx Z n0 a0 EL sf T h cells slots) {x y : Int64} (hd : decode bytes pc = .ok (.ladd, 1))  (k : own_Run p e below Q m T q Ls (.long (x + y) :: rest)) (hq : pc + 1 = q := by rfl) : own_Run p e below Q m T pc Ls (.long y :: .long x :: rest) := by
  obtain ⟨⟨hx, hby, -⟩, vm0, locs, X, -⟩ := A
  subst hby hq
  refine own_by (fun t z => ?_) k
  exact XS.ladd X.here hx rfl hd rfl z
theorem own_isub (A : own_At w p l e R s m args below meth c bytes ret own nm mx Z n0 a0 EL sf T h cells slots) {x y : Int32} (hd : decode bytes pc = .ok (.isub, 1))  (k : own_Run p e below Q m T q Ls (.int (x - y) :: rest)) (hq : pc + 1 = q := by rfl) : own_Run p e below Q m T pc Ls (.int y :: .int x :: rest) := by
  obtain ⟨⟨hx, hby, -⟩, vm0, locs, X, -⟩ := A
  subst hby hq
  refine own_by (fun t z => ?_) k
  exact XS.isub X.here hx rfl hd rfl z
theorem own_lsub (A : own_At w p l e R s m args below meth c bytes ret own nm mx Z n0 a0 EL sf T h cells slots) {x y : Int64} (hd : decode bytes pc = .ok (.lsub, 1))  (k : own_Run p e below Q m T q Ls (.long (x - y) :: rest)) (hq : pc + 1 = q := by rfl) : own_Run p e below Q m T pc Ls (.long y :: .long x :: rest) := by
  obtain ⟨⟨hx, hby, -⟩, vm0, locs, X, -⟩ := A
  subst hby hq
  refine own_by (fun t z => ?_) k
  exact XS.lsub X.here hx rfl hd rfl z
theorem own_imul (A : own_At w p l e R s m args below meth c bytes ret own nm mx Z n0 a0 EL sf T h cells slots) {x y : Int32} (hd : decode bytes pc = .ok (.imul, 1))  (k : own_Run p e below Q m T q Ls (.int (x * y) :: rest)) (hq : pc + 1 = q := by rfl) : own_Run p e below Q m T pc Ls (.int y :: .int x :: rest) := by
  obtain ⟨⟨hx, hby, -⟩, vm0, locs, X, -⟩ := A
  subst hby hq
  refine own_by (fun t z => ?_) k
  exact XS.imul X.here hx rfl hd rfl z
theorem own_lmul (A : own_At w p l e R s m args below meth c bytes ret own nm mx Z n0 a0 EL sf T h cells slots) {x y : Int64} (hd : decode bytes pc = .ok (.lmul, 1))  (k : own_Run p e below Q m T q Ls (.long (x * y) :: rest)) (hq : pc + 1 = q := by rfl) : own_Run p e below Q m T pc Ls (.long y :: .long x :: rest) := by
  obtain ⟨⟨hx, hby, -⟩, vm0, locs, X, -⟩ := A
  subst hby hq
  refine own_by (fun t z => ?_) k
  exact XS.lmul X.here hx rfl hd rfl z
theorem own_iand (A : own_At w p l e R s m args below meth c bytes ret own nm mx Z n0 a0 EL sf T h cells slots) {x y : Int32} (hd : decode bytes pc = .ok (.iand, 1))  (k : own_Run p e below Q m T q Ls (.int (x &&& y) :: rest)) (hq : pc + 1 = q := by rfl) : own_Run p e below Q m T pc Ls (.int y :: .int x :: rest) := by
  obtain ⟨⟨hx, hby, -⟩, vm0, locs, X, -⟩ := A
  subst hby hq
  refine own_by (fun t z => ?_) k
  exact XS.iand X.here hx rfl hd rfl z
theorem own_land (A : own_At w p l e R s m args below meth c bytes ret own nm mx Z n0 a0 EL sf T h cells slots) {x y : Int64} (hd : decode bytes pc = .ok (.land, 1))  (k : own_Run p e below Q m T q Ls (.long (x &&& y) :: rest)) (hq : pc + 1 = q := by rfl) : own_Run p e below Q m T pc Ls (.long y :: .long x :: rest) := by
  obtain ⟨⟨hx, hby, -⟩, vm0, locs, X, -⟩ := A
  subst hby hq
  refine own_by (fun t z => ?_) k
  exact XS.land X.here hx rfl hd rfl z
theorem own_ior (A : own_At w p l e R s m args below meth c bytes ret own nm mx Z n0 a0 EL sf T h cells slots) {x y : Int32} (hd : decode bytes pc = .ok (.ior, 1))  (k : own_Run p e below Q m T q Ls (.int (x ||| y) :: rest)) (hq : pc + 1 = q := by rfl) : own_Run p e below Q m T pc Ls (.int y :: .int x :: rest) := by
  obtain ⟨⟨hx, hby, -⟩, vm0, locs, X, -⟩ := A
  subst hby hq
  refine own_by (fun t z => ?_) k
  exact XS.ior X.here hx rfl hd rfl z
theorem own_lor (A : own_At w p l e R s m args below meth c bytes ret own nm mx Z n0 a0 EL sf T h cells slots) {x y : Int64} (hd : decode bytes pc = .ok (.lor, 1))  (k : own_Run p e below Q m T q Ls (.long (x ||| y) :: rest)) (hq : pc + 1 = q := by rfl) : own_Run p e below Q m T pc Ls (.long y :: .long x :: rest) := by
  obtain ⟨⟨hx, hby, -⟩, vm0, locs, X, -⟩ := A
  subst hby hq
  refine own_by (fun t z => ?_) k
  exact XS.lor X.here hx rfl hd rfl z
theorem own_ixor (A : own_At w p l e R s m args below meth c bytes ret own nm mx Z n0 a0 EL sf T h cells slots) {x y : Int32} (hd : decode bytes pc = .ok (.ixor, 1))  (k : own_Run p e below Q m T q Ls (.int (x ^^^ y) :: rest)) (hq : pc + 1 = q := by rfl) : own_Run p e below Q m T pc Ls (.int y :: .int x :: rest) := by
  obtain ⟨⟨hx, hby, -⟩, vm0, locs, X, -⟩ := A
  subst hby hq
  refine own_by (fun t z => ?_) k
  exact XS.ixor X.here hx rfl hd rfl z
theorem own_lxor (A : own_At w p l e R s m args below meth c bytes ret own nm mx Z n0 a0 EL sf T h cells slots) {x y : Int64} (hd : decode bytes pc = .ok (.lxor, 1))  (k : own_Run p e below Q m T q Ls (.long (x ^^^ y) :: rest)) (hq : pc + 1 = q := by rfl) : own_Run p e below Q m T pc Ls (.long y :: .long x :: rest) := by
  obtain ⟨⟨hx, hby, -⟩, vm0, locs, X, -⟩ := A
  subst hby hq
  refine own_by (fun t z => ?_) k
  exact XS.lxor X.here hx rfl hd rfl z
theorem own_ishl (A : own_At w p l e R s m args below meth c bytes ret own nm mx Z n0 a0 EL sf T h cells slots) {x y : Int32} (hd : decode bytes pc = .ok (.ishl, 1))  (k : own_Run p e below Q m T q Ls (.int (x <<< (y &&& 31)) :: rest)) (hq : pc + 1 = q := by rfl) : own_Run p e below Q m T pc Ls (.int y :: .int x :: rest) := by
  obtain ⟨⟨hx, hby, -⟩, vm0, locs, X, -⟩ := A
  subst hby hq
  refine own_by (fun t z => ?_) k
  exact XS.ishl X.here hx rfl hd rfl z
theorem own_ishr (A : own_At w p l e R s m args below meth c bytes ret own nm mx Z n0 a0 EL sf T h cells slots) {x y : Int32} (hd : decode bytes pc = .ok (.ishr, 1))  (k : own_Run p e below Q m T q Ls (.int (x >>> (y &&& 31)) :: rest)) (hq : pc + 1 = q := by rfl) : own_Run p e below Q m T pc Ls (.int y :: .int x :: rest) := by
  obtain ⟨⟨hx, hby, -⟩, vm0, locs, X, -⟩ := A
  subst hby hq
  refine own_by (fun t z => ?_) k
  exact XS.ishr X.here hx rfl hd rfl z
theorem own_iushr (A : own_At w p l e R s m args below meth c bytes ret own nm mx Z n0 a0 EL sf T h cells slots) {x y : Int32} (hd : decode bytes pc = .ok (.iushr, 1))  (k : own_Run p e below Q m T q Ls (.int ((x.toUInt32 >>> (y &&& 31).toUInt32).toInt32) :: rest)) (hq : pc + 1 = q := by rfl) : own_Run p e below Q m T pc Ls (.int y :: .int x :: rest) := by
  obtain ⟨⟨hx, hby, -⟩, vm0, locs, X, -⟩ := A
  subst hby hq
  refine own_by (fun t z => ?_) k
  exact XS.iushr X.here hx rfl hd rfl z
theorem own_idiv (A : own_At w p l e R s m args below meth c bytes ret own nm mx Z n0 a0 EL sf T h cells slots) {x y : Int32} (hd : decode bytes pc = .ok (.idiv, 1)) (hy : y ≠ 0) (k : own_Run p e below Q m T q Ls (.int (x / y) :: rest)) (hq : pc + 1 = q := by rfl) : own_Run p e below Q m T pc Ls (.int y :: .int x :: rest) := by
  obtain ⟨⟨hx, hby, -⟩, vm0, locs, X, -⟩ := A
  subst hby hq
  refine own_by (fun t z => ?_) k
  exact XS.idiv X.here hx rfl hd rfl hy z
theorem own_ldiv (A : own_At w p l e R s m args below meth c bytes ret own nm mx Z n0 a0 EL sf T h cells slots) {x y : Int64} (hd : decode bytes pc = .ok (.ldiv, 1)) (hy : y ≠ 0) (k : own_Run p e below Q m T q Ls (.long (x / y) :: rest)) (hq : pc + 1 = q := by rfl) : own_Run p e below Q m T pc Ls (.long y :: .long x :: rest) := by
  obtain ⟨⟨hx, hby, -⟩, vm0, locs, X, -⟩ := A
  subst hby hq
  refine own_by (fun t z => ?_) k
  exact XS.ldiv X.here hx rfl hd rfl hy z
theorem own_lrem (A : own_At w p l e R s m args below meth c bytes ret own nm mx Z n0 a0 EL sf T h cells slots) {x y : Int64} (hd : decode bytes pc = .ok (.lrem, 1)) (hy : y ≠ 0) (k : own_Run p e below Q m T q Ls (.long (x - (x / y) * y) :: rest)) (hq : pc + 1 = q := by rfl) : own_Run p e below Q m T pc Ls (.long y :: .long x :: rest) := by
  obtain ⟨⟨hx, hby, -⟩, vm0, locs, X, -⟩ := A
  subst hby hq
  refine own_by (fun t z => ?_) k
  exact XS.lrem X.here hx rfl hd rfl hy z
theorem own_irem (A : own_At w p l e R s m args below meth c bytes ret own nm mx Z n0 a0 EL sf T h cells slots) {x y : Int32} (hd : decode bytes pc = .ok (.irem, 1)) (hy : y ≠ 0) (k : own_Run p e below Q m T q Ls (.int (x % y) :: rest)) (hq : pc + 1 = q := by rfl) : own_Run p e below Q m T pc Ls (.int y :: .int x :: rest) := by
  obtain ⟨⟨hx, hby, -⟩, vm0, locs, X, -⟩ := A
  subst hby hq
  refine own_by (fun t z => ?_) k
  exact iremM X hx rfl hd rfl hy z
theorem own_ineg (A : own_At w p l e R s m args below meth c bytes ret own nm mx Z n0 a0 EL sf T h cells slots) {x : Int32} (hd : decode bytes pc = .ok (.ineg, 1))  (k : own_Run p e below Q m T q Ls (.int (-x) :: rest)) (hq : pc + 1 = q := by rfl) : own_Run p e below Q m T pc Ls (.int x :: rest) := by
  obtain ⟨⟨hx, hby, -⟩, vm0, locs, X, -⟩ := A
  subst hby hq
  refine own_by (fun t z => ?_) k
  exact XS.ineg X.here hx rfl hd rfl z
theorem own_lneg (A : own_At w p l e R s m args below meth c bytes ret own nm mx Z n0 a0 EL sf T h cells slots) {x : Int64} (hd : decode bytes pc = .ok (.lneg, 1))  (k : own_Run p e below Q m T q Ls (.long (-x) :: rest)) (hq : pc + 1 = q := by rfl) : own_Run p e below Q m T pc Ls (.long x :: rest) := by
  obtain ⟨⟨hx, hby, -⟩, vm0, locs, X, -⟩ := A
  subst hby hq
  refine own_by (fun t z => ?_) k
  exact XS.lneg X.here hx rfl hd rfl z
theorem own_i2b (A : own_At w p l e R s m args below meth c bytes ret own nm mx Z n0 a0 EL sf T h cells slots) {x : Int32} (hd : decode bytes pc = .ok (.i2b, 1))  (k : own_Run p e below Q m T q Ls (.int (x.toInt8.toInt32) :: rest)) (hq : pc + 1 = q := by rfl) : own_Run p e below Q m T pc Ls (.int x :: rest) := by
  obtain ⟨⟨hx, hby, -⟩, vm0, locs, X, -⟩ := A
  subst hby hq
  refine own_by (fun t z => ?_) k
  exact XS.i2b X.here hx rfl hd rfl z
theorem own_i2c (A : own_At w p l e R s m args below meth c bytes ret own nm mx Z n0 a0 EL sf T h cells slots) {x : Int32} (hd : decode bytes pc = .ok (.i2c, 1))  (k : own_Run p e below Q m T q Ls (.int (x.toUInt32.toUInt16.toUInt32.toInt32) :: rest)) (hq : pc + 1 = q := by rfl) : own_Run p e below Q m T pc Ls (.int x :: rest) := by
  obtain ⟨⟨hx, hby, -⟩, vm0, locs, X, -⟩ := A
  subst hby hq
  refine own_by (fun t z => ?_) k
  exact XS.i2c X.here hx rfl hd rfl z
theorem own_i2s (A : own_At w p l e R s m args below meth c bytes ret own nm mx Z n0 a0 EL sf T h cells slots) {x : Int32} (hd : decode bytes pc = .ok (.i2s, 1))  (k : own_Run p e below Q m T q Ls (.int (x.toInt16.toInt32) :: rest)) (hq : pc + 1 = q := by rfl) : own_Run p e below Q m T pc Ls (.int x :: rest) := by
  obtain ⟨⟨hx, hby, -⟩, vm0, locs, X, -⟩ := A
  subst hby hq
  refine own_by (fun t z => ?_) k
  exact XS.i2s X.here hx rfl hd rfl z
theorem own_i2l (A : own_At w p l e R s m args below meth c bytes ret own nm mx Z n0 a0 EL sf T h cells slots) {x : Int32} (hd : decode bytes pc = .ok (.i2l, 1))  (k : own_Run p e below Q m T q Ls (.long (x.toInt64) :: rest)) (hq : pc + 1 = q := by rfl) : own_Run p e below Q m T pc Ls (.int x :: rest) := by
  obtain ⟨⟨hx, hby, -⟩, vm0, locs, X, -⟩ := A
  subst hby hq
  refine own_by (fun t z => ?_) k
  exact XS.i2l X.here hx rfl hd rfl z
theorem own_l2i (A : own_At w p l e R s m args below meth c bytes ret own nm mx Z n0 a0 EL sf T h cells slots) {x : Int64} (hd : decode bytes pc = .ok (.l2i, 1))  (k : own_Run p e below Q m T q Ls (.int (x.toInt32) :: rest)) (hq : pc + 1 = q := by rfl) : own_Run p e below Q m T pc Ls (.long x :: rest) := by
  obtain ⟨⟨hx, hby, -⟩, vm0, locs, X, -⟩ := A
  subst hby hq
  refine own_by (fun t z => ?_) k
  exact XS.l2i X.here hx rfl hd rfl z
theorem own_lcmp (A : own_At w p l e R s m args below meth c bytes ret own nm mx Z n0 a0 EL sf T h cells slots) {x y : Int64} (hd : decode bytes pc = .ok (.lcmp, 1))  (k : own_Run p e below Q m T q Ls (.int (lcmpW x y) :: rest)) (hq : pc + 1 = q := by rfl) : own_Run p e below Q m T pc Ls (.long y :: .long x :: rest) := by
  obtain ⟨⟨hx, hby, -⟩, vm0, locs, X, -⟩ := A
  subst hby hq
  refine own_by (fun t z => ?_) k
  exact XS.lcmp X.here hx rfl hd rfl z
theorem own_dup (A : own_At w p l e R s m args below meth c bytes ret own nm mx Z n0 a0 EL sf T h cells slots) {x : Value} (hd : decode bytes pc = .ok (.dup, 1)) (hc : x.category = 1) (k : own_Run p e below Q m T q Ls (x :: x :: rest)) (hq : pc + 1 = q := by rfl) : own_Run p e below Q m T pc Ls (x :: rest) := by
  obtain ⟨⟨hx, hby, -⟩, vm0, locs, X, -⟩ := A
  subst hby hq
  refine own_by (fun t z => ?_) k
  exact XS.dup X.here hx rfl hd rfl hc z
theorem own_pop (A : own_At w p l e R s m args below meth c bytes ret own nm mx Z n0 a0 EL sf T h cells slots) {x : Value} (hd : decode bytes pc = .ok (.pop, 1)) (hc : x.category = 1) (k : own_Run p e below Q m T q Ls rest) (hq : pc + 1 = q := by rfl) : own_Run p e below Q m T pc Ls (x :: rest) := by
  obtain ⟨⟨hx, hby, -⟩, vm0, locs, X, -⟩ := A
  subst hby hq
  refine own_by (fun t z => ?_) k
  exact XS.pop X.here hx rfl hd rfl hc z
theorem own_dupX1 (A : own_At w p l e R s m args below meth c bytes ret own nm mx Z n0 a0 EL sf T h cells slots) {x y : Value} (hd : decode bytes pc = .ok (.dup_x1, 1)) (hc : x.category = 1) (hc2 : y.category = 1) (k : own_Run p e below Q m T q Ls (x :: y :: x :: rest)) (hq : pc + 1 = q := by rfl) : own_Run p e below Q m T pc Ls (x :: y :: rest) := by
  obtain ⟨⟨hx, hby, -⟩, vm0, locs, X, -⟩ := A
  subst hby hq
  refine own_by (fun t z => ?_) k
  exact XS.dupX1 X.here hx rfl hd rfl hc hc2 z
theorem own_iinc (A : own_At w p l e R s m args below meth c bytes ret own nm mx Z n0 a0 EL sf T h cells slots) {i : Nat} {cst : Int} {x v : Int32} {L' : Array Slot} (hd : decode bytes pc = .ok (.iinc i cst, 3)) (hl : Ls[i]? = some (.val (.int x))) (hv : Int32.ofInt cst = v) (hl' : storeLocals Ls i (.int (x + v)) = some L') (k : own_Run p e below Q m T q L' st) (hq : pc + 3 = q := by rfl) : own_Run p e below Q m T pc Ls st := by
  obtain ⟨⟨hx, hby, -⟩, vm0, locs, X, -⟩ := A
  subst hby hq hv
  refine own_by (fun t z => ?_) k
  exact XS.iinc X.here hx rfl hd hl hl' z
theorem own_dconst0 (A : own_At w p l e R s m args below meth c bytes ret own nm mx Z n0 a0 EL sf T h cells slots) (hd : decode bytes pc = .ok (.dconst 0, 1)) (k : own_Run p e below Q m T q Ls (.double FP.dconst0 :: st)) (hq : pc + 1 = q := by rfl) : own_Run p e below Q m T pc Ls st := by
  obtain ⟨⟨hx, hby, -⟩, vm0, locs, X, -⟩ := A
  subst hby hq
  refine own_by (fun t z => ?_) k
  exact XS.dconst0 X.here hx rfl hd rfl z
theorem own_dconst1 (A : own_At w p l e R s m args below meth c bytes ret own nm mx Z n0 a0 EL sf T h cells slots) (hd : decode bytes pc = .ok (.dconst 1, 1)) (k : own_Run p e below Q m T q Ls (.double FP.dconst1 :: st)) (hq : pc + 1 = q := by rfl) : own_Run p e below Q m T pc Ls st := by
  obtain ⟨⟨hx, hby, -⟩, vm0, locs, X, -⟩ := A
  subst hby hq
  refine own_by (fun t z => ?_) k
  exact XS.dconst1 X.here hx rfl hd rfl z
theorem own_i2d (A : own_At w p l e R s m args below meth c bytes ret own nm mx Z n0 a0 EL sf T h cells slots) {x : Int32} (hd : decode bytes pc = .ok (.i2d, 1))  (k : own_Run p e below Q m T q Ls (.double (FP.i2d x) :: rest)) (hq : pc + 1 = q := by rfl) : own_Run p e below Q m T pc Ls (.int x :: rest) := by
  obtain ⟨⟨hx, hby, -⟩, vm0, locs, X, -⟩ := A
  subst hby hq
  refine own_by (fun t z => ?_) k
  exact XS.i2dS X.here hx rfl hd rfl rfl z
theorem own_l2d (A : own_At w p l e R s m args below meth c bytes ret own nm mx Z n0 a0 EL sf T h cells slots) {x : Int64} (hd : decode bytes pc = .ok (.l2d, 1))  (k : own_Run p e below Q m T q Ls (.double (FP.l2d x) :: rest)) (hq : pc + 1 = q := by rfl) : own_Run p e below Q m T pc Ls (.long x :: rest) := by
  obtain ⟨⟨hx, hby, -⟩, vm0, locs, X, -⟩ := A
  subst hby hq
  refine own_by (fun t z => ?_) k
  exact XS.l2dS X.here hx rfl hd rfl rfl z
theorem own_dcmp (A : own_At w p l e R s m args below meth c bytes ret own nm mx Z n0 a0 EL sf T h cells slots) {o : CmpOp} {x y : UInt64} (hd : decode bytes pc = .ok (.dcmp o, 1))  (k : own_Run p e below Q m T q Ls (.int (cmpValue (FP.dcmp x y) o) :: rest)) (hq : pc + 1 = q := by rfl) : own_Run p e below Q m T pc Ls (.double y :: .double x :: rest) := by
  obtain ⟨⟨hx, hby, -⟩, vm0, locs, X, -⟩ := A
  subst hby hq
  refine own_by (fun t z => ?_) k
  exact XS.dcmpS X.here hx rfl hd rfl rfl z
theorem own_dadd (A : own_At w p l e R s m args below meth c bytes ret own nm mx Z n0 a0 EL sf T h cells slots) {x y : UInt64} (hd : decode bytes pc = .ok (.dadd, 1)) (hn : Jvm.Free.Fl.NoNaN64 (FP.dadd x y)) (k : own_Run p e below Q m T q Ls (.double (FP.dadd x y) :: rest)) (hq : pc + 1 = q := by rfl) : own_Run p e below Q m T pc Ls (.double y :: .double x :: rest) := by
  obtain ⟨⟨hx, hby, -⟩, vm0, locs, X, -⟩ := A
  subst hby hq
  refine own_by (fun t z => ?_) k
  exact XS.daddS X.here hx rfl hd rfl hn rfl z
theorem own_ddiv (A : own_At w p l e R s m args below meth c bytes ret own nm mx Z n0 a0 EL sf T h cells slots) {x y : UInt64} (hd : decode bytes pc = .ok (.ddiv, 1)) (hn : Jvm.Free.Fl.NoNaN64 (FP.ddiv x y)) (k : own_Run p e below Q m T q Ls (.double (FP.ddiv x y) :: rest)) (hq : pc + 1 = q := by rfl) : own_Run p e below Q m T pc Ls (.double y :: .double x :: rest) := by
  obtain ⟨⟨hx, hby, -⟩, vm0, locs, X, -⟩ := A
  subst hby hq
  refine own_by (fun t z => ?_) k
  exact XS.ddivS X.here hx rfl hd rfl hn rfl z
theorem own_goto (A : own_At w p l e R s m args below meth c bytes ret own nm mx Z n0 a0 EL sf T h cells slots) {o : Int} (hd : decode bytes pc = .ok (.goto o, 3)) (k : own_Run p e below Q m T q Ls st) (ho : 0 ≤ (pc : Int) + o := by decide) (hq : ((pc : Int) + o).toNat = q := by decide) : own_Run p e below Q m T pc Ls st := by
  obtain ⟨⟨hx, hby, -⟩, vm0, locs, X, -⟩ := A
  subst hby
  refine own_by (fun t z => ?_) k
  exact XS.goto X.here hx rfl (pc0 := pc) rfl hd ho hq z
def own_cp : ClassFile.Cond → Int32 → Int32 → Prop
  | .eq, x, y => x = y
  | .ne, x, y => ¬ x = y
  | .lt, x, y => x < y
  | .ge, x, y => ¬ x < y
  | .gt, x, y => y < x
  | .le, x, y => ¬ y < x
def own_cn : ClassFile.Cond → Int32 → Int32 → Prop
  | .eq, x, y => ¬ x = y
  | .ne, x, y => x = y
  | .lt, x, y => ¬ x < y
  | .ge, x, y => x < y
  | .gt, x, y => ¬ y < x
  | .le, x, y => y < x
theorem own_cpT {cd : ClassFile.Cond} {x y : Int32} (h : own_cp cd x y) : if_icmp.holds cd x y = true := by
  cases cd
  all_goals simp only [own_cp] at h
  · exact (teq h).1
  · exact (feq h).2
  · exact (tlt h).1
  · exact (flt h).2.1
  · exact (tlt h).2.2.1
  · exact (flt h).2.2.2
theorem own_cnF {cd : ClassFile.Cond} {x y : Int32} (h : own_cn cd x y) : if_icmp.holds cd x y = false := by
  cases cd
  all_goals simp only [own_cn] at h
  · exact (feq h).1
  · exact (teq h).2
  · exact (flt h).1
  · exact (tlt h).2.1
  · exact (flt h).2.2.1
  · exact (tlt h).2.2.2
theorem own_cpn (cd : ClassFile.Cond) (x y : Int32) : own_cp cd x y ∨ own_cn cd x y := by
  cases cd <;> simp only [own_cp, own_cn]
  · exact Classical.em _
  · exact (Classical.em _).symm
  · exact Classical.em _
  · exact (Classical.em _).symm
  · exact Classical.em _
  · exact (Classical.em _).symm
theorem own_ifcT (A : own_At w p l e R s m args below meth c bytes ret own nm mx Z n0 a0 EL sf T h cells slots) {cd : ClassFile.Cond} {x : Int32} {o : Int} (hd : decode bytes pc = .ok (.ifCond cd o, 3)) (hc : own_cp cd x (0 : Int32)) (k : own_Run p e below Q m T q Ls rest) (ho : 0 ≤ (pc : Int) + o := by decide) (hq : ((pc : Int) + o).toNat = q := by decide) : own_Run p e below Q m T pc Ls (.int x :: rest) := by
  obtain ⟨⟨hx, hby, -⟩, vm0, locs, X, -⟩ := A
  subst hby
  refine own_by (fun t z => ?_) k
  exact XS.ifYes X.here hx rfl (pc0 := pc) rfl hd rfl (by rw [if0]; exact own_cpT hc) ho hq z
theorem own_ifcF (A : own_At w p l e R s m args below meth c bytes ret own nm mx Z n0 a0 EL sf T h cells slots) {cd : ClassFile.Cond} {x : Int32} {o : Int} (hd : decode bytes pc = .ok (.ifCond cd o, 3)) (hc : own_cn cd x (0 : Int32)) (k : own_Run p e below Q m T q Ls rest) (hq : pc + 3 = q := by rfl) : own_Run p e below Q m T pc Ls (.int x :: rest) := by
  obtain ⟨⟨hx, hby, -⟩, vm0, locs, X, -⟩ := A
  subst hby hq
  refine own_by (fun t z => ?_) k
  exact XS.ifNo X.here hx rfl hd rfl (by rw [if0]; exact own_cnF hc) z
theorem own_ifc (A : own_At w p l e R s m args below meth c bytes ret own nm mx Z n0 a0 EL sf T h cells slots) {cd : ClassFile.Cond} {x : Int32} {o : Int} {q' : Nat} (hd : decode bytes pc = .ok (.ifCond cd o, 3)) (kt : own_cp cd x (0 : Int32) → own_Run p e below Q m T q Ls rest) (kf : own_cn cd x (0 : Int32) → own_Run p e below Q m T q' Ls rest) (ho : 0 ≤ (pc : Int) + o := by decide) (hq : ((pc : Int) + o).toNat = q := by decide) (hq' : pc + 3 = q' := by rfl) : own_Run p e below Q m T pc Ls (.int x :: rest) :=
  (own_cpn cd x (0 : Int32)).elim (fun z => own_ifcT A hd z (kt z) ho hq) (fun z => own_ifcF A hd z (kf z) hq')
theorem own_icmpT (A : own_At w p l e R s m args below meth c bytes ret own nm mx Z n0 a0 EL sf T h cells slots) {cd : ClassFile.Cond} {x y : Int32} {o : Int} (hd : decode bytes pc = .ok (.if_icmp cd o, 3)) (hc : own_cp cd x y) (k : own_Run p e below Q m T q Ls rest) (ho : 0 ≤ (pc : Int) + o := by decide) (hq : ((pc : Int) + o).toNat = q := by decide) : own_Run p e below Q m T pc Ls (.int y :: .int x :: rest) := by
  obtain ⟨⟨hx, hby, -⟩, vm0, locs, X, -⟩ := A
  subst hby
  refine own_by (fun t z => ?_) k
  exact XS.icmpYes X.here hx rfl (pc0 := pc) rfl hd rfl (own_cpT hc) ho hq z
theorem own_icmpF (A : own_At w p l e R s m args below meth c bytes ret own nm mx Z n0 a0 EL sf T h cells slots) {cd : ClassFile.Cond} {x y : Int32} {o : Int} (hd : decode bytes pc = .ok (.if_icmp cd o, 3)) (hc : own_cn cd x y) (k : own_Run p e below Q m T q Ls rest) (hq : pc + 3 = q := by rfl) : own_Run p e below Q m T pc Ls (.int y :: .int x :: rest) := by
  obtain ⟨⟨hx, hby, -⟩, vm0, locs, X, -⟩ := A
  subst hby hq
  refine own_by (fun t z => ?_) k
  exact XS.icmpNo X.here hx rfl hd rfl (own_cnF hc) z
theorem own_icmp (A : own_At w p l e R s m args below meth c bytes ret own nm mx Z n0 a0 EL sf T h cells slots) {cd : ClassFile.Cond} {x y : Int32} {o : Int} {q' : Nat} (hd : decode bytes pc = .ok (.if_icmp cd o, 3)) (kt : own_cp cd x y → own_Run p e below Q m T q Ls rest) (kf : own_cn cd x y → own_Run p e below Q m T q' Ls rest) (ho : 0 ≤ (pc : Int) + o := by decide) (hq : ((pc : Int) + o).toNat = q := by decide) (hq' : pc + 3 = q' := by rfl) : own_Run p e below Q m T pc Ls (.int y :: .int x :: rest) :=
  (own_cpn cd x y).elim (fun z => own_icmpT A hd z (kt z) ho hq) (fun z => own_icmpF A hd z (kf z) hq')
theorem own_acmpT (A : own_At w p l e R s m args below meth c bytes ret own nm mx Z n0 a0 EL sf T h cells slots) {cd : ClassFile.ACond} {x y : Value} {o : Int} (hd : decode bytes pc = .ok (.if_acmp cd o, 3)) (hx' : x.isRef = true) (hy' : y.isRef = true) (hc : XT.acmp cd x y = true) (k : own_Run p e below Q m T q Ls rest) (ho : 0 ≤ (pc : Int) + o := by decide) (hq : ((pc : Int) + o).toNat = q := by decide) : own_Run p e below Q m T pc Ls (y :: x :: rest) := by
  obtain ⟨⟨hx, hby, -⟩, vm0, locs, X, -⟩ := A
  subst hby
  refine own_by (fun t z => ?_) k
  exact XT.acmpYes X.here hx rfl (pc0 := pc) rfl hd rfl hx' hy' hc ho hq z
theorem own_acmpF (A : own_At w p l e R s m args below meth c bytes ret own nm mx Z n0 a0 EL sf T h cells slots) {cd : ClassFile.ACond} {x y : Value} {o : Int} (hd : decode bytes pc = .ok (.if_acmp cd o, 3)) (hx' : x.isRef = true) (hy' : y.isRef = true) (hc : XT.acmp cd x y = false) (k : own_Run p e below Q m T q Ls rest) (hq : pc + 3 = q := by rfl) : own_Run p e below Q m T pc Ls (y :: x :: rest) := by
  obtain ⟨⟨hx, hby, -⟩, vm0, locs, X, -⟩ := A
  subst hby hq
  refine own_by (fun t z => ?_) k
  exact XT.acmpNo X.here hx rfl hd rfl hx' hy' hc z
theorem own_ifnullT (A : own_At w p l e R s m args below meth c bytes ret own nm mx Z n0 a0 EL sf T h cells slots) {b : Addr} {o : Int} (hd : decode bytes pc = .ok (.ifnull o, 3)) (k : own_Run p e below Q m T q Ls rest) (ho : 0 ≤ (pc : Int) + o := by decide) (hq : ((pc : Int) + o).toNat = q := by decide) : own_Run p e below Q m T pc Ls (.null :: rest) := by
  obtain ⟨⟨hx, hby, -⟩, vm0, locs, X, -⟩ := A
  subst hby
  refine own_by (fun t z => ?_) k
  exact XS.ifnullYes X.here hx rfl (pc0 := pc) rfl hd rfl ho hq z
theorem own_ifnullF (A : own_At w p l e R s m args below meth c bytes ret own nm mx Z n0 a0 EL sf T h cells slots) {b : Addr} {o : Int} (hd : decode bytes pc = .ok (.ifnull o, 3)) (k : own_Run p e below Q m T q Ls rest) (hq : pc + 3 = q := by rfl) : own_Run p e below Q m T pc Ls (.ref b :: rest) := by
  obtain ⟨⟨hx, hby, -⟩, vm0, locs, X, -⟩ := A
  subst hby hq
  refine own_by (fun t z => ?_) k
  exact XS.ifnullNo X.here hx rfl hd rfl z
theorem own_ifnonnullT (A : own_At w p l e R s m args below meth c bytes ret own nm mx Z n0 a0 EL sf T h cells slots) {b : Addr} {o : Int} (hd : decode bytes pc = .ok (.ifnonnull o, 3)) (k : own_Run p e below Q m T q Ls rest) (ho : 0 ≤ (pc : Int) + o := by decide) (hq : ((pc : Int) + o).toNat = q := by decide) : own_Run p e below Q m T pc Ls (.ref b :: rest) := by
  obtain ⟨⟨hx, hby, -⟩, vm0, locs, X, -⟩ := A
  subst hby
  refine own_by (fun t z => ?_) k
  exact XS.ifnonnullYes X.here hx rfl (pc0 := pc) rfl hd rfl ho hq z
theorem own_ifnonnullF (A : own_At w p l e R s m args below meth c bytes ret own nm mx Z n0 a0 EL sf T h cells slots) {b : Addr} {o : Int} (hd : decode bytes pc = .ok (.ifnonnull o, 3)) (k : own_Run p e below Q m T q Ls rest) (hq : pc + 3 = q := by rfl) : own_Run p e below Q m T pc Ls (.null :: rest) := by
  obtain ⟨⟨hx, hby, -⟩, vm0, locs, X, -⟩ := A
  subst hby hq
  refine own_by (fun t z => ?_) k
  exact XS.ifnonnullNo X.here hx rfl hd rfl z
theorem own_tswIn (A : own_At w p l e R s m args below meth c bytes ret own nm mx Z n0 a0 EL sf T h cells slots) {dflt low high : Int} {offs : Array Int} {len : Nat} {i : Int32} {o : Int} (hd : decode bytes pc = .ok (.tableswitch dflt low high offs, len)) (hin : ¬ (i.toInt < low ∨ i.toInt > high)) (hoff : offs[(i.toInt - low).toNat]? = some o) (k : own_Run p e below Q m T q Ls rest) (ho : 0 ≤ (pc : Int) + o := by decide) (hq : ((pc : Int) + o).toNat = q := by decide) : own_Run p e below Q m T pc Ls (.int i :: rest) := by
  obtain ⟨⟨hx, hby, -⟩, vm0, locs, X, -⟩ := A
  subst hby
  refine own_by (fun t z => ?_) k
  exact XS.tswIn X.here hx rfl (pc0 := pc) rfl hd rfl hin hoff ho hq z
theorem own_tswOut (A : own_At w p l e R s m args below meth c bytes ret own nm mx Z n0 a0 EL sf T h cells slots) {o low high : Int} {offs : Array Int} {len : Nat} {i : Int32} (hd : decode bytes pc = .ok (.tableswitch o low high offs, len)) (hout : i.toInt < low ∨ i.toInt > high) (k : own_Run p e below Q m T q Ls rest) (ho : 0 ≤ (pc : Int) + o := by decide) (hq : ((pc : Int) + o).toNat = q := by decide) : own_Run p e below Q m T pc Ls (.int i :: rest) := by
  obtain ⟨⟨hx, hby, -⟩, vm0, locs, X, -⟩ := A
  subst hby
  refine own_by (fun t z => ?_) k
  exact XS.tswOut X.here hx rfl (pc0 := pc) rfl hd rfl hout ho hq z
theorem own_ldcI (A : own_At w p l e R s m args below meth c bytes ret own nm mx Z n0 a0 EL sf T h cells slots) {i : Nat} {v : Int32} (wc : (Jvm.Cond.constant own i v).before a0 Z = true) (hd : decode bytes pc = .ok (.ldc i, 2)) (k : own_Run p e below Q m T q Ls (.int v :: st)) (hq : pc + 2 = q := by rfl) : own_Run p e below Q m T pc Ls st := by
  obtain ⟨⟨hx, hby, -⟩, vm0, locs, X, B, hZ, hown, hT, N, Od, hEL, Ch, Sf⟩ := A
  subst hby hq
  refine own_by (fun t z => ?_) k
  exact X.ldcI hx (s := s.setVm vm0) hown (mv (s := s.setVm vm0) hZ wc) rfl hd z
theorem own_ldcWI (A : own_At w p l e R s m args below meth c bytes ret own nm mx Z n0 a0 EL sf T h cells slots) {i : Nat} {v : Int32} (wc : (Jvm.Cond.constant own i v).before a0 Z = true) (hd : decode bytes pc = .ok (.ldc_w i, 3)) (k : own_Run p e below Q m T q Ls (.int v :: st)) (hq : pc + 3 = q := by rfl) : own_Run p e below Q m T pc Ls st := by
  obtain ⟨⟨hx, hby, -⟩, vm0, locs, X, B, hZ, hown, hT, N, Od, hEL, Ch, Sf⟩ := A
  subst hby hq
  refine own_by (fun t z => ?_) k
  exact X.ldcWI hx (s := s.setVm vm0) hown (mv (s := s.setVm vm0) hZ wc) rfl hd z
theorem own_ldc2J (A : own_At w p l e R s m args below meth c bytes ret own nm mx Z n0 a0 EL sf T h cells slots) {i : Nat} {v : Int64} (wc : (Jvm.Cond.constantLong own i v).before a0 Z = true) (hd : decode bytes pc = .ok (.ldc2_w i, 3)) (k : own_Run p e below Q m T q Ls (.long v :: st)) (hq : pc + 3 = q := by rfl) : own_Run p e below Q m T pc Ls st := by
  obtain ⟨⟨hx, hby, -⟩, vm0, locs, X, B, hZ, hown, hT, N, Od, hEL, Ch, Sf⟩ := A
  subst hby hq
  refine own_by (fun t z => ?_) k
  exact X.ldc2J hx (s := s.setVm vm0) hown (mv (s := s.setVm vm0) hZ wc) rfl hd z
theorem own_getF (A : own_At w p l e R s m args below meth c bytes ret own nm mx Z n0 a0 EL sf T h cells slots) {i : Nat} {R0 O n d host : String} {a : Addr} {v : Value} (wl : (Jvm.Cond.fieldLink own i R0 n d).before a0 Z = true ∨ (Jvm.Cond.fieldLinkNest own i R0 n d host).before a0 Z = true) (via : Via Z R0 O n d) (F : Fld Z h a O n d v) (hd : decode bytes pc = .ok (.getfield i, 3))
    (k : ∀ T', own_At w p l e R s m args below meth c bytes ret own nm mx Z n0 a0 EL sf T' h cells slots → own_Run p e below Q m T' q Ls (v :: rest)) (hq : pc + 3 = q := by rfl) : own_Run p e below Q m T pc Ls (.ref a :: rest) := by
  obtain ⟨⟨hx, hby, r⟩, vm0, locs, X, B, hZ, hown, hT, N, Od, hEL, Ch, Sf⟩ := A
  subst hby hq
  obtain ⟨T', X', e', st'⟩ := getF X hx (s := s.setVm vm0) hZ hown wl via hT F (g := mkF m pc Ls (.ref a :: rest)) rfl rfl hd
  exact own_by st' (k T' ⟨⟨hx, rfl, r⟩, vm0, locs, X', B, hZ, hown, e', N, Od, hEL, Ch, Sf⟩)
theorem own_getS (A : own_At w p l e R s m args below meth c bytes ret own nm mx Z n0 a0 EL sf T h cells slots) {i : Nat} {R0 O n d : String} {v : Value} (wl : (Jvm.Cond.fieldLink own i R0 n d).before a0 Z = true) (via : Via Z R0 O n d) (F : Sta Z Z.heap O n d v) (hd : decode bytes pc = .ok (.getstatic i, 3))
    (k : ∀ T', own_At w p l e R s m args below meth c bytes ret own nm mx Z n0 a0 EL sf T' h cells slots → own_Run p e below Q m T' q Ls (v :: st)) (hq : pc + 3 = q := by rfl) : own_Run p e below Q m T pc Ls st := by
  obtain ⟨⟨hx, hby, r⟩, vm0, locs, X, B, hZ, hown, hT, N, Od, hEL, Ch, Sf⟩ := A
  subst hby hq
  obtain ⟨T', X', e', st'⟩ := getS X hx (s := s.setVm vm0) (host := "") hZ hown wl via hT (F.ext Od.2) (g := mkF m pc Ls st) rfl hd
  exact own_by st' (k T' ⟨⟨hx, rfl, r⟩, vm0, locs, X', B, hZ, hown, e', N, Od, hEL, Ch, Sf⟩)
theorem own_putF (A : own_At w p l e R s m args below meth c bytes ret own nm mx Z n0 a0 EL sf T h cells slots) {i kk : Nat} {R0 O n d host C : String} {ty : FieldType} {a : Addr} {v old : Value} (wl : (Jvm.Cond.fieldLink own i R0 n d).before a0 Z = true ∨ (Jvm.Cond.fieldLinkNest own i R0 n d host).before a0 Z = true) (via : Via Z R0 O n d) (F : Fld Z h a O n d old) (E : Exa Z h a C) (L : (Jvm.Cond.lays C O n d).before a0 Z = true ∨ ((Jvm.Cond.laysFinal C O n d).before a0 Z = true ∧ own = O ∧ nm = "<init>")) (wi : (Jvm.Cond.instantiable C kk).before a0 Z = true)
    (hty : parseFieldDescriptor d = some ty) (hn : narrow ty v = v) (hf : fits ty v = true) (ha : n0 ≤ a) (hwo : own_Wok Z EL sf h a) (hd : decode bytes pc = .ok (.putfield i, 3)) (k : ∀ T' h', own_At w p l e R s m args below meth c bytes ret own nm mx Z n0 a0 EL sf T' h' cells slots → Wr h h' a (RoadKit.slotOf Z O n d) v → own_Run p e below Q m T' q Ls rest) (hq : pc + 3 = q := by rfl) : own_Run p e below Q m T pc Ls (v :: .ref a :: rest) := by
  obtain ⟨⟨hx, hby, r1, r2, r3, r4⟩, vm0, locs, X, B, hZ, hown, hT, N, Od, hEL, Ch, Sf⟩ := A
  subst hby hq
  obtain ⟨T', h', X', e', W, st'⟩ := putF X hx (s := s.setVm vm0) hZ hown wl via hT F E (L.imp id fun z => ⟨z.1, z.2.1, r3.trans z.2.2⟩) wi hty hn hf (g := mkF m pc Ls (v :: .ref a :: rest)) rfl rfl hd
  exact own_by st' (k T' h' ⟨⟨hx, rfl, r1, r2, r3, r4⟩, vm0, _, X', B.le (Nat.le_of_eq W.size.symm), hZ, hown, e', Fr.snoc X' N ha, Od.wr W ha, hEL, Ch.trans (CHr.wr W (hwo.safe hZ Sf) Ch.1), Sf.wr Ch.1 W (hwo.safe hZ Sf)⟩ W)
theorem own_newO (A : own_At w p l e R s m args below meth c bytes ret own nm mx Z n0 a0 EL sf T h cells slots) {i n : Nat} {C : String} (w1 : (Jvm.Cond.classLink own i C).before a0 Z = true) (wi : (Jvm.Cond.instantiable C n).before a0 Z = true) (wz : (Jvm.Cond.initialized C).before a0 Z = true) (hd : decode bytes pc = .ok (.new i, 3)) (hc : cells + 1 ≤ R.cells) (hl : slots + n ≤ R.slots)
    (k : ∀ T' h' a, h.size = a → n0 ≤ a → own_At w p l e R s m args below meth c bytes ret own nm mx Z n0 a0 EL (a :: sf) T' h' (cells + 1) (slots + n) → Ext h h' → Exa Z h' a C → (∀ {O nm d : String} {ty : FieldType}, Laid Z a0 C O nm d → parseFieldDescriptor d = some ty → Fld Z h' a O nm d (defaultValue ty)) → own_Run p e below Q m T' q Ls (.ref a :: st)) (hq : pc + 3 = q := by rfl) : own_Run p e below Q m T pc Ls st := by
  have g0 := A.fr
  obtain ⟨⟨hx, hby, r⟩, vm0, locs, X, B, hZ, hown, hT, N, Od, hEL, Ch, Sf⟩ := A
  subst hby hq
  obtain ⟨T', h', X', e', E, Ex, D, -, st'⟩ := newO X hx (s := s.setVm vm0) hZ hown w1 wi wz hT (g := mkF m pc Ls st) rfl hd hc hl
  exact own_by st' (k T' h' h.size rfl g0 ⟨⟨hx, rfl, r⟩, vm0, _, X', B.le E.1, hZ, hown, e', N, Od.ext E, hEL, Ch.trans (CHr.ext E Ch.1), Sf.new Ch.1 E Ex.lt⟩ E Ex D)
theorem own_newP (A : own_At w p l e R s m args below meth c bytes ret own nm mx Z n0 a0 EL sf T h cells slots) {aty : ArrayType} (w1 : (Jvm.Cond.arrayClass (newarray.typeOf aty)).before a0 Z = true) (hd : decode bytes pc = .ok (.newarray aty, 2)) {n : Int32} (cap : Nat) (hn : ¬ n < 0) (hcap : n.toNatClampNeg ≤ cap) (hb : cap * 8 ≤ 536870912) (hc : cells + 1 ≤ R.cells) (hl : slots + cap ≤ R.slots)
    (k : ∀ T' h' a cA, h.size = a → n0 ≤ a → own_At w p l e R s m args below meth c bytes ret own nm mx Z n0 a0 EL (a :: sf) T' h' (cells + 1) (slots + cap) → Ext h h' → Arr Z h' a (newA cA (newarray.typeOf aty) n) (newarray.typeOf aty) → own_Run p e below Q m T' q Ls (.ref a :: rest)) (hq : pc + 2 = q := by rfl) : own_Run p e below Q m T pc Ls (.int n :: rest) := by
  have g0 := A.fr
  obtain ⟨⟨hx, hby, r⟩, vm0, locs, X, B, hZ, hown, hT, N, Od, hEL, Ch, Sf⟩ := A
  subst hby hq
  obtain ⟨T', h', cA, X', e', E, Ar, st'⟩ := newP X hx (s := s.setVm vm0) hZ w1 hT (g := mkF m pc Ls (.int n :: rest)) rfl hd rfl hn hcap hb hc hl
  exact own_by st' (k T' h' h.size cA rfl g0 ⟨⟨hx, rfl, r⟩, vm0, _, X', B.le E.1, hZ, hown, e', N, Od.ext E, hEL, Ch.trans (CHr.ext E Ch.1), Sf.new Ch.1 E Ar.lt⟩ E Ar)
theorem own_newR (A : own_At w p l e R s m args below meth c bytes ret own nm mx Z n0 a0 EL sf T h cells slots) {i : Nat} {C : String} (w1 : (Jvm.Cond.classLink own i C).before a0 Z = true) (w2 : (Jvm.Cond.arrayOver (.object C)).before a0 Z = true) (hd : decode bytes pc = .ok (.anewarray i, 3)) {n : Int32} (cap : Nat) (hn : ¬ n < 0) (hcap : n.toNatClampNeg ≤ cap) (hb : cap * 8 ≤ 536870912) (hc : cells + 1 ≤ R.cells) (hl : slots + cap ≤ R.slots)
    (k : ∀ T' h' a cA, h.size = a → n0 ≤ a → own_At w p l e R s m args below meth c bytes ret own nm mx Z n0 a0 EL (a :: sf) T' h' (cells + 1) (slots + cap) → Ext h h' → Arr Z h' a (newA cA (.object C) n) (.object C) → Ovr Z cA C → own_Run p e below Q m T' q Ls (.ref a :: rest)) (hq : pc + 3 = q := by rfl) : own_Run p e below Q m T pc Ls (.int n :: rest) := by
  have g0 := A.fr
  obtain ⟨⟨hx, hby, r⟩, vm0, locs, X, B, hZ, hown, hT, N, Od, hEL, Ch, Sf⟩ := A
  subst hby hq
  obtain ⟨T', h', cA, X', e', E, Ar, Ov, st'⟩ := newR X hx (s := s.setVm vm0) hZ hown w1 w2 hT (g := mkF m pc Ls (.int n :: rest)) rfl hd rfl hn hcap hb hc hl
  exact own_by st' (k T' h' h.size cA rfl g0 ⟨⟨hx, rfl, r⟩, vm0, _, X', B.le E.1, hZ, hown, e', N, Od.ext E, hEL, Ch.trans (CHr.ext E Ch.1), Sf.new Ch.1 E Ar.lt⟩ E Ar Ov)
theorem own_initO (A : own_At w p l e R s m args below meth c bytes ret own nm mx Z n0 a0 EL sf T h cells slots) {i : Nat} {a : Addr} (w1 : (Jvm.Cond.methodLink own i Lib.objectInit).before a0 Z = true) (w2 : (Jvm.Cond.instanceMethod Lib.objectInit).before a0 Z = true) (w3 : (Jvm.Cond.code Lib.objectInit ⟨#[0xb1]⟩ 1 none).before a0 Z = true) (hd : decode bytes pc = .ok (.invokespecial i, 3)) (hsz : Ls.size = mx) {W : Nat} (hf : 1 ≤ R.frames) (hW : (rest.map fun v => v.category).sum ≤ W) (hl : W + 12 ≤ R.locals)
    (k : ∀ T', own_At w p l e R s m args below meth c bytes ret own nm mx Z n0 a0 EL sf T' h cells slots → own_Run p e below Q m T' q Ls rest) (hq : pc + 3 = q := by rfl) : own_Run p e below Q m T pc Ls (.ref a :: rest) := by
  obtain ⟨⟨hx, hby, r1, r2, r3, r4⟩, vm0, locs, X, B, hZ, hown, hT, N, Od, hEL, Ch, Sf⟩ := A
  subst hby hq
  obtain ⟨T', X', e', st'⟩ := initO X hx (s := s.setVm vm0) hZ hown w1 w2 w3 hT (g := mkF m pc Ls (.ref a :: rest)) rfl (hsz.trans r4.symm) rfl hd hf (W := W) (by show 2 * 0 + _ ≤ _; rw [Nat.mul_zero, Nat.zero_add]; exact hW) hl
  exact own_by st' (k T' ⟨⟨hx, rfl, r1, r2, r3, r4⟩, vm0, _, X', B, hZ, hown, e', N, Od, hEL, Ch, Sf⟩)
theorem own_stI (A : own_At w p l e R s m args below meth c bytes ret own nm mx Z n0 a0 EL sf T h cells slots) {a : Addr} {cl : Cell} {j x : Int32} (Ar : Arr Z h a cl .int) (hj : ¬ (j < 0 ∨ cl.slots.size ≤ j.toNatClampNeg)) (ha : n0 ≤ a) (hwo : own_Wok Z EL sf h a) (hd : decode bytes pc = .ok (.iastore, 1)) (k : ∀ T' h', own_At w p l e R s m args below meth c bytes ret own nm mx Z n0 a0 EL sf T' h' cells slots → Wr h h' a j.toNatClampNeg (.int x) → own_Run p e below Q m T' q Ls rest) (hq : pc + 1 = q := by rfl) : own_Run p e below Q m T pc Ls (.int x :: .int j :: .ref a :: rest) := by
  obtain ⟨⟨hx, hby, r⟩, vm0, locs, X, B, hZ, hown, hT, N, Od, hEL, Ch, Sf⟩ := A
  subst hby hq
  obtain ⟨T', h', X', e', W, st'⟩ := RoadKit.stI X hx (s := s.setVm vm0) hZ hT Ar hj (g := mkF m pc Ls (.int x :: .int j :: .ref a :: rest)) rfl rfl hd
  exact own_by st' (k T' h' ⟨⟨hx, rfl, r⟩, vm0, _, X', B.le (Nat.le_of_eq W.size.symm), hZ, hown, e', Fr.snoc X' N ha, Od.wr W ha, hEL, Ch.trans (CHr.wr W (hwo.safe hZ Sf) Ch.1), Sf.wr Ch.1 W (hwo.safe hZ Sf)⟩ W)
theorem own_stC (A : own_At w p l e R s m args below meth c bytes ret own nm mx Z n0 a0 EL sf T h cells slots) {a : Addr} {cl : Cell} {j x : Int32} (Ar : Arr Z h a cl .char) (hj : ¬ (j < 0 ∨ cl.slots.size ≤ j.toNatClampNeg)) (ha : n0 ≤ a) (hwo : own_Wok Z EL sf h a) (hd : decode bytes pc = .ok (.castore, 1)) (k : ∀ T' h', own_At w p l e R s m args below meth c bytes ret own nm mx Z n0 a0 EL sf T' h' cells slots → Wr h h' a j.toNatClampNeg (.int (nar .char x)) → own_Run p e below Q m T' q Ls rest) (hq : pc + 1 = q := by rfl) : own_Run p e below Q m T pc Ls (.int x :: .int j :: .ref a :: rest) := by
  obtain ⟨⟨hx, hby, r⟩, vm0, locs, X, B, hZ, hown, hT, N, Od, hEL, Ch, Sf⟩ := A
  subst hby hq
  obtain ⟨T', h', X', e', W, st'⟩ := RoadKit.stC X hx (s := s.setVm vm0) hZ hT Ar hj (g := mkF m pc Ls (.int x :: .int j :: .ref a :: rest)) rfl rfl hd
  exact own_by st' (k T' h' ⟨⟨hx, rfl, r⟩, vm0, _, X', B.le (Nat.le_of_eq W.size.symm), hZ, hown, e', Fr.snoc X' N ha, Od.wr W ha, hEL, Ch.trans (CHr.wr W (hwo.safe hZ Sf) Ch.1), Sf.wr Ch.1 W (hwo.safe hZ Sf)⟩ W)
theorem own_stB (A : own_At w p l e R s m args below meth c bytes ret own nm mx Z n0 a0 EL sf T h cells slots) {a : Addr} {cl : Cell} {j x : Int32} (Ar : Arr Z h a cl .byte) (hj : ¬ (j < 0 ∨ cl.slots.size ≤ j.toNatClampNeg)) (ha : n0 ≤ a) (hwo : own_Wok Z EL sf h a) (hd : decode bytes pc = .ok (.bastore, 1)) (k : ∀ T' h', own_At w p l e R s m args below meth c bytes ret own nm mx Z n0 a0 EL sf T' h' cells slots → Wr h h' a j.toNatClampNeg (.int (nar .byte x)) → own_Run p e below Q m T' q Ls rest) (hq : pc + 1 = q := by rfl) : own_Run p e below Q m T pc Ls (.int x :: .int j :: .ref a :: rest) := by
  obtain ⟨⟨hx, hby, r⟩, vm0, locs, X, B, hZ, hown, hT, N, Od, hEL, Ch, Sf⟩ := A
  subst hby hq
  obtain ⟨T', h', X', e', W, st'⟩ := RoadKit.stB X hx (s := s.setVm vm0) hZ hT Ar hj (g := mkF m pc Ls (.int x :: .int j :: .ref a :: rest)) rfl rfl hd
  exact own_by st' (k T' h' ⟨⟨hx, rfl, r⟩, vm0, _, X', B.le (Nat.le_of_eq W.size.symm), hZ, hown, e', Fr.snoc X' N ha, Od.wr W ha, hEL, Ch.trans (CHr.wr W (hwo.safe hZ Sf) Ch.1), Sf.wr Ch.1 W (hwo.safe hZ Sf)⟩ W)
theorem own_stR (A : own_At w p l e R s m args below meth c bytes ret own nm mx Z n0 a0 EL sf T h cells slots) {a : Addr} {cl : Cell} {ty : FieldType} {j : Int32} {v : Value} (Ar : Arr Z h a cl ty) (hj : ¬ (j < 0 ∨ cl.slots.size ≤ j.toNatClampNeg)) (hty : ty.isReference = true) (F : Sto Z h a v) (ha : n0 ≤ a) (hwo : own_Wok Z EL sf h a) (hd : decode bytes pc = .ok (.aastore, 1)) (k : ∀ T' h', own_At w p l e R s m args below meth c bytes ret own nm mx Z n0 a0 EL sf T' h' cells slots → Wr h h' a j.toNatClampNeg v → own_Run p e below Q m T' q Ls rest) (hq : pc + 1 = q := by rfl) : own_Run p e below Q m T pc Ls (v :: .int j :: .ref a :: rest) := by
  obtain ⟨⟨hx, hby, r⟩, vm0, locs, X, B, hZ, hown, hT, N, Od, hEL, Ch, Sf⟩ := A
  subst hby hq
  obtain ⟨T', h', X', e', W, st'⟩ := stR X hx (s := s.setVm vm0) hZ hT Ar hj hty F (g := mkF m pc Ls (v :: .int j :: .ref a :: rest)) rfl rfl hd
  exact own_by st' (k T' h' ⟨⟨hx, rfl, r⟩, vm0, _, X', B.le (Nat.le_of_eq W.size.symm), hZ, hown, e', Fr.snoc X' N ha, Od.wr W ha, hEL, Ch.trans (CHr.wr W (hwo.safe hZ Sf) Ch.1), Sf.wr Ch.1 W (hwo.safe hZ Sf)⟩ W)
theorem own_arrlen (A : own_At w p l e R s m args below meth c bytes ret own nm mx Z n0 a0 EL sf T h cells slots) {a : Addr} {cl : Cell} {ty : FieldType} (Ar : Arr Z h a cl ty) (hd : decode bytes pc = .ok (.arraylength, 1)) (k : own_Run p e below Q m T q Ls (.int cl.slots.size.toInt32 :: rest)) (hq : pc + 1 = q := by rfl) : own_Run p e below Q m T pc Ls (.ref a :: rest) := by
  obtain ⟨⟨hx, hby, r⟩, vm0, locs, X, B, hZ, hown, hT, N, Od, hEL, Ch, Sf⟩ := A
  subst hby hq hT
  exact own_by (fun t z => X.arraylength hx Ar.1 (State.isArrayOf_alike (T := s.setVm vm0) hZ.alike Ar.2.1) (g := mkF m pc Ls (.ref a :: rest)) rfl rfl hd t z) k
theorem own_aaload (A : own_At w p l e R s m args below meth c bytes ret own nm mx Z n0 a0 EL sf T h cells slots) {a : Addr} {cl : Cell} {ty : FieldType} {j : Int32} {v : Value} (Ar : Arr Z h a cl ty) (hty : ty.isReference = true) (hj : ¬ (j < 0 ∨ cl.slots.size ≤ j.toNatClampNeg)) (hv : cl.slots[j.toNatClampNeg]? = some v) (hd : decode bytes pc = .ok (.aaload, 1)) (k : own_Run p e below Q m T q Ls (v :: rest)) (hq : pc + 1 = q := by rfl) : own_Run p e below Q m T pc Ls (.int j :: .ref a :: rest) := by
  obtain ⟨⟨hx, hby, r⟩, vm0, locs, X, B, hZ, hown, hT, N, Od, hEL, Ch, Sf⟩ := A
  subst hby hq hT
  exact own_by (fun t z => X.aaload hx Ar.1 (State.isArrayOf_alike (T := s.setVm vm0) hZ.alike Ar.2.1) hty Ar.2.2 hj hv (g := mkF m pc Ls (.int j :: .ref a :: rest)) rfl rfl hd t z) k
theorem own_iaload (A : own_At w p l e R s m args below meth c bytes ret own nm mx Z n0 a0 EL sf T h cells slots) {a : Addr} {cl : Cell} {j : Int32} {v : Value} (Ar : Arr Z h a cl .int) (hj : ¬ (j < 0 ∨ cl.slots.size ≤ j.toNatClampNeg)) (hv : cl.slots[j.toNatClampNeg]? = some v) (hd : decode bytes pc = .ok (.iaload, 1)) (k : own_Run p e below Q m T q Ls (v :: rest)) (hq : pc + 1 = q := by rfl) : own_Run p e below Q m T pc Ls (.int j :: .ref a :: rest) := by
  obtain ⟨⟨hx, hby, r⟩, vm0, locs, X, B, hZ, hown, hT, N, Od, hEL, Ch, Sf⟩ := A
  subst hby hq hT
  exact own_by (fun t z => X.iaload hx Ar.1 (State.isArrayOf_alike (T := s.setVm vm0) hZ.alike Ar.2.1) Ar.2.2 hj hv (g := mkF m pc Ls (.int j :: .ref a :: rest)) rfl rfl hd t z) k
theorem own_caload (A : own_At w p l e R s m args below meth c bytes ret own nm mx Z n0 a0 EL sf T h cells slots) {a : Addr} {cl : Cell} {j : Int32} {v : Value} (Ar : Arr Z h a cl .char) (hj : ¬ (j < 0 ∨ cl.slots.size ≤ j.toNatClampNeg)) (hv : cl.slots[j.toNatClampNeg]? = some v) (hd : decode bytes pc = .ok (.caload, 1)) (k : own_Run p e below Q m T q Ls (v :: rest)) (hq : pc + 1 = q := by rfl) : own_Run p e below Q m T pc Ls (.int j :: .ref a :: rest) := by
  obtain ⟨⟨hx, hby, r⟩, vm0, locs, X, B, hZ, hown, hT, N, Od, hEL, Ch, Sf⟩ := A
  subst hby hq hT
  exact own_by (fun t z => X.caload hx Ar.1 (State.isArrayOf_alike (T := s.setVm vm0) hZ.alike Ar.2.1) Ar.2.2 hj hv (g := mkF m pc Ls (.int j :: .ref a :: rest)) rfl rfl hd t z) k
theorem own_baload (A : own_At w p l e R s m args below meth c bytes ret own nm mx Z n0 a0 EL sf T h cells slots) {a : Addr} {cl : Cell} {j : Int32} {v : Value} (Ar : Arr Z h a cl .byte) (hj : ¬ (j < 0 ∨ cl.slots.size ≤ j.toNatClampNeg)) (hv : cl.slots[j.toNatClampNeg]? = some v) (hd : decode bytes pc = .ok (.baload, 1)) (k : own_Run p e below Q m T q Ls (v :: rest)) (hq : pc + 1 = q := by rfl) : own_Run p e below Q m T pc Ls (.int j :: .ref a :: rest) := by
  obtain ⟨⟨hx, hby, r⟩, vm0, locs, X, B, hZ, hown, hT, N, Od, hEL, Ch, Sf⟩ := A
  subst hby hq hT
  exact own_by (fun t z => X.baloadBytes hx Ar.1 (State.isArrayOf_alike (T := s.setVm vm0) hZ.alike Ar.2.1) Ar.2.2 hj hv (g := mkF m pc Ls (.int j :: .ref a :: rest)) rfl rfl hd t z) k
/-- a callee that a library or own law pays, narrow (it interns nothing; ws: what it may write) -/
def own_Pays (l : Launch) (R : Room) (p : Program) (e : Env) (below : List Frame) (s : State) (args : Array Value) (Z : State) (n0 : Nat) (EL : List (String × Nat)) (ws : List Addr) (y : MethodName) (len W k n : Nat) (as' : Array Value) (h : Heap) (Qc : Option Value → Heap → Prop) : Prop :=
  ∀ vm0, Z.Warmed39 vm0 → Back l R p e below (s.setVm vm0) args y len W (fun A a => a = as' ∧ A.U.heap = h ∧ A.cells + k ≤ R.cells ∧ A.slots + n ≤ R.slots)
    (fun A _ v B => ∃ L, (Qc v B.U.heap ∧ Fr n0 L ∧ Old Z n0 B.U.heap ∧ h.size ≤ B.U.heap.size ∧ (EL = [] ∨ Keep h B.U.heap ws)) ∧ B.locs = A.locs ++ L ∧ B.cells = A.cells + k ∧ B.slots = A.slots + n)
theorem own_pay {y : MethodName} {bytes : ByteArray} {mx len W : Nat} {ret : Option FieldType} {rm : Room} {as' : Array Value} {Qc : Option Value → Heap → Prop} (M : own_Met false l Z n0 [] [] y bytes mx ret [] rm as' h Qc) (wc : (Jvm.Cond.code y bytes mx ret).before a0 Z = true) (wz : (Jvm.Cond.initialized y.cls).before a0 Z = true) (hf : rm.frames + 1 ≤ R.frames) (hl : W + (mx + 11) + rm.locals ≤ R.locals) :
    own_Pays l R p e below s args Z n0 [] [] y len W rm.cells rm.slots as' h Qc := fun vm0 hZ => by
  have M' : MetFree l y (head1 [Jvm.Cond.code y bytes mx ret] rm) (fun a U => a = as' ∧ Z.Warmed39 U.vm ∧ U.heap = h) (fun _ _ _ _ _ => True) (fun _ U o U' => ∃ v L, o = .returned v ∧ (fun v h' L => Qc v h' ∧ Fr n0 L ∧ Old Z n0 h' ∧ h.size ≤ h'.size ∧ (([] : List (String × Nat)) = [] ∨ Keep h h' [])) v U'.heap L ∧ FrameEnd U o U' L rm.cells rm.slots) :=
    MetFree.mono M (fun _ U z => ⟨z.1, z.2.1, z.2.2, (own_ch0 (vm := U.vm) (h := h) (Nat.le_refl _)).1, fun x hx => nomatch hx⟩) (fun _ _ _ _ _ z => z) (fun a U o U' hp ⟨v, L, h1, ⟨h2, h3, h4, h5⟩, _, h6⟩ => ⟨v, L, h1, ⟨h2, h3, h4, hp.2.2 ▸ h5, Or.inl rfl⟩, h6⟩)
  exact backOf (s := s.setVm vm0) (Q := fun v h' L => Qc v h' ∧ Fr n0 L ∧ Old Z n0 h' ∧ h.size ≤ h'.size ∧ (([] : List (String × Nat)) = [] ∨ Keep h h' [])) M' hZ wc wz hf hl
/-- a callee that may intern; sf': what it asks to be made and no literal's -/
def own_PaysW (l : Launch) (R : Room) (p : Program) (e : Env) (below : List Frame) (s : State) (args : Array Value) (Z : State) (n0 : Nat) (a0 : Array Value) (EL : List (String × Nat)) (ws : List Addr) (y : MethodName) (len W k n : Nat) (as' : Array Value) (h : Heap) (Qc : Option Value → Heap → Prop) : Prop :=
  ∀ vm0, EW Z a0 EL → Z.Warmed39 vm0 → CHv Z EL vm0 h → own_Sf Z EL vm0 h ws → BackS l R p e below (s.setVm vm0) args y len W (fun A a => a = as' ∧ A.U.heap = h ∧ A.cells + k ≤ R.cells ∧ A.slots + n ≤ R.slots)
    (fun A _ v B => ∃ L, (Qc v B.U.heap ∧ Fr n0 L ∧ Old Z n0 B.U.heap ∧ CHr Z EL vm0 h B.U.vm B.U.heap) ∧ B.locs = A.locs ++ L ∧ B.cells = A.cells + k ∧ B.slots = A.slots + n)
theorem own_payW {ws : List Addr} {y : MethodName} {bytes : ByteArray} {mx len W : Nat} {ret : Option FieldType} {rm : Room} {as' : Array Value} {Qc : Option Value → Heap → Prop} (M : own_Met true l Z n0 EL ws y bytes mx ret [] rm as' h Qc) (wc : (Jvm.Cond.code y bytes mx ret).before a0 Z = true) (wz : (Jvm.Cond.initialized y.cls).before a0 Z = true) (hf : rm.frames + 1 ≤ R.frames) (hl : W + (mx + 11) + rm.locals ≤ R.locals) :
    own_PaysW l R p e below s args Z n0 a0 EL ws y len W rm.cells rm.slots as' h Qc := fun vm0 hEL hZ H S => by
  refine BackS.of_freeW (bytes := bytes) (maxL := mx) (ret := ret) (E := fun _ first o t L k n => k = rm.cells ∧ n = rm.slots ∧ (∃ v, o = .returned v ∧ Qc v t.heap ∧ Fr n0 L ∧ Old Z n0 t.heap) ∧ CHr Z EL first.vm first.heap t.vm t.heap) M hf hl ?_ ?_ (fun _ _ _ _ _ _ _ _ _ => trivial) ?_ ?_
  · intro m meth c A a Y hp
    have hU : Z.Warmed39 A.U.vm := wtrans (s := s.setVm vm0) hZ Y.warmed
    exact ⟨by show (Cond.and _ .tt).before a A.U = true; rw [Cond.before_and, mv hU wc]; rfl, mv hU wc, mv hU wz, hp.2.2.1, hp.2.2.2⟩
  · intro m meth c A a g mk Y hp
    have C := CHv.at Y hZ hEL H
    exact ⟨hp.1, wtrans (s := s.setVm vm0) hZ Y.warmed, hp.2.1, C.1, fun x hx => ⟨C.safe (S x hx).2 (S x hx).1, (S x hx).2⟩⟩
  · rintro a first o t ⟨v, L, h1, ⟨h2, h3, h4, h5⟩, h6, h7⟩
    exact ⟨L, _, _, h7, rfl, rfl, ⟨v, h1, h2, h3, h4⟩, h6⟩
  · rintro m meth c A a g mk v t L k n Y hp - - ⟨e1, e2, ⟨v', e3, e4, e5, e6⟩, e7⟩
    cases e3
    subst e1 e2
    refine ⟨L, ⟨e4, e5, e6, (CHv.at Y hZ hEL H).trans ?_⟩, rfl, rfl, rfl⟩
    rw [← hp.2.1]
    exact e7
theorem own_static (A : own_At w p l e R s m args below meth c bytes ret own nm mx Z n0 a0 EL sf T h cells slots) {i mxy : Nat} {y : MethodName} {by' : ByteArray} {rt : Option FieldType} {k n W : Nat} {argsL : List Value} {Qc : Option Value → Heap → Prop} (w1 : (Jvm.Cond.methodLink own i y).before a0 Z = true) (w2 : (Jvm.Cond.static y).before a0 Z = true) (w3 : (Jvm.Cond.initialized y.cls).before a0 Z = true) (w4 : (Jvm.Cond.code y by' mxy rt).before a0 Z = true) (hy : y.cls ≠ "java/lang/invoke/MethodHandle" ∧ y.cls ≠ "java/lang/invoke/VarHandle") {ws : List Addr} (M : own_Pays l R p e below s args Z n0 EL ws y 3 W k n argsL.toArray h Qc) (hws : ∀ x ∈ ws, x ∈ sf) (hW : (rest.map fun v => v.category).sum ≤ W)  {sig : MethodDescriptor} (hds : parseMethodDescriptor y.desc = some sig) (hlen : argsL.length = sig.parameters.length) (hst : st = argsL.reverse ++ rest) (hsz : Ls.size = mx) (hd : decode bytes pc = .ok (.invokestatic i, 3)) (hc : cells + k ≤ R.cells) (hs : slots + n ≤ R.slots)
    (kk : ∀ v T' h', own_At w p l e R s m args below meth c bytes ret own nm mx Z n0 a0 EL sf T' h' (cells + k) (slots + n) → Qc v h' → own_Run p e below Q m T' q Ls (v.toList ++ rest)) (hq : pc + 3 = q := by rfl) : own_Run p e below Q m T pc Ls st := by
  obtain ⟨⟨hx, hby, r1, r2, r3, r4⟩, vm0, locs, X, B, hZ, hown, hT, N, Od, hEL, Ch, Sf⟩ := A
  subst hby hq hst hT
  obtain ⟨v, vm1, ⟨T', L', k', n'⟩, -, X', ⟨L, ⟨hQ, N', O', gr, hK⟩, l1, l2, l3⟩, st'⟩ := Jvm.LawKit.callS X hx hown (mvT (s := s.setVm vm0) hZ w1) (mvT (s := s.setVm vm0) hZ w2) (mvT (s := s.setVm vm0) hZ w3) (mvT (s := s.setVm vm0) hZ w4) hy (M vm0 hZ) (g := mkF m pc Ls (argsL.reverse ++ rest)) rfl (hsz.trans r4.symm)  (argsL := argsL) (rest := rest) (lenOf (ps := sig.parameters) (r := sig.returnType) hds hlen) rfl (by show 2 * 0 + _ ≤ _; rw [Nat.mul_zero, Nat.zero_add]; exact hW) hd (fun _ _ => ⟨rfl, rfl, hc, hs⟩)
  dsimp only [Pt.U, Pt.locs, Pt.cells, Pt.slots] at X' l1 l2 l3 st' hQ O' gr hK
  subst l1 l2 l3
  have C : CHr Z EL vm0 T.heap vm0 T'.heap := by
    rcases hK with rfl | hK
    · exact own_ch0 gr
    · exact CHr.keep hK (fun x hx => (Sf x (hws x hx)).1) Ch.1
  exact own_by (st') (kk v T' T'.heap ⟨⟨hx, rfl, r1, r2, r3, r4⟩, vm0, _, X', B.le gr, hZ, hown, rfl, N.app N', O', hEL, Ch.trans C, Sf.ch C⟩ hQ)
theorem own_staticW (A : own_At true p l e R s m args below meth c bytes ret own nm mx Z n0 a0 EL sf T h cells slots) {i mxy : Nat} {y : MethodName} {by' : ByteArray} {rt : Option FieldType} {k n W : Nat} {argsL : List Value} {Qc : Option Value → Heap → Prop} (w1 : (Jvm.Cond.methodLink own i y).before a0 Z = true) (w2 : (Jvm.Cond.static y).before a0 Z = true) (w3 : (Jvm.Cond.initialized y.cls).before a0 Z = true) (w4 : (Jvm.Cond.code y by' mxy rt).before a0 Z = true) (hy : y.cls ≠ "java/lang/invoke/MethodHandle" ∧ y.cls ≠ "java/lang/invoke/VarHandle") {ws : List Addr} (M : own_PaysW l R p e below s args Z n0 a0 EL ws y 3 W k n argsL.toArray h Qc) (hws : ∀ x ∈ ws, x ∈ sf) (hW : (rest.map fun v => v.category).sum ≤ W)  {sig : MethodDescriptor} (hds : parseMethodDescriptor y.desc = some sig) (hlen : argsL.length = sig.parameters.length) (hst : st = argsL.reverse ++ rest) (hsz : Ls.size = mx) (hd : decode bytes pc = .ok (.invokestatic i, 3)) (hc : cells + k ≤ R.cells) (hs : slots + n ≤ R.slots)
    (kk : ∀ v T' h', own_At true p l e R s m args below meth c bytes ret own nm mx Z n0 a0 EL sf T' h' (cells + k) (slots + n) → Qc v h' → own_Run p e below Q m T' q Ls (v.toList ++ rest)) (hq : pc + 3 = q := by rfl) : own_Run p e below Q m T pc Ls st := by
  obtain ⟨⟨hx, hby, r1, r2, r3, r4⟩, vm0, locs, X, B, hZ, hown, hT, N, Od, hEL, Ch, Sf⟩ := A
  subst hby hq hst hT
  obtain ⟨v, vm1, ⟨T', L', k', n'⟩, -, X', hS, gr, ⟨L, ⟨hQ, N', O', C⟩, l1, l2, l3⟩, st'⟩ := callSS X hx hown (mvT (s := s.setVm vm0) hZ w1) (mvT (s := s.setVm vm0) hZ w2) (mvT (s := s.setVm vm0) hZ w3) (mvT (s := s.setVm vm0) hZ w4) hy (M vm0 hEL hZ Ch.1 (fun x hx => Sf x (hws x hx))) (g := mkF m pc Ls (argsL.reverse ++ rest)) rfl (hsz.trans r4.symm)  (argsL := argsL) (rest := rest) (lenOf (ps := sig.parameters) (r := sig.returnType) hds hlen) rfl (by show 2 * 0 + _ ≤ _; rw [Nat.mul_zero, Nat.zero_add]; exact hW) hd (fun _ _ => ⟨rfl, rfl, hc, hs⟩)
  dsimp only [Pt.U, Pt.locs, Pt.cells, Pt.slots] at X' l1 l2 l3 st' hQ O' hS gr C
  subst l1 l2 l3
  have hZ' : Z.Warmed39 T'.vm := State.Warmed39.trans (t := s.setVm vm0) hZ hS.1
  have hown' : T'.vm.findClass own = some m.cls := by rw [hS.1.alike.findClass]; exact hown
  obtain ⟨k0, B1, B2⟩ : ∃ k0, s.Since vm0 k0 ∧ k0 ≤ T.heap.size := by
    rcases B with ⟨B, -⟩ | ⟨-, B⟩
    · cases B
    · exact B
  exact own_by (fun _ z => st'.trans z) (kk v T' T'.heap ⟨⟨hx, rfl, r1, r2, r3, r4⟩, T'.vm, _, X', Or.inr ⟨rfl, _, B1.trans hS (Nat.le_trans B2 gr), Nat.le_refl _⟩, hZ', hown', rfl, N.app N', O', hEL, Ch.trans C, Sf.ch C⟩ hQ)
theorem own_special (A : own_At w p l e R s m args below meth c bytes ret own nm mx Z n0 a0 EL sf T h cells slots) {i mxy : Nat} {y : MethodName} {by' : ByteArray} {a : Addr} {k n W : Nat} {argsL : List Value} {Qc : Option Value → Heap → Prop} (hy1 : y.name = "<init>") (w1 : (Jvm.Cond.methodLink own i y).before a0 Z = true) (w2 : (Jvm.Cond.instanceMethod y).before a0 Z = true) (w3 : (Jvm.Cond.code y by' mxy none).before a0 Z = true) (hy : y.cls ≠ "java/lang/invoke/MethodHandle" ∧ y.cls ≠ "java/lang/invoke/VarHandle") {ws : List Addr} (M : own_Pays l R p e below s args Z n0 EL ws y 3 W k n (.ref a :: argsL).toArray h Qc) (hws : ∀ x ∈ ws, x ∈ sf) (hW : (rest.map fun v => v.category).sum ≤ W)  {sig : MethodDescriptor} (hds : parseMethodDescriptor y.desc = some sig) (hlen : argsL.length = sig.parameters.length) (hst : st = argsL.reverse ++ .ref a :: rest) (hsz : Ls.size = mx) (hd : decode bytes pc = .ok (.invokespecial i, 3)) (hc : cells + k ≤ R.cells) (hs : slots + n ≤ R.slots)
    (kk : ∀ v T' h', own_At w p l e R s m args below meth c bytes ret own nm mx Z n0 a0 EL sf T' h' (cells + k) (slots + n) → Qc v h' → own_Run p e below Q m T' q Ls (v.toList ++ rest)) (hq : pc + 3 = q := by rfl) : own_Run p e below Q m T pc Ls st := by
  obtain ⟨⟨hx, hby, r1, r2, r3, r4⟩, vm0, locs, X, B, hZ, hown, hT, N, Od, hEL, Ch, Sf⟩ := A
  subst hby hq hst hT
  obtain ⟨v, vm1, ⟨T', L', k', n'⟩, -, X', ⟨L, ⟨hQ, N', O', gr, hK⟩, l1, l2, l3⟩, st'⟩ := X.specialBack hx hy1 hown (mvT (s := s.setVm vm0) hZ w1) (mvT (s := s.setVm vm0) hZ w2) (mvT (s := s.setVm vm0) hZ w3) hy (M vm0 hZ) (g := mkF m pc Ls (argsL.reverse ++ .ref a :: rest)) rfl (hsz.trans r4.symm) (Steps.refl _) (a := a) (argsL := argsL) (rest := rest) (lenOf (ps := sig.parameters) (r := sig.returnType) hds hlen) rfl (by show 2 * 0 + _ ≤ _; rw [Nat.mul_zero, Nat.zero_add]; exact hW) hd (fun _ _ => ⟨rfl, rfl, hc, hs⟩)
  dsimp only [Pt.U, Pt.locs, Pt.cells, Pt.slots] at X' l1 l2 l3 st' hQ O' gr hK
  subst l1 l2 l3
  have C : CHr Z EL vm0 T.heap vm0 T'.heap := by
    rcases hK with rfl | hK
    · exact own_ch0 gr
    · exact CHr.keep hK (fun x hx => (Sf x (hws x hx)).1) Ch.1
  exact own_by (fun _ z => st'.trans z) (kk v T' T'.heap ⟨⟨hx, rfl, r1, r2, r3, r4⟩, vm0, _, X', B.le gr, hZ, hown, rfl, N.app N', O', hEL, Ch.trans C, Sf.ch C⟩ hQ)
theorem own_specialW (A : own_At true p l e R s m args below meth c bytes ret own nm mx Z n0 a0 EL sf T h cells slots) {i mxy : Nat} {y : MethodName} {by' : ByteArray} {a : Addr} {k n W : Nat} {argsL : List Value} {Qc : Option Value → Heap → Prop} (hy1 : y.name = "<init>") (w1 : (Jvm.Cond.methodLink own i y).before a0 Z = true) (w2 : (Jvm.Cond.instanceMethod y).before a0 Z = true) (w3 : (Jvm.Cond.code y by' mxy none).before a0 Z = true) (hy : y.cls ≠ "java/lang/invoke/MethodHandle" ∧ y.cls ≠ "java/lang/invoke/VarHandle") {ws : List Addr} (M : own_PaysW l R p e below s args Z n0 a0 EL ws y 3 W k n (.ref a :: argsL).toArray h Qc) (hws : ∀ x ∈ ws, x ∈ sf) (hW : (rest.map fun v => v.category).sum ≤ W)  {sig : MethodDescriptor} (hds : parseMethodDescriptor y.desc = some sig) (hlen : argsL.length = sig.parameters.length) (hst : st = argsL.reverse ++ .ref a :: rest) (hsz : Ls.size = mx) (hd : decode bytes pc = .ok (.invokespecial i, 3)) (hc : cells + k ≤ R.cells) (hs : slots + n ≤ R.slots)
    (kk : ∀ v T' h', own_At true p l e R s m args below meth c bytes ret own nm mx Z n0 a0 EL sf T' h' (cells + k) (slots + n) → Qc v h' → own_Run p e below Q m T' q Ls (v.toList ++ rest)) (hq : pc + 3 = q := by rfl) : own_Run p e below Q m T pc Ls st := by
  obtain ⟨⟨hx, hby, r1, r2, r3, r4⟩, vm0, locs, X, B, hZ, hown, hT, N, Od, hEL, Ch, Sf⟩ := A
  subst hby hq hst hT
  obtain ⟨v, vm1, ⟨T', L', k', n'⟩, -, X', hS, gr, ⟨L, ⟨hQ, N', O', C⟩, l1, l2, l3⟩, st'⟩ := X.specialBackS hx hy1 hown (mvT (s := s.setVm vm0) hZ w1) (mvT (s := s.setVm vm0) hZ w2) (mvT (s := s.setVm vm0) hZ w3) hy (M vm0 hEL hZ Ch.1 (fun x hx => Sf x (hws x hx))) (g := mkF m pc Ls (argsL.reverse ++ .ref a :: rest)) rfl (hsz.trans r4.symm) (Steps.refl _) (a := a) (argsL := argsL) (rest := rest) (lenOf (ps := sig.parameters) (r := sig.returnType) hds hlen) rfl (by show 2 * 0 + _ ≤ _; rw [Nat.mul_zero, Nat.zero_add]; exact hW) hd (fun _ _ => ⟨rfl, rfl, hc, hs⟩)
  dsimp only [Pt.U, Pt.locs, Pt.cells, Pt.slots] at X' l1 l2 l3 st' hQ O' hS gr C
  subst l1 l2 l3
  have hZ' : Z.Warmed39 T'.vm := State.Warmed39.trans (t := s.setVm vm0) hZ hS.1
  have hown' : T'.vm.findClass own = some m.cls := by rw [hS.1.alike.findClass]; exact hown
  obtain ⟨k0, B1, B2⟩ : ∃ k0, s.Since vm0 k0 ∧ k0 ≤ T.heap.size := by
    rcases B with ⟨B, -⟩ | ⟨-, B⟩
    · cases B
    · exact B
  exact own_by (fun _ z => st'.trans z) (kk v T' T'.heap ⟨⟨hx, rfl, r1, r2, r3, r4⟩, T'.vm, _, X', Or.inr ⟨rfl, _, B1.trans hS (Nat.le_trans B2 gr), Nat.le_refl _⟩, hZ', hown', rfl, N.app N', O', hEL, Ch.trans C, Sf.ch C⟩ hQ)
theorem own_virtual (A : own_At w p l e R s m args below meth c bytes ret own nm mx Z n0 a0 EL sf T h cells slots) {i : Nat} {y : MethodName} {C : String} {a : Addr} {k n W : Nat} {argsL : List Value} {Qc : Option Value → Heap → Prop} (w1 : (Jvm.Cond.methodLink own i y).before a0 Z = true) (w2 : (Jvm.Cond.declares y).before a0 Z = true) (w3 : (Jvm.Cond.selects C y y).before a0 Z = true) (w4 : (Jvm.Cond.instanceMethod y).before a0 Z = true) (hy : y.cls ≠ "java/lang/invoke/MethodHandle" ∧ y.cls ≠ "java/lang/invoke/VarHandle") {ws : List Addr} (M : own_Pays l R p e below s args Z n0 EL ws y 3 W k n (.ref a :: argsL).toArray h Qc) (hws : ∀ x ∈ ws, x ∈ sf) (hW : (rest.map fun v => v.category).sum ≤ W) (E : Exa Z h a C) {sig : MethodDescriptor} (hds : parseMethodDescriptor y.desc = some sig) (hlen : argsL.length = sig.parameters.length) (hst : st = argsL.reverse ++ .ref a :: rest) (hsz : Ls.size = mx) (hd : decode bytes pc = .ok (.invokevirtual i, 3)) (hc : cells + k ≤ R.cells) (hs : slots + n ≤ R.slots)
    (kk : ∀ v T' h', own_At w p l e R s m args below meth c bytes ret own nm mx Z n0 a0 EL sf T' h' (cells + k) (slots + n) → Qc v h' → own_Run p e below Q m T' q Ls (v.toList ++ rest)) (hq : pc + 3 = q := by rfl) : own_Run p e below Q m T pc Ls st := by
  obtain ⟨⟨hx, hby, r1, r2, r3, r4⟩, vm0, locs, X, B, hZ, hown, hT, N, Od, hEL, Ch, Sf⟩ := A
  subst hby hq hst hT
  obtain ⟨cq, kq, qa, qb, qc⟩ := isOf (s := s.setVm vm0) (T := T) hZ rfl E
  obtain ⟨v, vm1, ⟨T', L', k', n'⟩, -, X', ⟨L, ⟨hQ, N', O', gr, hK⟩, l1, l2, l3⟩, st'⟩ := X.virtualBack hx hown (mvT (s := s.setVm vm0) hZ w1) (mvT (s := s.setVm vm0) hZ w2) (notFace_of_selects (args := #[]) (mvT (s := s.setVm vm0) hZ w3)) (mvT (s := s.setVm vm0) hZ w3) (mvT (s := s.setVm vm0) hZ w4) hy (M vm0 hZ) qa qc (g := mkF m pc Ls (argsL.reverse ++ .ref a :: rest)) rfl (hsz.trans r4.symm) (Steps.refl _) (argsL := argsL) (rest := rest) (lenOf (ps := sig.parameters) (r := sig.returnType) hds hlen) rfl (by show 2 * 0 + _ ≤ _; rw [Nat.mul_zero, Nat.zero_add]; exact hW) hd (fun _ _ => ⟨rfl, rfl, hc, hs⟩)
  dsimp only [Pt.U, Pt.locs, Pt.cells, Pt.slots] at X' l1 l2 l3 st' hQ O' gr hK
  subst l1 l2 l3
  have C : CHr Z EL vm0 T.heap vm0 T'.heap := by
    rcases hK with rfl | hK
    · exact own_ch0 gr
    · exact CHr.keep hK (fun x hx => (Sf x (hws x hx)).1) Ch.1
  exact own_by (fun _ z => st'.trans z) (kk v T' T'.heap ⟨⟨hx, rfl, r1, r2, r3, r4⟩, vm0, _, X', B.le gr, hZ, hown, rfl, N.app N', O', hEL, Ch.trans C, Sf.ch C⟩ hQ)
theorem own_virtualW (A : own_At true p l e R s m args below meth c bytes ret own nm mx Z n0 a0 EL sf T h cells slots) {i : Nat} {y : MethodName} {C : String} {a : Addr} {k n W : Nat} {argsL : List Value} {Qc : Option Value → Heap → Prop} (w1 : (Jvm.Cond.methodLink own i y).before a0 Z = true) (w2 : (Jvm.Cond.declares y).before a0 Z = true) (w3 : (Jvm.Cond.selects C y y).before a0 Z = true) (w4 : (Jvm.Cond.instanceMethod y).before a0 Z = true) (hy : y.cls ≠ "java/lang/invoke/MethodHandle" ∧ y.cls ≠ "java/lang/invoke/VarHandle") {ws : List Addr} (M : own_PaysW l R p e below s args Z n0 a0 EL ws y 3 W k n (.ref a :: argsL).toArray h Qc) (hws : ∀ x ∈ ws, x ∈ sf) (hW : (rest.map fun v => v.category).sum ≤ W) (E : Exa Z h a C) {sig : MethodDescriptor} (hds : parseMethodDescriptor y.desc = some sig) (hlen : argsL.length = sig.parameters.length) (hst : st = argsL.reverse ++ .ref a :: rest) (hsz : Ls.size = mx) (hd : decode bytes pc = .ok (.invokevirtual i, 3)) (hc : cells + k ≤ R.cells) (hs : slots + n ≤ R.slots)
    (kk : ∀ v T' h', own_At true p l e R s m args below meth c bytes ret own nm mx Z n0 a0 EL sf T' h' (cells + k) (slots + n) → Qc v h' → own_Run p e below Q m T' q Ls (v.toList ++ rest)) (hq : pc + 3 = q := by rfl) : own_Run p e below Q m T pc Ls st := by
  obtain ⟨⟨hx, hby, r1, r2, r3, r4⟩, vm0, locs, X, B, hZ, hown, hT, N, Od, hEL, Ch, Sf⟩ := A
  subst hby hq hst hT
  obtain ⟨cq, kq, qa, qb, qc⟩ := isOf (s := s.setVm vm0) (T := T) hZ rfl E
  obtain ⟨v, vm1, ⟨T', L', k', n'⟩, -, X', hS, gr, ⟨L, ⟨hQ, N', O', C⟩, l1, l2, l3⟩, st'⟩ := X.virtualBackS hx hown (mvT (s := s.setVm vm0) hZ w1) (mvT (s := s.setVm vm0) hZ w2) (notFace_of_selects (args := #[]) (mvT (s := s.setVm vm0) hZ w3)) (mvT (s := s.setVm vm0) hZ w3) (mvT (s := s.setVm vm0) hZ w4) hy (M vm0 hEL hZ Ch.1 (fun x hx => Sf x (hws x hx))) qa qc (g := mkF m pc Ls (argsL.reverse ++ .ref a :: rest)) rfl (hsz.trans r4.symm) (Steps.refl _) (argsL := argsL) (rest := rest) (lenOf (ps := sig.parameters) (r := sig.returnType) hds hlen) rfl (by show 2 * 0 + _ ≤ _; rw [Nat.mul_zero, Nat.zero_add]; exact hW) hd (fun _ _ => ⟨rfl, rfl, hc, hs⟩)
  dsimp only [Pt.U, Pt.locs, Pt.cells, Pt.slots] at X' l1 l2 l3 st' hQ O' hS gr C
  subst l1 l2 l3
  have hZ' : Z.Warmed39 T'.vm := State.Warmed39.trans (t := s.setVm vm0) hZ hS.1
  have hown' : T'.vm.findClass own = some m.cls := by rw [hS.1.alike.findClass]; exact hown
  obtain ⟨k0, B1, B2⟩ : ∃ k0, s.Since vm0 k0 ∧ k0 ≤ T.heap.size := by
    rcases B with ⟨B, -⟩ | ⟨-, B⟩
    · cases B
    · exact B
  exact own_by (fun _ z => st'.trans z) (kk v T' T'.heap ⟨⟨hx, rfl, r1, r2, r3, r4⟩, T'.vm, _, X', Or.inr ⟨rfl, _, B1.trans hS (Nat.le_trans B2 gr), Nat.le_refl _⟩, hZ', hown', rfl, N.app N', O', hEL, Ch.trans C, Sf.ch C⟩ hQ)
theorem own_virtualUp (A : own_At w p l e R s m args below meth c bytes ret own nm mx Z n0 a0 EL sf T h cells slots) {i : Nat} {x y : MethodName} {C owner : String} {a : Addr} {k n W : Nat} {argsL : List Value} {Qc : Option Value → Heap → Prop} (w1 : (Jvm.Cond.methodLink own i x).before a0 Z = true) (w2 : (Jvm.Cond.sameMethod x.cls owner x.name x.desc).before a0 Z = true) (w3 : (Jvm.Cond.declares ⟨owner, x.name, x.desc⟩).before a0 Z = true) (hy : owner ≠ "java/lang/invoke/MethodHandle" ∧ owner ≠ "java/lang/invoke/VarHandle") (w4 : (Jvm.Cond.selects C x y).before a0 Z = true) (w5 : (Jvm.Cond.instanceMethod y).before a0 Z = true) {ws : List Addr} (M : own_Pays l R p e below s args Z n0 EL ws y 3 W k n (.ref a :: argsL).toArray h Qc) (hws : ∀ x ∈ ws, x ∈ sf) (hW : (rest.map fun v => v.category).sum ≤ W) (E : Exa Z h a C) {sig : MethodDescriptor} (hds : parseMethodDescriptor x.desc = some sig) (hlen : argsL.length = sig.parameters.length) (hst : st = argsL.reverse ++ .ref a :: rest) (hsz : Ls.size = mx) (hd : decode bytes pc = .ok (.invokevirtual i, 3)) (hc : cells + k ≤ R.cells) (hs : slots + n ≤ R.slots)
    (kk : ∀ v T' h', own_At w p l e R s m args below meth c bytes ret own nm mx Z n0 a0 EL sf T' h' (cells + k) (slots + n) → Qc v h' → own_Run p e below Q m T' q Ls (v.toList ++ rest)) (hq : pc + 3 = q := by rfl) : own_Run p e below Q m T pc Ls st := by
  obtain ⟨⟨hx, hby, r1, r2, r3, r4⟩, vm0, locs, X, B, hZ, hown, hT, N, Od, hEL, Ch, Sf⟩ := A
  subst hby hq hst hT
  obtain ⟨cq, kq, qa, qb, qc⟩ := isOf (s := s.setVm vm0) (T := T) hZ rfl E
  obtain ⟨v, vm1, ⟨T', L', k', n'⟩, -, X', ⟨L, ⟨hQ, N', O', gr, hK⟩, l1, l2, l3⟩, st'⟩ := X.virtualBackUp hx hown (mvT (s := s.setVm vm0) hZ w1) (mvT (s := s.setVm vm0) hZ w2) (mvT (s := s.setVm vm0) hZ w3) hy (mvT (s := s.setVm vm0) hZ w4) (mvT (s := s.setVm vm0) hZ w5) (M vm0 hZ) qa qc (g := mkF m pc Ls (argsL.reverse ++ .ref a :: rest)) rfl (hsz.trans r4.symm) (Steps.refl _) (argsL := argsL) (rest := rest) (lenOf (ps := sig.parameters) (r := sig.returnType) hds hlen) rfl (by show 2 * 0 + _ ≤ _; rw [Nat.mul_zero, Nat.zero_add]; exact hW) hd (fun _ _ => ⟨rfl, rfl, hc, hs⟩)
  dsimp only [Pt.U, Pt.locs, Pt.cells, Pt.slots] at X' l1 l2 l3 st' hQ O' gr hK
  subst l1 l2 l3
  have C : CHr Z EL vm0 T.heap vm0 T'.heap := by
    rcases hK with rfl | hK
    · exact own_ch0 gr
    · exact CHr.keep hK (fun x hx => (Sf x (hws x hx)).1) Ch.1
  exact own_by (fun _ z => st'.trans z) (kk v T' T'.heap ⟨⟨hx, rfl, r1, r2, r3, r4⟩, vm0, _, X', B.le gr, hZ, hown, rfl, N.app N', O', hEL, Ch.trans C, Sf.ch C⟩ hQ)
theorem own_virtualUpW (A : own_At true p l e R s m args below meth c bytes ret own nm mx Z n0 a0 EL sf T h cells slots) {i : Nat} {x y : MethodName} {C owner : String} {a : Addr} {k n W : Nat} {argsL : List Value} {Qc : Option Value → Heap → Prop} (w1 : (Jvm.Cond.methodLink own i x).before a0 Z = true) (w2 : (Jvm.Cond.sameMethod x.cls owner x.name x.desc).before a0 Z = true) (w3 : (Jvm.Cond.declares ⟨owner, x.name, x.desc⟩).before a0 Z = true) (hy : owner ≠ "java/lang/invoke/MethodHandle" ∧ owner ≠ "java/lang/invoke/VarHandle") (w4 : (Jvm.Cond.selects C x y).before a0 Z = true) (w5 : (Jvm.Cond.instanceMethod y).before a0 Z = true) {ws : List Addr} (M : own_PaysW l R p e below s args Z n0 a0 EL ws y 3 W k n (.ref a :: argsL).toArray h Qc) (hws : ∀ x ∈ ws, x ∈ sf) (hW : (rest.map fun v => v.category).sum ≤ W) (E : Exa Z h a C) {sig : MethodDescriptor} (hds : parseMethodDescriptor x.desc = some sig) (hlen : argsL.length = sig.parameters.length) (hst : st = argsL.reverse ++ .ref a :: rest) (hsz : Ls.size = mx) (hd : decode bytes pc = .ok (.invokevirtual i, 3)) (hc : cells + k ≤ R.cells) (hs : slots + n ≤ R.slots)
    (kk : ∀ v T' h', own_At true p l e R s m args below meth c bytes ret own nm mx Z n0 a0 EL sf T' h' (cells + k) (slots + n) → Qc v h' → own_Run p e below Q m T' q Ls (v.toList ++ rest)) (hq : pc + 3 = q := by rfl) : own_Run p e below Q m T pc Ls st := by
  obtain ⟨⟨hx, hby, r1, r2, r3, r4⟩, vm0, locs, X, B, hZ, hown, hT, N, Od, hEL, Ch, Sf⟩ := A
  subst hby hq hst hT
  obtain ⟨cq, kq, qa, qb, qc⟩ := isOf (s := s.setVm vm0) (T := T) hZ rfl E
  obtain ⟨v, vm1, ⟨T', L', k', n'⟩, -, X', hS, gr, ⟨L, ⟨hQ, N', O', C⟩, l1, l2, l3⟩, st'⟩ := X.virtualBackUpS hx hown (mvT (s := s.setVm vm0) hZ w1) (mvT (s := s.setVm vm0) hZ w2) (mvT (s := s.setVm vm0) hZ w3) hy (mvT (s := s.setVm vm0) hZ w4) (mvT (s := s.setVm vm0) hZ w5) (M vm0 hEL hZ Ch.1 (fun x hx => Sf x (hws x hx))) qa qc (g := mkF m pc Ls (argsL.reverse ++ .ref a :: rest)) rfl (hsz.trans r4.symm) (Steps.refl _) (argsL := argsL) (rest := rest) (lenOf (ps := sig.parameters) (r := sig.returnType) hds hlen) rfl (by show 2 * 0 + _ ≤ _; rw [Nat.mul_zero, Nat.zero_add]; exact hW) hd (fun _ _ => ⟨rfl, rfl, hc, hs⟩)
  dsimp only [Pt.U, Pt.locs, Pt.cells, Pt.slots] at X' l1 l2 l3 st' hQ O' hS gr C
  subst l1 l2 l3
  have hZ' : Z.Warmed39 T'.vm := State.Warmed39.trans (t := s.setVm vm0) hZ hS.1
  have hown' : T'.vm.findClass own = some m.cls := by rw [hS.1.alike.findClass]; exact hown
  obtain ⟨k0, B1, B2⟩ : ∃ k0, s.Since vm0 k0 ∧ k0 ≤ T.heap.size := by
    rcases B with ⟨B, -⟩ | ⟨-, B⟩
    · cases B
    · exact B
  exact own_by (fun _ z => st'.trans z) (kk v T' T'.heap ⟨⟨hx, rfl, r1, r2, r3, r4⟩, T'.vm, _, X', Or.inr ⟨rfl, _, B1.trans hS (Nat.le_trans B2 gr), Nat.le_refl _⟩, hZ', hown', rfl, N.app N', O', hEL, Ch.trans C, Sf.ch C⟩ hQ)
/-- ldc of a String constant, opaque -/
theorem own_ldcO (A : own_At true p l e R s m args below meth c bytes ret own nm mx Z n0 a0 EL sf T h cells slots) {i n : Nat} {text : String} (wl : (Jvm.Cond.stringLink own i text).before a0 Z = true) (wS : ∀ a ∈ Bundle.stringAtoms, a.before a0 Z = true) (hd : decode bytes pc = .ok (.ldc i, 2)) (hn : 4 * text.toList.length ≤ n) (hbig : n ≤ 536870912) (hc : cells + 2 ≤ R.cells) (hl : slots + (n + 4) ≤ R.slots)
    (k : ∀ a T' h', own_At true p l e R s m args below meth c bytes ret own nm mx Z n0 a0 EL sf T' h' (cells + 2) (slots + (n + 4)) → Ext h h' → own_Run p e below Q m T' q Ls (.ref a :: st)) (hq : pc + 2 = q := by rfl) : own_Run p e below Q m T pc Ls st := by
  obtain ⟨⟨hx, hby, r⟩, vm0, locs, X, B, hZ, hown, hT, N, Od, hEL, Ch, Sf⟩ := A
  subst hby hq
  obtain ⟨k0, B1, B2⟩ : ∃ k0, s.Since vm0 k0 ∧ k0 ≤ h.size := by
    rcases B with ⟨B, -⟩ | ⟨-, B⟩
    · cases B
    · exact B
  obtain ⟨a, T', h', k1, X', e', E, hS, hk, hZ', hown', C, -, st'⟩ := ldcOH X hx hZ hown wl wS hT B1 B2 hEL Ch.1 (g := mkF m pc Ls st) rfl hd hn hbig hc hl
  exact own_by st' (k a T' h' ⟨⟨hx, rfl, r⟩, T'.vm, _, X', Or.inr ⟨rfl, k1, hS, hk⟩, hZ', hown', e', N, Od.ext E, hEL, Ch.trans C, Sf.ch C⟩ E)
/-- ldc of a String constant that is said to be held, read -/
theorem own_ldcR (A : own_At true p l e R s m args below meth c bytes ret own nm mx Z n0 a0 EL sf T h cells slots) {i n : Nat} {text : String} (wl : (Jvm.Cond.stringLink own i text).before a0 Z = true) (wS : ∀ a ∈ Bundle.stringAtoms, a.before a0 Z = true) (hmem : (own, i) ∈ EL) {vs : List Value} {z : Int32} (ht : (∀ c ∈ text.toList, c.toNat < 256) ∧ text.toList.map (fun c => Value.int (Jvm.Lit.byteI c.toNat.toUInt16)) = vs) (hz : ¬ z < 0) (hlz : z.toNatClampNeg = vs.length) (hd : decode bytes pc = .ok (.ldc i, 2)) (hn : 4 * text.toList.length ≤ n) (hbig : n ≤ 536870912) (hc : cells + 2 ≤ R.cells) (hl : slots + (n + 4) ≤ R.slots)
    (k : ∀ a b cb T' h', own_At true p l e R s m args below meth c bytes ret own nm mx Z n0 a0 EL sf T' h' (cells + 2) (slots + (n + 4)) → Ext h h' → Exa Z h' a "java/lang/String" → Fld Z h' a "java/lang/String" "coder" "B" (.int 0) → Fld Z h' a "java/lang/String" "value" "[B" (.ref b) → Arv Z h' b cb .byte z vs (.int 0) → (∀ x ∈ sf, x ≠ a ∧ x ≠ b) → own_Run p e below Q m T' q Ls (.ref a :: st)) (hq : pc + 2 = q := by rfl) : own_Run p e below Q m T pc Ls st := by
  obtain ⟨⟨hx, hby, r⟩, vm0, locs, X, B, hZ, hown, hT, N, Od, hEL, Ch, Sf⟩ := A
  subst hby hq
  obtain ⟨k0, B1, B2⟩ : ∃ k0, s.Since vm0 k0 ∧ k0 ≤ h.size := by
    rcases B with ⟨B, -⟩ | ⟨-, B⟩
    · cases B
    · exact B
  obtain ⟨a, T', h', k1, b, cb, X', e', E, hS, hk, hZ', hown', f1, f2, f3, f4, -, -, C, -, f5, st'⟩ := ldcCH X hx hZ hown wl wS hT B1 B2 hEL hmem Ch.1 ht hz hlz (g := mkF m pc Ls st) rfl hd hn hbig hc hl
  exact own_by st' (k a b cb T' h' ⟨⟨hx, rfl, r⟩, T'.vm, _, X', Or.inr ⟨rfl, k1, hS, hk⟩, hZ', hown', e', N, Od.ext E, hEL, Ch.trans C, Sf.ch C⟩ E f1 f2 f3 f4 (fun x hx => f5 x (Sf.ch C x hx).1))
end Own
section OwnArr
variable {w : Bool} {p : Program} {l : Launch} {e : Env} {R : Room} {s : State} {m : MethodId} {args : Array Value} {below : List Frame} {meth : Method} {c : Code} {T : State} {cells slots n0 mx : Nat} {Z : State} {a0 : Array Value} {h : Heap} {bytes : ByteArray} {ret : Option FieldType} {own nm : String} {EL : List (String × Nat)} {sf : List Addr} {Q : Outcome → State → Prop} {pc q : Nat} {Ls : Array Slot} {st rest : List Value}
theorem own_inb {c : Cell} {z j : Int32} {i : Nat} (S : c.slots.size = z.toNatClampNeg) (h0 : ¬ j < 0) (hj : j.toNatClampNeg = i) (hi : i < z.toNatClampNeg) : ¬ (j < 0 ∨ c.slots.size ≤ j.toNatClampNeg) := by
  rw [S, hj]
  exact fun y => y.elim h0 fun y => absurd hi (Nat.not_lt.mpr y)
theorem own_newRv (A : own_At w p l e R s m args below meth c bytes ret own nm mx Z n0 a0 EL sf T h cells slots) {i : Nat} {C : String} (w1 : (Jvm.Cond.classLink own i C).before a0 Z = true) (w2 : (Jvm.Cond.arrayOver (.object C)).before a0 Z = true) (hd : decode bytes pc = .ok (.anewarray i, 3)) {n : Int32} (cap : Nat) (hn : ¬ n < 0) (hcap : n.toNatClampNeg = cap) (hb : cap * 8 ≤ 536870912) (hc : cells + 1 ≤ R.cells) (hl : slots + cap ≤ R.slots)
    (k : ∀ T' h' a cA, h.size = a → n0 ≤ a → own_At w p l e R s m args below meth c bytes ret own nm mx Z n0 a0 EL (a :: sf) T' h' (cells + 1) (slots + cap) → Ext h h' → Arv Z h' a cA (.object C) n (List.replicate cap .null) .null → Ovr Z cA C → own_Run p e below Q m T' q Ls (.ref a :: rest)) (hq : pc + 3 = q := by rfl) : own_Run p e below Q m T pc Ls (.int n :: rest) :=
  own_newR A w1 w2 hd cap hn (Nat.le_of_eq hcap) hb hc hl (fun T' h' a cA g1 g2 A' E Ar Ov => k T' h' a cA g1 g2 A' E ((Arv.new Ar hn).pad (pad_rep [] .null cap)) Ov) hq
theorem own_newPv (A : own_At w p l e R s m args below meth c bytes ret own nm mx Z n0 a0 EL sf T h cells slots) {aty : ArrayType} {ty : FieldType} {dv : Value} (hty : newarray.typeOf aty = ty) (hdv : defaultValue ty = dv) (w1 : (Jvm.Cond.arrayClass ty).before a0 Z = true) (hd : decode bytes pc = .ok (.newarray aty, 2)) {n : Int32} (cap : Nat) (hn : ¬ n < 0) (hcap : n.toNatClampNeg = cap) (hb : cap * 8 ≤ 536870912) (hc : cells + 1 ≤ R.cells) (hl : slots + cap ≤ R.slots)
    (k : ∀ T' h' a cA, h.size = a → n0 ≤ a → own_At w p l e R s m args below meth c bytes ret own nm mx Z n0 a0 EL (a :: sf) T' h' (cells + 1) (slots + cap) → Ext h h' → Arv Z h' a cA ty n (List.replicate cap dv) dv → own_Run p e below Q m T' q Ls (.ref a :: rest)) (hq : pc + 2 = q := by rfl) : own_Run p e below Q m T pc Ls (.int n :: rest) := by
  subst hty hdv
  exact own_newP A w1 hd cap hn (Nat.le_of_eq hcap) hb hc hl (fun T' h' a cA g1 g2 A' E Ar => k T' h' a cA g1 g2 A' E ((Arv.new Ar hn).pad (pad_rep [] _ cap))) hq
theorem own_stRv (A : own_At w p l e R s m args below meth c bytes ret own nm mx Z n0 a0 EL sf T h cells slots) {a y : Addr} {cA : ClassId} {ty : FieldType} {C : String} {z j : Int32} {vs : List Value} {dv : Value} (V : Arv Z h a cA ty z vs dv) (Ov : Ovr Z cA C) (I : Ins Z h y C true) (i : Nat) (h0 : ¬ j < 0) (hj : j.toNatClampNeg = i) (hi : i < z.toNatClampNeg) (hi' : i < vs.length) (hty : ty.isReference = true) (hf : fits ty (.ref y) = true) (ha : n0 ≤ a) (hwo : own_Wok Z EL sf h a) (hd : decode bytes pc = .ok (.aastore, 1))
    (k : ∀ T' h' sl, own_At w p l e R s m args below meth c bytes ret own nm mx Z n0 a0 EL sf T' h' cells slots → Wr h h' a sl (.ref y) → Arv Z h' a cA ty z (vs.set i (.ref y)) dv → own_Run p e below Q m T' q Ls rest) (hq : pc + 1 = q := by rfl) : own_Run p e below Q m T pc Ls (.ref y :: .int j :: .ref a :: rest) := by
  obtain ⟨c, Ar, q1, S, q3, H, G⟩ := V
  exact own_stR A Ar (own_inb S h0 hj hi) hty (Sto.ofV Ar q1 Ov I) ha hwo hd (fun T' h' A' W => k T' h' _ A' W (Arv.set Ar q1 S q3 H G hf W i hj hi')) hq
theorem own_aaloadv (A : own_At w p l e R s m args below meth c bytes ret own nm mx Z n0 a0 EL sf T h cells slots) {a : Addr} {cA : ClassId} {ty : FieldType} {z j : Int32} {vs : List Value} {dv v : Value} (V : Arv Z h a cA ty z vs dv) (i : Nat) (h0 : ¬ j < 0) (hj : j.toNatClampNeg = i) (hi : i < z.toNatClampNeg) (hty : ty.isReference = true) (hv : vs.getD i dv = v) (hd : decode bytes pc = .ok (.aaload, 1)) (k : own_Run p e below Q m T q Ls (v :: rest)) (hq : pc + 1 = q := by rfl) : own_Run p e below Q m T pc Ls (.int j :: .ref a :: rest) := by
  obtain ⟨c, Ar, q1, S, q3, H, G⟩ := V
  have b := own_inb S h0 hj hi
  subst hj
  exact own_aaload A Ar hty b (H.at b hv) hd k hq
theorem own_arrlenv (A : own_At w p l e R s m args below meth c bytes ret own nm mx Z n0 a0 EL sf T h cells slots) {a : Addr} {cA : ClassId} {ty : FieldType} {z : Int32} {vs : List Value} {dv : Value} (V : Arv Z h a cA ty z vs dv) (hd : decode bytes pc = .ok (.arraylength, 1)) (k : own_Run p e below Q m T q Ls (.int z :: rest)) (hq : pc + 1 = q := by rfl) : own_Run p e below Q m T pc Ls (.ref a :: rest) := by
  obtain ⟨c, Ar, q1, S, q3, H, G⟩ := V
  refine own_arrlen A Ar hd ?_ hq
  rw [len_of S q3]
  exact k
theorem own_stCv (A : own_At w p l e R s m args below meth c bytes ret own nm mx Z n0 a0 EL sf T h cells slots) {a : Addr} {cA : ClassId} {z j x : Int32} {vs : List Value} {dv : Value} (V : Arv Z h a cA .char z vs dv) (i : Nat) (h0 : ¬ j < 0) (hj : j.toNatClampNeg = i) (hi : i < z.toNatClampNeg) (hi' : i < vs.length) (ha : n0 ≤ a) (hwo : own_Wok Z EL sf h a) (hd : decode bytes pc = .ok (.castore, 1))
    (k : ∀ T' h' sl, own_At w p l e R s m args below meth c bytes ret own nm mx Z n0 a0 EL sf T' h' cells slots → Wr h h' a sl (.int (nar .char x)) → Arv Z h' a cA .char z (vs.set i (.int (nar .char x))) dv → own_Run p e below Q m T' q Ls rest) (hq : pc + 1 = q := by rfl) : own_Run p e below Q m T pc Ls (.int x :: .int j :: .ref a :: rest) := by
  obtain ⟨c, Ar, q1, S, q3, H, G⟩ := V
  exact own_stC A Ar (own_inb S h0 hj hi) ha hwo hd (fun T' h' A' W => k T' h' _ A' W (Arv.set Ar q1 S q3 H G (fits_nar_char x) W i hj hi')) hq
theorem own_stIv (A : own_At w p l e R s m args below meth c bytes ret own nm mx Z n0 a0 EL sf T h cells slots) {a : Addr} {cA : ClassId} {z j x : Int32} {vs : List Value} {dv : Value} (V : Arv Z h a cA .int z vs dv) (i : Nat) (h0 : ¬ j < 0) (hj : j.toNatClampNeg = i) (hi : i < z.toNatClampNeg) (hi' : i < vs.length) (ha : n0 ≤ a) (hwo : own_Wok Z EL sf h a) (hd : decode bytes pc = .ok (.iastore, 1))
    (k : ∀ T' h' sl, own_At w p l e R s m args below meth c bytes ret own nm mx Z n0 a0 EL sf T' h' cells slots → Wr h h' a sl (.int x) → Arv Z h' a cA .int z (vs.set i (.int x)) dv → own_Run p e below Q m T' q Ls rest) (hq : pc + 1 = q := by rfl) : own_Run p e below Q m T pc Ls (.int x :: .int j :: .ref a :: rest) := by
  obtain ⟨c, Ar, q1, S, q3, H, G⟩ := V
  exact own_stI A Ar (own_inb S h0 hj hi) ha hwo hd (fun T' h' A' W => k T' h' _ A' W (Arv.set Ar q1 S q3 H G (rfl) W i hj hi')) hq
theorem own_stBv (A : own_At w p l e R s m args below meth c bytes ret own nm mx Z n0 a0 EL sf T h cells slots) {a : Addr} {cA : ClassId} {z j x : Int32} {vs : List Value} {dv : Value} (V : Arv Z h a cA .byte z vs dv) (i : Nat) (h0 : ¬ j < 0) (hj : j.toNatClampNeg = i) (hi : i < z.toNatClampNeg) (hi' : i < vs.length) (ha : n0 ≤ a) (hwo : own_Wok Z EL sf h a) (hd : decode bytes pc = .ok (.bastore, 1))
    (k : ∀ T' h' sl, own_At w p l e R s m args below meth c bytes ret own nm mx Z n0 a0 EL sf T' h' cells slots → Wr h h' a sl (.int (nar .byte x)) → Arv Z h' a cA .byte z (vs.set i (.int (nar .byte x))) dv → own_Run p e below Q m T' q Ls rest) (hq : pc + 1 = q := by rfl) : own_Run p e below Q m T pc Ls (.int x :: .int j :: .ref a :: rest) := by
  obtain ⟨c, Ar, q1, S, q3, H, G⟩ := V
  exact own_stB A Ar (own_inb S h0 hj hi) ha hwo hd (fun T' h' A' W => k T' h' _ A' W (Arv.set Ar q1 S q3 H G (fits_nar_byte x) W i hj hi')) hq
theorem own_ialoadv (A : own_At w p l e R s m args below meth c bytes ret own nm mx Z n0 a0 EL sf T h cells slots) {a : Addr} {cA : ClassId} {z j : Int32} {vs : List Value} {dv v : Value} (V : Arv Z h a cA .int z vs dv) (i : Nat) (h0 : ¬ j < 0) (hj : j.toNatClampNeg = i) (hi : i < z.toNatClampNeg) (hv : vs.getD i dv = v) (hd : decode bytes pc = .ok (.iaload, 1)) (k : own_Run p e below Q m T q Ls (v :: rest)) (hq : pc + 1 = q := by rfl) : own_Run p e below Q m T pc Ls (.int j :: .ref a :: rest) := by
  obtain ⟨c, Ar, q1, S, q3, H, G⟩ := V
  have b := own_inb S h0 hj hi
  subst hj
  exact own_iaload A Ar b (H.at b hv) hd k hq
theorem own_caloadv (A : own_At w p l e R s m args below meth c bytes ret own nm mx Z n0 a0 EL sf T h cells slots) {a : Addr} {cA : ClassId} {z j : Int32} {vs : List Value} {dv v : Value} (V : Arv Z h a cA .char z vs dv) (i : Nat) (h0 : ¬ j < 0) (hj : j.toNatClampNeg = i) (hi : i < z.toNatClampNeg) (hv : vs.getD i dv = v) (hd : decode bytes pc = .ok (.caload, 1)) (k : own_Run p e below Q m T q Ls (v :: rest)) (hq : pc + 1 = q := by rfl) : own_Run p e below Q m T pc Ls (.int j :: .ref a :: rest) := by
  obtain ⟨c, Ar, q1, S, q3, H, G⟩ := V
  have b := own_inb S h0 hj hi
  subst hj
  exact own_caload A Ar b (H.at b hv) hd k hq
theorem own_baloadv (A : own_At w p l e R s m args below meth c bytes ret own nm mx Z n0 a0 EL sf T h cells slots) {a : Addr} {cA : ClassId} {z j : Int32} {vs : List Value} {dv v : Value} (V : Arv Z h a cA .byte z vs dv) (i : Nat) (h0 : ¬ j < 0) (hj : j.toNatClampNeg = i) (hi : i < z.toNatClampNeg) (hv : vs.getD i dv = v) (hd : decode bytes pc = .ok (.baload, 1)) (k : own_Run p e below Q m T q Ls (v :: rest)) (hq : pc + 1 = q := by rfl) : own_Run p e below Q m T pc Ls (.int j :: .ref a :: rest) := by
  obtain ⟨c, Ar, q1, S, q3, H, G⟩ := V
  have b := own_inb S h0 hj hi
  subst hj
  exact own_baload A Ar b (H.at b hv) hd k hq
theorem own_and3 (x : Int32) : x &&& 3 = 0 ∨ x &&& 3 = 1 ∨ x &&& 3 = 2 ∨ x &&& 3 = 3 := by
  have e := c_mask x 3 2 (by decide) (by decide)
  have e4 : ((2 ^ 2 : Nat) : Int) = 4 := rfl
  rw [e4] at e
  have e0 : (0 : Int32).toInt = 0 := rfl
  have e1 : (1 : Int32).toInt = 1 := rfl
  have e2 : (2 : Int32).toInt = 2 := rfl
  have e3 : (3 : Int32).toInt = 3 := rfl
  simp only [← Int32.toInt_inj]
  omega
end OwnArr
section OwnMore
variable {w : Bool} {p : Program} {l : Launch} {e : Env} {R : Room} {s : State} {m : MethodId} {args : Array Value} {below : List Frame} {meth : Method} {c : Code} {T : State} {cells slots n0 mx : Nat} {Z : State} {a0 : Array Value} {h : Heap} {bytes : ByteArray} {ret : Option FieldType} {own nm : String} {EL : List (String × Nat)} {sf : List Addr} {Q : Outcome → State → Prop} {pc q : Nat} {Ls : Array Slot} {st rest : List Value}
theorem own_clone (A : own_At w p l e R s m args below meth c bytes ret own nm mx Z n0 a0 EL sf T h cells slots) {i W cap : Nat} {ad : String} {a : Addr} {cA : ClassId} {ty : FieldType} {z : Int32} {vs : List Value} {dv : Value} (w1 : (Jvm.Cond.methodLink own i ⟨ad, "clone", "()Ljava/lang/Object;"⟩).before a0 Z = true) (w2 : (Jvm.Cond.sameMethod ad "java/lang/Object" "clone" "()Ljava/lang/Object;").before a0 Z = true) (w3 : (Jvm.Cond.native ⟨"java/lang/Object", "clone", "()Ljava/lang/Object;"⟩).before a0 Z = true)
    (w4 : (Jvm.Cond.instanceMethod ⟨"java/lang/Object", "clone", "()Ljava/lang/Object;"⟩).before a0 Z = true) (w5 : (Jvm.Cond.selects ad ⟨ad, "clone", "()Ljava/lang/Object;"⟩ ⟨"java/lang/Object", "clone", "()Ljava/lang/Object;"⟩).before a0 Z = true) (w6 : (Jvm.Cond.castable ad "java/lang/Cloneable").before a0 Z = true)
    (V : Arv Z h a cA ty z vs dv) (E : Exa Z h a ad) (hsz : Ls.size = mx) (hd : decode bytes pc = .ok (.invokevirtual i, 3)) (hf : 1 ≤ R.frames) (hW : (rest.map fun v => v.category).sum ≤ W) (hl : W + 14 ≤ R.locals) (hcap : z.toNatClampNeg ≤ cap) (hc : cells + 1 ≤ R.cells) (hs : slots + cap ≤ R.slots)
    (k : ∀ T' h' b, h.size = b → n0 ≤ b → own_At w p l e R s m args below meth c bytes ret own nm mx Z n0 a0 EL (b :: sf) T' h' (cells + 1) (slots + cap) → Ext h h' → Arv Z h' b cA ty z vs dv → Exa Z h' b ad → own_Run p e below Q m T' q Ls (.ref b :: rest)) (hq : pc + 3 = q := by rfl) : own_Run p e below Q m T pc Ls (.ref a :: rest) := by
  have g0 := A.fr
  obtain ⟨⟨hx, hby, r1, r2, r3, r4⟩, vm0, locs, X, B, hZ, hown, hT, N, Od, hEL, Ch, Sf⟩ := A
  subst hby hq
  obtain ⟨T', h', X', e', E1, V', E', st'⟩ := cloneH X hx (s := s.setVm vm0) hZ hown w1 w2 w3 w4 w5 w6 hT V.arh E (g := mkF m pc Ls (.ref a :: rest)) rfl (hsz.trans r4.symm) rfl hd hf (W := W) (by show 2 * 0 + _ ≤ _; rw [Nat.mul_zero, Nat.zero_add]; exact hW) hl hcap hc hs
  exact own_by st' (k T' h' h.size rfl g0 ⟨⟨hx, rfl, r1, r2, r3, r4⟩, vm0, _, X', B.le E1.1, hZ, hown, e', N, Od.ext E1, hEL, Ch.trans (CHr.ext E1 Ch.1), Sf.new Ch.1 E1 E'.lt⟩ E1 V' E')
theorem own_cast (A : own_At w p l e R s m args below meth c bytes ret own nm mx Z n0 a0 EL sf T h cells slots) {i : Nat} {K : String} {a : Addr} (w1 : (Jvm.Cond.classLink own i K).before a0 Z = true) (I : Ins Z h a K true) (hd : decode bytes pc = .ok (.checkcast i, 3)) (k : ∀ T', own_At w p l e R s m args below meth c bytes ret own nm mx Z n0 a0 EL sf T' h cells slots → own_Run p e below Q m T' q Ls (.ref a :: rest)) (hq : pc + 3 = q := by rfl) : own_Run p e below Q m T pc Ls (.ref a :: rest) := by
  obtain ⟨⟨hx, hby, r⟩, vm0, locs, X, B, hZ, hown, hT, N, Od, hEL, Ch, Sf⟩ := A
  subst hby hq
  obtain ⟨T', X', e', st'⟩ := castY X hx (s := s.setVm vm0) hZ hown w1 hT I (g := mkF m pc Ls (.ref a :: rest)) rfl rfl hd
  exact own_by st' (k T' ⟨⟨hx, rfl, r⟩, vm0, locs, X', B, hZ, hown, e', N, Od, hEL, Ch, Sf⟩)
theorem own_inst (A : own_At w p l e R s m args below meth c bytes ret own nm mx Z n0 a0 EL sf T h cells slots) {i : Nat} {K : String} {a : Addr} (w1 : (Jvm.Cond.classLink own i K).before a0 Z = true) (I : Ins Z h a K true) (hd : decode bytes pc = .ok (.instanceof i, 3)) (k : ∀ T', own_At w p l e R s m args below meth c bytes ret own nm mx Z n0 a0 EL sf T' h cells slots → own_Run p e below Q m T' q Ls (.int 1 :: rest)) (hq : pc + 3 = q := by rfl) : own_Run p e below Q m T pc Ls (.ref a :: rest) := by
  obtain ⟨⟨hx, hby, r⟩, vm0, locs, X, B, hZ, hown, hT, N, Od, hEL, Ch, Sf⟩ := A
  subst hby hq
  obtain ⟨T', X', e', st'⟩ := instY X hx (s := s.setVm vm0) hZ hown w1 hT I (g := mkF m pc Ls (.ref a :: rest)) rfl rfl hd
  exact own_by st' (k T' ⟨⟨hx, rfl, r⟩, vm0, locs, X', B, hZ, hown, e', N, Od, hEL, Ch, Sf⟩)
end OwnMore
section OwnStr
variable {w : Bool} {p : Program} {l : Launch} {e : Env} {R : Room} {s : State} {m : MethodId} {args : Array Value} {below : List Frame} {meth : Method} {c : Code} {T : State} {cells slots n0 mx : Nat} {Z : State} {a0 : Array Value} {h : Heap} {bytes : ByteArray} {ret : Option FieldType} {own nm : String} {EL : List (String × Nat)} {sf : List Addr} {Q : Outcome → State → Prop} {pc q : Nat} {Ls : Array Slot} {st rest : List Value}
theorem own_payV {len W kI : Nat} (hws : ∀ d ∈ StrChars.Road.words, d.before a0 Z = true) (wi : (Jvm.Cond.instantiable "java/lang/String" kI).before a0 Z = true) {x b : Addr} {kC : ClassId} {cs bs : List Int32} {d v0 c0 : Value} {N : Int32} {n : Nat} (O : Old Z n0 h) (hx0 : n0 ≤ x) (E : Exa Z h x "java/lang/String") (V : Fld Z h x "java/lang/String" "value" "[B" v0) (C : Fld Z h x "java/lang/String" "coder" "B" c0) (K : Arv Z h b kC .char N (cs.map Value.int) d) {zc : Int32} (SC : Sta Z Z.heap "java/lang/String" "COMPACT_STRINGS" "Z" (.int zc)) (hz : ¬ zc = 0)
    (hn : cs.length = n) (hN : N = Int32.ofNat n) (l0 : 0 < n) (l2 : n ≤ 4000) (hp : ∀ c ∈ cs, ¬ c < 0 ∧ ¬ (255 : Int32) < c) (hb : bs = cs.map (fun c => c.toInt8.toInt32)) (hfr : 4 ≤ R.frames) (hlo : W + 65 ≤ R.locals) :
    own_Pays l R p e below s args Z n0 EL [x] (⟨"java/lang/String", "<init>", "([C)V"⟩ : MethodName) len W 1 n #[.ref x, .ref b] h (fun v h' => v = none ∧ Keep h h' [x] ∧ Exa Z h' x "java/lang/String" ∧ Fld Z h' x "java/lang/String" "coder" "B" (.int 0) ∧ ∃ (t : Addr) (kb : ClassId), n0 ≤ t ∧ h.size ≤ t ∧ Fld Z h' x "java/lang/String" "value" "[B" (.ref t) ∧ Arv Z h' t kb .byte N (bs.map Value.int) (.int 0)) := fun vm0 hZ =>
  Back.mono (StrChars.Road.backV (s := s.setVm vm0) hZ hws wi hx0 (O.1 ▸ O.2.1) E V C K (SC.ext O.2) hz hn hN l0 l2 hp hb hfr hlo) (fun _ _ z => z) (fun A a v B hp ⟨L, ⟨q1, q2, q3, q4, q5, t, kb, r1, r2, r3, r4, r5⟩, l1, l2, l3⟩ => ⟨L, ⟨⟨q1, q3, q4, q5, t, kb, r1, r2, r4, r5⟩, q2, O.keep q3 (allS hx0 all0), q3.1, Or.inr q3⟩, l1, l2, l3⟩)
theorem own_payEq {len W kI : Nat} (hws : ∀ d ∈ StrChars.Road.wordsEq, d.before a0 Z = true) (wi : (Jvm.Cond.instantiable "java/lang/String" kI).before a0 Z = true) {x1 t1 : Addr} {kb1 : ClassId} {cs1 : List Int32} {cd1 N1 : Int32} {vs1 : List Value} {x2 t2 : Addr} {kb2 : ClassId} {cs2 : List Int32} {cd2 N2 : Int32} {vs2 : List Value} (O : Old Z n0 h) (E1 : Exa Z h x1 "java/lang/String") (V1 : Fld Z h x1 "java/lang/String" "value" "[B" (.ref t1)) (C1 : Fld Z h x1 "java/lang/String" "coder" "B" (.int cd1)) (K1 : Arv Z h t1 kb1 .byte N1 vs1 (.int 0)) (hc1 : StrChars.Road.CodA cs1 cd1 N1 vs1) (hb1 : ∀ c ∈ cs1, ¬ c < 0 ∧ ¬ (65535 : Int32) < c) (l21 : cs1.length ≤ 4000) (E2 : Exa Z h x2 "java/lang/String") (V2 : Fld Z h x2 "java/lang/String" "value" "[B" (.ref t2)) (C2 : Fld Z h x2 "java/lang/String" "coder" "B" (.int cd2)) (K2 : Arv Z h t2 kb2 .byte N2 vs2 (.int 0)) (hc2 : StrChars.Road.CodA cs2 cd2 N2 vs2) (hb2 : ∀ c ∈ cs2, ¬ c < 0 ∧ ¬ (65535 : Int32) < c) (l22 : cs2.length ≤ 4000) {zc : Int32} (SC : Sta Z Z.heap "java/lang/String" "COMPACT_STRINGS" "Z" (.int zc)) (hz : ¬ zc = 0) (hfr : 2 ≤ R.frames) (hlo : W + 28 ≤ R.locals) :
    own_Pays l R p e below s args Z n0 EL [] (⟨"java/lang/String", "equals", "(Ljava/lang/Object;)Z"⟩ : MethodName) len W 0 0 #[.ref x1, .ref x2] h (fun v h' => ((v = some (.int 1) ∧ cs1 = cs2) ∨ (v = some (.int 0) ∧ ¬ cs1 = cs2)) ∧ h = h') := fun vm0 hZ =>
  Back.mono (StrChars.Road.eqW (s := s.setVm vm0) hZ hws wi E1 V1 C1 K1 hc1 hb1 l21 E2 V2 C2 K2 hc2 hb2 l22 (SC.ext O.2) hz hfr hlo) (fun _ _ z => z) (fun A a v B hp ⟨L, ⟨q1, q2, q3⟩, l1, l2, l3⟩ => by
    subst q2
    exact ⟨[], ⟨⟨q1, q3.symm⟩, Fr.nil _, by rw [q3]; exact O, by rw [q3]; exact Nat.le_refl _, Or.inr (by rw [q3]; exact Keep.refl _ _)⟩, l1, l2, l3⟩)
theorem own_cod (cs : List Int32) {n : Nat} {N : Int32} {vs : List Value} (hn : cs.length = n) (hb : ∀ c ∈ cs, ¬ (255 : Int32) < c) (hN : Int32.ofNat n = N) (hv : (cs.map (fun c => c.toInt8.toInt32)).map Value.int = vs) : StrChars.Road.CodA cs 0 N vs := by
  subst hN hv
  exact StrChars.Road.codOf hn hb
end OwnStr
section OwnCase
variable {args : Array Value} {s : State} {t : Term}
theorem own_ord {C n d : String} {k : Int32} {a : Addr} (ev : t.eval args s none [] s = some (.ref a)) (q : (Jvm.Cond.eq (Term.field t C n d) (Term.int k)).value args s none s [] = some true) : Fld s s.heap a C n d (.int k) := by
  obtain ⟨x, y, e1, e2, k1, k2⟩ := cmp_v (Or.inl q)
  obtain rfl : y = .int k := Option.some.inj (e2.symm.trans (Term.int_eval k))
  obtain ⟨z, rfl⟩ : ∃ z, x = .int z := k2
  obtain rfl : z = k := gotT (Cond.eq_ints e1 (Term.int_eval k)) q
  exact Fld.start ((fld_at ev).symm.trans e1)
theorem own_elem {ty : FieldType} {i k : Int32} {a : Addr} {c : Cell} (ev : t.eval args s none [] s = some (.ref a)) (Ar : Arr s s.heap a c ty) (q : (Jvm.Cond.eq (Term.elem t (Term.int i)) (Term.int k)).value args s none s [] = some true) : ¬ (i < 0 ∨ c.slots.size ≤ i.toNatClampNeg) ∧ c.slots[i.toNatClampNeg]? = some (.int k) := by
  obtain ⟨x, y, e1, e2, k1, k2⟩ := cmp_v (Or.inl q)
  obtain rfl : y = .int k := Option.some.inj (e2.symm.trans (Term.int_eval k))
  obtain ⟨z, rfl⟩ : ∃ z, x = .int z := k2
  obtain rfl : z = k := gotT (Cond.eq_ints e1 (Term.int_eval k)) q
  exact elem_in e1 ev (Term.int_eval i) Ar.1
theorem own_staI {C n d : String} {k : Int32} (q : (Jvm.Cond.eq (Term.static C n d) (Term.int k)).value args s none s [] = some true) : (Term.static C n d).eval args s none [] s = some (.int k) := by
  obtain ⟨x, y, e1, e2, k1, k2⟩ := cmp_v (Or.inl q)
  obtain rfl : y = .int k := Option.some.inj (e2.symm.trans (Term.int_eval k))
  obtain ⟨z, rfl⟩ : ∃ z, x = .int z := k2
  obtain rfl : z = k := gotT (Cond.eq_ints e1 (Term.int_eval k)) q
  exact e1
end OwnCase
section OwnCase2
variable {args : Array Value} {s : State} {t u : Term}
theorem own_eqR {r : Addr} (q : (Jvm.Cond.eq t u).value args s none s [] = some true) (eb : u.eval args s none [] s = some (.ref r)) : t.eval args s none [] s = some (.ref r) := by
  obtain ⟨x, y, e1, e2, k1, k2⟩ := cmp_v (Or.inl q)
  obtain rfl : y = .ref r := Option.some.inj (e2.symm.trans eb)
  have hx : x.isRef = true := (show (Value.ref r).isRef = true ∧ x.isRef = true from k2).2
  obtain rfl : x = .ref r := gotT (eq_R e1 e2 hx rfl) q
  exact e1
theorem own_len {ty : FieldType} {k : Int32} {a : Addr} {c : Cell} (ev : t.eval args s none [] s = some (.ref a)) (Ar : Arr s s.heap a c ty) (q : (Jvm.Cond.eq (Term.length t) (Term.int k)).value args s none s [] = some true) : c.slots.size < 2 ^ 31 ∧ c.slots.size.toInt32 = k := by
  obtain ⟨x, y, e1, e2, k1, k2⟩ := cmp_v (Or.inl q)
  have ha : s.arrayAt? a = some c := Arr.fin (Vm.Alike.refl _) Ar
  have hl : c.slots.size < 2 ^ 31 := by
    simp only [Term.eval, ev, ha, Option.bind_eq_bind, Option.bind_some] at e1
    split at e1
    · rename_i h; exact h
    · cases e1
  exact ⟨hl, gotT (Cond.eq_ints (len_f ev ha hl) (Term.int_eval k)) q⟩
end OwnCase2
theorem own_pd0 : parseMethodDescriptor "(Ljava/lang/String;)Lcom/example/covenantry/covenantry/formula/Operator;" = some ⟨[(.object "java/lang/String")], some (.object "com/example/covenantry/covenantry/formula/Operator")⟩ := by decide +kernel
theorem own_pd1 : parseMethodDescriptor "()[Lcom/example/covenantry/covenantry/formula/Operator;" = some ⟨[], some (.array (.object "com/example/covenantry/covenantry/formula/Operator"))⟩ := by decide +kernel
theorem own_pd2 : parseMethodDescriptor "(Ljava/lang/Object;)Z" = some ⟨[(.object "java/lang/Object")], some .boolean⟩ := by decide +kernel
theorem own_pd3 : parseMethodDescriptor "([C)V" = some ⟨[(.array .char)], none⟩ := by decide +kernel
theorem d8_0 : decode prog_119_method_1_code 0 = .ok (.getstatic 16, 3) := by decide +kernel
theorem d8_3 : decode prog_119_method_1_code 3 = .ok (.invokevirtual 20, 3) := by decide +kernel
theorem d8_6 : decode prog_119_method_1_code 6 = .ok (.checkcast 21, 3) := by decide +kernel
theorem d8_9 : decode prog_119_method_1_code 9 = .ok (.areturn, 1) := by decide +kernel
theorem own_pn0 : plainName "com/example/covenantry/covenantry/formula/Operator" = true := by first | (simp [plainName, overriddenIn]; done) | decide +kernel
set_option maxRecDepth 65536 in
set_option maxHeartbeats 40000000 in
theorem rm_vals (l : Launch) (Z : State) (a0 : Array Value) (hw : ∀ d ∈ tables_1, d.before a0 Z = true) (zc : Int32) (vA o0 o1 o2 o3 s0 s1 s2 s3 t0 t1 t2 t3 : Addr) (kV k0 k1 k2 k3 : ClassId) (h0 : Heap) (n0 : Nat) (O0 : Old Z n0 h0) (SC : Sta Z Z.heap "java/lang/String" "COMPACT_STRINGS" "Z" (.int zc)) (hz : ¬ zc = 0) (SV : Sta Z Z.heap "com/example/covenantry/covenantry/formula/Operator" "$VALUES" "[Lcom/example/covenantry/covenantry/formula/Operator;" (.ref vA)) (EV : Exa Z Z.heap vA "[Lcom/example/covenantry/covenantry/formula/Operator;") (VV : Arv Z Z.heap vA kV (.object "com/example/covenantry/covenantry/formula/Operator") 4 [.ref o0, .ref o1, .ref o2, .ref o3] .null) (Sy0 : Fld Z Z.heap o0 "com/example/covenantry/covenantry/formula/Operator" "symbol" "Ljava/lang/String;" (.ref s0)) (Es0 : Exa Z Z.heap s0 "java/lang/String") (Cs0 : Fld Z Z.heap s0 "java/lang/String" "coder" "B" (.int 0)) (Vs0 : Fld Z Z.heap s0 "java/lang/String" "value" "[B" (.ref t0)) (Ks0 : Arv Z Z.heap t0 k0 .byte 1 [.int 43] (.int 0)) (Sy1 : Fld Z Z.heap o1 "com/example/covenantry/covenantry/formula/Operator" "symbol" "Ljava/lang/String;" (.ref s1)) (Es1 : Exa Z Z.heap s1 "java/lang/String") (Cs1 : Fld Z Z.heap s1 "java/lang/String" "coder" "B" (.int 0)) (Vs1 : Fld Z Z.heap s1 "java/lang/String" "value" "[B" (.ref t1)) (Ks1 : Arv Z Z.heap t1 k1 .byte 1 [.int 45] (.int 0)) (Sy2 : Fld Z Z.heap o2 "com/example/covenantry/covenantry/formula/Operator" "symbol" "Ljava/lang/String;" (.ref s2)) (Es2 : Exa Z Z.heap s2 "java/lang/String") (Cs2 : Fld Z Z.heap s2 "java/lang/String" "coder" "B" (.int 0)) (Vs2 : Fld Z Z.heap s2 "java/lang/String" "value" "[B" (.ref t2)) (Ks2 : Arv Z Z.heap t2 k2 .byte 1 [.int 42] (.int 0)) (Sy3 : Fld Z Z.heap o3 "com/example/covenantry/covenantry/formula/Operator" "symbol" "Ljava/lang/String;" (.ref s3)) (Es3 : Exa Z Z.heap s3 "java/lang/String") (Cs3 : Fld Z Z.heap s3 "java/lang/String" "coder" "B" (.int 0)) (Vs3 : Fld Z Z.heap s3 "java/lang/String" "value" "[B" (.ref t3)) (Ks3 : Arv Z Z.heap t3 k3 .byte 1 [.int 47] (.int 0)) :
    own_Met false l Z n0 [] [] (⟨"com/example/covenantry/covenantry/formula/Operator", "values", "()[Lcom/example/covenantry/covenantry/formula/Operator;"⟩ : MethodName) prog_119_method_1_code 0 (some (.array (.object "com/example/covenantry/covenantry/formula/Operator"))) [] ({ frames := 1, cells := 1, slots := 4, locals := 14 } : Room) #[] h0 (fun v h => ∃ b : Addr, v = some (.ref b) ∧ Ext h0 h ∧ Arv Z h b kV (.object "com/example/covenantry/covenantry/formula/Operator") 4 [.ref o0, .ref o1, .ref o2, .ref o3] .null) := by
  refine own_enter (a0 := a0) (own := "com/example/covenantry/covenantry/formula/Operator") (nm := "values") (Ls := #[]) own_pn0 O0 EW.nil (fun m => by first | (simp [entryFrame, mkF, argsToLocals, Value.category, maxLocals]; done) | rfl) ?_
  intro p e s m args below meth cde T0 Q hQ A0
  show own_Run p e below Q m T0 0 #[] []
  refine own_getS (q := 3) A0 (hw _ (List.mem_of_getElem? (i := 39) rfl)) Via.refl SV d8_0 ?_
  intro T1 A2
  refine own_clone (q := 6) (W := 0) (cap := 4) A2 (hw _ (List.mem_of_getElem? (i := 41) rfl)) (hw _ (List.mem_of_getElem? (i := 42) rfl)) (hw _ (List.mem_of_getElem? (i := 46) rfl)) (hw _ (List.mem_of_getElem? (i := 44) rfl)) (hw _ (List.mem_of_getElem? (i := 45) rfl)) (hw _ (List.mem_of_getElem? (i := 47) rfl)) (VV.ext A2.old.2) (EV.ext A2.old.2) rfl d8_3 (by decide) (Nat.le_of_eq rfl) (by decide) (by decide) (by decide) (by decide) ?_
  intro T3 h4 b5 g6 g7 A8 E9 V10 X11
  refine own_cast (q := 9) A8 (hw _ (List.mem_of_getElem? (i := 49) rfl)) (Ins.self X11) d8_6 ?_
  intro T12 A13
  exact own_retA A13 hQ rfl rfl rfl d8_9 ⟨b5, rfl, E9, V10⟩
theorem d7_0 : decode prog_119_method_4_code 0 = .ok (.invokestatic 39, 3) := by decide +kernel
theorem d7_3 : decode prog_119_method_4_code 3 = .ok (.astore_n 1, 1) := by decide +kernel
theorem d7_4 : decode prog_119_method_4_code 4 = .ok (.aload_n 1, 1) := by decide +kernel
theorem d7_5 : decode prog_119_method_4_code 5 = .ok (.arraylength, 1) := by decide +kernel
theorem d7_6 : decode prog_119_method_4_code 6 = .ok (.istore_n 2, 1) := by decide +kernel
theorem d7_7 : decode prog_119_method_4_code 7 = .ok (.iconst 0, 1) := by decide +kernel
theorem d7_8 : decode prog_119_method_4_code 8 = .ok (.istore_n 3, 1) := by decide +kernel
theorem d7_9 : decode prog_119_method_4_code 9 = .ok (.iload_n 3, 1) := by decide +kernel
theorem d7_10 : decode prog_119_method_4_code 10 = .ok (.iload_n 2, 1) := by decide +kernel
theorem d7_11 : decode prog_119_method_4_code 11 = .ok (.if_icmp .ge 29, 3) := by decide +kernel
theorem d7_14 : decode prog_119_method_4_code 14 = .ok (.aload_n 1, 1) := by decide +kernel
theorem d7_15 : decode prog_119_method_4_code 15 = .ok (.iload_n 3, 1) := by decide +kernel
theorem d7_16 : decode prog_119_method_4_code 16 = .ok (.aaload, 1) := by decide +kernel
theorem d7_17 : decode prog_119_method_4_code 17 = .ok (.astore 4, 2) := by decide +kernel
theorem d7_19 : decode prog_119_method_4_code 19 = .ok (.aload 4, 2) := by decide +kernel
theorem d7_21 : decode prog_119_method_4_code 21 = .ok (.getfield 35, 3) := by decide +kernel
theorem d7_24 : decode prog_119_method_4_code 24 = .ok (.aload_n 0, 1) := by decide +kernel
theorem d7_25 : decode prog_119_method_4_code 25 = .ok (.invokevirtual 43, 3) := by decide +kernel
theorem d7_28 : decode prog_119_method_4_code 28 = .ok (.ifCond .eq 6, 3) := by decide +kernel
theorem d7_31 : decode prog_119_method_4_code 31 = .ok (.aload 4, 2) := by decide +kernel
theorem d7_33 : decode prog_119_method_4_code 33 = .ok (.areturn, 1) := by decide +kernel
theorem d7_34 : decode prog_119_method_4_code 34 = .ok (.iinc 3 1, 3) := by decide +kernel
theorem d7_37 : decode prog_119_method_4_code 37 = .ok (.goto (-28), 3) := by decide +kernel
theorem d7_40 : decode prog_119_method_4_code 40 = .ok (.new 49, 3) := by decide +kernel
theorem d7_43 : decode prog_119_method_4_code 43 = .ok (.dup, 1) := by decide +kernel
theorem d7_44 : decode prog_119_method_4_code 44 = .ok (.aload_n 0, 1) := by decide +kernel
theorem d7_45 : decode prog_119_method_4_code 45 = .ok (.invokedynamic 51, 5) := by decide +kernel
theorem d7_50 : decode prog_119_method_4_code 50 = .ok (.invokespecial 55, 3) := by decide +kernel
theorem d7_53 : decode prog_119_method_4_code 53 = .ok (.athrow, 1) := by decide +kernel
set_option maxRecDepth 65536 in
set_option maxHeartbeats 40000000 in
theorem rm_of0 (l : Launch) (Z : State) (a0 : Array Value) (hw : ∀ d ∈ tables_1, d.before a0 Z = true) (zc : Int32) (vA o0 o1 o2 o3 s0 s1 s2 s3 t0 t1 t2 t3 : Addr) (kV k0 k1 k2 k3 : ClassId) (a t : Addr) (kt : ClassId) (h0 : Heap) (n0 : Nat) (O0 : Old Z n0 h0) (SC : Sta Z Z.heap "java/lang/String" "COMPACT_STRINGS" "Z" (.int zc)) (hz : ¬ zc = 0) (SV : Sta Z Z.heap "com/example/covenantry/covenantry/formula/Operator" "$VALUES" "[Lcom/example/covenantry/covenantry/formula/Operator;" (.ref vA)) (EV : Exa Z Z.heap vA "[Lcom/example/covenantry/covenantry/formula/Operator;") (VV : Arv Z Z.heap vA kV (.object "com/example/covenantry/covenantry/formula/Operator") 4 [.ref o0, .ref o1, .ref o2, .ref o3] .null) (Sy0 : Fld Z Z.heap o0 "com/example/covenantry/covenantry/formula/Operator" "symbol" "Ljava/lang/String;" (.ref s0)) (Es0 : Exa Z Z.heap s0 "java/lang/String") (Cs0 : Fld Z Z.heap s0 "java/lang/String" "coder" "B" (.int 0)) (Vs0 : Fld Z Z.heap s0 "java/lang/String" "value" "[B" (.ref t0)) (Ks0 : Arv Z Z.heap t0 k0 .byte 1 [.int 43] (.int 0)) (Sy1 : Fld Z Z.heap o1 "com/example/covenantry/covenantry/formula/Operator" "symbol" "Ljava/lang/String;" (.ref s1)) (Es1 : Exa Z Z.heap s1 "java/lang/String") (Cs1 : Fld Z Z.heap s1 "java/lang/String" "coder" "B" (.int 0)) (Vs1 : Fld Z Z.heap s1 "java/lang/String" "value" "[B" (.ref t1)) (Ks1 : Arv Z Z.heap t1 k1 .byte 1 [.int 45] (.int 0)) (Sy2 : Fld Z Z.heap o2 "com/example/covenantry/covenantry/formula/Operator" "symbol" "Ljava/lang/String;" (.ref s2)) (Es2 : Exa Z Z.heap s2 "java/lang/String") (Cs2 : Fld Z Z.heap s2 "java/lang/String" "coder" "B" (.int 0)) (Vs2 : Fld Z Z.heap s2 "java/lang/String" "value" "[B" (.ref t2)) (Ks2 : Arv Z Z.heap t2 k2 .byte 1 [.int 42] (.int 0)) (Sy3 : Fld Z Z.heap o3 "com/example/covenantry/covenantry/formula/Operator" "symbol" "Ljava/lang/String;" (.ref s3)) (Es3 : Exa Z Z.heap s3 "java/lang/String") (Cs3 : Fld Z Z.heap s3 "java/lang/String" "coder" "B" (.int 0)) (Vs3 : Fld Z Z.heap s3 "java/lang/String" "value" "[B" (.ref t3)) (Ks3 : Arv Z Z.heap t3 k3 .byte 1 [.int 47] (.int 0)) (Ea : Exa Z h0 a "java/lang/String") (Va : Fld Z h0 a "java/lang/String" "value" "[B" (.ref t)) (Ca : Fld Z h0 a "java/lang/String" "coder" "B" (.int 0)) (Ka : Arv Z h0 t kt .byte 1 [.int 43] (.int 0)) :
    own_Met false l Z n0 [] [] (⟨"com/example/covenantry/covenantry/formula/Operator", "of", "(Ljava/lang/String;)Lcom/example/covenantry/covenantry/formula/Operator;"⟩ : MethodName) prog_119_method_4_code 5 (some (.object "com/example/covenantry/covenantry/formula/Operator")) [] ({ frames := 2, cells := 1, slots := 4, locals := 28 } : Room) #[(.ref a)] h0 (fun v _ => v = some (.ref o0)) := by
  refine own_enter (a0 := a0) (own := "com/example/covenantry/covenantry/formula/Operator") (nm := "of") (Ls := #[.val (.ref a), .unset, .unset, .unset, .unset]) own_pn0 O0 EW.nil (fun m => by first | (simp [entryFrame, mkF, argsToLocals, Value.category, maxLocals]; done) | rfl) ?_
  intro p e s m args below meth cde T0 Q hQ A0
  show own_Run p e below Q m T0 0 #[.val (.ref a), .unset, .unset, .unset, .unset] []
  refine own_static (q := 3) (W := 0) (argsL := []) (rest := []) A0 (hw _ (List.mem_of_getElem? (i := 36) rfl)) (hw _ (List.mem_of_getElem? (i := 37) rfl)) (hw _ (List.mem_of_getElem? (i := 1) rfl)) (hw _ (List.mem_of_getElem? (i := 38) rfl)) (by decide) (own_pay (rm_vals l Z a0 hw zc vA o0 o1 o2 o3 s0 s1 s2 s3 t0 t1 t2 t3 kV k0 k1 k2 k3 h0 n0 A0.old SC hz SV EV VV Sy0 Es0 Cs0 Vs0 Ks0 Sy1 Es1 Cs1 Vs1 Ks1 Sy2 Es2 Cs2 Vs2 Ks2 Sy3 Es3 Cs3 Vs3 Ks3 ) (hw _ (List.mem_of_getElem? (i := 38) rfl)) (hw _ (List.mem_of_getElem? (i := 1) rfl)) (by decide) (by decide)) (fun _ z => nomatch z) (Nat.le_of_eq rfl) own_pd1 rfl rfl rfl d7_0 (by decide) (by decide) ?_
  rintro v4 T5 h6 A7 ⟨b1, rfl, E2, V3⟩
  show own_Run p e below Q m T5 3 #[.val (.ref a), .unset, .unset, .unset, .unset] [(.ref b1)]
  have f8 : Exa Z h6 a "java/lang/String" := Ea.ext E2
  have f9 : Fld Z h6 a "java/lang/String" "value" "[B" (.ref t) := Va.ext E2
  have f10 : Fld Z h6 a "java/lang/String" "coder" "B" (.int (0 : Int32)) := Ca.ext E2
  have f11 : Arv Z h6 t kt .byte (1 : Int32) [(.int (43 : Int32))] (.int 0) := Ka.ext E2
  refine own_astoreN (q := 4) (L' := #[.val (.ref a), .val (.ref b1), .unset, .unset, .unset]) A7 d7_3 rfl rfl ?_
  refine own_aloadN (q := 5) (v := (.ref b1)) A7 d7_4 rfl rfl ?_
  refine own_arrlenv (q := 6) A7 V3 d7_5 ?_
  refine own_istoreN (q := 7) (L' := #[.val (.ref a), .val (.ref b1), .val (.int (4 : Int32)), .unset, .unset]) A7 d7_6 rfl ?_
  refine own_iconst (q := 8) A7 (0 : Int32) d7_7 rfl ?_
  refine own_istoreN (q := 9) (L' := #[.val (.ref a), .val (.ref b1), .val (.int (4 : Int32)), .val (.int (0 : Int32)), .unset]) A7 d7_8 rfl ?_
  refine own_iloadN (q := 10) (v := (0 : Int32)) A7 d7_9 rfl ?_
  refine own_iloadN (q := 11) (v := (4 : Int32)) A7 d7_10 rfl ?_
  refine own_icmpF (q := 14) A7 d7_11 (show (0 : Int32) < (4 : Int32) from by decide) ?_
  refine own_aloadN (q := 15) (v := (.ref b1)) A7 d7_14 rfl rfl ?_
  refine own_iloadN (q := 16) (v := (0 : Int32)) A7 d7_15 rfl ?_
  refine own_aaloadv (q := 17) (v := (.ref o0)) A7 V3 0 (by decide) (by decide) (by decide) rfl rfl d7_16 ?_
  refine own_astore (q := 19) (L' := #[.val (.ref a), .val (.ref b1), .val (.int (4 : Int32)), .val (.int (0 : Int32)), .val (.ref o0)]) A7 d7_17 rfl rfl ?_
  refine own_aload (q := 21) (v := (.ref o0)) A7 d7_19 rfl rfl ?_
  refine own_getF (host := "") (q := 24) A7 (Or.inl (hw _ (List.mem_of_getElem? (i := 51) rfl))) Via.refl (Sy0.ext A7.old.2) d7_21 ?_
  intro T12 A13
  refine own_aloadN (q := 25) (v := (.ref a)) A13 d7_24 rfl rfl ?_
  refine own_virtual (q := 28) (W := 0) (argsL := [(.ref a)]) (rest := []) A13 (hw _ (List.mem_of_getElem? (i := 53) rfl)) (hw _ (List.mem_of_getElem? (i := 54) rfl)) (hw _ (List.mem_of_getElem? (i := 56) rfl)) (hw _ (List.mem_of_getElem? (i := 55) rfl)) (by decide) (own_payEq (cs1 := [43]) (cs2 := [43]) (kI := 4) (fun d hd => hw d ((by decide +kernel : ∀ d ∈ StrChars.Road.wordsEq, d ∈ tables_1) d hd)) (hw _ (List.mem_of_getElem? (i := 4) rfl)) A13.old (Es0.ext A13.old.2) (Vs0.ext A13.old.2) (Cs0.ext A13.old.2) (Ks0.ext A13.old.2) (own_cod [43] (n := 1) rfl (by decide) rfl rfl) (by decide) (by decide) f8 f9 f10 f11 (own_cod [43] (n := 1) rfl (by decide) rfl rfl) (by decide) (by decide) SC hz (by decide) (by decide)) (fun _ z => nomatch z) (Nat.le_of_eq rfl) (Es0.ext A13.old.2) own_pd2 rfl rfl rfl d7_25 (by decide) (by decide) ?_
  rintro v15 T16 h17 A18 ⟨⟨rfl, q14⟩ | ⟨rfl, q14⟩, rfl⟩
  rotate_left
  · exact absurd q14 (by decide)
  show own_Run p e below Q m T16 28 #[.val (.ref a), .val (.ref b1), .val (.int (4 : Int32)), .val (.int (0 : Int32)), .val (.ref o0)] [(.int (1 : Int32))]
  refine own_ifcF (q := 31) A18 d7_28 (show ¬ (1 : Int32) = 0 from by decide) ?_
  refine own_aload (q := 33) (v := (.ref o0)) A18 d7_31 rfl rfl ?_
  exact own_retA A18 hQ rfl rfl rfl d7_33 rfl
set_option maxRecDepth 65536 in
set_option maxHeartbeats 40000000 in
theorem rm_of1 (l : Launch) (Z : State) (a0 : Array Value) (hw : ∀ d ∈ tables_1, d.before a0 Z = true) (zc : Int32) (vA o0 o1 o2 o3 s0 s1 s2 s3 t0 t1 t2 t3 : Addr) (kV k0 k1 k2 k3 : ClassId) (a t : Addr) (kt : ClassId) (h0 : Heap) (n0 : Nat) (O0 : Old Z n0 h0) (SC : Sta Z Z.heap "java/lang/String" "COMPACT_STRINGS" "Z" (.int zc)) (hz : ¬ zc = 0) (SV : Sta Z Z.heap "com/example/covenantry/covenantry/formula/Operator" "$VALUES" "[Lcom/example/covenantry/covenantry/formula/Operator;" (.ref vA)) (EV : Exa Z Z.heap vA "[Lcom/example/covenantry/covenantry/formula/Operator;") (VV : Arv Z Z.heap vA kV (.object "com/example/covenantry/covenantry/formula/Operator") 4 [.ref o0, .ref o1, .ref o2, .ref o3] .null) (Sy0 : Fld Z Z.heap o0 "com/example/covenantry/covenantry/formula/Operator" "symbol" "Ljava/lang/String;" (.ref s0)) (Es0 : Exa Z Z.heap s0 "java/lang/String") (Cs0 : Fld Z Z.heap s0 "java/lang/String" "coder" "B" (.int 0)) (Vs0 : Fld Z Z.heap s0 "java/lang/String" "value" "[B" (.ref t0)) (Ks0 : Arv Z Z.heap t0 k0 .byte 1 [.int 43] (.int 0)) (Sy1 : Fld Z Z.heap o1 "com/example/covenantry/covenantry/formula/Operator" "symbol" "Ljava/lang/String;" (.ref s1)) (Es1 : Exa Z Z.heap s1 "java/lang/String") (Cs1 : Fld Z Z.heap s1 "java/lang/String" "coder" "B" (.int 0)) (Vs1 : Fld Z Z.heap s1 "java/lang/String" "value" "[B" (.ref t1)) (Ks1 : Arv Z Z.heap t1 k1 .byte 1 [.int 45] (.int 0)) (Sy2 : Fld Z Z.heap o2 "com/example/covenantry/covenantry/formula/Operator" "symbol" "Ljava/lang/String;" (.ref s2)) (Es2 : Exa Z Z.heap s2 "java/lang/String") (Cs2 : Fld Z Z.heap s2 "java/lang/String" "coder" "B" (.int 0)) (Vs2 : Fld Z Z.heap s2 "java/lang/String" "value" "[B" (.ref t2)) (Ks2 : Arv Z Z.heap t2 k2 .byte 1 [.int 42] (.int 0)) (Sy3 : Fld Z Z.heap o3 "com/example/covenantry/covenantry/formula/Operator" "symbol" "Ljava/lang/String;" (.ref s3)) (Es3 : Exa Z Z.heap s3 "java/lang/String") (Cs3 : Fld Z Z.heap s3 "java/lang/String" "coder" "B" (.int 0)) (Vs3 : Fld Z Z.heap s3 "java/lang/String" "value" "[B" (.ref t3)) (Ks3 : Arv Z Z.heap t3 k3 .byte 1 [.int 47] (.int 0)) (Ea : Exa Z h0 a "java/lang/String") (Va : Fld Z h0 a "java/lang/String" "value" "[B" (.ref t)) (Ca : Fld Z h0 a "java/lang/String" "coder" "B" (.int 0)) (Ka : Arv Z h0 t kt .byte 1 [.int 45] (.int 0)) :
    own_Met false l Z n0 [] [] (⟨"com/example/covenantry/covenantry/formula/Operator", "of", "(Ljava/lang/String;)Lcom/example/covenantry/covenantry/formula/Operator;"⟩ : MethodName) prog_119_method_4_code 5 (some (.object "com/example/covenantry/covenantry/formula/Operator")) [] ({ frames := 2, cells := 1, slots := 4, locals := 28 } : Room) #[(.ref a)] h0 (fun v _ => v = some (.ref o1)) := by
  refine own_enter (a0 := a0) (own := "com/example/covenantry/covenantry/formula/Operator") (nm := "of") (Ls := #[.val (.ref a), .unset, .unset, .unset, .unset]) own_pn0 O0 EW.nil (fun m => by first | (simp [entryFrame, mkF, argsToLocals, Value.category, maxLocals]; done) | rfl) ?_
  intro p e s m args below meth cde T0 Q hQ A0
  show own_Run p e below Q m T0 0 #[.val (.ref a), .unset, .unset, .unset, .unset] []
  refine own_static (q := 3) (W := 0) (argsL := []) (rest := []) A0 (hw _ (List.mem_of_getElem? (i := 36) rfl)) (hw _ (List.mem_of_getElem? (i := 37) rfl)) (hw _ (List.mem_of_getElem? (i := 1) rfl)) (hw _ (List.mem_of_getElem? (i := 38) rfl)) (by decide) (own_pay (rm_vals l Z a0 hw zc vA o0 o1 o2 o3 s0 s1 s2 s3 t0 t1 t2 t3 kV k0 k1 k2 k3 h0 n0 A0.old SC hz SV EV VV Sy0 Es0 Cs0 Vs0 Ks0 Sy1 Es1 Cs1 Vs1 Ks1 Sy2 Es2 Cs2 Vs2 Ks2 Sy3 Es3 Cs3 Vs3 Ks3 ) (hw _ (List.mem_of_getElem? (i := 38) rfl)) (hw _ (List.mem_of_getElem? (i := 1) rfl)) (by decide) (by decide)) (fun _ z => nomatch z) (Nat.le_of_eq rfl) own_pd1 rfl rfl rfl d7_0 (by decide) (by decide) ?_
  rintro v4 T5 h6 A7 ⟨b1, rfl, E2, V3⟩
  show own_Run p e below Q m T5 3 #[.val (.ref a), .unset, .unset, .unset, .unset] [(.ref b1)]
  have f8 : Exa Z h6 a "java/lang/String" := Ea.ext E2
  have f9 : Fld Z h6 a "java/lang/String" "value" "[B" (.ref t) := Va.ext E2
  have f10 : Fld Z h6 a "java/lang/String" "coder" "B" (.int (0 : Int32)) := Ca.ext E2
  have f11 : Arv Z h6 t kt .byte (1 : Int32) [(.int (45 : Int32))] (.int 0) := Ka.ext E2
  refine own_astoreN (q := 4) (L' := #[.val (.ref a), .val (.ref b1), .unset, .unset, .unset]) A7 d7_3 rfl rfl ?_
  refine own_aloadN (q := 5) (v := (.ref b1)) A7 d7_4 rfl rfl ?_
  refine own_arrlenv (q := 6) A7 V3 d7_5 ?_
  refine own_istoreN (q := 7) (L' := #[.val (.ref a), .val (.ref b1), .val (.int (4 : Int32)), .unset, .unset]) A7 d7_6 rfl ?_
  refine own_iconst (q := 8) A7 (0 : Int32) d7_7 rfl ?_
  refine own_istoreN (q := 9) (L' := #[.val (.ref a), .val (.ref b1), .val (.int (4 : Int32)), .val (.int (0 : Int32)), .unset]) A7 d7_8 rfl ?_
  refine own_iloadN (q := 10) (v := (0 : Int32)) A7 d7_9 rfl ?_
  refine own_iloadN (q := 11) (v := (4 : Int32)) A7 d7_10 rfl ?_
  refine own_icmpF (q := 14) A7 d7_11 (show (0 : Int32) < (4 : Int32) from by decide) ?_
  refine own_aloadN (q := 15) (v := (.ref b1)) A7 d7_14 rfl rfl ?_
  refine own_iloadN (q := 16) (v := (0 : Int32)) A7 d7_15 rfl ?_
  refine own_aaloadv (q := 17) (v := (.ref o0)) A7 V3 0 (by decide) (by decide) (by decide) rfl rfl d7_16 ?_
  refine own_astore (q := 19) (L' := #[.val (.ref a), .val (.ref b1), .val (.int (4 : Int32)), .val (.int (0 : Int32)), .val (.ref o0)]) A7 d7_17 rfl rfl ?_
  refine own_aload (q := 21) (v := (.ref o0)) A7 d7_19 rfl rfl ?_
  refine own_getF (host := "") (q := 24) A7 (Or.inl (hw _ (List.mem_of_getElem? (i := 51) rfl))) Via.refl (Sy0.ext A7.old.2) d7_21 ?_
  intro T12 A13
  refine own_aloadN (q := 25) (v := (.ref a)) A13 d7_24 rfl rfl ?_
  refine own_virtual (q := 28) (W := 0) (argsL := [(.ref a)]) (rest := []) A13 (hw _ (List.mem_of_getElem? (i := 53) rfl)) (hw _ (List.mem_of_getElem? (i := 54) rfl)) (hw _ (List.mem_of_getElem? (i := 56) rfl)) (hw _ (List.mem_of_getElem? (i := 55) rfl)) (by decide) (own_payEq (cs1 := [43]) (cs2 := [45]) (kI := 4) (fun d hd => hw d ((by decide +kernel : ∀ d ∈ StrChars.Road.wordsEq, d ∈ tables_1) d hd)) (hw _ (List.mem_of_getElem? (i := 4) rfl)) A13.old (Es0.ext A13.old.2) (Vs0.ext A13.old.2) (Cs0.ext A13.old.2) (Ks0.ext A13.old.2) (own_cod [43] (n := 1) rfl (by decide) rfl rfl) (by decide) (by decide) f8 f9 f10 f11 (own_cod [45] (n := 1) rfl (by decide) rfl rfl) (by decide) (by decide) SC hz (by decide) (by decide)) (fun _ z => nomatch z) (Nat.le_of_eq rfl) (Es0.ext A13.old.2) own_pd2 rfl rfl rfl d7_25 (by decide) (by decide) ?_
  rintro v15 T16 h17 A18 ⟨⟨rfl, q14⟩ | ⟨rfl, q14⟩, rfl⟩
  · exact absurd q14 (by decide)
  show own_Run p e below Q m T16 28 #[.val (.ref a), .val (.ref b1), .val (.int (4 : Int32)), .val (.int (0 : Int32)), .val (.ref o0)] [(.int (0 : Int32))]
  refine own_ifcT (q := 34) A18 d7_28 (show (0 : Int32) = 0 from rfl) ?_
  refine own_iinc (q := 37) (v := (1 : Int32)) (L' := #[.val (.ref a), .val (.ref b1), .val (.int (4 : Int32)), .val (.int ((0 : Int32) + (1 : Int32))), .val (.ref o0)]) A18 d7_34 rfl rfl rfl ?_
  refine own_goto (q := 9) A18 d7_37 ?_
  refine own_iloadN (q := 10) (v := ((0 : Int32) + (1 : Int32))) A18 d7_9 rfl ?_
  refine own_iloadN (q := 11) (v := (4 : Int32)) A18 d7_10 rfl ?_
  refine own_icmpF (q := 14) A18 d7_11 (show ((0 : Int32) + (1 : Int32)) < (4 : Int32) from by decide) ?_
  refine own_aloadN (q := 15) (v := (.ref b1)) A18 d7_14 rfl rfl ?_
  refine own_iloadN (q := 16) (v := ((0 : Int32) + (1 : Int32))) A18 d7_15 rfl ?_
  refine own_aaloadv (q := 17) (v := (.ref o1)) A18 V3 1 (by decide) (by decide) (by decide) rfl rfl d7_16 ?_
  refine own_astore (q := 19) (L' := #[.val (.ref a), .val (.ref b1), .val (.int (4 : Int32)), .val (.int ((0 : Int32) + (1 : Int32))), .val (.ref o1)]) A18 d7_17 rfl rfl ?_
  refine own_aload (q := 21) (v := (.ref o1)) A18 d7_19 rfl rfl ?_
  refine own_getF (host := "") (q := 24) A18 (Or.inl (hw _ (List.mem_of_getElem? (i := 51) rfl))) Via.refl (Sy1.ext A18.old.2) d7_21 ?_
  intro T19 A20
  refine own_aloadN (q := 25) (v := (.ref a)) A20 d7_24 rfl rfl ?_
  refine own_virtual (q := 28) (W := 0) (argsL := [(.ref a)]) (rest := []) A20 (hw _ (List.mem_of_getElem? (i := 53) rfl)) (hw _ (List.mem_of_getElem? (i := 54) rfl)) (hw _ (List.mem_of_getElem? (i := 56) rfl)) (hw _ (List.mem_of_getElem? (i := 55) rfl)) (by decide) (own_payEq (cs1 := [45]) (cs2 := [45]) (kI := 4) (fun d hd => hw d ((by decide +kernel : ∀ d ∈ StrChars.Road.wordsEq, d ∈ tables_1) d hd)) (hw _ (List.mem_of_getElem? (i := 4) rfl)) A20.old (Es1.ext A20.old.2) (Vs1.ext A20.old.2) (Cs1.ext A20.old.2) (Ks1.ext A20.old.2) (own_cod [45] (n := 1) rfl (by decide) rfl rfl) (by decide) (by decide) f8 f9 f10 f11 (own_cod [45] (n := 1) rfl (by decide) rfl rfl) (by decide) (by decide) SC hz (by decide) (by decide)) (fun _ z => nomatch z) (Nat.le_of_eq rfl) (Es1.ext A20.old.2) own_pd2 rfl rfl rfl d7_25 (by decide) (by decide) ?_
  rintro v22 T23 h24 A25 ⟨⟨rfl, q21⟩ | ⟨rfl, q21⟩, rfl⟩
  rotate_left
  · exact absurd q21 (by decide)
  show own_Run p e below Q m T23 28 #[.val (.ref a), .val (.ref b1), .val (.int (4 : Int32)), .val (.int ((0 : Int32) + (1 : Int32))), .val (.ref o1)] [(.int (1 : Int32))]
  refine own_ifcF (q := 31) A25 d7_28 (show ¬ (1 : Int32) = 0 from by decide) ?_
  refine own_aload (q := 33) (v := (.ref o1)) A25 d7_31 rfl rfl ?_
  exact own_retA A25 hQ rfl rfl rfl d7_33 rfl
set_option maxRecDepth 65536 in
set_option maxHeartbeats 40000000 in
theorem rm_of2 (l : Launch) (Z : State) (a0 : Array Value) (hw : ∀ d ∈ tables_1, d.before a0 Z = true) (zc : Int32) (vA o0 o1 o2 o3 s0 s1 s2 s3 t0 t1 t2 t3 : Addr) (kV k0 k1 k2 k3 : ClassId) (a t : Addr) (kt : ClassId) (h0 : Heap) (n0 : Nat) (O0 : Old Z n0 h0) (SC : Sta Z Z.heap "java/lang/String" "COMPACT_STRINGS" "Z" (.int zc)) (hz : ¬ zc = 0) (SV : Sta Z Z.heap "com/example/covenantry/covenantry/formula/Operator" "$VALUES" "[Lcom/example/covenantry/covenantry/formula/Operator;" (.ref vA)) (EV : Exa Z Z.heap vA "[Lcom/example/covenantry/covenantry/formula/Operator;") (VV : Arv Z Z.heap vA kV (.object "com/example/covenantry/covenantry/formula/Operator") 4 [.ref o0, .ref o1, .ref o2, .ref o3] .null) (Sy0 : Fld Z Z.heap o0 "com/example/covenantry/covenantry/formula/Operator" "symbol" "Ljava/lang/String;" (.ref s0)) (Es0 : Exa Z Z.heap s0 "java/lang/String") (Cs0 : Fld Z Z.heap s0 "java/lang/String" "coder" "B" (.int 0)) (Vs0 : Fld Z Z.heap s0 "java/lang/String" "value" "[B" (.ref t0)) (Ks0 : Arv Z Z.heap t0 k0 .byte 1 [.int 43] (.int 0)) (Sy1 : Fld Z Z.heap o1 "com/example/covenantry/covenantry/formula/Operator" "symbol" "Ljava/lang/String;" (.ref s1)) (Es1 : Exa Z Z.heap s1 "java/lang/String") (Cs1 : Fld Z Z.heap s1 "java/lang/String" "coder" "B" (.int 0)) (Vs1 : Fld Z Z.heap s1 "java/lang/String" "value" "[B" (.ref t1)) (Ks1 : Arv Z Z.heap t1 k1 .byte 1 [.int 45] (.int 0)) (Sy2 : Fld Z Z.heap o2 "com/example/covenantry/covenantry/formula/Operator" "symbol" "Ljava/lang/String;" (.ref s2)) (Es2 : Exa Z Z.heap s2 "java/lang/String") (Cs2 : Fld Z Z.heap s2 "java/lang/String" "coder" "B" (.int 0)) (Vs2 : Fld Z Z.heap s2 "java/lang/String" "value" "[B" (.ref t2)) (Ks2 : Arv Z Z.heap t2 k2 .byte 1 [.int 42] (.int 0)) (Sy3 : Fld Z Z.heap o3 "com/example/covenantry/covenantry/formula/Operator" "symbol" "Ljava/lang/String;" (.ref s3)) (Es3 : Exa Z Z.heap s3 "java/lang/String") (Cs3 : Fld Z Z.heap s3 "java/lang/String" "coder" "B" (.int 0)) (Vs3 : Fld Z Z.heap s3 "java/lang/String" "value" "[B" (.ref t3)) (Ks3 : Arv Z Z.heap t3 k3 .byte 1 [.int 47] (.int 0)) (Ea : Exa Z h0 a "java/lang/String") (Va : Fld Z h0 a "java/lang/String" "value" "[B" (.ref t)) (Ca : Fld Z h0 a "java/lang/String" "coder" "B" (.int 0)) (Ka : Arv Z h0 t kt .byte 1 [.int 42] (.int 0)) :
    own_Met false l Z n0 [] [] (⟨"com/example/covenantry/covenantry/formula/Operator", "of", "(Ljava/lang/String;)Lcom/example/covenantry/covenantry/formula/Operator;"⟩ : MethodName) prog_119_method_4_code 5 (some (.object "com/example/covenantry/covenantry/formula/Operator")) [] ({ frames := 2, cells := 1, slots := 4, locals := 28 } : Room) #[(.ref a)] h0 (fun v _ => v = some (.ref o2)) := by
  refine own_enter (a0 := a0) (own := "com/example/covenantry/covenantry/formula/Operator") (nm := "of") (Ls := #[.val (.ref a), .unset, .unset, .unset, .unset]) own_pn0 O0 EW.nil (fun m => by first | (simp [entryFrame, mkF, argsToLocals, Value.category, maxLocals]; done) | rfl) ?_
  intro p e s m args below meth cde T0 Q hQ A0
  show own_Run p e below Q m T0 0 #[.val (.ref a), .unset, .unset, .unset, .unset] []
  refine own_static (q := 3) (W := 0) (argsL := []) (rest := []) A0 (hw _ (List.mem_of_getElem? (i := 36) rfl)) (hw _ (List.mem_of_getElem? (i := 37) rfl)) (hw _ (List.mem_of_getElem? (i := 1) rfl)) (hw _ (List.mem_of_getElem? (i := 38) rfl)) (by decide) (own_pay (rm_vals l Z a0 hw zc vA o0 o1 o2 o3 s0 s1 s2 s3 t0 t1 t2 t3 kV k0 k1 k2 k3 h0 n0 A0.old SC hz SV EV VV Sy0 Es0 Cs0 Vs0 Ks0 Sy1 Es1 Cs1 Vs1 Ks1 Sy2 Es2 Cs2 Vs2 Ks2 Sy3 Es3 Cs3 Vs3 Ks3 ) (hw _ (List.mem_of_getElem? (i := 38) rfl)) (hw _ (List.mem_of_getElem? (i := 1) rfl)) (by decide) (by decide)) (fun _ z => nomatch z) (Nat.le_of_eq rfl) own_pd1 rfl rfl rfl d7_0 (by decide) (by decide) ?_
  rintro v4 T5 h6 A7 ⟨b1, rfl, E2, V3⟩
  show own_Run p e below Q m T5 3 #[.val (.ref a), .unset, .unset, .unset, .unset] [(.ref b1)]
  have f8 : Exa Z h6 a "java/lang/String" := Ea.ext E2
  have f9 : Fld Z h6 a "java/lang/String" "value" "[B" (.ref t) := Va.ext E2
  have f10 : Fld Z h6 a "java/lang/String" "coder" "B" (.int (0 : Int32)) := Ca.ext E2
  have f11 : Arv Z h6 t kt .byte (1 : Int32) [(.int (42 : Int32))] (.int 0) := Ka.ext E2
  refine own_astoreN (q := 4) (L' := #[.val (.ref a), .val (.ref b1), .unset, .unset, .unset]) A7 d7_3 rfl rfl ?_
  refine own_aloadN (q := 5) (v := (.ref b1)) A7 d7_4 rfl rfl ?_
  refine own_arrlenv (q := 6) A7 V3 d7_5 ?_
  refine own_istoreN (q := 7) (L' := #[.val (.ref a), .val (.ref b1), .val (.int (4 : Int32)), .unset, .unset]) A7 d7_6 rfl ?_
  refine own_iconst (q := 8) A7 (0 : Int32) d7_7 rfl ?_
  refine own_istoreN (q := 9) (L' := #[.val (.ref a), .val (.ref b1), .val (.int (4 : Int32)), .val (.int (0 : Int32)), .unset]) A7 d7_8 rfl ?_
  refine own_iloadN (q := 10) (v := (0 : Int32)) A7 d7_9 rfl ?_
  refine own_iloadN (q := 11) (v := (4 : Int32)) A7 d7_10 rfl ?_
  refine own_icmpF (q := 14) A7 d7_11 (show (0 : Int32) < (4 : Int32) from by decide) ?_
  refine own_aloadN (q := 15) (v := (.ref b1)) A7 d7_14 rfl rfl ?_
  refine own_iloadN (q := 16) (v := (0 : Int32)) A7 d7_15 rfl ?_
  refine own_aaloadv (q := 17) (v := (.ref o0)) A7 V3 0 (by decide) (by decide) (by decide) rfl rfl d7_16 ?_
  refine own_astore (q := 19) (L' := #[.val (.ref a), .val (.ref b1), .val (.int (4 : Int32)), .val (.int (0 : Int32)), .val (.ref o0)]) A7 d7_17 rfl rfl ?_
  refine own_aload (q := 21) (v := (.ref o0)) A7 d7_19 rfl rfl ?_
  refine own_getF (host := "") (q := 24) A7 (Or.inl (hw _ (List.mem_of_getElem? (i := 51) rfl))) Via.refl (Sy0.ext A7.old.2) d7_21 ?_
  intro T12 A13
  refine own_aloadN (q := 25) (v := (.ref a)) A13 d7_24 rfl rfl ?_
  refine own_virtual (q := 28) (W := 0) (argsL := [(.ref a)]) (rest := []) A13 (hw _ (List.mem_of_getElem? (i := 53) rfl)) (hw _ (List.mem_of_getElem? (i := 54) rfl)) (hw _ (List.mem_of_getElem? (i := 56) rfl)) (hw _ (List.mem_of_getElem? (i := 55) rfl)) (by decide) (own_payEq (cs1 := [43]) (cs2 := [42]) (kI := 4) (fun d hd => hw d ((by decide +kernel : ∀ d ∈ StrChars.Road.wordsEq, d ∈ tables_1) d hd)) (hw _ (List.mem_of_getElem? (i := 4) rfl)) A13.old (Es0.ext A13.old.2) (Vs0.ext A13.old.2) (Cs0.ext A13.old.2) (Ks0.ext A13.old.2) (own_cod [43] (n := 1) rfl (by decide) rfl rfl) (by decide) (by decide) f8 f9 f10 f11 (own_cod [42] (n := 1) rfl (by decide) rfl rfl) (by decide) (by decide) SC hz (by decide) (by decide)) (fun _ z => nomatch z) (Nat.le_of_eq rfl) (Es0.ext A13.old.2) own_pd2 rfl rfl rfl d7_25 (by decide) (by decide) ?_
  rintro v15 T16 h17 A18 ⟨⟨rfl, q14⟩ | ⟨rfl, q14⟩, rfl⟩
  · exact absurd q14 (by decide)
  show own_Run p e below Q m T16 28 #[.val (.ref a), .val (.ref b1), .val (.int (4 : Int32)), .val (.int (0 : Int32)), .val (.ref o0)] [(.int (0 : Int32))]
  refine own_ifcT (q := 34) A18 d7_28 (show (0 : Int32) = 0 from rfl) ?_
  refine own_iinc (q := 37) (v := (1 : Int32)) (L' := #[.val (.ref a), .val (.ref b1), .val (.int (4 : Int32)), .val (.int ((0 : Int32) + (1 : Int32))), .val (.ref o0)]) A18 d7_34 rfl rfl rfl ?_
  refine own_goto (q := 9) A18 d7_37 ?_
  refine own_iloadN (q := 10) (v := ((0 : Int32) + (1 : Int32))) A18 d7_9 rfl ?_
  refine own_iloadN (q := 11) (v := (4 : Int32)) A18 d7_10 rfl ?_
  refine own_icmpF (q := 14) A18 d7_11 (show ((0 : Int32) + (1 : Int32)) < (4 : Int32) from by decide) ?_
  refine own_aloadN (q := 15) (v := (.ref b1)) A18 d7_14 rfl rfl ?_
  refine own_iloadN (q := 16) (v := ((0 : Int32) + (1 : Int32))) A18 d7_15 rfl ?_
  refine own_aaloadv (q := 17) (v := (.ref o1)) A18 V3 1 (by decide) (by decide) (by decide) rfl rfl d7_16 ?_
  refine own_astore (q := 19) (L' := #[.val (.ref a), .val (.ref b1), .val (.int (4 : Int32)), .val (.int ((0 : Int32) + (1 : Int32))), .val (.ref o1)]) A18 d7_17 rfl rfl ?_
  refine own_aload (q := 21) (v := (.ref o1)) A18 d7_19 rfl rfl ?_
  refine own_getF (host := "") (q := 24) A18 (Or.inl (hw _ (List.mem_of_getElem? (i := 51) rfl))) Via.refl (Sy1.ext A18.old.2) d7_21 ?_
  intro T19 A20
  refine own_aloadN (q := 25) (v := (.ref a)) A20 d7_24 rfl rfl ?_
  refine own_virtual (q := 28) (W := 0) (argsL := [(.ref a)]) (rest := []) A20 (hw _ (List.mem_of_getElem? (i := 53) rfl)) (hw _ (List.mem_of_getElem? (i := 54) rfl)) (hw _ (List.mem_of_getElem? (i := 56) rfl)) (hw _ (List.mem_of_getElem? (i := 55) rfl)) (by decide) (own_payEq (cs1 := [45]) (cs2 := [42]) (kI := 4) (fun d hd => hw d ((by decide +kernel : ∀ d ∈ StrChars.Road.wordsEq, d ∈ tables_1) d hd)) (hw _ (List.mem_of_getElem? (i := 4) rfl)) A20.old (Es1.ext A20.old.2) (Vs1.ext A20.old.2) (Cs1.ext A20.old.2) (Ks1.ext A20.old.2) (own_cod [45] (n := 1) rfl (by decide) rfl rfl) (by decide) (by decide) f8 f9 f10 f11 (own_cod [42] (n := 1) rfl (by decide) rfl rfl) (by decide) (by decide) SC hz (by decide) (by decide)) (fun _ z => nomatch z) (Nat.le_of_eq rfl) (Es1.ext A20.old.2) own_pd2 rfl rfl rfl d7_25 (by decide) (by decide) ?_
  rintro v22 T23 h24 A25 ⟨⟨rfl, q21⟩ | ⟨rfl, q21⟩, rfl⟩
  · exact absurd q21 (by decide)
  show own_Run p e below Q m T23 28 #[.val (.ref a), .val (.ref b1), .val (.int (4 : Int32)), .val (.int ((0 : Int32) + (1 : Int32))), .val (.ref o1)] [(.int (0 : Int32))]
  refine own_ifcT (q := 34) A25 d7_28 (show (0 : Int32) = 0 from rfl) ?_
  refine own_iinc (q := 37) (v := (1 : Int32)) (L' := #[.val (.ref a), .val (.ref b1), .val (.int (4 : Int32)), .val (.int (((0 : Int32) + (1 : Int32)) + (1 : Int32))), .val (.ref o1)]) A25 d7_34 rfl rfl rfl ?_
  refine own_goto (q := 9) A25 d7_37 ?_
  refine own_iloadN (q := 10) (v := (((0 : Int32) + (1 : Int32)) + (1 : Int32))) A25 d7_9 rfl ?_
  refine own_iloadN (q := 11) (v := (4 : Int32)) A25 d7_10 rfl ?_
  refine own_icmpF (q := 14) A25 d7_11 (show (((0 : Int32) + (1 : Int32)) + (1 : Int32)) < (4 : Int32) from by decide) ?_
  refine own_aloadN (q := 15) (v := (.ref b1)) A25 d7_14 rfl rfl ?_
  refine own_iloadN (q := 16) (v := (((0 : Int32) + (1 : Int32)) + (1 : Int32))) A25 d7_15 rfl ?_
  refine own_aaloadv (q := 17) (v := (.ref o2)) A25 V3 2 (by decide) (by decide) (by decide) rfl rfl d7_16 ?_
  refine own_astore (q := 19) (L' := #[.val (.ref a), .val (.ref b1), .val (.int (4 : Int32)), .val (.int (((0 : Int32) + (1 : Int32)) + (1 : Int32))), .val (.ref o2)]) A25 d7_17 rfl rfl ?_
  refine own_aload (q := 21) (v := (.ref o2)) A25 d7_19 rfl rfl ?_
  refine own_getF (host := "") (q := 24) A25 (Or.inl (hw _ (List.mem_of_getElem? (i := 51) rfl))) Via.refl (Sy2.ext A25.old.2) d7_21 ?_
  intro T26 A27
  refine own_aloadN (q := 25) (v := (.ref a)) A27 d7_24 rfl rfl ?_
  refine own_virtual (q := 28) (W := 0) (argsL := [(.ref a)]) (rest := []) A27 (hw _ (List.mem_of_getElem? (i := 53) rfl)) (hw _ (List.mem_of_getElem? (i := 54) rfl)) (hw _ (List.mem_of_getElem? (i := 56) rfl)) (hw _ (List.mem_of_getElem? (i := 55) rfl)) (by decide) (own_payEq (cs1 := [42]) (cs2 := [42]) (kI := 4) (fun d hd => hw d ((by decide +kernel : ∀ d ∈ StrChars.Road.wordsEq, d ∈ tables_1) d hd)) (hw _ (List.mem_of_getElem? (i := 4) rfl)) A27.old (Es2.ext A27.old.2) (Vs2.ext A27.old.2) (Cs2.ext A27.old.2) (Ks2.ext A27.old.2) (own_cod [42] (n := 1) rfl (by decide) rfl rfl) (by decide) (by decide) f8 f9 f10 f11 (own_cod [42] (n := 1) rfl (by decide) rfl rfl) (by decide) (by decide) SC hz (by decide) (by decide)) (fun _ z => nomatch z) (Nat.le_of_eq rfl) (Es2.ext A27.old.2) own_pd2 rfl rfl rfl d7_25 (by decide) (by decide) ?_
  rintro v29 T30 h31 A32 ⟨⟨rfl, q28⟩ | ⟨rfl, q28⟩, rfl⟩
  rotate_left
  · exact absurd q28 (by decide)
  show own_Run p e below Q m T30 28 #[.val (.ref a), .val (.ref b1), .val (.int (4 : Int32)), .val (.int (((0 : Int32) + (1 : Int32)) + (1 : Int32))), .val (.ref o2)] [(.int (1 : Int32))]
  refine own_ifcF (q := 31) A32 d7_28 (show ¬ (1 : Int32) = 0 from by decide) ?_
  refine own_aload (q := 33) (v := (.ref o2)) A32 d7_31 rfl rfl ?_
  exact own_retA A32 hQ rfl rfl rfl d7_33 rfl
set_option maxRecDepth 65536 in
set_option maxHeartbeats 40000000 in
theorem rm_of3 (l : Launch) (Z : State) (a0 : Array Value) (hw : ∀ d ∈ tables_1, d.before a0 Z = true) (zc : Int32) (vA o0 o1 o2 o3 s0 s1 s2 s3 t0 t1 t2 t3 : Addr) (kV k0 k1 k2 k3 : ClassId) (a t : Addr) (kt : ClassId) (h0 : Heap) (n0 : Nat) (O0 : Old Z n0 h0) (SC : Sta Z Z.heap "java/lang/String" "COMPACT_STRINGS" "Z" (.int zc)) (hz : ¬ zc = 0) (SV : Sta Z Z.heap "com/example/covenantry/covenantry/formula/Operator" "$VALUES" "[Lcom/example/covenantry/covenantry/formula/Operator;" (.ref vA)) (EV : Exa Z Z.heap vA "[Lcom/example/covenantry/covenantry/formula/Operator;") (VV : Arv Z Z.heap vA kV (.object "com/example/covenantry/covenantry/formula/Operator") 4 [.ref o0, .ref o1, .ref o2, .ref o3] .null) (Sy0 : Fld Z Z.heap o0 "com/example/covenantry/covenantry/formula/Operator" "symbol" "Ljava/lang/String;" (.ref s0)) (Es0 : Exa Z Z.heap s0 "java/lang/String") (Cs0 : Fld Z Z.heap s0 "java/lang/String" "coder" "B" (.int 0)) (Vs0 : Fld Z Z.heap s0 "java/lang/String" "value" "[B" (.ref t0)) (Ks0 : Arv Z Z.heap t0 k0 .byte 1 [.int 43] (.int 0)) (Sy1 : Fld Z Z.heap o1 "com/example/covenantry/covenantry/formula/Operator" "symbol" "Ljava/lang/String;" (.ref s1)) (Es1 : Exa Z Z.heap s1 "java/lang/String") (Cs1 : Fld Z Z.heap s1 "java/lang/String" "coder" "B" (.int 0)) (Vs1 : Fld Z Z.heap s1 "java/lang/String" "value" "[B" (.ref t1)) (Ks1 : Arv Z Z.heap t1 k1 .byte 1 [.int 45] (.int 0)) (Sy2 : Fld Z Z.heap o2 "com/example/covenantry/covenantry/formula/Operator" "symbol" "Ljava/lang/String;" (.ref s2)) (Es2 : Exa Z Z.heap s2 "java/lang/String") (Cs2 : Fld Z Z.heap s2 "java/lang/String" "coder" "B" (.int 0)) (Vs2 : Fld Z Z.heap s2 "java/lang/String" "value" "[B" (.ref t2)) (Ks2 : Arv Z Z.heap t2 k2 .byte 1 [.int 42] (.int 0)) (Sy3 : Fld Z Z.heap o3 "com/example/covenantry/covenantry/formula/Operator" "symbol" "Ljava/lang/String;" (.ref s3)) (Es3 : Exa Z Z.heap s3 "java/lang/String") (Cs3 : Fld Z Z.heap s3 "java/lang/String" "coder" "B" (.int 0)) (Vs3 : Fld Z Z.heap s3 "java/lang/String" "value" "[B" (.ref t3)) (Ks3 : Arv Z Z.heap t3 k3 .byte 1 [.int 47] (.int 0)) (Ea : Exa Z h0 a "java/lang/String") (Va : Fld Z h0 a "java/lang/String" "value" "[B" (.ref t)) (Ca : Fld Z h0 a "java/lang/String" "coder" "B" (.int 0)) (Ka : Arv Z h0 t kt .byte 1 [.int 47] (.int 0)) :
    own_Met false l Z n0 [] [] (⟨"com/example/covenantry/covenantry/formula/Operator", "of", "(Ljava/lang/String;)Lcom/example/covenantry/covenantry/formula/Operator;"⟩ : MethodName) prog_119_method_4_code 5 (some (.object "com/example/covenantry/covenantry/formula/Operator")) [] ({ frames := 2, cells := 1, slots := 4, locals := 28 } : Room) #[(.ref a)] h0 (fun v _ => v = some (.ref o3)) := by
  refine own_enter (a0 := a0) (own := "com/example/covenantry/covenantry/formula/Operator") (nm := "of") (Ls := #[.val (.ref a), .unset, .unset, .unset, .unset]) own_pn0 O0 EW.nil (fun m => by first | (simp [entryFrame, mkF, argsToLocals, Value.category, maxLocals]; done) | rfl) ?_
  intro p e s m args below meth cde T0 Q hQ A0
  show own_Run p e below Q m T0 0 #[.val (.ref a), .unset, .unset, .unset, .unset] []
  refine own_static (q := 3) (W := 0) (argsL := []) (rest := []) A0 (hw _ (List.mem_of_getElem? (i := 36) rfl)) (hw _ (List.mem_of_getElem? (i := 37) rfl)) (hw _ (List.mem_of_getElem? (i := 1) rfl)) (hw _ (List.mem_of_getElem? (i := 38) rfl)) (by decide) (own_pay (rm_vals l Z a0 hw zc vA o0 o1 o2 o3 s0 s1 s2 s3 t0 t1 t2 t3 kV k0 k1 k2 k3 h0 n0 A0.old SC hz SV EV VV Sy0 Es0 Cs0 Vs0 Ks0 Sy1 Es1 Cs1 Vs1 Ks1 Sy2 Es2 Cs2 Vs2 Ks2 Sy3 Es3 Cs3 Vs3 Ks3 ) (hw _ (List.mem_of_getElem? (i := 38) rfl)) (hw _ (List.mem_of_getElem? (i := 1) rfl)) (by decide) (by decide)) (fun _ z => nomatch z) (Nat.le_of_eq rfl) own_pd1 rfl rfl rfl d7_0 (by decide) (by decide) ?_
  rintro v4 T5 h6 A7 ⟨b1, rfl, E2, V3⟩
  show own_Run p e below Q m T5 3 #[.val (.ref a), .unset, .unset, .unset, .unset] [(.ref b1)]
  have f8 : Exa Z h6 a "java/lang/String" := Ea.ext E2
  have f9 : Fld Z h6 a "java/lang/String" "value" "[B" (.ref t) := Va.ext E2
  have f10 : Fld Z h6 a "java/lang/String" "coder" "B" (.int (0 : Int32)) := Ca.ext E2
  have f11 : Arv Z h6 t kt .byte (1 : Int32) [(.int (47 : Int32))] (.int 0) := Ka.ext E2
  refine own_astoreN (q := 4) (L' := #[.val (.ref a), .val (.ref b1), .unset, .unset, .unset]) A7 d7_3 rfl rfl ?_
  refine own_aloadN (q := 5) (v := (.ref b1)) A7 d7_4 rfl rfl ?_
  refine own_arrlenv (q := 6) A7 V3 d7_5 ?_
  refine own_istoreN (q := 7) (L' := #[.val (.ref a), .val (.ref b1), .val (.int (4 : Int32)), .unset, .unset]) A7 d7_6 rfl ?_
  refine own_iconst (q := 8) A7 (0 : Int32) d7_7 rfl ?_
  refine own_istoreN (q := 9) (L' := #[.val (.ref a), .val (.ref b1), .val (.int (4 : Int32)), .val (.int (0 : Int32)), .unset]) A7 d7_8 rfl ?_
  refine own_iloadN (q := 10) (v := (0 : Int32)) A7 d7_9 rfl ?_
  refine own_iloadN (q := 11) (v := (4 : Int32)) A7 d7_10 rfl ?_
  refine own_icmpF (q := 14) A7 d7_11 (show (0 : Int32) < (4 : Int32) from by decide) ?_
  refine own_aloadN (q := 15) (v := (.ref b1)) A7 d7_14 rfl rfl ?_
  refine own_iloadN (q := 16) (v := (0 : Int32)) A7 d7_15 rfl ?_
  refine own_aaloadv (q := 17) (v := (.ref o0)) A7 V3 0 (by decide) (by decide) (by decide) rfl rfl d7_16 ?_
  refine own_astore (q := 19) (L' := #[.val (.ref a), .val (.ref b1), .val (.int (4 : Int32)), .val (.int (0 : Int32)), .val (.ref o0)]) A7 d7_17 rfl rfl ?_
  refine own_aload (q := 21) (v := (.ref o0)) A7 d7_19 rfl rfl ?_
  refine own_getF (host := "") (q := 24) A7 (Or.inl (hw _ (List.mem_of_getElem? (i := 51) rfl))) Via.refl (Sy0.ext A7.old.2) d7_21 ?_
  intro T12 A13
  refine own_aloadN (q := 25) (v := (.ref a)) A13 d7_24 rfl rfl ?_
  refine own_virtual (q := 28) (W := 0) (argsL := [(.ref a)]) (rest := []) A13 (hw _ (List.mem_of_getElem? (i := 53) rfl)) (hw _ (List.mem_of_getElem? (i := 54) rfl)) (hw _ (List.mem_of_getElem? (i := 56) rfl)) (hw _ (List.mem_of_getElem? (i := 55) rfl)) (by decide) (own_payEq (cs1 := [43]) (cs2 := [47]) (kI := 4) (fun d hd => hw d ((by decide +kernel : ∀ d ∈ StrChars.Road.wordsEq, d ∈ tables_1) d hd)) (hw _ (List.mem_of_getElem? (i := 4) rfl)) A13.old (Es0.ext A13.old.2) (Vs0.ext A13.old.2) (Cs0.ext A13.old.2) (Ks0.ext A13.old.2) (own_cod [43] (n := 1) rfl (by decide) rfl rfl) (by decide) (by decide) f8 f9 f10 f11 (own_cod [47] (n := 1) rfl (by decide) rfl rfl) (by decide) (by decide) SC hz (by decide) (by decide)) (fun _ z => nomatch z) (Nat.le_of_eq rfl) (Es0.ext A13.old.2) own_pd2 rfl rfl rfl d7_25 (by decide) (by decide) ?_
  rintro v15 T16 h17 A18 ⟨⟨rfl, q14⟩ | ⟨rfl, q14⟩, rfl⟩
  · exact absurd q14 (by decide)
  show own_Run p e below Q m T16 28 #[.val (.ref a), .val (.ref b1), .val (.int (4 : Int32)), .val (.int (0 : Int32)), .val (.ref o0)] [(.int (0 : Int32))]
  refine own_ifcT (q := 34) A18 d7_28 (show (0 : Int32) = 0 from rfl) ?_
  refine own_iinc (q := 37) (v := (1 : Int32)) (L' := #[.val (.ref a), .val (.ref b1), .val (.int (4 : Int32)), .val (.int ((0 : Int32) + (1 : Int32))), .val (.ref o0)]) A18 d7_34 rfl rfl rfl ?_
  refine own_goto (q := 9) A18 d7_37 ?_
  refine own_iloadN (q := 10) (v := ((0 : Int32) + (1 : Int32))) A18 d7_9 rfl ?_
  refine own_iloadN (q := 11) (v := (4 : Int32)) A18 d7_10 rfl ?_
  refine own_icmpF (q := 14) A18 d7_11 (show ((0 : Int32) + (1 : Int32)) < (4 : Int32) from by decide) ?_
  refine own_aloadN (q := 15) (v := (.ref b1)) A18 d7_14 rfl rfl ?_
  refine own_iloadN (q := 16) (v := ((0 : Int32) + (1 : Int32))) A18 d7_15 rfl ?_
  refine own_aaloadv (q := 17) (v := (.ref o1)) A18 V3 1 (by decide) (by decide) (by decide) rfl rfl d7_16 ?_
  refine own_astore (q := 19) (L' := #[.val (.ref a), .val (.ref b1), .val (.int (4 : Int32)), .val (.int ((0 : Int32) + (1 : Int32))), .val (.ref o1)]) A18 d7_17 rfl rfl ?_
  refine own_aload (q := 21) (v := (.ref o1)) A18 d7_19 rfl rfl ?_
  refine own_getF (host := "") (q := 24) A18 (Or.inl (hw _ (List.mem_of_getElem? (i := 51) rfl))) Via.refl (Sy1.ext A18.old.2) d7_21 ?_
  intro T19 A20
  refine own_aloadN (q := 25) (v := (.ref a)) A20 d7_24 rfl rfl ?_
  refine own_virtual (q := 28) (W := 0) (argsL := [(.ref a)]) (rest := []) A20 (hw _ (List.mem_of_getElem? (i := 53) rfl)) (hw _ (List.mem_of_getElem? (i := 54) rfl)) (hw _ (List.mem_of_getElem? (i := 56) rfl)) (hw _ (List.mem_of_getElem? (i := 55) rfl)) (by decide) (own_payEq (cs1 := [45]) (cs2 := [47]) (kI := 4) (fun d hd => hw d ((by decide +kernel : ∀ d ∈ StrChars.Road.wordsEq, d ∈ tables_1) d hd)) (hw _ (List.mem_of_getElem? (i := 4) rfl)) A20.old (Es1.ext A20.old.2) (Vs1.ext A20.old.2) (Cs1.ext A20.old.2) (Ks1.ext A20.old.2) (own_cod [45] (n := 1) rfl (by decide) rfl rfl) (by decide) (by decide) f8 f9 f10 f11 (own_cod [47] (n := 1) rfl (by decide) rfl rfl) (by decide) (by decide) SC hz (by decide) (by decide)) (fun _ z => nomatch z) (Nat.le_of_eq rfl) (Es1.ext A20.old.2) own_pd2 rfl rfl rfl d7_25 (by decide) (by decide) ?_
  rintro v22 T23 h24 A25 ⟨⟨rfl, q21⟩ | ⟨rfl, q21⟩, rfl⟩
  · exact absurd q21 (by decide)
  show own_Run p e below Q m T23 28 #[.val (.ref a), .val (.ref b1), .val (.int (4 : Int32)), .val (.int ((0 : Int32) + (1 : Int32))), .val (.ref o1)] [(.int (0 : Int32))]
  refine own_ifcT (q := 34) A25 d7_28 (show (0 : Int32) = 0 from rfl) ?_
  refine own_iinc (q := 37) (v := (1 : Int32)) (L' := #[.val (.ref a), .val (.ref b1), .val (.int (4 : Int32)), .val (.int (((0 : Int32) + (1 : Int32)) + (1 : Int32))), .val (.ref o1)]) A25 d7_34 rfl rfl rfl ?_
  refine own_goto (q := 9) A25 d7_37 ?_
  refine own_iloadN (q := 10) (v := (((0 : Int32) + (1 : Int32)) + (1 : Int32))) A25 d7_9 rfl ?_
  refine own_iloadN (q := 11) (v := (4 : Int32)) A25 d7_10 rfl ?_
  refine own_icmpF (q := 14) A25 d7_11 (show (((0 : Int32) + (1 : Int32)) + (1 : Int32)) < (4 : Int32) from by decide) ?_
  refine own_aloadN (q := 15) (v := (.ref b1)) A25 d7_14 rfl rfl ?_
  refine own_iloadN (q := 16) (v := (((0 : Int32) + (1 : Int32)) + (1 : Int32))) A25 d7_15 rfl ?_
  refine own_aaloadv (q := 17) (v := (.ref o2)) A25 V3 2 (by decide) (by decide) (by decide) rfl rfl d7_16 ?_
  refine own_astore (q := 19) (L' := #[.val (.ref a), .val (.ref b1), .val (.int (4 : Int32)), .val (.int (((0 : Int32) + (1 : Int32)) + (1 : Int32))), .val (.ref o2)]) A25 d7_17 rfl rfl ?_
  refine own_aload (q := 21) (v := (.ref o2)) A25 d7_19 rfl rfl ?_
  refine own_getF (host := "") (q := 24) A25 (Or.inl (hw _ (List.mem_of_getElem? (i := 51) rfl))) Via.refl (Sy2.ext A25.old.2) d7_21 ?_
  intro T26 A27
  refine own_aloadN (q := 25) (v := (.ref a)) A27 d7_24 rfl rfl ?_
  refine own_virtual (q := 28) (W := 0) (argsL := [(.ref a)]) (rest := []) A27 (hw _ (List.mem_of_getElem? (i := 53) rfl)) (hw _ (List.mem_of_getElem? (i := 54) rfl)) (hw _ (List.mem_of_getElem? (i := 56) rfl)) (hw _ (List.mem_of_getElem? (i := 55) rfl)) (by decide) (own_payEq (cs1 := [42]) (cs2 := [47]) (kI := 4) (fun d hd => hw d ((by decide +kernel : ∀ d ∈ StrChars.Road.wordsEq, d ∈ tables_1) d hd)) (hw _ (List.mem_of_getElem? (i := 4) rfl)) A27.old (Es2.ext A27.old.2) (Vs2.ext A27.old.2) (Cs2.ext A27.old.2) (Ks2.ext A27.old.2) (own_cod [42] (n := 1) rfl (by decide) rfl rfl) (by decide) (by decide) f8 f9 f10 f11 (own_cod [47] (n := 1) rfl (by decide) rfl rfl) (by decide) (by decide) SC hz (by decide) (by decide)) (fun _ z => nomatch z) (Nat.le_of_eq rfl) (Es2.ext A27.old.2) own_pd2 rfl rfl rfl d7_25 (by decide) (by decide) ?_
  rintro v29 T30 h31 A32 ⟨⟨rfl, q28⟩ | ⟨rfl, q28⟩, rfl⟩
  · exact absurd q28 (by decide)
  show own_Run p e below Q m T30 28 #[.val (.ref a), .val (.ref b1), .val (.int (4 : Int32)), .val (.int (((0 : Int32) + (1 : Int32)) + (1 : Int32))), .val (.ref o2)] [(.int (0 : Int32))]
  refine own_ifcT (q := 34) A32 d7_28 (show (0 : Int32) = 0 from rfl) ?_
  refine own_iinc (q := 37) (v := (1 : Int32)) (L' := #[.val (.ref a), .val (.ref b1), .val (.int (4 : Int32)), .val (.int ((((0 : Int32) + (1 : Int32)) + (1 : Int32)) + (1 : Int32))), .val (.ref o2)]) A32 d7_34 rfl rfl rfl ?_
  refine own_goto (q := 9) A32 d7_37 ?_
  refine own_iloadN (q := 10) (v := ((((0 : Int32) + (1 : Int32)) + (1 : Int32)) + (1 : Int32))) A32 d7_9 rfl ?_
  refine own_iloadN (q := 11) (v := (4 : Int32)) A32 d7_10 rfl ?_
  refine own_icmpF (q := 14) A32 d7_11 (show ((((0 : Int32) + (1 : Int32)) + (1 : Int32)) + (1 : Int32)) < (4 : Int32) from by decide) ?_
  refine own_aloadN (q := 15) (v := (.ref b1)) A32 d7_14 rfl rfl ?_
  refine own_iloadN (q := 16) (v := ((((0 : Int32) + (1 : Int32)) + (1 : Int32)) + (1 : Int32))) A32 d7_15 rfl ?_
  refine own_aaloadv (q := 17) (v := (.ref o3)) A32 V3 3 (by decide) (by decide) (by decide) rfl rfl d7_16 ?_
  refine own_astore (q := 19) (L' := #[.val (.ref a), .val (.ref b1), .val (.int (4 : Int32)), .val (.int ((((0 : Int32) + (1 : Int32)) + (1 : Int32)) + (1 : Int32))), .val (.ref o3)]) A32 d7_17 rfl rfl ?_
  refine own_aload (q := 21) (v := (.ref o3)) A32 d7_19 rfl rfl ?_
  refine own_getF (host := "") (q := 24) A32 (Or.inl (hw _ (List.mem_of_getElem? (i := 51) rfl))) Via.refl (Sy3.ext A32.old.2) d7_21 ?_
  intro T33 A34
  refine own_aloadN (q := 25) (v := (.ref a)) A34 d7_24 rfl rfl ?_
  refine own_virtual (q := 28) (W := 0) (argsL := [(.ref a)]) (rest := []) A34 (hw _ (List.mem_of_getElem? (i := 53) rfl)) (hw _ (List.mem_of_getElem? (i := 54) rfl)) (hw _ (List.mem_of_getElem? (i := 56) rfl)) (hw _ (List.mem_of_getElem? (i := 55) rfl)) (by decide) (own_payEq (cs1 := [47]) (cs2 := [47]) (kI := 4) (fun d hd => hw d ((by decide +kernel : ∀ d ∈ StrChars.Road.wordsEq, d ∈ tables_1) d hd)) (hw _ (List.mem_of_getElem? (i := 4) rfl)) A34.old (Es3.ext A34.old.2) (Vs3.ext A34.old.2) (Cs3.ext A34.old.2) (Ks3.ext A34.old.2) (own_cod [47] (n := 1) rfl (by decide) rfl rfl) (by decide) (by decide) f8 f9 f10 f11 (own_cod [47] (n := 1) rfl (by decide) rfl rfl) (by decide) (by decide) SC hz (by decide) (by decide)) (fun _ z => nomatch z) (Nat.le_of_eq rfl) (Es3.ext A34.old.2) own_pd2 rfl rfl rfl d7_25 (by decide) (by decide) ?_
  rintro v36 T37 h38 A39 ⟨⟨rfl, q35⟩ | ⟨rfl, q35⟩, rfl⟩
  rotate_left
  · exact absurd q35 (by decide)
  show own_Run p e below Q m T37 28 #[.val (.ref a), .val (.ref b1), .val (.int (4 : Int32)), .val (.int ((((0 : Int32) + (1 : Int32)) + (1 : Int32)) + (1 : Int32))), .val (.ref o3)] [(.int (1 : Int32))]
  refine own_ifcF (q := 31) A39 d7_28 (show ¬ (1 : Int32) = 0 from by decide) ?_
  refine own_aload (q := 33) (v := (.ref o3)) A39 d7_31 rfl rfl ?_
  exact own_retA A39 hQ rfl rfl rfl d7_33 rfl
theorem own_pn1 : plainName "com/example/covenantry/covenantry/formula/OperatorOfPinLaw" = true := by first | (simp [plainName, overriddenIn]; done) | decide +kernel
set_option maxRecDepth 65536 in
set_option maxHeartbeats 40000000 in
theorem rm_law (l : Launch) (Z : State) (a0 : Array Value) (hw : ∀ d ∈ tables_1, d.before a0 Z = true) (ws : List Jvm.Cond) (zc : Int32) (vA o0 o1 o2 o3 s0 s1 s2 s3 t0 t1 t2 t3 : Addr) (kV k0 k1 k2 k3 : ClassId) (i0 : Int32) (h0 : Heap) (n0 : Nat) (O0 : Old Z n0 h0) (SC : Sta Z Z.heap "java/lang/String" "COMPACT_STRINGS" "Z" (.int zc)) (hz : ¬ zc = 0) (SV : Sta Z Z.heap "com/example/covenantry/covenantry/formula/Operator" "$VALUES" "[Lcom/example/covenantry/covenantry/formula/Operator;" (.ref vA)) (EV : Exa Z Z.heap vA "[Lcom/example/covenantry/covenantry/formula/Operator;") (VV : Arv Z Z.heap vA kV (.object "com/example/covenantry/covenantry/formula/Operator") 4 [.ref o0, .ref o1, .ref o2, .ref o3] .null) (Sy0 : Fld Z Z.heap o0 "com/example/covenantry/covenantry/formula/Operator" "symbol" "Ljava/lang/String;" (.ref s0)) (Es0 : Exa Z Z.heap s0 "java/lang/String") (Cs0 : Fld Z Z.heap s0 "java/lang/String" "coder" "B" (.int 0)) (Vs0 : Fld Z Z.heap s0 "java/lang/String" "value" "[B" (.ref t0)) (Ks0 : Arv Z Z.heap t0 k0 .byte 1 [.int 43] (.int 0)) (Sy1 : Fld Z Z.heap o1 "com/example/covenantry/covenantry/formula/Operator" "symbol" "Ljava/lang/String;" (.ref s1)) (Es1 : Exa Z Z.heap s1 "java/lang/String") (Cs1 : Fld Z Z.heap s1 "java/lang/String" "coder" "B" (.int 0)) (Vs1 : Fld Z Z.heap s1 "java/lang/String" "value" "[B" (.ref t1)) (Ks1 : Arv Z Z.heap t1 k1 .byte 1 [.int 45] (.int 0)) (Sy2 : Fld Z Z.heap o2 "com/example/covenantry/covenantry/formula/Operator" "symbol" "Ljava/lang/String;" (.ref s2)) (Es2 : Exa Z Z.heap s2 "java/lang/String") (Cs2 : Fld Z Z.heap s2 "java/lang/String" "coder" "B" (.int 0)) (Vs2 : Fld Z Z.heap s2 "java/lang/String" "value" "[B" (.ref t2)) (Ks2 : Arv Z Z.heap t2 k2 .byte 1 [.int 42] (.int 0)) (Sy3 : Fld Z Z.heap o3 "com/example/covenantry/covenantry/formula/Operator" "symbol" "Ljava/lang/String;" (.ref s3)) (Es3 : Exa Z Z.heap s3 "java/lang/String") (Cs3 : Fld Z Z.heap s3 "java/lang/String" "coder" "B" (.int 0)) (Vs3 : Fld Z Z.heap s3 "java/lang/String" "value" "[B" (.ref t3)) (Ks3 : Arv Z Z.heap t3 k3 .byte 1 [.int 47] (.int 0)) (SPLUS : Sta Z Z.heap "com/example/covenantry/covenantry/formula/Operator" "PLUS" "Lcom/example/covenantry/covenantry/formula/Operator;" (.ref o0)) (SMINUS : Sta Z Z.heap "com/example/covenantry/covenantry/formula/Operator" "MINUS" "Lcom/example/covenantry/covenantry/formula/Operator;" (.ref o1)) (STIMES : Sta Z Z.heap "com/example/covenantry/covenantry/formula/Operator" "TIMES" "Lcom/example/covenantry/covenantry/formula/Operator;" (.ref o2)) (SDIVIDED_BY : Sta Z Z.heap "com/example/covenantry/covenantry/formula/Operator" "DIVIDED_BY" "Lcom/example/covenantry/covenantry/formula/Operator;" (.ref o3)) :
    own_Met false l Z n0 [] [] x code maxLocals ret ws room_1 #[(.int i0)] h0 (fun v _ => v = some (.int 1)) := by
  refine own_enter (a0 := a0) (own := "com/example/covenantry/covenantry/formula/OperatorOfPinLaw") (nm := "law") (Ls := #[.val (.int i0), .unset, .unset, .unset, .unset]) own_pn1 O0 EW.nil (fun m => by first | (simp [entryFrame, mkF, argsToLocals, Value.category, maxLocals]; done) | rfl) ?_
  intro p e s m args below meth cde T0 Q hQ A0
  show own_Run p e below Q m T0 0 #[.val (.int i0), .unset, .unset, .unset, .unset] []
  refine own_iloadN (q := 1) (v := i0) A0 at_0 rfl ?_
  refine own_iconst (q := 2) A0 (3 : Int32) at_1 rfl ?_
  refine own_iand (q := 3) A0 at_2 ?_
  refine own_istoreN (q := 4) (L' := #[.val (.int i0), .val (.int (i0 &&& (3 : Int32))), .unset, .unset, .unset]) A0 at_3 rfl ?_
  refine own_iloadN (q := 5) (v := (i0 &&& (3 : Int32))) A0 at_4 rfl ?_
  refine own_ifc (q := 18) (q' := 8) A0 at_5 ?_ ?_
  · rintro (c1 : ¬ (i0 &&& (3 : Int32)) = (0 : Int32))
    refine own_iloadN (q := 19) (v := (i0 &&& (3 : Int32))) A0 at_18 rfl ?_
    refine own_iconst (q := 20) A0 (1 : Int32) at_19 rfl ?_
    refine own_icmp (q := 33) (q' := 23) A0 at_20 ?_ ?_
    · rintro (c2 : ¬ (i0 &&& (3 : Int32)) = (1 : Int32))
      refine own_iloadN (q := 34) (v := (i0 &&& (3 : Int32))) A0 at_33 rfl ?_
      refine own_iconst (q := 35) A0 (2 : Int32) at_34 rfl ?_
      refine own_icmp (q := 48) (q' := 38) A0 at_35 ?_ ?_
      · rintro (c3 : ¬ (i0 &&& (3 : Int32)) = (2 : Int32))
        refine own_bipush (q := 50) A0 (47 : Int32) at_48 rfl ?_
        refine own_istoreN (q := 51) (L' := #[.val (.int i0), .val (.int (i0 &&& (3 : Int32))), .val (.int (47 : Int32)), .unset, .unset]) A0 at_50 rfl ?_
        refine own_getS (q := 54) A0 (hw _ (List.mem_of_getElem? (i := 63) rfl)) Via.refl SDIVIDED_BY at_51 ?_
        intro T4 A5
        refine own_astoreN (q := 55) (L' := #[.val (.int i0), .val (.int (i0 &&& (3 : Int32))), .val (.int (47 : Int32)), .val (.ref o3), .unset]) A5 at_54 rfl rfl ?_
        refine own_newO (q := 58) A5 (hw _ (List.mem_of_getElem? (i := 3) rfl)) (hw _ (List.mem_of_getElem? (i := 4) rfl)) (hw _ (List.mem_of_getElem? (i := 5) rfl)) at_55 (by decide) (by decide) ?_
        intro T6 h7 a8 g9 g10 A11 E12 X13 D14
        have f15 : Fld Z h7 a8 "java/lang/String" "value" "[B" .null := D14 (Or.inr (hw _ (List.mem_of_getElem? (i := 32) rfl))) (ty := (.array .byte)) (by decide)
        have f16 : Fld Z h7 a8 "java/lang/String" "coder" "B" (.int (0 : Int32)) := D14 (Or.inr (hw _ (List.mem_of_getElem? (i := 30) rfl))) (ty := .byte) (by decide)
        refine own_dup (q := 59) A11 at_58 rfl ?_
        refine own_iconst (q := 60) A11 (1 : Int32) at_59 rfl ?_
        refine own_newPv (q := 62) (ty := .char) (dv := .int 0) A11 rfl rfl (hw _ (List.mem_of_getElem? (i := 6) rfl)) at_60 1 (by decide) (by decide) (by decide) (by decide) (by decide) ?_
        intro T17 h18 a19 k20 g21 g22 A23 E24 X25
        have z26 : a8 ≠ a19 := Nat.ne_of_lt (Nat.lt_of_lt_of_le X13.lt (Nat.le_of_eq g21))
        have f27 : Exa Z h18 a8 "java/lang/String" := X13.ext E24
        have f28 : Fld Z h18 a8 "java/lang/String" "value" "[B" .null := f15.ext E24
        have f29 : Fld Z h18 a8 "java/lang/String" "coder" "B" (.int (0 : Int32)) := f16.ext E24
        have f30 : Arv Z h18 a19 k20 .char (1 : Int32) [(.int (0 : Int32))] (.int 0) := X25
        refine own_dup (q := 63) A23 at_62 rfl ?_
        refine own_iconst (q := 64) A23 (0 : Int32) at_63 rfl ?_
        refine own_iloadN (q := 65) (v := (47 : Int32)) A23 at_64 rfl ?_
        refine own_stCv (q := 66) A23 f30 0 (by decide) (by decide) (by decide) (Nat.le_of_ble_eq_true rfl) g22 (Or.inr (Or.inl rfl)) at_65 ?_
        intro T31 h32 sl33 A34 W35 X36
        have f37 : Exa Z h32 a8 "java/lang/String" := f27.wr W35
        have f38 : Fld Z h32 a8 "java/lang/String" "value" "[B" .null := f28.other W35 (Or.inl z26)
        have f39 : Fld Z h32 a8 "java/lang/String" "coder" "B" (.int (0 : Int32)) := f29.other W35 (Or.inl z26)
        have f40 : Arv Z h32 a19 k20 .char (1 : Int32) [(.int (47 : Int32))] (.int 0) := X36
        refine own_special (q := 69) (W := 1) (argsL := [(.ref a19)]) (rest := [(.ref a8)]) A34 rfl (hw _ (List.mem_of_getElem? (i := 7) rfl)) (hw _ (List.mem_of_getElem? (i := 8) rfl)) (hw _ (List.mem_of_getElem? (i := 9) rfl)) (by decide) (own_payV (cs := [47]) (bs := [47]) (n := 1) (N := 1) (kI := 4) (fun d hd => hw d ((by decide +kernel : ∀ d ∈ StrChars.Road.words, d ∈ tables_1) d hd)) (hw _ (List.mem_of_getElem? (i := 4) rfl)) A34.old g10 f37 f38 f39 f40 SC hz rfl rfl (by decide) (by decide) (by decide) (by decide) (by decide) (by decide)) (by simp) (Nat.le_of_eq rfl) own_pd3 rfl rfl rfl at_66 (by decide) (by decide) ?_
        rintro v50 T51 h52 A53 ⟨rfl, K41, E42, C43, t44, k45, g46, g47, V48, K49⟩
        show own_Run p e below Q m T51 69 #[.val (.int i0), .val (.int (i0 &&& (3 : Int32))), .val (.int (47 : Int32)), .val (.ref o3), .unset] [(.ref a8)]
        refine own_astore (q := 71) (L' := #[.val (.int i0), .val (.int (i0 &&& (3 : Int32))), .val (.int (47 : Int32)), .val (.ref o3), .val (.ref a8)]) A53 at_69 rfl rfl ?_
        refine own_aload (q := 73) (v := (.ref a8)) A53 at_71 rfl rfl ?_
        refine own_static (q := 76) (W := 0) (argsL := [(.ref a8)]) (rest := []) A53 (hw _ (List.mem_of_getElem? (i := 33) rfl)) (hw _ (List.mem_of_getElem? (i := 34) rfl)) (hw _ (List.mem_of_getElem? (i := 1) rfl)) (hw _ (List.mem_of_getElem? (i := 35) rfl)) (by decide) (own_pay (rm_of3 l Z a0 hw zc vA o0 o1 o2 o3 s0 s1 s2 s3 t0 t1 t2 t3 kV k0 k1 k2 k3 a8 t44 k45 h52 n0 A53.old SC hz SV EV VV Sy0 Es0 Cs0 Vs0 Ks0 Sy1 Es1 Cs1 Vs1 Ks1 Sy2 Es2 Cs2 Vs2 Ks2 Sy3 Es3 Cs3 Vs3 Ks3 E42 V48 C43 K49) (hw _ (List.mem_of_getElem? (i := 35) rfl)) (hw _ (List.mem_of_getElem? (i := 1) rfl)) (by decide) (by decide)) (fun _ z => nomatch z) (Nat.le_of_eq rfl) own_pd0 rfl rfl rfl at_73 (by decide) (by decide) ?_
        rintro v54 T55 h56 A57 rfl
        show own_Run p e below Q m T55 76 #[.val (.int i0), .val (.int (i0 &&& (3 : Int32))), .val (.int (47 : Int32)), .val (.ref o3), .val (.ref a8)] [(.ref o3)]
        refine own_aloadN (q := 77) (v := (.ref o3)) A57 at_76 rfl rfl ?_
        refine own_acmpF (q := 80) A57 at_77 rfl rfl (XT.aa_ne_f rfl) ?_
        refine own_iconst (q := 81) A57 (1 : Int32) at_80 rfl ?_
        refine own_goto (q := 85) A57 at_81 ?_
        exact own_retN A57 hQ (t := .boolean) (by simp) at_85 rfl
      · rintro (c3 : (i0 &&& (3 : Int32)) = (2 : Int32))
        refine own_bipush (q := 40) A0 (42 : Int32) at_38 rfl ?_
        refine own_istoreN (q := 41) (L' := #[.val (.int i0), .val (.int (i0 &&& (3 : Int32))), .val (.int (42 : Int32)), .unset, .unset]) A0 at_40 rfl ?_
        refine own_getS (q := 44) A0 (hw _ (List.mem_of_getElem? (i := 68) rfl)) Via.refl STIMES at_41 ?_
        intro T58 A59
        refine own_astoreN (q := 45) (L' := #[.val (.int i0), .val (.int (i0 &&& (3 : Int32))), .val (.int (42 : Int32)), .val (.ref o2), .unset]) A59 at_44 rfl rfl ?_
        refine own_goto (q := 55) A59 at_45 ?_
        refine own_newO (q := 58) A59 (hw _ (List.mem_of_getElem? (i := 3) rfl)) (hw _ (List.mem_of_getElem? (i := 4) rfl)) (hw _ (List.mem_of_getElem? (i := 5) rfl)) at_55 (by decide) (by decide) ?_
        intro T60 h61 a62 g63 g64 A65 E66 X67 D68
        have f69 : Fld Z h61 a62 "java/lang/String" "value" "[B" .null := D68 (Or.inr (hw _ (List.mem_of_getElem? (i := 32) rfl))) (ty := (.array .byte)) (by decide)
        have f70 : Fld Z h61 a62 "java/lang/String" "coder" "B" (.int (0 : Int32)) := D68 (Or.inr (hw _ (List.mem_of_getElem? (i := 30) rfl))) (ty := .byte) (by decide)
        refine own_dup (q := 59) A65 at_58 rfl ?_
        refine own_iconst (q := 60) A65 (1 : Int32) at_59 rfl ?_
        refine own_newPv (q := 62) (ty := .char) (dv := .int 0) A65 rfl rfl (hw _ (List.mem_of_getElem? (i := 6) rfl)) at_60 1 (by decide) (by decide) (by decide) (by decide) (by decide) ?_
        intro T71 h72 a73 k74 g75 g76 A77 E78 X79
        have z80 : a62 ≠ a73 := Nat.ne_of_lt (Nat.lt_of_lt_of_le X67.lt (Nat.le_of_eq g75))
        have f81 : Exa Z h72 a62 "java/lang/String" := X67.ext E78
        have f82 : Fld Z h72 a62 "java/lang/String" "value" "[B" .null := f69.ext E78
        have f83 : Fld Z h72 a62 "java/lang/String" "coder" "B" (.int (0 : Int32)) := f70.ext E78
        have f84 : Arv Z h72 a73 k74 .char (1 : Int32) [(.int (0 : Int32))] (.int 0) := X79
        refine own_dup (q := 63) A77 at_62 rfl ?_
        refine own_iconst (q := 64) A77 (0 : Int32) at_63 rfl ?_
        refine own_iloadN (q := 65) (v := (42 : Int32)) A77 at_64 rfl ?_
        refine own_stCv (q := 66) A77 f84 0 (by decide) (by decide) (by decide) (Nat.le_of_ble_eq_true rfl) g76 (Or.inr (Or.inl rfl)) at_65 ?_
        intro T85 h86 sl87 A88 W89 X90
        have f91 : Exa Z h86 a62 "java/lang/String" := f81.wr W89
        have f92 : Fld Z h86 a62 "java/lang/String" "value" "[B" .null := f82.other W89 (Or.inl z80)
        have f93 : Fld Z h86 a62 "java/lang/String" "coder" "B" (.int (0 : Int32)) := f83.other W89 (Or.inl z80)
        have f94 : Arv Z h86 a73 k74 .char (1 : Int32) [(.int (42 : Int32))] (.int 0) := X90
        refine own_special (q := 69) (W := 1) (argsL := [(.ref a73)]) (rest := [(.ref a62)]) A88 rfl (hw _ (List.mem_of_getElem? (i := 7) rfl)) (hw _ (List.mem_of_getElem? (i := 8) rfl)) (hw _ (List.mem_of_getElem? (i := 9) rfl)) (by decide) (own_payV (cs := [42]) (bs := [42]) (n := 1) (N := 1) (kI := 4) (fun d hd => hw d ((by decide +kernel : ∀ d ∈ StrChars.Road.words, d ∈ tables_1) d hd)) (hw _ (List.mem_of_getElem? (i := 4) rfl)) A88.old g64 f91 f92 f93 f94 SC hz rfl rfl (by decide) (by decide) (by decide) (by decide) (by decide) (by decide)) (by simp) (Nat.le_of_eq rfl) own_pd3 rfl rfl rfl at_66 (by decide) (by decide) ?_
        rintro v104 T105 h106 A107 ⟨rfl, K95, E96, C97, t98, k99, g100, g101, V102, K103⟩
        show own_Run p e below Q m T105 69 #[.val (.int i0), .val (.int (i0 &&& (3 : Int32))), .val (.int (42 : Int32)), .val (.ref o2), .unset] [(.ref a62)]
        refine own_astore (q := 71) (L' := #[.val (.int i0), .val (.int (i0 &&& (3 : Int32))), .val (.int (42 : Int32)), .val (.ref o2), .val (.ref a62)]) A107 at_69 rfl rfl ?_
        refine own_aload (q := 73) (v := (.ref a62)) A107 at_71 rfl rfl ?_
        refine own_static (q := 76) (W := 0) (argsL := [(.ref a62)]) (rest := []) A107 (hw _ (List.mem_of_getElem? (i := 33) rfl)) (hw _ (List.mem_of_getElem? (i := 34) rfl)) (hw _ (List.mem_of_getElem? (i := 1) rfl)) (hw _ (List.mem_of_getElem? (i := 35) rfl)) (by decide) (own_pay (rm_of2 l Z a0 hw zc vA o0 o1 o2 o3 s0 s1 s2 s3 t0 t1 t2 t3 kV k0 k1 k2 k3 a62 t98 k99 h106 n0 A107.old SC hz SV EV VV Sy0 Es0 Cs0 Vs0 Ks0 Sy1 Es1 Cs1 Vs1 Ks1 Sy2 Es2 Cs2 Vs2 Ks2 Sy3 Es3 Cs3 Vs3 Ks3 E96 V102 C97 K103) (hw _ (List.mem_of_getElem? (i := 35) rfl)) (hw _ (List.mem_of_getElem? (i := 1) rfl)) (by decide) (by decide)) (fun _ z => nomatch z) (Nat.le_of_eq rfl) own_pd0 rfl rfl rfl at_73 (by decide) (by decide) ?_
        rintro v108 T109 h110 A111 rfl
        show own_Run p e below Q m T109 76 #[.val (.int i0), .val (.int (i0 &&& (3 : Int32))), .val (.int (42 : Int32)), .val (.ref o2), .val (.ref a62)] [(.ref o2)]
        refine own_aloadN (q := 77) (v := (.ref o2)) A111 at_76 rfl rfl ?_
        refine own_acmpF (q := 80) A111 at_77 rfl rfl (XT.aa_ne_f rfl) ?_
        refine own_iconst (q := 81) A111 (1 : Int32) at_80 rfl ?_
        refine own_goto (q := 85) A111 at_81 ?_
        exact own_retN A111 hQ (t := .boolean) (by simp) at_85 rfl
    · rintro (c2 : (i0 &&& (3 : Int32)) = (1 : Int32))
      refine own_bipush (q := 25) A0 (45 : Int32) at_23 rfl ?_
      refine own_istoreN (q := 26) (L' := #[.val (.int i0), .val (.int (i0 &&& (3 : Int32))), .val (.int (45 : Int32)), .unset, .unset]) A0 at_25 rfl ?_
      refine own_getS (q := 29) A0 (hw _ (List.mem_of_getElem? (i := 70) rfl)) Via.refl SMINUS at_26 ?_
      intro T112 A113
      refine own_astoreN (q := 30) (L' := #[.val (.int i0), .val (.int (i0 &&& (3 : Int32))), .val (.int (45 : Int32)), .val (.ref o1), .unset]) A113 at_29 rfl rfl ?_
      refine own_goto (q := 55) A113 at_30 ?_
      refine own_newO (q := 58) A113 (hw _ (List.mem_of_getElem? (i := 3) rfl)) (hw _ (List.mem_of_getElem? (i := 4) rfl)) (hw _ (List.mem_of_getElem? (i := 5) rfl)) at_55 (by decide) (by decide) ?_
      intro T114 h115 a116 g117 g118 A119 E120 X121 D122
      have f123 : Fld Z h115 a116 "java/lang/String" "value" "[B" .null := D122 (Or.inr (hw _ (List.mem_of_getElem? (i := 32) rfl))) (ty := (.array .byte)) (by decide)
      have f124 : Fld Z h115 a116 "java/lang/String" "coder" "B" (.int (0 : Int32)) := D122 (Or.inr (hw _ (List.mem_of_getElem? (i := 30) rfl))) (ty := .byte) (by decide)
      refine own_dup (q := 59) A119 at_58 rfl ?_
      refine own_iconst (q := 60) A119 (1 : Int32) at_59 rfl ?_
      refine own_newPv (q := 62) (ty := .char) (dv := .int 0) A119 rfl rfl (hw _ (List.mem_of_getElem? (i := 6) rfl)) at_60 1 (by decide) (by decide) (by decide) (by decide) (by decide) ?_
      intro T125 h126 a127 k128 g129 g130 A131 E132 X133
      have z134 : a116 ≠ a127 := Nat.ne_of_lt (Nat.lt_of_lt_of_le X121.lt (Nat.le_of_eq g129))
      have f135 : Exa Z h126 a116 "java/lang/String" := X121.ext E132
      have f136 : Fld Z h126 a116 "java/lang/String" "value" "[B" .null := f123.ext E132
      have f137 : Fld Z h126 a116 "java/lang/String" "coder" "B" (.int (0 : Int32)) := f124.ext E132
      have f138 : Arv Z h126 a127 k128 .char (1 : Int32) [(.int (0 : Int32))] (.int 0) := X133
      refine own_dup (q := 63) A131 at_62 rfl ?_
      refine own_iconst (q := 64) A131 (0 : Int32) at_63 rfl ?_
      refine own_iloadN (q := 65) (v := (45 : Int32)) A131 at_64 rfl ?_
      refine own_stCv (q := 66) A131 f138 0 (by decide) (by decide) (by decide) (Nat.le_of_ble_eq_true rfl) g130 (Or.inr (Or.inl rfl)) at_65 ?_
      intro T139 h140 sl141 A142 W143 X144
      have f145 : Exa Z h140 a116 "java/lang/String" := f135.wr W143
      have f146 : Fld Z h140 a116 "java/lang/String" "value" "[B" .null := f136.other W143 (Or.inl z134)
      have f147 : Fld Z h140 a116 "java/lang/String" "coder" "B" (.int (0 : Int32)) := f137.other W143 (Or.inl z134)
      have f148 : Arv Z h140 a127 k128 .char (1 : Int32) [(.int (45 : Int32))] (.int 0) := X144
      refine own_special (q := 69) (W := 1) (argsL := [(.ref a127)]) (rest := [(.ref a116)]) A142 rfl (hw _ (List.mem_of_getElem? (i := 7) rfl)) (hw _ (List.mem_of_getElem? (i := 8) rfl)) (hw _ (List.mem_of_getElem? (i := 9) rfl)) (by decide) (own_payV (cs := [45]) (bs := [45]) (n := 1) (N := 1) (kI := 4) (fun d hd => hw d ((by decide +kernel : ∀ d ∈ StrChars.Road.words, d ∈ tables_1) d hd)) (hw _ (List.mem_of_getElem? (i := 4) rfl)) A142.old g118 f145 f146 f147 f148 SC hz rfl rfl (by decide) (by decide) (by decide) (by decide) (by decide) (by decide)) (by simp) (Nat.le_of_eq rfl) own_pd3 rfl rfl rfl at_66 (by decide) (by decide) ?_
      rintro v158 T159 h160 A161 ⟨rfl, K149, E150, C151, t152, k153, g154, g155, V156, K157⟩
      show own_Run p e below Q m T159 69 #[.val (.int i0), .val (.int (i0 &&& (3 : Int32))), .val (.int (45 : Int32)), .val (.ref o1), .unset] [(.ref a116)]
      refine own_astore (q := 71) (L' := #[.val (.int i0), .val (.int (i0 &&& (3 : Int32))), .val (.int (45 : Int32)), .val (.ref o1), .val (.ref a116)]) A161 at_69 rfl rfl ?_
      refine own_aload (q := 73) (v := (.ref a116)) A161 at_71 rfl rfl ?_
      refine own_static (q := 76) (W := 0) (argsL := [(.ref a116)]) (rest := []) A161 (hw _ (List.mem_of_getElem? (i := 33) rfl)) (hw _ (List.mem_of_getElem? (i := 34) rfl)) (hw _ (List.mem_of_getElem? (i := 1) rfl)) (hw _ (List.mem_of_getElem? (i := 35) rfl)) (by decide) (own_pay (rm_of1 l Z a0 hw zc vA o0 o1 o2 o3 s0 s1 s2 s3 t0 t1 t2 t3 kV k0 k1 k2 k3 a116 t152 k153 h160 n0 A161.old SC hz SV EV VV Sy0 Es0 Cs0 Vs0 Ks0 Sy1 Es1 Cs1 Vs1 Ks1 Sy2 Es2 Cs2 Vs2 Ks2 Sy3 Es3 Cs3 Vs3 Ks3 E150 V156 C151 K157) (hw _ (List.mem_of_getElem? (i := 35) rfl)) (hw _ (List.mem_of_getElem? (i := 1) rfl)) (by decide) (by decide)) (fun _ z => nomatch z) (Nat.le_of_eq rfl) own_pd0 rfl rfl rfl at_73 (by decide) (by decide) ?_
      rintro v162 T163 h164 A165 rfl
      show own_Run p e below Q m T163 76 #[.val (.int i0), .val (.int (i0 &&& (3 : Int32))), .val (.int (45 : Int32)), .val (.ref o1), .val (.ref a116)] [(.ref o1)]
      refine own_aloadN (q := 77) (v := (.ref o1)) A165 at_76 rfl rfl ?_
      refine own_acmpF (q := 80) A165 at_77 rfl rfl (XT.aa_ne_f rfl) ?_
      refine own_iconst (q := 81) A165 (1 : Int32) at_80 rfl ?_
      refine own_goto (q := 85) A165 at_81 ?_
      exact own_retN A165 hQ (t := .boolean) (by simp) at_85 rfl
  · rintro (c1 : (i0 &&& (3 : Int32)) = (0 : Int32))
    refine own_bipush (q := 10) A0 (43 : Int32) at_8 rfl ?_
    refine own_istoreN (q := 11) (L' := #[.val (.int i0), .val (.int (i0 &&& (3 : Int32))), .val (.int (43 : Int32)), .unset, .unset]) A0 at_10 rfl ?_
    refine own_getS (q := 14) A0 (hw _ (List.mem_of_getElem? (i := 0) rfl)) Via.refl SPLUS at_11 ?_
    intro T166 A167
    refine own_astoreN (q := 15) (L' := #[.val (.int i0), .val (.int (i0 &&& (3 : Int32))), .val (.int (43 : Int32)), .val (.ref o0), .unset]) A167 at_14 rfl rfl ?_
    refine own_goto (q := 55) A167 at_15 ?_
    refine own_newO (q := 58) A167 (hw _ (List.mem_of_getElem? (i := 3) rfl)) (hw _ (List.mem_of_getElem? (i := 4) rfl)) (hw _ (List.mem_of_getElem? (i := 5) rfl)) at_55 (by decide) (by decide) ?_
    intro T168 h169 a170 g171 g172 A173 E174 X175 D176
    have f177 : Fld Z h169 a170 "java/lang/String" "value" "[B" .null := D176 (Or.inr (hw _ (List.mem_of_getElem? (i := 32) rfl))) (ty := (.array .byte)) (by decide)
    have f178 : Fld Z h169 a170 "java/lang/String" "coder" "B" (.int (0 : Int32)) := D176 (Or.inr (hw _ (List.mem_of_getElem? (i := 30) rfl))) (ty := .byte) (by decide)
    refine own_dup (q := 59) A173 at_58 rfl ?_
    refine own_iconst (q := 60) A173 (1 : Int32) at_59 rfl ?_
    refine own_newPv (q := 62) (ty := .char) (dv := .int 0) A173 rfl rfl (hw _ (List.mem_of_getElem? (i := 6) rfl)) at_60 1 (by decide) (by decide) (by decide) (by decide) (by decide) ?_
    intro T179 h180 a181 k182 g183 g184 A185 E186 X187
    have z188 : a170 ≠ a181 := Nat.ne_of_lt (Nat.lt_of_lt_of_le X175.lt (Nat.le_of_eq g183))
    have f189 : Exa Z h180 a170 "java/lang/String" := X175.ext E186
    have f190 : Fld Z h180 a170 "java/lang/String" "value" "[B" .null := f177.ext E186
    have f191 : Fld Z h180 a170 "java/lang/String" "coder" "B" (.int (0 : Int32)) := f178.ext E186
    have f192 : Arv Z h180 a181 k182 .char (1 : Int32) [(.int (0 : Int32))] (.int 0) := X187
    refine own_dup (q := 63) A185 at_62 rfl ?_
    refine own_iconst (q := 64) A185 (0 : Int32) at_63 rfl ?_
    refine own_iloadN (q := 65) (v := (43 : Int32)) A185 at_64 rfl ?_
    refine own_stCv (q := 66) A185 f192 0 (by decide) (by decide) (by decide) (Nat.le_of_ble_eq_true rfl) g184 (Or.inr (Or.inl rfl)) at_65 ?_
    intro T193 h194 sl195 A196 W197 X198
    have f199 : Exa Z h194 a170 "java/lang/String" := f189.wr W197
    have f200 : Fld Z h194 a170 "java/lang/String" "value" "[B" .null := f190.other W197 (Or.inl z188)
    have f201 : Fld Z h194 a170 "java/lang/String" "coder" "B" (.int (0 : Int32)) := f191.other W197 (Or.inl z188)
    have f202 : Arv Z h194 a181 k182 .char (1 : Int32) [(.int (43 : Int32))] (.int 0) := X198
    refine own_special (q := 69) (W := 1) (argsL := [(.ref a181)]) (rest := [(.ref a170)]) A196 rfl (hw _ (List.mem_of_getElem? (i := 7) rfl)) (hw _ (List.mem_of_getElem? (i := 8) rfl)) (hw _ (List.mem_of_getElem? (i := 9) rfl)) (by decide) (own_payV (cs := [43]) (bs := [43]) (n := 1) (N := 1) (kI := 4) (fun d hd => hw d ((by decide +kernel : ∀ d ∈ StrChars.Road.words, d ∈ tables_1) d hd)) (hw _ (List.mem_of_getElem? (i := 4) rfl)) A196.old g172 f199 f200 f201 f202 SC hz rfl rfl (by decide) (by decide) (by decide) (by decide) (by decide) (by decide)) (by simp) (Nat.le_of_eq rfl) own_pd3 rfl rfl rfl at_66 (by decide) (by decide) ?_
    rintro v212 T213 h214 A215 ⟨rfl, K203, E204, C205, t206, k207, g208, g209, V210, K211⟩
    show own_Run p e below Q m T213 69 #[.val (.int i0), .val (.int (i0 &&& (3 : Int32))), .val (.int (43 : Int32)), .val (.ref o0), .unset] [(.ref a170)]
    refine own_astore (q := 71) (L' := #[.val (.int i0), .val (.int (i0 &&& (3 : Int32))), .val (.int (43 : Int32)), .val (.ref o0), .val (.ref a170)]) A215 at_69 rfl rfl ?_
    refine own_aload (q := 73) (v := (.ref a170)) A215 at_71 rfl rfl ?_
    refine own_static (q := 76) (W := 0) (argsL := [(.ref a170)]) (rest := []) A215 (hw _ (List.mem_of_getElem? (i := 33) rfl)) (hw _ (List.mem_of_getElem? (i := 34) rfl)) (hw _ (List.mem_of_getElem? (i := 1) rfl)) (hw _ (List.mem_of_getElem? (i := 35) rfl)) (by decide) (own_pay (rm_of0 l Z a0 hw zc vA o0 o1 o2 o3 s0 s1 s2 s3 t0 t1 t2 t3 kV k0 k1 k2 k3 a170 t206 k207 h214 n0 A215.old SC hz SV EV VV Sy0 Es0 Cs0 Vs0 Ks0 Sy1 Es1 Cs1 Vs1 Ks1 Sy2 Es2 Cs2 Vs2 Ks2 Sy3 Es3 Cs3 Vs3 Ks3 E204 V210 C205 K211) (hw _ (List.mem_of_getElem? (i := 35) rfl)) (hw _ (List.mem_of_getElem? (i := 1) rfl)) (by decide) (by decide)) (fun _ z => nomatch z) (Nat.le_of_eq rfl) own_pd0 rfl rfl rfl at_73 (by decide) (by decide) ?_
    rintro v216 T217 h218 A219 rfl
    show own_Run p e below Q m T217 76 #[.val (.int i0), .val (.int (i0 &&& (3 : Int32))), .val (.int (43 : Int32)), .val (.ref o0), .val (.ref a170)] [(.ref o0)]
    refine own_aloadN (q := 77) (v := (.ref o0)) A219 at_76 rfl rfl ?_
    refine own_acmpF (q := 80) A219 at_77 rfl rfl (XT.aa_ne_f rfl) ?_
    refine own_iconst (q := 81) A219 (1 : Int32) at_80 rfl ?_
    refine own_goto (q := 85) A219 at_81 ?_
    exact own_retN A219 hQ (t := .boolean) (by simp) at_85 rfl
set_option maxRecDepth 65536 in
set_option maxHeartbeats 40000000 in
theorem comes_1 {Post : Tables → Env → Array Value → State → Outcome → State → Prop} (hpost : ∀ tb e args s v u, (limb_1_1.after args s (.returned v) u = true ∧ limb_1_2.after args s (.returned v) u = true ∧ True) → FrameEnd s (.returned v) u (Jvm.fieldLocs frame_1_writes args s ++ Jvm.arrayLocs frame_1_arrays args s ++ Jvm.staticLocs frame_1_statics s) 16 128 → Post tb e args s (.returned v) u) :
    ArmFor flags0 classFile x code maxLocals ret World_1 tables_1 room_1 Calls_1 rest_1 Pre_1 Post := by
  intro l hfl _ _ p e ha hc hk s m args below hf hA hF happ hP
  obtain ⟨hcalls, hrest, hpre⟩ := hP
  obtain ⟨-, -, -, hnamed, -, -, -, hat⟩ := (Spec.applies_iff hf).mp happ
  obtain ⟨hg, hn⟩ := and_e (Cond.before_iff.mp (show (Jvm.Cond.and given_1 narrow_1).before args s = true from hpre))
  obtain ⟨g0, hg0⟩ := and_e hg
  have g1 := hg0
  obtain ⟨w0, rfl⟩ : ∃ w0 : Value, args = #[w0] := by
    have hs : args.size = 1 := by simpa [Cond.value, given_1] using g0
    obtain ⟨L⟩ := args
    match L, hs with
    | [w0], _ => exact ⟨w0, rfl⟩
  have hw := fun d (hd : d ∈ tables_1) => atoms_spec (ws := Jvm.Cond.code x code maxLocals ret :: tables_1) hat d (List.mem_cons_of_mem _ hd)
  have hfit : Fit s := fun {y c} hc i hi => by
    obtain ⟨ha, rfl⟩ := Array.getElem?_eq_some_iff.mp hc
    have q := List.all_eq_true.mp ((Array.all_eq_true_iff_forall_mem.mp hF) _ (Array.getElem_mem ha)) i (List.mem_range.mpr hi)
    simpa [Array.getElem?_eq_getElem hi] using q
  obtain ⟨i0, ei0⟩ := is_v g1
  obtain rfl : w0 = (.int i0) := Option.some.inj ei0
  obtain ⟨hsets, hown0⟩ := atoms_of _ (rest_1_c_eq ▸ (show rest_1_c.before _ s = true from hrest))
  obtain ⟨q0, r0⟩ := and_e hn
  obtain ⟨q1, r1⟩ := and_e r0
  obtain ⟨q2, r2⟩ := and_e r1
  obtain ⟨q3, r3⟩ := and_e r2
  obtain ⟨q4, r4⟩ := and_e r3
  obtain ⟨q5, r5⟩ := and_e r4
  obtain ⟨q6, r6⟩ := and_e r5
  obtain ⟨q7, r7⟩ := and_e r6
  obtain ⟨q8, r8⟩ := and_e r7
  obtain ⟨q9, r9⟩ := and_e r8
  obtain ⟨q10, r10⟩ := and_e r9
  obtain ⟨q11, r11⟩ := and_e r10
  obtain ⟨q12, r12⟩ := and_e r11
  obtain ⟨q13, r13⟩ := and_e r12
  obtain ⟨q14, r14⟩ := and_e r13
  obtain ⟨q15, r15⟩ := and_e r14
  obtain ⟨q16, r16⟩ := and_e r15
  obtain ⟨q17, r17⟩ := and_e r16
  obtain ⟨q18, r18⟩ := and_e r17
  obtain ⟨q19, r19⟩ := and_e r18
  obtain ⟨q20, r20⟩ := and_e r19
  obtain ⟨q21, r21⟩ := and_e r20
  obtain ⟨q22, r22⟩ := and_e r21
  obtain ⟨q23, r23⟩ := and_e r22
  obtain ⟨q24, r24⟩ := and_e r23
  obtain ⟨q25, r25⟩ := and_e r24
  obtain ⟨q26, r26⟩ := and_e r25
  obtain ⟨q27, r27⟩ := and_e r26
  obtain ⟨q28, r28⟩ := and_e r27
  obtain ⟨q29, r29⟩ := and_e r28
  have q30 := r29
  have n2 := not_v (Cond.before_iff.mp (hsets _ (List.mem_of_getElem? (i := 2) rfl)))
  obtain ⟨zc, ez⟩ := is_v (Cond.before_iff.mp (hsets _ (List.mem_of_getElem? (i := 1) rfl)))
  have SC := Sta.start ez (Or.inl (hsets _ (List.mem_of_getElem? (i := 0) rfl)))
  have hz : ¬ zc = (0 : Int32) := gotF (Cond.eq_ints ez (Term.int_eval (0))) n2
  obtain ⟨vA, eA⟩ := arr_v q1
  obtain ⟨cA, AA⟩ := Arr.start eA q1
  have EV := Exa.start eA q2
  obtain ⟨lA, lA'⟩ := own_len eA AA q3
  have SV := Sta.start eA (Or.inr ⟨(hw _ (List.mem_of_getElem? (i := 1) rfl)), (hw _ (List.mem_of_getElem? (i := 40) rfl))⟩)
  obtain ⟨o0, e0⟩ := exa_v q0
  have d0 := own_eqR q4 e0
  obtain ⟨o1, d1⟩ := exa_v q5
  obtain ⟨o2, d2⟩ := exa_v q6
  obtain ⟨o3, d3⟩ := exa_v q7
  have SPLUS := Sta.start e0 (Or.inr ⟨(hw _ (List.mem_of_getElem? (i := 1) rfl)), (hw _ (List.mem_of_getElem? (i := 2) rfl))⟩)
  have SMINUS := Sta.start (own_eqR q30 d1) (Or.inr ⟨(hw _ (List.mem_of_getElem? (i := 1) rfl)), (hw _ (List.mem_of_getElem? (i := 71) rfl))⟩)
  have STIMES := Sta.start (own_eqR q29 d2) (Or.inr ⟨(hw _ (List.mem_of_getElem? (i := 1) rfl)), (hw _ (List.mem_of_getElem? (i := 69) rfl))⟩)
  have SDIVIDED_BY := Sta.start (own_eqR q13 d3) (Or.inr ⟨(hw _ (List.mem_of_getElem? (i := 1) rfl)), (hw _ (List.mem_of_getElem? (i := 64) rfl))⟩)
  have m0 := (elem_in d0 eA (Term.int_eval 0) AA.1).2
  have m1 := (elem_in d1 eA (Term.int_eval 1) AA.1).2
  have m2 := (elem_in d2 eA (Term.int_eval 2) AA.1).2
  have m3 := (elem_in d3 eA (Term.int_eval 3) AA.1).2
  have VV : Arv s s.heap vA cA.cls (.object "com/example/covenantry/covenantry/formula/Operator") 4 [.ref o0, .ref o1, .ref o2, .ref o3] .null := Arv.start hfit AA lA lA' (by decide) rfl ⟨m0, m1, m2, m3, trivial⟩
  obtain ⟨s0, f0⟩ := exa_v q8
  have Sy0 := Fld.start ((fld_at e0).symm.trans f0)
  have Es0 := Exa.start f0 q8
  have Cs0 := own_ord f0 q9
  obtain ⟨t0, g0'⟩ := arr_v q10
  obtain ⟨ct0, At0⟩ := Arr.start g0' q10
  have Vs0 := Fld.start ((fld_at f0).symm.trans g0')
  obtain ⟨l0, l0'⟩ := own_len g0' At0 q11
  have x0 := (own_elem g0' At0 q12).2
  have Ks0 : Arv s s.heap t0 ct0.cls .byte 1 [.int 43] (.int 0) := Arv.start hfit At0 l0 l0' (by decide) rfl ⟨x0, trivial⟩
  obtain ⟨s1, f1⟩ := exa_v q14
  have Sy1 := Fld.start ((fld_at d1).symm.trans f1)
  have Es1 := Exa.start f1 q14
  have Cs1 := own_ord f1 q15
  obtain ⟨t1, g1'⟩ := arr_v q16
  obtain ⟨ct1, At1⟩ := Arr.start g1' q16
  have Vs1 := Fld.start ((fld_at f1).symm.trans g1')
  obtain ⟨l1, l1'⟩ := own_len g1' At1 q17
  have x1 := (own_elem g1' At1 q18).2
  have Ks1 : Arv s s.heap t1 ct1.cls .byte 1 [.int 45] (.int 0) := Arv.start hfit At1 l1 l1' (by decide) rfl ⟨x1, trivial⟩
  obtain ⟨s2, f2⟩ := exa_v q19
  have Sy2 := Fld.start ((fld_at d2).symm.trans f2)
  have Es2 := Exa.start f2 q19
  have Cs2 := own_ord f2 q20
  obtain ⟨t2, g2'⟩ := arr_v q21
  obtain ⟨ct2, At2⟩ := Arr.start g2' q21
  have Vs2 := Fld.start ((fld_at f2).symm.trans g2')
  obtain ⟨l2, l2'⟩ := own_len g2' At2 q22
  have x2 := (own_elem g2' At2 q23).2
  have Ks2 : Arv s s.heap t2 ct2.cls .byte 1 [.int 42] (.int 0) := Arv.start hfit At2 l2 l2' (by decide) rfl ⟨x2, trivial⟩
  obtain ⟨s3, f3⟩ := exa_v q24
  have Sy3 := Fld.start ((fld_at d3).symm.trans f3)
  have Es3 := Exa.start f3 q24
  have Cs3 := own_ord f3 q25
  obtain ⟨t3, g3'⟩ := arr_v q26
  obtain ⟨ct3, At3⟩ := Arr.start g3' q26
  have Vs3 := Fld.start ((fld_at f3).symm.trans g3')
  obtain ⟨l3, l3'⟩ := own_len g3' At3 q27
  have x3 := (own_elem g3' At3 q28).2
  have Ks3 : Arv s s.heap t3 ct3.cls .byte 1 [.int 47] (.int 0) := Arv.start hfit At3 l3 l3' (by decide) rfl ⟨x3, trivial⟩
  obtain ⟨n, o, h1, h2, h3, v, L, rfl, ⟨rfl, N, -, -⟩, -, hq⟩ := rm_law l s _ hw tables_1 zc vA o0 o1 o2 o3 s0 s1 s2 s3 t0 t1 t2 t3 cA.cls ct0.cls ct1.cls ct2.cls ct3.cls i0 s.heap s.heap.size (Old.start s) SC hz SV EV VV Sy0 Es0 Cs0 Vs0 Ks0 Sy1 Es1 Cs1 Vs1 Ks1 Sy2 Es2 Cs2 Vs2 Ks2 Sy3 Es3 Cs3 Vs3 Ks3 SPLUS SMINUS STIMES SDIVIDED_BY p e ha hc hk s m _ below hf ((Spec.applies_iff_loose hf).mp happ).1 ⟨rfl, State.Warmed39.refl s, rfl, (own_ch0 (vm := s.vm) (h := s.heap) (Nat.le_refl _)).1, fun _ z => nomatch z⟩ trivial
  have hq' : FrameEnd s _ _ L _ _ := hq
  refine ⟨n, _, h1, h2, h3, hpost _ _ _ _ _ _ ⟨Cond.after_iff.mpr rfl, Cond.after_iff.mpr (eq_i res_at (Term.int_eval (1)) rfl), trivial⟩ ⟨hq'.1, hq'.2.1, (hq'.2.2.sift fun y hy => Or.inr (N y hy)).mono (by decide) (by decide)⟩⟩
theorem main_1_1 : Claimed_1_1 := comes_1 fun _ _ _ _ _ _ h hF => ⟨h.1, hF⟩
theorem main_1_2 : Claimed_1_2 := comes_1 fun _ _ _ _ _ _ h hF => ⟨h.2.1, hF⟩
end Jvm.Pilot.@@N@@
namespace Jvm.Pilot.@@N@@
open Jvm Jvm.ClassFile Sem Op Lib Jvm.Free Jvm.Stand Jvm.Pilot.@@N@@.Jvm.D
/-! MADE BY PROGRAM (witnessworld.py) out of the Statement's table words and the real class files: 26 classes; the members and pool entries that the words name. The judged class is class 1, her method 1. -/
namespace start1
open Jvm.ClassFile
def u (s : String) : CpInfo := .utf8 (stringToUtf16 s)
/-- a pool by its gaps: so many unusable entries, then the entry; so many at the end -/
def gap : Nat → List CpInfo → List CpInfo
  | 0, r => r
  | n + 1, r => .unusable :: gap n r
def poolList (es : List (Nat × CpInfo)) (last : Nat) : List CpInfo := es.foldr (fun e r => gap e.1 (e.2 :: r)) (gap last [])
def pool (es : List (Nat × CpInfo)) (last : Nat) : Array CpInfo := ⟨poolList es last⟩
def fileOf (pool : Array CpInfo) (this : Nat) (attrs : Array Attribute := #[]) (ms : Array MethodInfo := #[]) (fl : Nat := 33) (sup : Nat := 0) (ifs : Array Nat := #[]) (fds : Array FieldInfo := #[]) : ClassFile where
  minorVersion := 0
  majorVersion := 65
  constantPool := pool
  accessFlags := fl
  thisClass := this
  superClass := sup
  interfaces := ifs
  fields := fds
  methods := ms
  attributes := attrs
def plain (name : String) (sup : Option ClassId) : Class where
  name := name
  kind := .ordinary
  loader := none
  accessFlags := 33
  super := sup
  interfaces := #[]
  cf := none
  fields := #[]
  methods := #[]
  instanceTypes := #[]
  staticTypes := #[]
  resolved := #[]
  callSites := []
  init := .initialized
  statics := none
  mirror := none

def pool0 : Array CpInfo := pool [(5, u "<init>"), (0, u "()V"), (1, .class_ 10), (1, u "java/lang/Object"), (85, u "clone"), (0, u "()Ljava/lang/Object;")] 26

def k0c0 : Code := { maxStack := 0, maxLocals := 1, code := object_method_1_code, exceptionTable := #[], attributes := #[] }
def k0m0 : Method := { name := "<init>", desc := "()V", sig := { parameters := [], returnType := none }, accessFlags := 1, code := some k0c0 }
def k0m1 : Method := { name := "clone", desc := "()Ljava/lang/Object;", sig := { parameters := [], returnType := some (.object "java/lang/Object") }, accessFlags := 260, code := none }
/-- java/lang/Object -/
def k0 : Class := { plain "java/lang/Object" none with
  accessFlags := 33
  interfaces := #[]
  cf := some (fileOf pool0 8 #[] #[{ accessFlags := 1, nameIndex := 5, descriptorIndex := 6, attributes := #[] }, { accessFlags := 260, nameIndex := 96, descriptorIndex := 97, attributes := #[] }] 33 0 #[] #[])
  fields := #[]
  methods := #[k0m0, k0m1]
  instanceTypes := #[]
  staticTypes := #[]
  resolved := Array.replicate 124 none
  statics := none }

def pool1 : Array CpInfo := pool [(2, .class_ 4), (1, u "java/lang/Object"), (0, u "<init>"), (0, u "()V"), (0, .fieldref 8 9), (0, .class_ 10), (0, .nameAndType 11 12), (0, u "com/example/covenantry/covenantry/formula/Operator"), (0, u "PLUS"), (0, u "Lcom/example/covenantry/covenantry/formula/Operator;"), (0, .fieldref 8 14), (0, .nameAndType 15 12), (0, u "MINUS"), (0, .fieldref 8 17), (0, .nameAndType 18 12), (0, u "TIMES"), (0, .fieldref 8 20), (0, .nameAndType 21 12), (0, u "DIVIDED_BY"), (0, .class_ 23), (0, u "java/lang/String"), (0, .methodref 22 25), (0, .nameAndType 5 26), (0, u "([C)V"), (0, .methodref 8 28), (0, .nameAndType 29 30), (0, u "of"), (0, u "(Ljava/lang/String;)Lcom/example/covenantry/covenantry/formula/Operator;"), (0, .class_ 32), (0, u "com/example/covenantry/covenantry/formula/OperatorOfPinLaw"), (2, u "law"), (0, u "(I)Z")] 3

def k1m0 : Method := { name := "<init>", desc := "()V", sig := { parameters := [], returnType := none }, accessFlags := 1, code := none }
def k1c1 : Code := { maxStack := 6, maxLocals := 5, code := code, exceptionTable := #[], attributes := #[] }
def k1m1 : Method := { name := "law", desc := "(I)Z", sig := { parameters := [.int], returnType := some .boolean }, accessFlags := 9, code := some k1c1 }
/-- com/example/covenantry/covenantry/formula/OperatorOfPinLaw -/
def k1 : Class := { plain "com/example/covenantry/covenantry/formula/OperatorOfPinLaw" (some 0) with
  accessFlags := 49
  interfaces := #[]
  cf := some (fileOf pool1 31 #[] #[{ accessFlags := 1, nameIndex := 5, descriptorIndex := 6, attributes := #[] }, { accessFlags := 9, nameIndex := 35, descriptorIndex := 36, attributes := #[] }] 49 2 #[] #[])
  fields := #[]
  methods := #[k1m0, k1m1]
  instanceTypes := #[]
  staticTypes := #[]
  resolved := Array.replicate 40 none
  statics := none }

def pool2 : Array CpInfo := pool [(1, .class_ 2), (0, u "java/lang/constant/Constable"), (0, .class_ 4), (0, u "java/lang/Object")] 6

/-- java/lang/constant/Constable -/
def k2 : Class := { plain "java/lang/constant/Constable" (some 0) with
  accessFlags := 1537
  interfaces := #[]
  cf := some (fileOf pool2 1 #[] #[] 1537 3 #[] #[])
  fields := #[]
  methods := #[]
  instanceTypes := #[]
  staticTypes := #[]
  resolved := Array.replicate 11 none
  statics := none }

def pool3 : Array CpInfo := pool [(1, .class_ 2), (0, u "java/lang/Comparable"), (0, .class_ 4), (0, u "java/lang/Object")] 7

/-- java/lang/Comparable -/
def k3 : Class := { plain "java/lang/Comparable" (some 0) with
  accessFlags := 1537
  interfaces := #[]
  cf := some (fileOf pool3 1 #[] #[] 1537 3 #[] #[])
  fields := #[]
  methods := #[]
  instanceTypes := #[]
  staticTypes := #[]
  resolved := Array.replicate 12 none
  statics := none }

def pool4 : Array CpInfo := pool [(1, .class_ 2), (0, u "java/io/Serializable"), (0, .class_ 4), (0, u "java/lang/Object")] 2

/-- java/io/Serializable -/
def k4 : Class := { plain "java/io/Serializable" (some 0) with
  accessFlags := 1537
  interfaces := #[]
  cf := some (fileOf pool4 1 #[] #[] 1537 3 #[] #[])
  fields := #[]
  methods := #[]
  instanceTypes := #[]
  staticTypes := #[]
  resolved := Array.replicate 7 none
  statics := none }

def pool5 : Array CpInfo := pool [(2, .class_ 4), (1, u "java/lang/Enum"), (0, u "name"), (0, u "Ljava/lang/String;"), (2, u "ordinal"), (0, u "I"), (1, .class_ 14), (1, u "java/lang/Object"), (4, u "hash"), (86, .class_ 108), (1, u "java/lang/Enum$EnumDesc"), (2, .class_ 112), (0, u "java/lang/constant/Constable"), (0, .class_ 114), (0, u "java/lang/Comparable"), (0, .class_ 116), (0, u "java/io/Serializable")] 87

/-- java/lang/Enum -/
def k5 : Class := { plain "java/lang/Enum" (some 0) with
  accessFlags := 1057
  interfaces := #[2, 3, 4]
  cf := some (fileOf pool5 2 #[.nestMembers #[106]] #[] 1057 12 #[111, 113, 115] #[{ accessFlags := 18, nameIndex := 5, descriptorIndex := 6, attributes := #[] }, { accessFlags := 18, nameIndex := 9, descriptorIndex := 10, attributes := #[] }, { accessFlags := 2, nameIndex := 19, descriptorIndex := 10, attributes := #[] }])
  fields := #[{ name := "name", type := (.object "java/lang/String"), accessFlags := 18, slot := 0, constantValue := 0 }, { name := "ordinal", type := .int, accessFlags := 18, slot := 1, constantValue := 0 }, { name := "hash", type := .int, accessFlags := 2, slot := 2, constantValue := 0 }]
  methods := #[]
  instanceTypes := #[(.object "java/lang/String"), .int, .int]
  staticTypes := #[]
  resolved := Array.replicate 204 none
  statics := none }

def pool6 : Array CpInfo := pool [(1, .class_ 2), (0, u "com/example/covenantry/covenantry/formula/Operator"), (2, u "PLUS"), (0, u "Lcom/example/covenantry/covenantry/formula/Operator;"), (2, u "MINUS"), (2, u "TIMES"), (2, u "DIVIDED_BY"), (0, .fieldref 1 17), (0, .nameAndType 18 19), (0, u "$VALUES"), (0, u "[Lcom/example/covenantry/covenantry/formula/Operator;"), (0, .methodref 21 22), (0, .class_ 19), (0, .nameAndType 23 24), (0, u "clone"), (0, u "()Ljava/lang/Object;"), (1, .class_ 28), (1, u "java/lang/Enum"), (6, .fieldref 1 36), (0, .nameAndType 37 38), (0, u "symbol"), (0, u "Ljava/lang/String;"), (0, .methodref 1 40), (0, .nameAndType 41 42), (0, u "values"), (0, u "()[Lcom/example/covenantry/covenantry/formula/Operator;"), (0, .methodref 44 45), (0, .class_ 46), (0, .nameAndType 47 48), (0, u "java/lang/String"), (0, u "equals"), (0, u "(Ljava/lang/Object;)Z"), (43, .class_ 93), (0, u "com/example/covenantry/covenantry/formula/Operator$1"), (6, .class_ 101), (0, u "com/example/covenantry/covenantry/formula/Operator$2"), (4, .class_ 107), (0, u "com/example/covenantry/covenantry/formula/Operator$3"), (4, .class_ 113), (0, u "com/example/covenantry/covenantry/formula/Operator$4"), (12, u "Ljava/math/MathContext;"), (2, u "QUOTIENT"), (2, u "(Ljava/lang/String;)Lcom/example/covenantry/covenantry/formula/Operator;"), (2, u "of")] 26

def k6c0 : Code := { maxStack := 1, maxLocals := 0, code := prog_119_method_1_code, exceptionTable := #[], attributes := #[] }
def k6m0 : Method := { name := "values", desc := "()[Lcom/example/covenantry/covenantry/formula/Operator;", sig := { parameters := [], returnType := some (.array (.object "com/example/covenantry/covenantry/formula/Operator")) }, accessFlags := 9, code := some k6c0 }
def k6c1 : Code := { maxStack := 3, maxLocals := 5, code := prog_119_method_4_code, exceptionTable := #[], attributes := #[] }
def k6m1 : Method := { name := "of", desc := "(Ljava/lang/String;)Lcom/example/covenantry/covenantry/formula/Operator;", sig := { parameters := [(.object "java/lang/String")], returnType := some (.object "com/example/covenantry/covenantry/formula/Operator") }, accessFlags := 8, code := some k6c1 }
/-- com/example/covenantry/covenantry/formula/Operator -/
def k6 : Class := { plain "com/example/covenantry/covenantry/formula/Operator" (some 5) with
  accessFlags := 17440
  interfaces := #[]
  cf := some (fileOf pool6 1 #[.nestMembers #[112, 106, 100, 92]] #[{ accessFlags := 9, nameIndex := 41, descriptorIndex := 42, attributes := #[] }, { accessFlags := 8, nameIndex := 135, descriptorIndex := 132, attributes := #[] }] 17440 26 #[] #[{ accessFlags := 16409, nameIndex := 5, descriptorIndex := 6, attributes := #[] }, { accessFlags := 16409, nameIndex := 9, descriptorIndex := 6, attributes := #[] }, { accessFlags := 16409, nameIndex := 12, descriptorIndex := 6, attributes := #[] }, { accessFlags := 16409, nameIndex := 15, descriptorIndex := 6, attributes := #[] }, { accessFlags := 26, nameIndex := 129, descriptorIndex := 126, attributes := #[] }, { accessFlags := 18, nameIndex := 37, descriptorIndex := 38, attributes := #[] }, { accessFlags := 4122, nameIndex := 18, descriptorIndex := 19, attributes := #[] }])
  fields := #[{ name := "PLUS", type := (.object "com/example/covenantry/covenantry/formula/Operator"), accessFlags := 16409, slot := 0, constantValue := 0 }, { name := "MINUS", type := (.object "com/example/covenantry/covenantry/formula/Operator"), accessFlags := 16409, slot := 1, constantValue := 0 }, { name := "TIMES", type := (.object "com/example/covenantry/covenantry/formula/Operator"), accessFlags := 16409, slot := 2, constantValue := 0 }, { name := "DIVIDED_BY", type := (.object "com/example/covenantry/covenantry/formula/Operator"), accessFlags := 16409, slot := 3, constantValue := 0 }, { name := "QUOTIENT", type := (.object "java/math/MathContext"), accessFlags := 26, slot := 4, constantValue := 0 }, { name := "symbol", type := (.object "java/lang/String"), accessFlags := 18, slot := 3, constantValue := 0 }, { name := "$VALUES", type := (.array (.object "com/example/covenantry/covenantry/formula/Operator")), accessFlags := 4122, slot := 5, constantValue := 0 }]
  methods := #[k6m0, k6m1]
  instanceTypes := #[(.object "java/lang/String"), .int, .int, (.object "java/lang/String")]
  staticTypes := #[(.object "com/example/covenantry/covenantry/formula/Operator"), (.object "com/example/covenantry/covenantry/formula/Operator"), (.object "com/example/covenantry/covenantry/formula/Operator"), (.object "com/example/covenantry/covenantry/formula/Operator"), (.object "java/math/MathContext"), (.array (.object "com/example/covenantry/covenantry/formula/Operator"))]
  resolved := Array.replicate 162 none
  statics := some 0 }

def pool7 : Array CpInfo := pool [(2, .class_ 4), (1, u "java/lang/CharSequence"), (42, .class_ 48), (0, u "java/lang/CharSequence$1CodePointIterator"), (10, .class_ 60), (0, u "java/lang/CharSequence$1CharIterator"), (5, .class_ 67), (0, u "java/lang/Object")] 63

/-- java/lang/CharSequence -/
def k7 : Class := { plain "java/lang/CharSequence" (some 0) with
  accessFlags := 1537
  interfaces := #[]
  cf := some (fileOf pool7 2 #[.nestMembers #[47, 59]] #[] 1537 66 #[] #[])
  fields := #[]
  methods := #[]
  instanceTypes := #[]
  staticTypes := #[]
  resolved := Array.replicate 131 none
  statics := none }

def pool8 : Array CpInfo := pool [(1, .class_ 2), (0, u "java/lang/constant/ConstantDesc"), (0, .class_ 4), (0, u "java/lang/Object")] 32

/-- java/lang/constant/ConstantDesc -/
def k8 : Class := { plain "java/lang/constant/ConstantDesc" (some 0) with
  accessFlags := 1537
  interfaces := #[]
  cf := some (fileOf pool8 1 #[] #[] 1537 3 #[] #[])
  fields := #[]
  methods := #[]
  instanceTypes := #[]
  staticTypes := #[]
  resolved := Array.replicate 37 none
  statics := none }

def pool9 : Array CpInfo := pool [(1, .methodref 2 3), (0, .class_ 4), (0, .nameAndType 5 6), (0, u "java/lang/Object"), (0, u "<init>"), (0, u "()V"), (2, .fieldref 10 11), (0, .class_ 12), (0, .nameAndType 13 14), (0, u "java/lang/String"), (0, u "value"), (0, u "[B"), (0, .fieldref 10 16), (0, .nameAndType 17 18), (0, u "coder"), (0, u "B"), (2, u "hash"), (0, u "I"), (2, u "hashIsZero"), (0, u "Z"), (0, .methodref 10 28), (0, .nameAndType 5 29), (0, u "([CIILjava/lang/Void;)V"), (8, .fieldref 10 39), (0, .nameAndType 40 26), (0, u "COMPACT_STRINGS"), (1, .class_ 44), (1, u "java/lang/StringUTF16"), (0, u "compress"), (1, .methodref 42 48), (0, .nameAndType 49 50), (0, u "coderFromArrayLen"), (0, u "([BI)B"), (56, .class_ 109), (1, u "java/lang/StringLatin1"), (67, .methodref 42 178), (0, .nameAndType 45 179), (0, u "([CII)[B"), (361, .methodref 107 542), (0, .nameAndType 543 544), (0, u "equals"), (0, u "([B[B)Z"), (28, u "(Ljava/lang/Object;)Z"), (1, .class_ 576), (0, u "java/lang/CharSequence"), (22, u "CASE_INSENSITIVE_ORDER"), (0, u "Ljava/util/Comparator;"), (409, u "([C)V"), (90, u "serialPersistentFields"), (0, u "[Ljava/io/ObjectStreamField;"), (0, .class_ 1104), (0, u "java/lang/String$CaseInsensitiveComparator"), (1, .class_ 1107), (0, u "java/io/Serializable"), (0, .class_ 1109), (0, u "java/lang/Comparable"), (0, .class_ 1111), (0, u "java/lang/constant/Constable"), (0, .class_ 1113), (0, u "java/lang/constant/ConstantDesc"), (2, u "serialVersionUID"), (0, u "J"), (3, u "REPL"), (0, u "C"), (2, u "LATIN1"), (1, u "UTF16")] 323

def k9m0 : Method := { name := "<init>", desc := "()V", sig := { parameters := [], returnType := none }, accessFlags := 1, code := none }
def k9c1 : Code := { maxStack := 5, maxLocals := 2, code := jdk_42_method_3_code, exceptionTable := #[], attributes := #[] }
def k9m1 : Method := { name := "<init>", desc := "([C)V", sig := { parameters := [(.array .char)], returnType := none }, accessFlags := 1, code := some k9c1 }
def k9c2 : Code := { maxStack := 2, maxLocals := 3, code := jdk_42_method_66_code, exceptionTable := #[], attributes := #[] }
def k9m2 : Method := { name := "equals", desc := "(Ljava/lang/Object;)Z", sig := { parameters := [(.object "java/lang/Object")], returnType := some .boolean }, accessFlags := 1, code := some k9c2 }
def k9c3 : Code := { maxStack := 4, maxLocals := 6, code := jdk_42_method_149_code, exceptionTable := #[], attributes := #[] }
def k9m3 : Method := { name := "<init>", desc := "([CIILjava/lang/Void;)V", sig := { parameters := [(.array .char), .int, .int, (.object "java/lang/Void")], returnType := none }, accessFlags := 2, code := some k9c3 }
/-- java/lang/String -/
def k9 : Class := { plain "java/lang/String" (some 0) with
  accessFlags := 49
  interfaces := #[4, 3, 7, 2, 8]
  cf := some (fileOf pool9 10 #[.nestMembers #[1103]] #[{ accessFlags := 1, nameIndex := 5, descriptorIndex := 6, attributes := #[] }, { accessFlags := 1, nameIndex := 5, descriptorIndex := 1010, attributes := #[] }, { accessFlags := 1, nameIndex := 543, descriptorIndex := 573, attributes := #[] }, { accessFlags := 2, nameIndex := 5, descriptorIndex := 29, attributes := #[] }] 49 2 #[1106, 1108, 575, 1110, 1112] #[{ accessFlags := 18, nameIndex := 13, descriptorIndex := 14, attributes := #[] }, { accessFlags := 18, nameIndex := 17, descriptorIndex := 18, attributes := #[] }, { accessFlags := 2, nameIndex := 21, descriptorIndex := 22, attributes := #[] }, { accessFlags := 2, nameIndex := 25, descriptorIndex := 26, attributes := #[] }, { accessFlags := 26, nameIndex := 1116, descriptorIndex := 1117, attributes := #[] }, { accessFlags := 24, nameIndex := 40, descriptorIndex := 26, attributes := #[] }, { accessFlags := 26, nameIndex := 1101, descriptorIndex := 1102, attributes := #[] }, { accessFlags := 26, nameIndex := 1121, descriptorIndex := 1122, attributes := #[] }, { accessFlags := 25, nameIndex := 599, descriptorIndex := 600, attributes := #[] }, { accessFlags := 24, nameIndex := 1125, descriptorIndex := 18, attributes := #[] }, { accessFlags := 24, nameIndex := 1127, descriptorIndex := 18, attributes := #[] }])
  fields := #[{ name := "value", type := (.array .byte), accessFlags := 18, slot := 0, constantValue := 0 }, { name := "coder", type := .byte, accessFlags := 18, slot := 1, constantValue := 0 }, { name := "hash", type := .int, accessFlags := 2, slot := 2, constantValue := 0 }, { name := "hashIsZero", type := .boolean, accessFlags := 2, slot := 3, constantValue := 0 }, { name := "serialVersionUID", type := .long, accessFlags := 26, slot := 0, constantValue := 0 }, { name := "COMPACT_STRINGS", type := .boolean, accessFlags := 24, slot := 1, constantValue := 0 }, { name := "serialPersistentFields", type := (.array (.object "java/io/ObjectStreamField")), accessFlags := 26, slot := 2, constantValue := 0 }, { name := "REPL", type := .char, accessFlags := 26, slot := 3, constantValue := 0 }, { name := "CASE_INSENSITIVE_ORDER", type := (.object "java/util/Comparator"), accessFlags := 25, slot := 4, constantValue := 0 }, { name := "LATIN1", type := .byte, accessFlags := 24, slot := 5, constantValue := 0 }, { name := "UTF16", type := .byte, accessFlags := 24, slot := 6, constantValue := 0 }]
  methods := #[k9m0, k9m1, k9m2, k9m3]
  instanceTypes := #[(.array .byte), .byte, .int, .boolean]
  staticTypes := #[.long, .boolean, (.array (.object "java/io/ObjectStreamField")), .char, (.object "java/util/Comparator"), .byte, .byte]
  resolved := Array.replicate 1451 none
  statics := some 1 }

def pool10 : Array CpInfo := pool [(6, .class_ 8), (1, u "java/lang/Object"), (0, u "<init>"), (0, u "()V"), (1, .class_ 14), (1, u "java/lang/StringUTF16"), (31, u "$assertionsDisabled"), (0, u "Z"), (13, u "HI_BYTE_SHIFT"), (0, u "I"), (2, u "LO_BYTE_SHIFT"), (49, .methodref 12 116), (0, .nameAndType 117 118), (0, u "compress"), (0, u "([CI[BII)I"), (3, u "([CII)[B"), (138, u "coderFromArrayLen"), (0, u "([BI)B"), (106, .class_ 371), (1, u "java/lang/StringUTF16$LinesSpliterator"), (58, u "MAX_LENGTH"), (196, .class_ 628), (0, u "java/lang/StringUTF16$CodePointsSpliterator"), (0, .class_ 630), (0, u "java/lang/StringUTF16$CharsSpliterator")] 4

def k10m0 : Method := { name := "<init>", desc := "()V", sig := { parameters := [], returnType := none }, accessFlags := 0, code := none }
def k10c1 : Code := { maxStack := 2, maxLocals := 2, code := jdk_52_method_15_code, exceptionTable := #[], attributes := #[] }
def k10m1 : Method := { name := "coderFromArrayLen", desc := "([BI)B", sig := { parameters := [(.array .byte), .int], returnType := some .byte }, accessFlags := 8, code := some k10c1 }
def k10c2 : Code := { maxStack := 5, maxLocals := 6, code := jdk_52_method_16_code, exceptionTable := #[], attributes := #[] }
def k10m2 : Method := { name := "compress", desc := "([CII)[B", sig := { parameters := [(.array .char), .int, .int], returnType := some (.array .byte) }, accessFlags := 9, code := some k10c2 }
def k10c3 : Code := { maxStack := 3, maxLocals := 7, code := jdk_52_method_21_code, exceptionTable := #[], attributes := #[] }
def k10m3 : Method := { name := "compress", desc := "([CI[BII)I", sig := { parameters := [(.array .char), .int, (.array .byte), .int, .int], returnType := some .int }, accessFlags := 9, code := some k10c3 }
/-- java/lang/StringUTF16 -/
def k10 : Class := { plain "java/lang/StringUTF16" (some 0) with
  accessFlags := 48
  interfaces := #[]
  cf := some (fileOf pool10 12 #[.nestMembers #[627, 629, 369]] #[{ accessFlags := 0, nameIndex := 9, descriptorIndex := 10, attributes := #[] }, { accessFlags := 8, nameIndex := 261, descriptorIndex := 262, attributes := #[] }, { accessFlags := 9, nameIndex := 117, descriptorIndex := 122, attributes := #[] }, { accessFlags := 9, nameIndex := 117, descriptorIndex := 118, attributes := #[] }] 48 6 #[] #[{ accessFlags := 26, nameIndex := 61, descriptorIndex := 62, attributes := #[] }, { accessFlags := 26, nameIndex := 65, descriptorIndex := 62, attributes := #[] }, { accessFlags := 24, nameIndex := 430, descriptorIndex := 62, attributes := #[] }, { accessFlags := 4120, nameIndex := 46, descriptorIndex := 47, attributes := #[] }])
  fields := #[{ name := "HI_BYTE_SHIFT", type := .int, accessFlags := 26, slot := 0, constantValue := 0 }, { name := "LO_BYTE_SHIFT", type := .int, accessFlags := 26, slot := 1, constantValue := 0 }, { name := "MAX_LENGTH", type := .int, accessFlags := 24, slot := 2, constantValue := 0 }, { name := "$assertionsDisabled", type := .boolean, accessFlags := 4120, slot := 3, constantValue := 0 }]
  methods := #[k10m0, k10m1, k10m2, k10m3]
  instanceTypes := #[]
  staticTypes := #[.int, .int, .int, .boolean]
  resolved := Array.replicate 635 none
  statics := none }

def pool11 : Array CpInfo := pool [(1, .class_ 2), (0, u "java/lang/Cloneable"), (0, .class_ 4), (0, u "java/lang/Object")] 2

/-- java/lang/Cloneable -/
def k11 : Class := { plain "java/lang/Cloneable" (some 0) with
  accessFlags := 1537
  interfaces := #[]
  cf := some (fileOf pool11 1 #[] #[] 1537 3 #[] #[])
  fields := #[]
  methods := #[]
  instanceTypes := #[]
  staticTypes := #[]
  resolved := Array.replicate 7 none
  statics := none }

def pool12 : Array CpInfo := pool [(2, .class_ 4), (1, u "com/example/covenantry/covenantry/formula/Operator"), (14, .class_ 20), (0, u "com/example/covenantry/covenantry/formula/Operator$1")] 12

/-- com/example/covenantry/covenantry/formula/Operator$1 -/
def k12 : Class := { plain "com/example/covenantry/covenantry/formula/Operator$1" (some 6) with
  accessFlags := 16432
  interfaces := #[]
  cf := some (fileOf pool12 19 #[.nestHost 2] #[] 16432 2 #[] #[])
  fields := #[]
  methods := #[]
  instanceTypes := #[(.object "java/lang/String"), .int, .int, (.object "java/lang/String")]
  staticTypes := #[]
  resolved := Array.replicate 33 none
  statics := none }

def pool13 : Array CpInfo := pool [(4, .class_ 6), (1, u "java/lang/Object"), (0, u "<init>"), (0, u "()V"), (5, .class_ 16), (1, u "java/lang/StringLatin1"), (104, u "$assertionsDisabled"), (0, u "Z"), (98, .class_ 223), (1, u "java/lang/StringLatin1$LinesSpliterator"), (57, u "equals"), (0, u "([B[B)Z"), (107, .class_ 391), (0, u "java/lang/StringLatin1$CharsSpliterator")] 3

def k13m0 : Method := { name := "<init>", desc := "()V", sig := { parameters := [], returnType := none }, accessFlags := 0, code := none }
def k13c1 : Code := { maxStack := 3, maxLocals := 3, code := jdk_43_method_13_code, exceptionTable := #[], attributes := #[] }
def k13m1 : Method := { name := "equals", desc := "([B[B)Z", sig := { parameters := [(.array .byte), (.array .byte)], returnType := some .boolean }, accessFlags := 9, code := some k13c1 }
/-- java/lang/StringLatin1 -/
def k13 : Class := { plain "java/lang/StringLatin1" (some 0) with
  accessFlags := 48
  interfaces := #[]
  cf := some (fileOf pool13 14 #[.nestMembers #[390, 221]] #[{ accessFlags := 0, nameIndex := 7, descriptorIndex := 8, attributes := #[] }, { accessFlags := 9, nameIndex := 281, descriptorIndex := 282, attributes := #[] }] 48 4 #[] #[{ accessFlags := 4120, nameIndex := 121, descriptorIndex := 122, attributes := #[] }])
  fields := #[{ name := "$assertionsDisabled", type := .boolean, accessFlags := 4120, slot := 0, constantValue := 0 }]
  methods := #[k13m0, k13m1]
  instanceTypes := #[]
  staticTypes := #[.boolean]
  resolved := Array.replicate 395 none
  statics := none }

def pool14 : Array CpInfo := pool [(2, .class_ 4), (1, u "com/example/covenantry/covenantry/formula/Operator"), (14, .class_ 20), (0, u "com/example/covenantry/covenantry/formula/Operator$2")] 12

/-- com/example/covenantry/covenantry/formula/Operator$2 -/
def k14 : Class := { plain "com/example/covenantry/covenantry/formula/Operator$2" (some 6) with
  accessFlags := 16432
  interfaces := #[]
  cf := some (fileOf pool14 19 #[.nestHost 2] #[] 16432 2 #[] #[])
  fields := #[]
  methods := #[]
  instanceTypes := #[(.object "java/lang/String"), .int, .int, (.object "java/lang/String")]
  staticTypes := #[]
  resolved := Array.replicate 33 none
  statics := none }

def pool15 : Array CpInfo := pool [(2, .class_ 4), (1, u "com/example/covenantry/covenantry/formula/Operator"), (14, .class_ 20), (0, u "com/example/covenantry/covenantry/formula/Operator$3")] 12

/-- com/example/covenantry/covenantry/formula/Operator$3 -/
def k15 : Class := { plain "com/example/covenantry/covenantry/formula/Operator$3" (some 6) with
  accessFlags := 16432
  interfaces := #[]
  cf := some (fileOf pool15 19 #[.nestHost 2] #[] 16432 2 #[] #[])
  fields := #[]
  methods := #[]
  instanceTypes := #[(.object "java/lang/String"), .int, .int, (.object "java/lang/String")]
  staticTypes := #[]
  resolved := Array.replicate 33 none
  statics := none }

def pool16 : Array CpInfo := pool [(2, .class_ 4), (1, u "com/example/covenantry/covenantry/formula/Operator"), (26, .class_ 32), (0, u "com/example/covenantry/covenantry/formula/Operator$4")] 13

/-- com/example/covenantry/covenantry/formula/Operator$4 -/
def k16 : Class := { plain "com/example/covenantry/covenantry/formula/Operator$4" (some 6) with
  accessFlags := 16432
  interfaces := #[]
  cf := some (fileOf pool16 31 #[.nestHost 2] #[] 16432 2 #[] #[])
  fields := #[]
  methods := #[]
  instanceTypes := #[(.object "java/lang/String"), .int, .int, (.object "java/lang/String")]
  staticTypes := #[]
  resolved := Array.replicate 46 none
  statics := none }

def pool17 : Array CpInfo := pool [(2, .class_ 4), (1, u "java/lang/Object"), (0, u "<init>"), (0, u "()V"), (17, .class_ 26), (1, u "jdk/internal/util/Preconditions"), (28, .class_ 56), (0, u "jdk/internal/util/Preconditions$4"), (57, .class_ 115), (0, u "jdk/internal/util/Preconditions$1"), (7, u "SIOOBE_FORMATTER"), (0, u "Ljava/util/function/BiFunction;"), (0, .class_ 126), (0, u "jdk/internal/util/Preconditions$2"), (3, u "AIOOBE_FORMATTER"), (0, .class_ 132), (0, u "jdk/internal/util/Preconditions$3"), (3, u "IOOBE_FORMATTER")] 57

def k17m0 : Method := { name := "<init>", desc := "()V", sig := { parameters := [], returnType := none }, accessFlags := 1, code := none }
/-- jdk/internal/util/Preconditions -/
def k17 : Class := { plain "jdk/internal/util/Preconditions" (some 0) with
  accessFlags := 33
  interfaces := #[]
  cf := some (fileOf pool17 24 #[.nestMembers #[55, 131, 125, 114]] #[{ accessFlags := 1, nameIndex := 5, descriptorIndex := 6, attributes := #[] }] 33 2 #[] #[{ accessFlags := 25, nameIndex := 123, descriptorIndex := 124, attributes := #[] }, { accessFlags := 25, nameIndex := 130, descriptorIndex := 124, attributes := #[] }, { accessFlags := 25, nameIndex := 136, descriptorIndex := 124, attributes := #[] }])
  fields := #[{ name := "SIOOBE_FORMATTER", type := (.object "java/util/function/BiFunction"), accessFlags := 25, slot := 0, constantValue := 0 }, { name := "AIOOBE_FORMATTER", type := (.object "java/util/function/BiFunction"), accessFlags := 25, slot := 1, constantValue := 0 }, { name := "IOOBE_FORMATTER", type := (.object "java/util/function/BiFunction"), accessFlags := 25, slot := 2, constantValue := 0 }]
  methods := #[k17m0]
  instanceTypes := #[]
  staticTypes := #[(.object "java/util/function/BiFunction"), (.object "java/util/function/BiFunction"), (.object "java/util/function/BiFunction")]
  resolved := Array.replicate 194 none
  statics := some 2 }

def pool18 : Array CpInfo := pool [(9, u "<init>"), (6, .class_ 18), (1, u "java/lang/Object"), (0, u "()V"), (1, .class_ 23), (1, u "jdk/internal/util/ArraysSupport"), (0, u "LOG2_ARRAY_LONG_INDEX_SCALE"), (0, u "I"), (2, u "U"), (0, u "Ljdk/internal/misc/Unsafe;"), (8, u "BIG_ENDIAN"), (0, u "Z"), (8, u "LOG2_BYTE_BIT_SIZE"), (4, u "LOG2_ARRAY_INT_INDEX_SCALE"), (54, u "JLA"), (0, u "Ljdk/internal/access/JavaLangAccess;"), (11, u "LOG2_ARRAY_BOOLEAN_INDEX_SCALE"), (9, u "LOG2_ARRAY_BYTE_INDEX_SCALE"), (5, u "LOG2_ARRAY_CHAR_INDEX_SCALE"), (5, u "LOG2_ARRAY_SHORT_INDEX_SCALE"), (18, u "LOG2_ARRAY_FLOAT_INDEX_SCALE"), (24, u "LOG2_ARRAY_DOUBLE_INDEX_SCALE"), (89, u "T_BOOLEAN"), (2, u "T_CHAR"), (1, u "T_FLOAT"), (1, u "T_DOUBLE"), (1, u "T_BYTE"), (1, u "T_SHORT"), (1, u "T_INT"), (1, u "T_LONG"), (1, u "SOFT_MAX_ARRAY_LENGTH")] 83

def k18m0 : Method := { name := "<init>", desc := "()V", sig := { parameters := [], returnType := none }, accessFlags := 2, code := none }
/-- jdk/internal/util/ArraysSupport -/
def k18 : Class := { plain "jdk/internal/util/ArraysSupport" (some 0) with
  accessFlags := 33
  interfaces := #[]
  cf := some (fileOf pool18 21 #[] #[{ accessFlags := 2, nameIndex := 9, descriptorIndex := 19, attributes := #[] }] 33 16 #[] #[{ accessFlags := 24, nameIndex := 28, descriptorIndex := 29, attributes := #[] }, { accessFlags := 26, nameIndex := 38, descriptorIndex := 39, attributes := #[] }, { accessFlags := 25, nameIndex := 121, descriptorIndex := 25, attributes := #[] }, { accessFlags := 25, nameIndex := 131, descriptorIndex := 25, attributes := #[] }, { accessFlags := 25, nameIndex := 137, descriptorIndex := 25, attributes := #[] }, { accessFlags := 25, nameIndex := 143, descriptorIndex := 25, attributes := #[] }, { accessFlags := 25, nameIndex := 53, descriptorIndex := 25, attributes := #[] }, { accessFlags := 25, nameIndex := 24, descriptorIndex := 25, attributes := #[] }, { accessFlags := 25, nameIndex := 162, descriptorIndex := 25, attributes := #[] }, { accessFlags := 25, nameIndex := 187, descriptorIndex := 25, attributes := #[] }, { accessFlags := 26, nameIndex := 48, descriptorIndex := 25, attributes := #[] }, { accessFlags := 25, nameIndex := 277, descriptorIndex := 25, attributes := #[] }, { accessFlags := 25, nameIndex := 280, descriptorIndex := 25, attributes := #[] }, { accessFlags := 25, nameIndex := 282, descriptorIndex := 25, attributes := #[] }, { accessFlags := 25, nameIndex := 284, descriptorIndex := 25, attributes := #[] }, { accessFlags := 25, nameIndex := 286, descriptorIndex := 25, attributes := #[] }, { accessFlags := 25, nameIndex := 288, descriptorIndex := 25, attributes := #[] }, { accessFlags := 25, nameIndex := 290, descriptorIndex := 25, attributes := #[] }, { accessFlags := 25, nameIndex := 292, descriptorIndex := 25, attributes := #[] }, { accessFlags := 26, nameIndex := 108, descriptorIndex := 109, attributes := #[] }, { accessFlags := 25, nameIndex := 294, descriptorIndex := 25, attributes := #[] }])
  fields := #[{ name := "U", type := (.object "jdk/internal/misc/Unsafe"), accessFlags := 24, slot := 0, constantValue := 0 }, { name := "BIG_ENDIAN", type := .boolean, accessFlags := 26, slot := 1, constantValue := 0 }, { name := "LOG2_ARRAY_BOOLEAN_INDEX_SCALE", type := .int, accessFlags := 25, slot := 2, constantValue := 0 }, { name := "LOG2_ARRAY_BYTE_INDEX_SCALE", type := .int, accessFlags := 25, slot := 3, constantValue := 0 }, { name := "LOG2_ARRAY_CHAR_INDEX_SCALE", type := .int, accessFlags := 25, slot := 4, constantValue := 0 }, { name := "LOG2_ARRAY_SHORT_INDEX_SCALE", type := .int, accessFlags := 25, slot := 5, constantValue := 0 }, { name := "LOG2_ARRAY_INT_INDEX_SCALE", type := .int, accessFlags := 25, slot := 6, constantValue := 0 }, { name := "LOG2_ARRAY_LONG_INDEX_SCALE", type := .int, accessFlags := 25, slot := 7, constantValue := 0 }, { name := "LOG2_ARRAY_FLOAT_INDEX_SCALE", type := .int, accessFlags := 25, slot := 8, constantValue := 0 }, { name := "LOG2_ARRAY_DOUBLE_INDEX_SCALE", type := .int, accessFlags := 25, slot := 9, constantValue := 0 }, { name := "LOG2_BYTE_BIT_SIZE", type := .int, accessFlags := 26, slot := 10, constantValue := 0 }, { name := "T_BOOLEAN", type := .int, accessFlags := 25, slot := 11, constantValue := 0 }, { name := "T_CHAR", type := .int, accessFlags := 25, slot := 12, constantValue := 0 }, { name := "T_FLOAT", type := .int, accessFlags := 25, slot := 13, constantValue := 0 }, { name := "T_DOUBLE", type := .int, accessFlags := 25, slot := 14, constantValue := 0 }, { name := "T_BYTE", type := .int, accessFlags := 25, slot := 15, constantValue := 0 }, { name := "T_SHORT", type := .int, accessFlags := 25, slot := 16, constantValue := 0 }, { name := "T_INT", type := .int, accessFlags := 25, slot := 17, constantValue := 0 }, { name := "T_LONG", type := .int, accessFlags := 25, slot := 18, constantValue := 0 }, { name := "JLA", type := (.object "jdk/internal/access/JavaLangAccess"), accessFlags := 26, slot := 19, constantValue := 0 }, { name := "SOFT_MAX_ARRAY_LENGTH", type := .int, accessFlags := 25, slot := 20, constantValue := 0 }]
  methods := #[k18m0]
  instanceTypes := #[]
  staticTypes := #[(.object "jdk/internal/misc/Unsafe"), .boolean, .int, .int, .int, .int, .int, .int, .int, .int, .int, .int, .int, .int, .int, .int, .int, .int, .int, (.object "jdk/internal/access/JavaLangAccess"), .int]
  resolved := Array.replicate 378 none
  statics := none }

/-- the primitive byte -/
def k19 : Class := { plain "byte" none with kind := .primitive 'B', accessFlags := 0x411 }
/-- [B -/
def k20 : Class := { plain "[B" (some 0) with kind := .array 19 .byte, interfaces := #[11, 4], accessFlags := 1041 }

/-- the primitive char -/
def k21 : Class := { plain "char" none with kind := .primitive 'C', accessFlags := 0x411 }
/-- [C -/
def k22 : Class := { plain "[C" (some 0) with kind := .array 21 .char, interfaces := #[11, 4], accessFlags := 1041 }

/-- the primitive int -/
def k23 : Class := { plain "int" none with kind := .primitive 'I', accessFlags := 0x411 }
/-- [I -/
def k24 : Class := { plain "[I" (some 0) with kind := .array 23 .int, interfaces := #[11, 4], accessFlags := 1041 }

/-- [Lcom/example/covenantry/covenantry/formula/Operator; -/
def k25 : Class := { plain "[Lcom/example/covenantry/covenantry/formula/Operator;" (some 0) with kind := .array 6 (.object "com/example/covenantry/covenantry/formula/Operator"), interfaces := #[11, 4], accessFlags := 1041 }

def heap : Heap := #[{ cls := 6, slots := #[.ref 4, .ref 5, .ref 6, .ref 7, .null, .ref 3], vm := .statics 6 },
  { cls := 9, slots := #[.long 0, .int 1, .null, .int 0, .null, .int 0, .int 0], vm := .statics 9 },
  { cls := 17, slots := #[.null, .null, .null], vm := .statics 17 },
  { cls := 25, slots := #[.ref 4, .ref 5, .ref 6, .ref 7], vm := .none },
  { cls := 12, slots := #[.null, .int 0, .int 0, .ref 8], vm := .none },
  { cls := 14, slots := #[.null, .int 1, .int 0, .ref 9], vm := .none },
  { cls := 15, slots := #[.null, .int 2, .int 0, .ref 10], vm := .none },
  { cls := 16, slots := #[.null, .int 3, .int 0, .ref 11], vm := .none },
  { cls := 9, slots := #[.ref 12, .int 0, .int 0, .int 0], vm := .none },
  { cls := 9, slots := #[.ref 13, .int 0, .int 0, .int 0], vm := .none },
  { cls := 9, slots := #[.ref 14, .int 0, .int 0, .int 0], vm := .none },
  { cls := 9, slots := #[.ref 15, .int 0, .int 0, .int 0], vm := .none },
  { cls := 20, slots := #[.int 43], vm := .none },
  { cls := 20, slots := #[.int 45], vm := .none },
  { cls := 20, slots := #[.int 42], vm := .none },
  { cls := 20, slots := #[.int 47], vm := .none }]
def classes : Array Class := #[k0, k1, k2, k3, k4, k5, k6, k7, k8, k9, k10, k11, k12, k13, k14, k15, k16, k17, k18, k19, k20, k21, k22, k23, k24, k25]
def interned : List (Array UInt16 × Addr) := []
def slotsUsed : Nat := 56
def theMethod : MethodId := ⟨1, 1⟩
def args0 : Array Value := #[.int 5]
def aboutOver (below : List Frame) : State where
  vm := { classes := classes, interned := interned.toArray }
  heap := heap
  slotsUsed := slotsUsed
  threads := #[{ frames := .invoking theMethod args0 :: below }]
def below0 : List Frame := [.native { method := ⟨0, 0⟩, args := #[] }]
def about1 : State := aboutOver below0
def p0 : Program := .bare "" "" ""
def e0 : Env := launch0.env 0 0 0
theorem w_frames : about1.frames = Frame.invoking theMethod args0 :: below0 := rfl
set_option maxRecDepth 65536 in
theorem w_args : argsFit about1.vm theMethod args0 = true := by decide +kernel
set_option maxRecDepth 65536 in
theorem w_heap : heapFits about1 = true := by decide +kernel
set_option maxRecDepth 65536 in
theorem w_runnable : about1.curStatus? = some .runnable := by decide +kernel
set_option maxRecDepth 65536 in
theorem w_alone : about1.alone = true := by decide +kernel
set_option maxRecDepth 65536 in
theorem w_named : about1.methodNamed? x = some theMethod := by decide +kernel
set_option maxRecDepth 65536 in
theorem w_hears : about1.hears theMethod below0 = true := by decide +kernel
set_option maxRecDepth 65536 in
theorem w_ripe : about1.ripe theMethod args0 below0 = true := by decide +kernel
theorem w_running : about1.status = .running := rfl
set_option maxRecDepth 65536 in
theorem w_room : about1.hasRoom e0.platform room_1 = true :=
  launch0.hasRoom_least _ room_1 (by decide +kernel) (by decide +kernel) (by decide +kernel) (by decide +kernel) (by decide +kernel) (by decide +kernel)
theorem allAtoms_all (ts : List Jvm.Cond) (a : Array Jvm.Value) (st : Jvm.State) : (allAtoms ts).before a st = ts.all (fun c => c.before a st) := by
  induction ts with
  | nil => rfl
  | cons c t ih =>
    show (Jvm.Cond.and c (allAtoms t)).before a st = _
    rw [Jvm.Cond.before_and, ih, List.all_cons]
def words1 : List Jvm.Cond := Jvm.Cond.code x code maxLocals ret :: tables_1
/-- a 'code' word, met by the world's own term for the bytes: nothing is compared byte by byte -/
theorem code_word {y : MethodName} {bytes : ByteArray} {mx : Nat} {rt : Option FieldType} {a : Array Value} {s : State} {m : MethodId} {meth : Method} {c : Code} (h1 : s.methodNamed? y = some m) (h2 : s.vm.method? m = some meth) (h3 : meth.code = some c) (h4 : c.code = bytes)
    (h5 : (c.maxLocals == mx && c.exceptionTable.isEmpty && decide (c.maxStack ≤ mostOperands) && decide (meth.sig.returnType = rt) && !meth.locks && decide (parseMethodDescriptor y.desc = some meth.sig)) = true) : (Jvm.Cond.code y bytes mx rt).before a s = true := by
  simp only [Bool.and_eq_true, beq_iff_eq, Bool.not_eq_true', decide_eq_true_eq] at h5
  obtain ⟨⟨⟨⟨⟨g1, g2⟩, g3⟩, g4⟩, g5⟩, g6⟩ := h5
  simp [Cond.before, Cond.holds, Cond.value, h1, h2, h3, h4, g1, g2, g3, g4, g5, g6]
def isCode : Jvm.Cond → Bool
  | .code _ _ _ _ => true
  | _ => false
theorem all_split {L : List Jvm.Cond} {P : Jvm.Cond → Bool} (h1 : L.all (fun c => isCode c || P c) = true) (h2 : ∀ c ∈ L.filter isCode, P c = true) : L.all P = true := by
  refine List.all_eq_true.mpr fun c hc => ?_
  have h := List.all_eq_true.mp h1 c hc
  rcases Bool.eq_false_or_eq_true (isCode c) with hi | hi
  · exact h2 c (List.mem_filter.mpr ⟨hc, hi⟩)
  · simpa [hi] using h
set_option maxRecDepth 65536 in
theorem w_c0 : (Jvm.Cond.code x code maxLocals ret).before args0 about1 = true := code_word (m := ⟨1, 1⟩) (meth := k1m1) (c := k1c1) (by decide +kernel) rfl rfl rfl (by decide +kernel)
set_option maxRecDepth 65536 in
theorem w_c1 : (Jvm.Cond.code ({ cls := "java/lang/String", name := "<init>", desc := "([C)V" } : Jvm.MethodName) jdk_42_method_3_code (2 : Nat) (Option.none : Option Jvm.ClassFile.FieldType)).before args0 about1 = true := code_word (m := ⟨9, 1⟩) (meth := k9m1) (c := k9c1) (by decide +kernel) rfl rfl rfl (by decide +kernel)
set_option maxRecDepth 65536 in
theorem w_c2 : (Jvm.Cond.code ({ cls := "java/lang/String", name := "<init>", desc := "([CIILjava/lang/Void;)V" } : Jvm.MethodName) jdk_42_method_149_code (6 : Nat) (Option.none : Option Jvm.ClassFile.FieldType)).before args0 about1 = true := code_word (m := ⟨9, 3⟩) (meth := k9m3) (c := k9c3) (by decide +kernel) rfl rfl rfl (by decide +kernel)
set_option maxRecDepth 65536 in
theorem w_c3 : (Jvm.Cond.code ({ cls := "java/lang/Object", name := "<init>", desc := "()V" } : Jvm.MethodName) object_method_1_code (1 : Nat) (Option.none : Option Jvm.ClassFile.FieldType)).before args0 about1 = true := code_word (m := ⟨0, 0⟩) (meth := k0m0) (c := k0c0) (by decide +kernel) rfl rfl rfl (by decide +kernel)
set_option maxRecDepth 65536 in
theorem w_c4 : (Jvm.Cond.code ({ cls := "java/lang/StringUTF16", name := "compress", desc := "([CII)[B" } : Jvm.MethodName) jdk_52_method_16_code (6 : Nat) (Option.some (Jvm.ClassFile.FieldType.array Jvm.ClassFile.FieldType.byte))).before args0 about1 = true := code_word (m := ⟨10, 2⟩) (meth := k10m2) (c := k10c2) (by decide +kernel) rfl rfl rfl (by decide +kernel)
set_option maxRecDepth 65536 in
theorem w_c5 : (Jvm.Cond.code ({ cls := "java/lang/StringUTF16", name := "compress", desc := "([CI[BII)I" } : Jvm.MethodName) jdk_52_method_21_code (7 : Nat) (Option.some Jvm.ClassFile.FieldType.int)).before args0 about1 = true := code_word (m := ⟨10, 3⟩) (meth := k10m3) (c := k10c3) (by decide +kernel) rfl rfl rfl (by decide +kernel)
set_option maxRecDepth 65536 in
theorem w_c6 : (Jvm.Cond.code ({ cls := "java/lang/StringUTF16", name := "coderFromArrayLen", desc := "([BI)B" } : Jvm.MethodName) jdk_52_method_15_code (2 : Nat) (Option.some Jvm.ClassFile.FieldType.byte)).before args0 about1 = true := code_word (m := ⟨10, 1⟩) (meth := k10m1) (c := k10c1) (by decide +kernel) rfl rfl rfl (by decide +kernel)
set_option maxRecDepth 65536 in
theorem w_c7 : (Jvm.Cond.code ({ cls := "com/example/covenantry/covenantry/formula/Operator", name := "of", desc := "(Ljava/lang/String;)Lcom/example/covenantry/covenantry/formula/Operator;" } : Jvm.MethodName) prog_119_method_4_code (5 : Nat) (Option.some (Jvm.ClassFile.FieldType.object "com/example/covenantry/covenantry/formula/Operator"))).before args0 about1 = true := code_word (m := ⟨6, 1⟩) (meth := k6m1) (c := k6c1) (by decide +kernel) rfl rfl rfl (by decide +kernel)
set_option maxRecDepth 65536 in
theorem w_c8 : (Jvm.Cond.code ({ cls := "com/example/covenantry/covenantry/formula/Operator", name := "values", desc := "()[Lcom/example/covenantry/covenantry/formula/Operator;" } : Jvm.MethodName) prog_119_method_1_code (0 : Nat) (Option.some (Jvm.ClassFile.FieldType.array (Jvm.ClassFile.FieldType.object "com/example/covenantry/covenantry/formula/Operator")))).before args0 about1 = true := code_word (m := ⟨6, 0⟩) (meth := k6m0) (c := k6c0) (by decide +kernel) rfl rfl rfl (by decide +kernel)
set_option maxRecDepth 65536 in
theorem w_c9 : (Jvm.Cond.code ({ cls := "java/lang/String", name := "equals", desc := "(Ljava/lang/Object;)Z" } : Jvm.MethodName) jdk_42_method_66_code (3 : Nat) (Option.some Jvm.ClassFile.FieldType.boolean)).before args0 about1 = true := code_word (m := ⟨9, 2⟩) (meth := k9m2) (c := k9c2) (by decide +kernel) rfl rfl rfl (by decide +kernel)
set_option maxRecDepth 65536 in
theorem w_c10 : (Jvm.Cond.code ({ cls := "java/lang/StringLatin1", name := "equals", desc := "([B[B)Z" } : Jvm.MethodName) jdk_43_method_13_code (3 : Nat) (Option.some Jvm.ClassFile.FieldType.boolean)).before args0 about1 = true := code_word (m := ⟨13, 1⟩) (meth := k13m1) (c := k13c1) (by decide +kernel) rfl rfl rfl (by decide +kernel)
def codes1 : List Jvm.Cond := [Jvm.Cond.code x code maxLocals ret, Jvm.Cond.code ({ cls := "java/lang/String", name := "<init>", desc := "([C)V" } : Jvm.MethodName) jdk_42_method_3_code (2 : Nat) (Option.none : Option Jvm.ClassFile.FieldType), Jvm.Cond.code ({ cls := "java/lang/String", name := "<init>", desc := "([CIILjava/lang/Void;)V" } : Jvm.MethodName) jdk_42_method_149_code (6 : Nat) (Option.none : Option Jvm.ClassFile.FieldType), Jvm.Cond.code ({ cls := "java/lang/Object", name := "<init>", desc := "()V" } : Jvm.MethodName) object_method_1_code (1 : Nat) (Option.none : Option Jvm.ClassFile.FieldType), Jvm.Cond.code ({ cls := "java/lang/StringUTF16", name := "compress", desc := "([CII)[B" } : Jvm.MethodName) jdk_52_method_16_code (6 : Nat) (Option.some (Jvm.ClassFile.FieldType.array Jvm.ClassFile.FieldType.byte)), Jvm.Cond.code ({ cls := "java/lang/StringUTF16", name := "compress", desc := "([CI[BII)I" } : Jvm.MethodName) jdk_52_method_21_code (7 : Nat) (Option.some Jvm.ClassFile.FieldType.int), Jvm.Cond.code ({ cls := "java/lang/StringUTF16", name := "coderFromArrayLen", desc := "([BI)B" } : Jvm.MethodName) jdk_52_method_15_code (2 : Nat) (Option.some Jvm.ClassFile.FieldType.byte), Jvm.Cond.code ({ cls := "com/example/covenantry/covenantry/formula/Operator", name := "of", desc := "(Ljava/lang/String;)Lcom/example/covenantry/covenantry/formula/Operator;" } : Jvm.MethodName) prog_119_method_4_code (5 : Nat) (Option.some (Jvm.ClassFile.FieldType.object "com/example/covenantry/covenantry/formula/Operator")), Jvm.Cond.code ({ cls := "com/example/covenantry/covenantry/formula/Operator", name := "values", desc := "()[Lcom/example/covenantry/covenantry/formula/Operator;" } : Jvm.MethodName) prog_119_method_1_code (0 : Nat) (Option.some (Jvm.ClassFile.FieldType.array (Jvm.ClassFile.FieldType.object "com/example/covenantry/covenantry/formula/Operator"))), Jvm.Cond.code ({ cls := "java/lang/String", name := "equals", desc := "(Ljava/lang/Object;)Z" } : Jvm.MethodName) jdk_42_method_66_code (3 : Nat) (Option.some Jvm.ClassFile.FieldType.boolean), Jvm.Cond.code ({ cls := "java/lang/StringLatin1", name := "equals", desc := "([B[B)Z" } : Jvm.MethodName) jdk_43_method_13_code (3 : Nat) (Option.some Jvm.ClassFile.FieldType.boolean)]
set_option maxRecDepth 65536 in
theorem codes_eq : words1.filter isCode = codes1 := rfl
theorem w_codes : ∀ c ∈ words1.filter isCode, c.before args0 about1 = true := by
  rw [codes_eq]
  intro c hc
  simp only [codes1, List.mem_cons, List.not_mem_nil, or_false] at hc
  rcases hc with rfl | rfl | rfl | rfl | rfl | rfl | rfl | rfl | rfl | rfl | rfl
  · exact w_c0
  · exact w_c1
  · exact w_c2
  · exact w_c3
  · exact w_c4
  · exact w_c5
  · exact w_c6
  · exact w_c7
  · exact w_c8
  · exact w_c9
  · exact w_c10
set_option maxRecDepth 65536 in
theorem w_t1 : (words1.take 24).all (fun c => isCode c || c.before args0 about1) = true := by decide +kernel
set_option maxRecDepth 65536 in
theorem w_t2 : ((words1.drop 24).take 24).all (fun c => isCode c || c.before args0 about1) = true := by decide +kernel
set_option maxRecDepth 65536 in
theorem w_t3 : (((words1.drop 24).drop 24).take 24).all (fun c => isCode c || c.before args0 about1) = true := by decide +kernel
set_option maxRecDepth 65536 in
theorem w_t4 : (((words1.drop 24).drop 24).drop 24).all (fun c => isCode c || c.before args0 about1) = true := by decide +kernel
theorem w_tables : (allAtoms (Jvm.Cond.code x code maxLocals ret :: tables_1)).before args0 about1 = true := by
  rw [allAtoms_all]
  show words1.all (fun c => c.before args0 about1) = true
  refine all_split ?_ w_codes
  rw [← List.take_append_drop 24 words1, List.all_append, w_t1, ← List.take_append_drop 24 (words1.drop 24), List.all_append, w_t2, ← List.take_append_drop 24 ((words1.drop 24).drop 24), List.all_append, w_t3, w_t4]
  rfl
set_option maxRecDepth 65536 in
theorem w_rest : rest_1_c.before args0 about1 = true := by decide +kernel
set_option maxRecDepth 65536 in
theorem w_case : (Jvm.Cond.and given_1 narrow_1).before args0 about1 = true := by decide +kernel
theorem w_applies : (headSpec (Jvm.Cond.code x code maxLocals ret :: tables_1) room_1).applies x e0.platform about1 = true :=
  (Spec.applies_iff w_frames).mpr ⟨w_running, w_runnable, w_alone, w_named, w_hears, w_ripe, w_room, w_tables⟩
theorem atStart : AtStart classFile x code maxLocals ret World_1 tables_1 room_1 Calls_1 rest_1 Pre_1 launch0 p0 e0 about1 theMethod args0 below0 :=
  ⟨lists_1, trivial, launch0.admits_env _ _ _, launch0.least_env, fairChoices_fair.cas, fairChoices_fair.clock, w_frames, w_args, w_heap, w_applies, trivial, w_rest, w_case⟩
end start1
theorem witness_1 : WitnessClaimed_1 := ⟨start1.p0, start1.e0, start1.about1, start1.theMethod, start1.args0, start1.below0, start1.atStart⟩
end Jvm.Pilot.@@N@@
