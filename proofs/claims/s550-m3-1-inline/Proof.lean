import JvmDerived
import JvmDerived.Pilot.@@N@@Statement
import JvmDerived.Pilot.@@N@@Code
set_option linter.unusedVariables false
set_option maxRecDepth 65536
set_option maxHeartbeats 40000000
set_option linter.unusedSimpArgs false
/- laws to paste: Road.backV, Road.lenW, Road.chN, Road.codOf (cut by pick.py; bodies as the Statement names them) -/
namespace Jvm.Pilot.@@N@@
namespace StrChars
open Jvm Sem ClassFile Op Lib Jvm.Stand Jvm.Free.XT Jvm.Free.ALB Jvm.Free.JM Jvm.Free
open Jvm.Lib.Cold (StaticIs)
/-- a char array whose places are chars -/
def Ch (a : Addr) (A : Cell) (U : State) : Prop := Arr .char a A U ∧ Typed .char A
theorem Ch.mv {a : Addr} {A : Cell} {U U' : State} (h : Ch a A U) (hal : U.vm.Alike U'.vm) (hh : U'.heap = U.heap) : Ch a A U' := ⟨h.1.mv hal hh, h.2⟩
theorem Ch.keep {a : Addr} {A : Cell} {U U' : State} (h : Ch a A U) (hal : U.vm.Alike U'.vm) (hk : U'.heap[a]? = some A) : Ch a A U' := ⟨h.1.keep hal hk, h.2⟩
/-- what place i of a char[]'s cell holds -/
def cv (A : Cell) (i : Nat) : Int32 := match A.slots[i]? with | some (.int x) => x | _ => 0
theorem Ch.get {a : Addr} {A : Cell} {U : State} (h : Ch a A U) {i : Nat} (hi : i < A.slots.size) : A.slots[i]? = some (.int (cv A i)) := by
  have e := Array.getElem?_eq_getElem hi
  have f := h.2 i _ e
  unfold cv; rw [e]
  generalize A.slots[i] = v at f
  cases v <;> simp [fits] at f ⊢
/-- the byte that i2b leaves of a char -/
def lo8 (x : Int32) : Int32 := x.toInt8.toInt32
theorem fits_lo8 (y : Int32) : fits .byte (.int (lo8 y)) = true := by
  have h1 := y.toInt8.le_toInt
  have h2 := y.toInt8.toInt_lt
  simp only [lo8, fits, Bool.and_eq_true, decide_eq_true_eq, Int32.le_iff_toInt_le, Int8.toInt_toInt32, show (-128 : Int32).toInt = -128 from by decide, show (127 : Int32).toInt = 127 from by decide]
  omega
/-- A' is A but that each place j of lo .. hi - 1 holds f j -/
def Laid (A A' : Cell) (lo hi : Nat) (f : Nat → Value) : Prop := A'.cls = A.cls ∧ A'.vm = A.vm ∧ A'.slots.size = A.slots.size ∧ ∀ i, A'.slots[i]? = if lo ≤ i ∧ i < hi then some (f i) else A.slots[i]?
theorem Laid.zero (A : Cell) (lo : Nat) (f : Nat → Value) : Laid A A lo (lo + 0) f := ⟨rfl, rfl, rfl, fun i => by rw [if_neg (by omega)]⟩
theorem Laid.step {A Ak : Cell} {lo k : Nat} {f : Nat → Value} {v : Value} (h : Laid A Ak lo k f) (hlo : lo ≤ k) (hk : k < Ak.slots.size) (hv : v = f k) : Laid A (Ak.setSlot k v) lo (k + 1) f := by
  refine ⟨h.1, h.2.1, by simpa [Cell.setSlot] using h.2.2.1, fun i => ?_⟩
  by_cases e : k = i
  · subst e; rw [Cell.slots_setSlot_self v hk, if_pos (by omega), hv]
  · rw [Cell.slots_setSlot_ne v e, h.2.2.2 i]
    by_cases q : lo ≤ i ∧ i < k
    · rw [if_pos q, if_pos (by omega)]
    · rw [if_neg q, if_neg (by omega)]
def U16 : String := "java/lang/StringUTF16"
namespace Cmp5
def yN : MethodName := ⟨"java/lang/StringUTF16", "compress", "([CI[BII)I"⟩
abbrev yB : ByteArray := jdk_52_method_21_code
theorem d0 : decode yB 0 = .ok (.iconst 0, 1) := by decide +kernel
theorem d1 : decode yB 1 = .ok (.istore 5, 2) := by decide +kernel
theorem d3 : decode yB 3 = .ok (.iload 5, 2) := by decide +kernel
theorem d5 : decode yB 5 = .ok (.iload 4, 2) := by decide +kernel
theorem d7 : decode yB 7 = .ok (.if_icmp (.ge) 37, 3) := by decide +kernel
theorem d10 : decode yB 10 = .ok (.aload_n 0, 1) := by decide +kernel
theorem d11 : decode yB 11 = .ok (.iload_n 1, 1) := by decide +kernel
theorem d12 : decode yB 12 = .ok (.caload, 1) := by decide +kernel
theorem d13 : decode yB 13 = .ok (.istore 6, 2) := by decide +kernel
theorem d15 : decode yB 15 = .ok (.iload 6, 2) := by decide +kernel
theorem d17 : decode yB 17 = .ok (.sipush 255, 3) := by decide +kernel
theorem d20 : decode yB 20 = .ok (.if_icmp (.le) 6, 3) := by decide +kernel
theorem d26 : decode yB 26 = .ok (.aload_n 2, 1) := by decide +kernel
theorem d27 : decode yB 27 = .ok (.iload_n 3, 1) := by decide +kernel
theorem d28 : decode yB 28 = .ok (.iload 6, 2) := by decide +kernel
theorem d30 : decode yB 30 = .ok (.i2b, 1) := by decide +kernel
theorem d31 : decode yB 31 = .ok (.bastore, 1) := by decide +kernel
theorem d32 : decode yB 32 = .ok (.iinc 1 1, 3) := by decide +kernel
theorem d35 : decode yB 35 = .ok (.iinc 3 1, 3) := by decide +kernel
theorem d38 : decode yB 38 = .ok (.iinc 5 1, 3) := by decide +kernel
theorem d41 : decode yB 41 = .ok (.goto (-38), 3) := by decide +kernel
theorem d44 : decode yB 44 = .ok (.iload 4, 2) := by decide +kernel
theorem d46 : decode yB 46 = .ok (.ireturn, 1) := by decide +kernel
def site : List Cond := []
def tab : Cond := tabOf yN yB 7 (some .int) site
def P (b : Addr) (A : Cell) (d : Addr) (B : Cell) (o q len : Nat) (args : Array Value) (s : State) : Prop := args = #[.ref b, .int (Int32.ofNat o), .ref d, .int (Int32.ofNat q), .int (Int32.ofNat len)] ∧ Ch b A s ∧ Arr .byte d B s ∧ b ≠ d ∧ o + len ≤ A.slots.size ∧ q + len ≤ B.slots.size ∧ ∀ i, i < len → ¬ 255 < cv A (o + i)
def E (b : Addr) (A : Cell) (d : Addr) (B : Cell) (o q len : Nat) (r : Option Value) (s u : State) : Prop := r = some (.int (Int32.ofNat len)) ∧ ∃ B', Put d B' s u ∧ Laid B B' q (q + len) (fun j => Value.int (lo8 (cv A (o + (j - q)))))
/-- no char of the range above 255: len; the places written hold each char's low byte -/
theorem law (l : Launch) (b : Addr) (A : Cell) (d : Addr) (B : Cell) (o q len : Nat) : Law l yN 5 5 0 0 yB 7 (some .int) site (P b A d B o q len) (E b A d B o q len) (copyLocs d q len) 0 0 := by
  refine Law.of_walk (plainFor_of_name (by decide +kernel)) (by decide +kernel) (by decide +kernel) (by decide) (fun _ _ h => by rw [h.1]; rfl) (fun _ U U' hal hh h => ⟨h.1, h.2.1.mv hal hh, h.2.2.1.mv hal hh, h.2.2.2⟩) (fun r U U' V V' h1 hal h2 h => ⟨h.1, h.2.elim fun B' q => ⟨B', q.1.mv h1 h2, q.2⟩⟩) ?_
  intro p e s m args below meth c s₁ X0 hexec hbytes hml hret hlk hnm hown hh0 W hP
  obtain ⟨rfl, hA, hB, hne, l1, l2, hp⟩ := hP
  have c1 : Steps p.tables e below (s₁.setTop (entryFrame m #[.ref b, .int (Int32.ofNat o), .ref d, .int (Int32.ofNat q), .int (Int32.ofNat len)] 7)) (s₁.setTop (mkF m 0 #[.val (.ref b), .val (.int (Int32.ofNat o)), .val (.ref d), .val (.int (Int32.ofNat q)), .val (.int (Int32.ofNat len)), .unset, .unset] [])) := entry rfl
  have hA0 := hA.1.mv X0.warmed.alike hh0
  have hB0 := hB.mv X0.warmed.alike hh0
  have a31 := hA.1.2.2.2
  have c2 : Steps p.tables e below (s₁.setTop (entryFrame m #[.ref b, .int (Int32.ofNat o), .ref d, .int (Int32.ofNat q), .int (Int32.ofNat len)] 7)) (s₁.setTop (mkF m 3 #[.val (.ref b), .val (.int (Int32.ofNat o)), .val (.ref d), .val (.int (Int32.ofNat q)), .val (.int (Int32.ofNat len)), .val (.int 0), .unset] [])) := c1.trans (by
    refine iconstV X0.here hexec rfl 0 (hb hbytes d0) (by decide) ?_
    refine XS.istore X0.here hexec rfl (hb hbytes d1) rfl rfl ?_
    exact Steps.refl _)
  have loop : ∀ (r i : Nat), i + r = len → ∀ (z : Slot), (z = .unset ∨ ∃ w, z = .val w ∧ w.category = 1) → ∀ (Tl : State) (Bk : Cell), Stand p l e { frames := 0, locals := 0, cells := 0, slots := 0 } s m #[.ref b, .int (Int32.ofNat o), .ref d, .int (Int32.ofNat q), .int (Int32.ofNat len)] below meth c Tl ([] ++ copyLocs d q i) 0 0 → Put d Bk s₁ Tl → Laid B Bk q (q + i) (fun j => Value.int (lo8 (cv A (o + (j - q))))) →
      Steps p.tables e below (s₁.setTop (entryFrame m #[.ref b, .int (Int32.ofNat o), .ref d, .int (Int32.ofNat q), .int (Int32.ofNat len)] 7)) (Tl.setTop (mkF m 3 #[.val (.ref b), .val (.int (Int32.ofNat (o + i))), .val (.ref d), .val (.int (Int32.ofNat (q + i))), .val (.int (Int32.ofNat len)), .val (.int (Int32.ofNat i)), z] [])) → ∃ (T' : State) (B' : Cell) (z' : Slot), Stand p l e { frames := 0, locals := 0, cells := 0, slots := 0 } s m #[.ref b, .int (Int32.ofNat o), .ref d, .int (Int32.ofNat q), .int (Int32.ofNat len)] below meth c T' ([] ++ copyLocs d q len) 0 0 ∧ Put d B' s₁ T' ∧ Laid B B' q (q + len) (fun j => Value.int (lo8 (cv A (o + (j - q))))) ∧
      Steps p.tables e below (s₁.setTop (entryFrame m #[.ref b, .int (Int32.ofNat o), .ref d, .int (Int32.ofNat q), .int (Int32.ofNat len)] 7)) (T'.setTop (mkF m 3 #[.val (.ref b), .val (.int (Int32.ofNat (o + len))), .val (.ref d), .val (.int (Int32.ofNat (q + len))), .val (.int (Int32.ofNat len)), .val (.int (Int32.ofNat len)), z'] [])) := by
    intro r
    induction r with
    | zero =>
      intro i hi z hz Tl Bk Xl pl fl cl
      have hil : i = len := by omega
      rw [hil] at Xl fl cl
      exact ⟨Tl, Bk, z, Xl, pl, fl, cl⟩
    | succ r ih =>
      intro i hi z hz Tl Bk Xl pl fl cl
      have all := X0.warmed.alike.symm.trans Xl.warmed.alike
      have hAl := hA0.keep all (pl.other hne hA0.1)
      have hBk := hB0.like all pl.1 fl.1 fl.2.1 fl.2.2.1
      have hlt : q + i < Bk.slots.size := by rw [fl.2.2.1]; omega
      have c3 : Steps p.tables e below (s₁.setTop (entryFrame m #[.ref b, .int (Int32.ofNat o), .ref d, .int (Int32.ofNat q), .int (Int32.ofNat len)] 7)) (Tl.setTop (mkF m 12 #[.val (.ref b), .val (.int (Int32.ofNat (o + i))), .val (.ref d), .val (.int (Int32.ofNat (q + i))), .val (.int (Int32.ofNat len)), .val (.int (Int32.ofNat i)), z] [.int (Int32.ofNat (o + i)), .ref b])) := cl.trans (by
        refine XS.iload Xl.here hexec rfl (hb hbytes d3) rfl ?_
        refine XS.iload Xl.here hexec rfl (hb hbytes d5) rfl ?_
        refine XS.icmpNo Xl.here hexec rfl (hb hbytes d7) rfl (ii_ge_f (lt32 (by omega) (by omega))) ?_
        refine XS.aloadN Xl.here hexec rfl (hb hbytes d10) rfl rfl ?_
        refine XS.iloadN Xl.here hexec rfl (hb hbytes d11) rfl ?_
        exact Steps.refl _)
      have c4 : Steps p.tables e below (s₁.setTop (entryFrame m #[.ref b, .int (Int32.ofNat o), .ref d, .int (Int32.ofNat q), .int (Int32.ofNat len)] 7)) (Tl.setTop (mkF m 13 #[.val (.ref b), .val (.int (Int32.ofNat (o + i))), .val (.ref d), .val (.int (Int32.ofNat (q + i))), .val (.int (Int32.ofNat len)), .val (.int (Int32.ofNat i)), z] [.int (cv A (o + i))])) := c3.trans (by
        refine Xl.aget hexec hAl rfl (hA.get (i := o + i) (by omega)) rfl rfl (hb hbytes d12) ?_
        exact Steps.refl _)
      have c5 : Steps p.tables e below (s₁.setTop (entryFrame m #[.ref b, .int (Int32.ofNat o), .ref d, .int (Int32.ofNat q), .int (Int32.ofNat len)] 7)) (Tl.setTop (mkF m 15 #[.val (.ref b), .val (.int (Int32.ofNat (o + i))), .val (.ref d), .val (.int (Int32.ofNat (q + i))), .val (.int (Int32.ofNat len)), .val (.int (Int32.ofNat i)), .val (.int (cv A (o + i)))] [])) := c4.trans (by
        refine XS.istoreS Xl.here hexec rfl (hb hbytes d13) rfl rfl hz ?_
        exact Steps.refl _)
      have c6 : Steps p.tables e below (s₁.setTop (entryFrame m #[.ref b, .int (Int32.ofNat o), .ref d, .int (Int32.ofNat q), .int (Int32.ofNat len)] 7)) (Tl.setTop (mkF m 31 #[.val (.ref b), .val (.int (Int32.ofNat (o + i))), .val (.ref d), .val (.int (Int32.ofNat (q + i))), .val (.int (Int32.ofNat len)), .val (.int (Int32.ofNat i)), .val (.int (cv A (o + i)))] [.int (lo8 (cv A (o + i))), .int (Int32.ofNat (q + i)), .ref d])) := c5.trans (by
        refine XS.iload Xl.here hexec rfl (hb hbytes d15) rfl ?_
        refine sipushV Xl.here hexec rfl 255 (hb hbytes d17) (by decide) ?_
        refine XS.icmpYes Xl.here hexec rfl (pc0 := 20) rfl (hb hbytes d20) rfl (ii_le_t (hp i (by omega))) (by decide) rfl ?_
        refine XS.aloadN Xl.here hexec rfl (hb hbytes d26) rfl rfl ?_
        refine XS.iloadN Xl.here hexec rfl (hb hbytes d27) rfl ?_
        refine XS.iload Xl.here hexec rfl (hb hbytes d28) rfl ?_
        refine i2b Xl.here hexec rfl (hb hbytes d30) rfl ?_
        exact Steps.refl _)
      obtain ⟨T7, X7, p7, st7⟩ := Xl.aput hexec hBk rfl hlt rfl (fits_lo8 (cv A (o + i))) (g := (mkF m 31 #[.val (.ref b), .val (.int (Int32.ofNat (o + i))), .val (.ref d), .val (.int (Int32.ofNat (q + i))), .val (.int (Int32.ofNat len)), .val (.int (Int32.ofNat i)), .val (.int (cv A (o + i)))] [.int (lo8 (cv A (o + i))), .int (Int32.ofNat (q + i)), .ref d])) rfl (rest := []) rfl (hb hbytes d31)
      have c8 : Steps p.tables e below (s₁.setTop (entryFrame m #[.ref b, .int (Int32.ofNat o), .ref d, .int (Int32.ofNat q), .int (Int32.ofNat len)] 7)) (T7.setTop (mkF m 32 #[.val (.ref b), .val (.int (Int32.ofNat (o + i))), .val (.ref d), .val (.int (Int32.ofNat (q + i))), .val (.int (Int32.ofNat len)), .val (.int (Int32.ofNat i)), .val (.int (cv A (o + i)))] [])) := c6.trans (st7 _ (Steps.refl _))
      have c9 : Steps p.tables e below (s₁.setTop (entryFrame m #[.ref b, .int (Int32.ofNat o), .ref d, .int (Int32.ofNat q), .int (Int32.ofNat len)] 7)) (T7.setTop (mkF m 3 #[.val (.ref b), .val (.int (Int32.ofNat (o + i) + 1)), .val (.ref d), .val (.int (Int32.ofNat (q + i) + 1)), .val (.int (Int32.ofNat len)), .val (.int (Int32.ofNat i + 1)), .val (.int (cv A (o + i)))] [])) := c8.trans (by
        refine iincV X7.here hexec rfl 1 (hb hbytes d32) (by decide) rfl rfl ?_
        refine iincV X7.here hexec rfl 1 (hb hbytes d35) (by decide) rfl rfl ?_
        refine iincV X7.here hexec rfl 1 (hb hbytes d38) (by decide) rfl rfl ?_
        refine XS.goto X7.here hexec rfl (pc0 := 41) rfl (hb hbytes d41) (by decide) rfl ?_
        exact Steps.refl _)
      have c10 : Steps p.tables e below (s₁.setTop (entryFrame m #[.ref b, .int (Int32.ofNat o), .ref d, .int (Int32.ofNat q), .int (Int32.ofNat len)] 7)) (T7.setTop (mkF m 3 #[.val (.ref b), .val (.int (Int32.ofNat (o + (i + 1)))), .val (.ref d), .val (.int (Int32.ofNat (q + (i + 1)))), .val (.int (Int32.ofNat len)), .val (.int (Int32.ofNat (i + 1))), .val (.int (cv A (o + i)))] [])) := by
        have := c9
        rw [succ32, succ32, succ32] at this
        exact this
      exact ih (i + 1) (by omega) _ (Or.inr ⟨_, rfl, rfl⟩) T7 _ (by rw [copyLocs_step, ← List.append_assoc]; exact X7) (pl.trans p7) (fl.step (by omega) hlt (by simp)) c10
  obtain ⟨T9, B9, z9, X9, p9, f9, g9⟩ := loop len 0 (by omega) .unset (Or.inl rfl) s₁ B (by simpa [copyLocs] using X0) ⟨hB0.1, fun _ _ => rfl, rfl⟩ (Laid.zero _ _ _) c2
  have c11 : Steps p.tables e below (s₁.setTop (entryFrame m #[.ref b, .int (Int32.ofNat o), .ref d, .int (Int32.ofNat q), .int (Int32.ofNat len)] 7)) (T9.setTop (mkF m 46 #[.val (.ref b), .val (.int (Int32.ofNat (o + len))), .val (.ref d), .val (.int (Int32.ofNat (q + len))), .val (.int (Int32.ofNat len)), .val (.int (Int32.ofNat len)), z9] [.int (Int32.ofNat len)])) := g9.trans (by
    refine XS.iload X9.here hexec rfl (hb hbytes d3) rfl ?_
    refine XS.iload X9.here hexec rfl (hb hbytes d5) rfl ?_
    refine XS.icmpYes X9.here hexec rfl (pc0 := 7) rfl (hb hbytes d7) rfl (ii_ge_t (nlt32 (by omega) (Nat.le_refl _))) (by decide) rfl ?_
    refine XS.iload X9.here hexec rfl (hb hbytes d44) rfl ?_
    exact Steps.refl _)
  exact ⟨T9, some (.int (Int32.ofNat len)), _, _, _, X9, by simp, rfl, rfl, (fun h => by cases h), ⟨rfl, B9, p9.from hh0, f9⟩, fun fs hl => c11.trans (X9.ireturnOut hexec hret rfl (Or.inl rfl) (hb hbytes d46) hl)⟩
end Cmp5
namespace Cmp3
def yN : MethodName := ⟨"java/lang/StringUTF16", "compress", "([CII)[B"⟩
abbrev yB : ByteArray := jdk_52_method_16_code
theorem d0 : decode yB 0 = .ok (.iload_n 2, 1) := by decide +kernel
theorem d1 : decode yB 1 = .ok (.newarray .byte, 2) := by decide +kernel
theorem d3 : decode yB 3 = .ok (.astore_n 3, 1) := by decide +kernel
theorem d4 : decode yB 4 = .ok (.aload_n 0, 1) := by decide +kernel
theorem d5 : decode yB 5 = .ok (.iload_n 1, 1) := by decide +kernel
theorem d6 : decode yB 6 = .ok (.aload_n 3, 1) := by decide +kernel
theorem d7 : decode yB 7 = .ok (.iconst 0, 1) := by decide +kernel
theorem d8 : decode yB 8 = .ok (.iload_n 2, 1) := by decide +kernel
theorem d9 : decode yB 9 = .ok (.invokestatic 115, 3) := by decide +kernel
theorem d12 : decode yB 12 = .ok (.istore 4, 2) := by decide +kernel
theorem d14 : decode yB 14 = .ok (.iload 4, 2) := by decide +kernel
theorem d16 : decode yB 16 = .ok (.iload_n 2, 1) := by decide +kernel
theorem d17 : decode yB 17 = .ok (.if_icmp (.eq) 40, 3) := by decide +kernel
theorem d57 : decode yB 57 = .ok (.aload_n 3, 1) := by decide +kernel
theorem d58 : decode yB 58 = .ok (.areturn, 1) := by decide +kernel
def site : List Cond := [.arrayClass .byte, Cmp5.tab] ++ staticW U16 115 Cmp5.yN
def tab : Cond := tabOf yN yB 6 (some (.array .byte)) site
def P (b : Addr) (A : Cell) (o len : Nat) (args : Array Value) (s : State) : Prop := args = #[.ref b, .int (Int32.ofNat o), .int (Int32.ofNat len)] ∧ Ch b A s ∧ o + len ≤ A.slots.size ∧ len ≤ 536870912 ∧ ∀ i, i < len → ¬ 255 < cv A (o + i)
def E (b : Addr) (A : Cell) (o len : Nat) (r : Option Value) (s u : State) : Prop := NewArr .byte "[B" len (fun j => .int (lo8 (cv A (o + j)))) r s u ∧ u.heap.size = s.heap.size + 1
/-- no char of the range above 255: a new byte[] of their low bytes -/
theorem law (l : Launch) (b : Addr) (A : Cell) (o len : Nat) : Law l yN 3 3 1 18 yB 6 (some (.array .byte)) site (P b A o len) (E b A o len) [] 1 len := by
  refine Law.of_walk (plainFor_of_name (by decide +kernel)) (by decide +kernel) (by decide +kernel) (by decide) (fun _ _ h => by rw [h.1]; rfl) (fun _ U U' hal hh h => ⟨h.1, h.2.1.mv hal hh, h.2.2⟩) (fun r U U' V V' h1 hal h2 h => ⟨NewArr.mv r U U' V V' h1 hal h2 h.1, by rw [h1, h2]; exact h.2⟩) ?_
  intro p e s m args below meth c s₁ X0 hexec hbytes hml hret hlk hnm hown hh0 W hP
  obtain ⟨rfl, hA, l1, l2, hp⟩ := hP
  have a31 := hA.1.2.2.2
  have c1 : Steps p.tables e below (s₁.setTop (entryFrame m #[.ref b, .int (Int32.ofNat o), .int (Int32.ofNat len)] 6)) (s₁.setTop (mkF m 0 #[.val (.ref b), .val (.int (Int32.ofNat o)), .val (.int (Int32.ofNat len)), .unset, .unset, .unset] [])) := entry rfl
  have c2 : Steps p.tables e below (s₁.setTop (entryFrame m #[.ref b, .int (Int32.ofNat o), .int (Int32.ofNat len)] 6)) (s₁.setTop (mkF m 1 #[.val (.ref b), .val (.int (Int32.ofNat o)), .val (.int (Int32.ofNat len)), .unset, .unset, .unset] [.int (Int32.ofNat len)])) := c1.trans (by
    refine XS.iloadN X0.here hexec rfl (hb hbytes d0) rfl ?_
    exact Steps.refl _)
  obtain ⟨T3, B3, X3, ba3, bs3, bv3, bh3, bf3, st3⟩ := X0.anew hexec (atype := .byte) (wk W (.arrayClass .byte)) rfl (by show len * 1 ≤ _; omega) (by omega) (g := (mkF m 1 #[.val (.ref b), .val (.int (Int32.ofNat o)), .val (.int (Int32.ofNat len)), .unset, .unset, .unset] [.int (Int32.ofNat len)])) rfl (hb hbytes d1) (rest := []) rfl (Nat.le_refl _) (by show 0 + len ≤ len; omega)
  rw [hh0] at ba3 st3
  have kp3 : XT.Kept s T3 := (XT.Kept.of_eq hh0).push bh3
  have hA3 := hA.keep X3.warmed.alike (kp3 _ _ hA.1.1)
  have hne : b ≠ s.heap.size := hA.1.ne
  have c4 : Steps p.tables e below (s₁.setTop (entryFrame m #[.ref b, .int (Int32.ofNat o), .int (Int32.ofNat len)] 6)) (T3.setTop (mkF m 3 #[.val (.ref b), .val (.int (Int32.ofNat o)), .val (.int (Int32.ofNat len)), .unset, .unset, .unset] [.ref s.heap.size])) := c2.trans (st3 _ (Steps.refl _))
  have c5 : Steps p.tables e below (s₁.setTop (entryFrame m #[.ref b, .int (Int32.ofNat o), .int (Int32.ofNat len)] 6)) (T3.setTop (mkF m 9 #[.val (.ref b), .val (.int (Int32.ofNat o)), .val (.int (Int32.ofNat len)), .val (.ref s.heap.size), .unset, .unset] [.int (Int32.ofNat len), .int 0, .ref s.heap.size, .int (Int32.ofNat o), .ref b])) := c4.trans (by
    refine XS.astoreN X3.here hexec rfl (hb hbytes d3) rfl rfl rfl ?_
    refine XS.aloadN X3.here hexec rfl (hb hbytes d4) rfl rfl ?_
    refine XS.iloadN X3.here hexec rfl (hb hbytes d5) rfl ?_
    refine XS.aloadN X3.here hexec rfl (hb hbytes d6) rfl rfl ?_
    refine iconstV X3.here hexec rfl 0 (hb hbytes d7) (by decide) ?_
    refine XS.iloadN X3.here hexec rfl (hb hbytes d8) rfl ?_
    exact Steps.refl _)
  obtain ⟨v6, T6, X6, E6, g6⟩ := X3.callS hexec (Cmp5.law l b A s.heap.size B3 o 0 len) hown (wks W (staticW U16 115 Cmp5.yN)) (wk W Cmp5.tab) (W := 0) (Nat.le_of_ble_eq_true rfl) (Nat.le_of_ble_eq_true rfl) (Nat.le_refl _) (by show 0 + len + 0 ≤ len; omega) (g := (mkF m 9 #[.val (.ref b), .val (.int (Int32.ofNat o)), .val (.int (Int32.ofNat len)), .val (.ref s.heap.size), .unset, .unset] [.int (Int32.ofNat len), .int (Int32.ofNat 0), .ref s.heap.size, .int (Int32.ofNat o), .ref b])) rfl (by rw [hml]; rfl) c5 (argsL := [.ref b, .int (Int32.ofNat o), .ref s.heap.size, .int (Int32.ofNat 0), .int (Int32.ofNat len)]) (rest := []) rfl rfl (by show 2 * 0 + 0 ≤ _; decide) (hb hbytes d9) (⟨rfl, hA3, ba3, hne, l1, by rw [bs3]; simp, hp⟩)
  obtain ⟨rfl, B6, p6, f6⟩ := E6
  have c7 : Steps p.tables e below (s₁.setTop (entryFrame m #[.ref b, .int (Int32.ofNat o), .int (Int32.ofNat len)] 6)) (T6.setTop (mkF m 12 #[.val (.ref b), .val (.int (Int32.ofNat o)), .val (.int (Int32.ofNat len)), .val (.ref s.heap.size), .unset, .unset] [.int (Int32.ofNat len)])) := g6
  have c8 : Steps p.tables e below (s₁.setTop (entryFrame m #[.ref b, .int (Int32.ofNat o), .int (Int32.ofNat len)] 6)) (T6.setTop (mkF m 58 #[.val (.ref b), .val (.int (Int32.ofNat o)), .val (.int (Int32.ofNat len)), .val (.ref s.heap.size), .val (.int (Int32.ofNat len)), .unset] [.ref s.heap.size])) := c7.trans (by
    refine XS.istore X6.here hexec rfl (hb hbytes d12) rfl rfl ?_
    refine XS.iload X6.here hexec rfl (hb hbytes d14) rfl ?_
    refine XS.iloadN X6.here hexec rfl (hb hbytes d16) rfl ?_
    refine XS.icmpYes X6.here hexec rfl (pc0 := 17) rfl (hb hbytes d17) rfl (ii_eq_t rfl) (by decide) rfl ?_
    refine XS.aloadN X6.here hexec rfl (hb hbytes d57) rfl rfl ?_
    exact Steps.refl _)
  have X8 := X6.wide (L' := []) (cells' := 1) (slots' := len) (fun x hx hlt => by
    simp only [List.nil_append, copyLocs, List.mem_map, List.mem_range] at hx
    obtain ⟨i, -, rfl⟩ := hx
    exact absurd hlt (Nat.lt_irrefl _)) (Nat.le_refl _) (by omega)
  exact ⟨T6, some (.ref s.heap.size), _, _, _, X8, rfl, rfl, rfl, (fun h => by cases h), ⟨⟨rfl, B6, ba3.like (X3.warmed.alike.symm.trans X6.warmed.alike) p6.1 f6.1 f6.2.1 f6.2.2.1, f6.2.1.trans bv3, by rw [X6.warmed.alike.findClass, f6.1]; exact bf3, by rw [f6.2.2.1, bs3]; simp, fun j hj => by rw [f6.2.2.2 j, if_pos (by omega)]; rfl, kp3.put p6 (Nat.le_refl _)⟩, by rw [p6.2.2, bh3, hh0]; simp⟩, fun fs hl => c8.trans (X8.areturnOut hexec rfl hret rfl (hb hbytes d58) hl)⟩
end Cmp3
namespace CodL
def yN : MethodName := ⟨"java/lang/StringUTF16", "coderFromArrayLen", "([BI)B"⟩
abbrev yB : ByteArray := jdk_52_method_15_code
theorem d0 : decode yB 0 = .ok (.iload_n 1, 1) := by decide +kernel
theorem d1 : decode yB 1 = .ok (.aload_n 0, 1) := by decide +kernel
theorem d2 : decode yB 2 = .ok (.arraylength, 1) := by decide +kernel
theorem d3 : decode yB 3 = .ok (.isub, 1) := by decide +kernel
theorem d4 : decode yB 4 = .ok (.bipush 31, 2) := by decide +kernel
theorem d6 : decode yB 6 = .ok (.iushr, 1) := by decide +kernel
theorem d7 : decode yB 7 = .ok (.i2b, 1) := by decide +kernel
theorem d8 : decode yB 8 = .ok (.ireturn, 1) := by decide +kernel
def site : List Cond := []
def tab : Cond := tabOf yN yB 2 (some .byte) site
def P (d : Addr) (B : Cell) (args : Array Value) (s : State) : Prop := args = #[.ref d, .int (Int32.ofNat B.slots.size)] ∧ Arr .byte d B s
def E (r : Option Value) (s u : State) : Prop := XT.PureE (some (.int 0)) r s u
/-- an array as long as the number of chars: LATIN1 -/
theorem law (l : Launch) (d : Addr) (B : Cell) : Law l yN 2 2 0 0 yB 2 (some .byte) site (P d B) E [] 0 0 := by
  refine Law.of_walk (plainFor_of_name (by decide +kernel)) (by decide +kernel) (by decide +kernel) (by decide) (fun _ _ h => by rw [h.1]; rfl) (fun _ U U' hal hh h => ⟨h.1, h.2.mv hal hh⟩) (fun r U U' V V' h1 hal h2 h => XT.PureE.mv r U U' V V' h1 hal h2 h) ?_
  intro p e s m args below meth c s₁ X0 hexec hbytes hml hret hlk hnm hown hh0 W hP
  obtain ⟨rfl, hB⟩ := hP
  have hB0 := hB.mv X0.warmed.alike hh0
  have c1 : Steps p.tables e below (s₁.setTop (entryFrame m #[.ref d, .int (Int32.ofNat B.slots.size)] 2)) (s₁.setTop (mkF m 0 #[.val (.ref d), .val (.int (Int32.ofNat B.slots.size))] [])) := entry rfl
  have c2 : Steps p.tables e below (s₁.setTop (entryFrame m #[.ref d, .int (Int32.ofNat B.slots.size)] 2)) (s₁.setTop (mkF m 2 #[.val (.ref d), .val (.int (Int32.ofNat B.slots.size))] [.ref d, .int (Int32.ofNat B.slots.size)])) := c1.trans (by
    refine XS.iloadN X0.here hexec rfl (hb hbytes d0) rfl ?_
    refine XS.aloadN X0.here hexec rfl (hb hbytes d1) rfl rfl ?_
    exact Steps.refl _)
  have c3 : Steps p.tables e below (s₁.setTop (entryFrame m #[.ref d, .int (Int32.ofNat B.slots.size)] 2)) (s₁.setTop (mkF m 8 #[.val (.ref d), .val (.int (Int32.ofNat B.slots.size))] [.int (lo8 (ushr (Int32.ofNat B.slots.size - Int32.ofNat B.slots.size) 31))])) := c2.trans (by
    refine X0.alen hexec hB0 rfl rfl (hb hbytes d2) ?_
    refine XS.isub X0.here hexec rfl (hb hbytes d3) rfl ?_
    refine bipushV X0.here hexec rfl 31 (hb hbytes d4) (by decide) ?_
    refine iushr X0.here hexec rfl (hb hbytes d6) rfl ?_
    refine i2b X0.here hexec rfl (hb hbytes d7) rfl ?_
    exact Steps.refl _)
  have e0 : lo8 (ushr (Int32.ofNat B.slots.size - Int32.ofNat B.slots.size) 31) = 0 := by rw [Int32.sub_self]; decide
  rw [e0] at c3
  exact ⟨s₁, some (.int 0), _, _, _, X0, rfl, rfl, rfl, (fun h => by cases h), ⟨rfl, hh0⟩, fun fs hl => c3.trans (X0.ireturnOut hexec hret rfl (Or.inr (Or.inr (Or.inl rfl))) (hb hbytes d8) hl)⟩
end CodL
/-- the String at a is Latin-1 over a new byte[] (the heap's one new cell): the low bytes of the len chars of A from o on; every cell but a is kept -/
def Got (a : Addr) (D : Cell) (fV fC : Field) (A : Cell) (o len : Nat) (r : Option Value) (s u : State) : Prop := r = none ∧ ∃ D' V : Cell, Blank "java/lang/String" a D' u ∧ Same D D' [fV.slot, fC.slot] ∧ D'.slots[fV.slot]? = some (.ref s.heap.size) ∧ D'.slots[fC.slot]? = some (.int 0) ∧ Arr .byte s.heap.size V u ∧ V.vm = .none ∧ u.vm.findClass "[B" = some V.cls ∧ V.slots.size = len ∧ (∀ j, j < len → V.slots[j]? = some (.int (lo8 (cv A (o + j))))) ∧ (∀ (y : Addr) (c : Cell), y ≠ a → s.heap[y]? = some c → u.heap[y]? = some c) ∧ u.heap.size = s.heap.size + 1
theorem Got.mv {a : Addr} {D A : Cell} {fV fC : Field} {o len : Nat} : ∀ r (U U' V V' : State), U'.heap = U.heap → V.vm.Alike V'.vm → V'.heap = V.heap → Got a D fV fC A o len r U V → Got a D fV fC A o len r U' V' :=
  fun r U U' V V' h1 hal h2 ⟨e0, D', X, a1, a2, a3, a4, a5, a6, a7, a8, a9, a10, a11⟩ => ⟨e0, D', X, a1.mv hal h2, a2, by rw [h1]; exact a3, a4, by rw [h1]; exact a5.mv hal h2, a6, by rw [hal.findClass]; exact a7, a8, a9, by rw [h1, h2]; exact a10, by rw [h1, h2]; exact a11⟩
namespace New4
def yN : MethodName := ⟨"java/lang/String", "<init>", "([CIILjava/lang/Void;)V"⟩
abbrev yB : ByteArray := jdk_42_method_149_code
theorem d0 : decode yB 0 = .ok (.aload_n 0, 1) := by decide +kernel
theorem d1 : decode yB 1 = .ok (.invokespecial 1, 3) := by decide +kernel
theorem d4 : decode yB 4 = .ok (.iload_n 3, 1) := by decide +kernel
theorem d5 : decode yB 5 = .ok (.ifCond (.ne) 22, 3) := by decide +kernel
theorem d27 : decode yB 27 = .ok (.getstatic 38, 3) := by decide +kernel
theorem d30 : decode yB 30 = .ok (.ifCond (.eq) 28, 3) := by decide +kernel
theorem d33 : decode yB 33 = .ok (.aload_n 1, 1) := by decide +kernel
theorem d34 : decode yB 34 = .ok (.iload_n 2, 1) := by decide +kernel
theorem d35 : decode yB 35 = .ok (.iload_n 3, 1) := by decide +kernel
theorem d36 : decode yB 36 = .ok (.invokestatic 177, 3) := by decide +kernel
theorem d39 : decode yB 39 = .ok (.astore 5, 2) := by decide +kernel
theorem d41 : decode yB 41 = .ok (.aload_n 0, 1) := by decide +kernel
theorem d42 : decode yB 42 = .ok (.aload 5, 2) := by decide +kernel
theorem d44 : decode yB 44 = .ok (.iload_n 3, 1) := by decide +kernel
theorem d45 : decode yB 45 = .ok (.invokestatic 47, 3) := by decide +kernel
theorem d48 : decode yB 48 = .ok (.putfield 15, 3) := by decide +kernel
theorem d51 : decode yB 51 = .ok (.aload_n 0, 1) := by decide +kernel
theorem d52 : decode yB 52 = .ok (.aload 5, 2) := by decide +kernel
theorem d54 : decode yB 54 = .ok (.putfield 9, 3) := by decide +kernel
theorem d57 : decode yB 57 = .ok (.return_, 1) := by decide +kernel
def site : List Cond := [.fieldLink "java/lang/String" 38 "java/lang/String" "COMPACT_STRINGS" "Z", Cmp3.tab, CodL.tab, .laysFinal "java/lang/String" "java/lang/String" "value" "[B", .fieldLink "java/lang/String" 9 "java/lang/String" "value" "[B", .laysFinal "java/lang/String" "java/lang/String" "coder" "B", .fieldLink "java/lang/String" 15 "java/lang/String" "coder" "B"] ++ objW "java/lang/String" 1 ++ staticW "java/lang/String" 177 Cmp3.yN ++ staticW "java/lang/String" 47 CodL.yN
def tab : Cond := tabOf yN yB 6 none site
def P (a : Addr) (D : Cell) (fV fC : Field) (b : Addr) (A : Cell) (z : Int32) (o len : Nat) (args : Array Value) (s : State) : Prop := args = #[.ref a, .ref b, .int (Int32.ofNat o), .int (Int32.ofNat len), .null] ∧ Blank "java/lang/String" a D s ∧ Found "java/lang/String" "value" "[B" fV s ∧ Found "java/lang/String" "coder" "B" fC s ∧ Ch b A s ∧ StaticIs s "java/lang/String" "COMPACT_STRINGS" "Z" (.int z) ∧ ¬ z = 0 ∧ 0 < len ∧ o + len ≤ A.slots.size ∧ len ≤ 536870912 ∧ ∀ i, i < len → ¬ 255 < cv A (o + i)
def E (a : Addr) (D : Cell) (fV fC : Field) (A : Cell) (o len : Nat) (r : Option Value) (s u : State) : Prop := Got a D fV fC A o len r s u
/-- len > 0, no char of the range above 255: a Latin-1 String of their low bytes -/
theorem law (l : Launch) (a : Addr) (D : Cell) (fV fC : Field) (b : Addr) (A : Cell) (z : Int32) (o len : Nat) : Law l yN 5 4 2 35 yB 6 none site (P a D fV fC b A z o len) (E a D fV fC A o len) [⟨a, fC.slot⟩, ⟨a, fV.slot⟩] 1 len := by
  refine Law.of_walk (plainFor_of_name (by decide +kernel)) (by decide +kernel) (by decide +kernel) (by decide) (fun _ _ h => by rw [h.1]; rfl) (fun _ U U' hal hh h => ⟨h.1, h.2.1.mv hal hh, h.2.2.1.al hal, h.2.2.2.1.al hal, h.2.2.2.2.1.mv hal hh, h.2.2.2.2.2.1.there hal hh, h.2.2.2.2.2.2⟩) (fun r U U' V V' h1 hal h2 h => Got.mv r U U' V V' h1 hal h2 h) ?_
  intro p e s m args below meth c s₁ X0 hexec hbytes hml hret hlk hnm hown hh0 W hP
  obtain ⟨rfl, hB, f1, f2, hA, s1, hz, l0, l1, l2, hp⟩ := hP
  have a31 := hA.1.2.2.2
  have c1 : Steps p.tables e below (s₁.setTop (entryFrame m #[.ref a, .ref b, .int (Int32.ofNat o), .int (Int32.ofNat len), .null] 6)) (s₁.setTop (mkF m 0 #[.val (.ref a), .val (.ref b), .val (.int (Int32.ofNat o)), .val (.int (Int32.ofNat len)), .val .null, .unset] [])) := entry rfl
  have c2 : Steps p.tables e below (s₁.setTop (entryFrame m #[.ref a, .ref b, .int (Int32.ofNat o), .int (Int32.ofNat len), .null] 6)) (s₁.setTop (mkF m 1 #[.val (.ref a), .val (.ref b), .val (.int (Int32.ofNat o)), .val (.int (Int32.ofNat len)), .val .null, .unset] [.ref a])) := c1.trans (by
    refine XS.aloadN X0.here hexec rfl (hb hbytes d0) rfl rfl ?_
    exact Steps.refl _)
  obtain ⟨T3, X3, q3, st3⟩ := X0.oinit hexec hown (wks W (objW "java/lang/String" 1)) (g := (mkF m 1 #[.val (.ref a), .val (.ref b), .val (.int (Int32.ofNat o)), .val (.int (Int32.ofNat len)), .val .null, .unset] [.ref a])) rfl (by rw [hml]; rfl) (rest := []) rfl (hb hbytes d1) (W := 0) (by show 2 * 0 + 0 ≤ _; decide) (Nat.le_of_ble_eq_true rfl) (Nat.le_of_ble_eq_true rfl)
  have hh3 := q3.trans hh0
  have c4 : Steps p.tables e below (s₁.setTop (entryFrame m #[.ref a, .ref b, .int (Int32.ofNat o), .int (Int32.ofNat len), .null] 6)) (T3.setTop (mkF m 27 #[.val (.ref a), .val (.ref b), .val (.int (Int32.ofNat o)), .val (.int (Int32.ofNat len)), .val .null, .unset] [])) := (c2.trans (st3 _ (Steps.refl _))).trans (by
    refine XS.iloadN X3.here hexec rfl (hb hbytes d4) rfl ?_
    refine XS.ifYes X3.here hexec rfl (pc0 := 5) rfl (hb hbytes d5) rfl (i0_ne_t (nz32 (by omega) l0)) (by decide) rfl ?_
    exact Steps.refl _)
  obtain ⟨T5, X5, q5, st5⟩ := X3.sget hexec hown (wk W (.fieldLink "java/lang/String" 38 "java/lang/String" "COMPACT_STRINGS" "Z")) s1 (fun _ _ h => by rw [hh3]; exact h) (g := (mkF m 27 #[.val (.ref a), .val (.ref b), .val (.int (Int32.ofNat o)), .val (.int (Int32.ofNat len)), .val .null, .unset] [])) rfl (hb hbytes d27)
  have hh5 := q5.trans hh3
  have c6 : Steps p.tables e below (s₁.setTop (entryFrame m #[.ref a, .ref b, .int (Int32.ofNat o), .int (Int32.ofNat len), .null] 6)) (T5.setTop (mkF m 30 #[.val (.ref a), .val (.ref b), .val (.int (Int32.ofNat o)), .val (.int (Int32.ofNat len)), .val .null, .unset] [.int z])) := c4.trans (st5 _ (Steps.refl _))
  have c7 : Steps p.tables e below (s₁.setTop (entryFrame m #[.ref a, .ref b, .int (Int32.ofNat o), .int (Int32.ofNat len), .null] 6)) (T5.setTop (mkF m 36 #[.val (.ref a), .val (.ref b), .val (.int (Int32.ofNat o)), .val (.int (Int32.ofNat len)), .val .null, .unset] [.int (Int32.ofNat len), .int (Int32.ofNat o), .ref b])) := c6.trans (by
    refine XS.ifNo X5.here hexec rfl (hb hbytes d30) rfl (i0_eq_f hz) ?_
    refine XS.aloadN X5.here hexec rfl (hb hbytes d33) rfl rfl ?_
    refine XS.iloadN X5.here hexec rfl (hb hbytes d34) rfl ?_
    refine XS.iloadN X5.here hexec rfl (hb hbytes d35) rfl ?_
    exact Steps.refl _)
  obtain ⟨v8, T8, X8, E8, g8⟩ := X5.callS hexec (Cmp3.law l b A o len) hown (wks W (staticW "java/lang/String" 177 Cmp3.yN)) (wk W Cmp3.tab) (W := 0) (Nat.le_of_ble_eq_true rfl) (Nat.le_of_ble_eq_true rfl) (Nat.le_refl _) (by show 0 + len ≤ len; omega) (g := (mkF m 36 #[.val (.ref a), .val (.ref b), .val (.int (Int32.ofNat o)), .val (.int (Int32.ofNat len)), .val .null, .unset] [.int (Int32.ofNat len), .int (Int32.ofNat o), .ref b])) rfl (by rw [hml]; rfl) c7 (argsL := [.ref b, .int (Int32.ofNat o), .int (Int32.ofNat len)]) (rest := []) rfl rfl (by show 2 * 0 + 0 ≤ _; decide) (hb hbytes d36) (⟨rfl, hA.mv X5.warmed.alike hh5, l1, l2, hp⟩)
  obtain ⟨e8, z8⟩ := E8
  obtain ⟨rfl, N, n1, n2, n3, n4, n5, n6⟩ := NewArr.mv _ T5 s _ _ hh5.symm (Vm.Alike.refl _) rfl e8
  rw [hh5] at z8
  have hB1 := hB.keep X8.warmed.alike (n6 _ _ hB.1)
  have hne : s.heap.size ≠ a := (Nat.ne_of_lt (Array.getElem?_eq_some_iff.mp hB.1).1).symm
  have c9 : Steps p.tables e below (s₁.setTop (entryFrame m #[.ref a, .ref b, .int (Int32.ofNat o), .int (Int32.ofNat len), .null] 6)) (T8.setTop (mkF m 39 #[.val (.ref a), .val (.ref b), .val (.int (Int32.ofNat o)), .val (.int (Int32.ofNat len)), .val .null, .unset] [.ref s.heap.size])) := g8
  have c10 : Steps p.tables e below (s₁.setTop (entryFrame m #[.ref a, .ref b, .int (Int32.ofNat o), .int (Int32.ofNat len), .null] 6)) (T8.setTop (mkF m 45 #[.val (.ref a), .val (.ref b), .val (.int (Int32.ofNat o)), .val (.int (Int32.ofNat len)), .val .null, .val (.ref s.heap.size)] [.int (Int32.ofNat N.slots.size), .ref s.heap.size, .ref a])) := by
    have hc : Steps p.tables e below (s₁.setTop (entryFrame m #[.ref a, .ref b, .int (Int32.ofNat o), .int (Int32.ofNat len), .null] 6)) (T8.setTop (mkF m 45 #[.val (.ref a), .val (.ref b), .val (.int (Int32.ofNat o)), .val (.int (Int32.ofNat len)), .val .null, .val (.ref s.heap.size)] [.int (Int32.ofNat len), .ref s.heap.size, .ref a])) := c9.trans (by
      refine XS.astore X8.here hexec rfl (hb hbytes d39) rfl rfl rfl ?_
      refine XS.aloadN X8.here hexec rfl (hb hbytes d41) rfl rfl ?_
      refine XS.aload X8.here hexec rfl (hb hbytes d42) rfl rfl ?_
      refine XS.iloadN X8.here hexec rfl (hb hbytes d44) rfl ?_
      exact Steps.refl _)
    rw [n4]; exact hc
  obtain ⟨v11, T11, X11, E11, g11⟩ := X8.callS hexec (CodL.law l s.heap.size N) hown (wks W (staticW "java/lang/String" 47 CodL.yN)) (wk W CodL.tab) (W := 1) (Nat.le_of_ble_eq_true rfl) (Nat.le_of_ble_eq_true rfl) (Nat.le_refl _) (by show 0 + len + 0 ≤ len; omega) (g := (mkF m 45 #[.val (.ref a), .val (.ref b), .val (.int (Int32.ofNat o)), .val (.int (Int32.ofNat len)), .val .null, .val (.ref s.heap.size)] [.int (Int32.ofNat N.slots.size), .ref s.heap.size, .ref a])) rfl (by rw [hml]; rfl) c10 (argsL := [.ref s.heap.size, .int (Int32.ofNat N.slots.size)]) (rest := [.ref a]) rfl rfl (by show 2 * 0 + (1 + 0) ≤ _; decide) (hb hbytes d45) (⟨rfl, n1⟩)
  obtain ⟨rfl, q11⟩ := E11
  have hB11 := hB1.mv (X8.warmed.alike.symm.trans X11.warmed.alike) q11
  have c12 : Steps p.tables e below (s₁.setTop (entryFrame m #[.ref a, .ref b, .int (Int32.ofNat o), .int (Int32.ofNat len), .null] 6)) (T11.setTop (mkF m 48 #[.val (.ref a), .val (.ref b), .val (.int (Int32.ofNat o)), .val (.int (Int32.ofNat len)), .val .null, .val (.ref s.heap.size)] [.int 0, .ref a])) := g11
  obtain ⟨T13, X13, p13, bl13, sl13, st13⟩ := X11.finit hexec hown (wk W (.fieldLink "java/lang/String" 15 "java/lang/String" "coder" "B")) (Or.inr ⟨_, (wk W (.laysFinal "java/lang/String" "java/lang/String" "coder" "B"))⟩) (Or.inl ⟨rfl, hnm⟩) f2 (Or.inl rfl) hB11 (t := .byte) (by decide +kernel) rfl (g := (mkF m 48 #[.val (.ref a), .val (.ref b), .val (.int (Int32.ofNat o)), .val (.int (Int32.ofNat len)), .val .null, .val (.ref s.heap.size)] [.int 0, .ref a])) rfl (rest := []) rfl (hb hbytes d48)
  have c14 : Steps p.tables e below (s₁.setTop (entryFrame m #[.ref a, .ref b, .int (Int32.ofNat o), .int (Int32.ofNat len), .null] 6)) (T13.setTop (mkF m 54 #[.val (.ref a), .val (.ref b), .val (.int (Int32.ofNat o)), .val (.int (Int32.ofNat len)), .val .null, .val (.ref s.heap.size)] [.ref s.heap.size, .ref a])) := (c12.trans (st13 _ (Steps.refl _))).trans (by
    refine XS.aloadN X13.here hexec rfl (hb hbytes d51) rfl rfl ?_
    refine XS.aload X13.here hexec rfl (hb hbytes d52) rfl rfl ?_
    exact Steps.refl _)
  obtain ⟨T15, X15, p15, bl15, sl15, st15⟩ := X13.finit hexec hown (wk W (.fieldLink "java/lang/String" 9 "java/lang/String" "value" "[B")) (Or.inr ⟨_, (wk W (.laysFinal "java/lang/String" "java/lang/String" "value" "[B"))⟩) (Or.inl ⟨rfl, hnm⟩) f1 (Or.inl rfl) bl13 (t := (.array .byte)) (by decide +kernel) rfl (g := (mkF m 54 #[.val (.ref a), .val (.ref b), .val (.int (Int32.ofNat o)), .val (.int (Int32.ofNat len)), .val .null, .val (.ref s.heap.size)] [.ref s.heap.size, .ref a])) rfl (rest := []) rfl (hb hbytes d54)
  have c16 : Steps p.tables e below (s₁.setTop (entryFrame m #[.ref a, .ref b, .int (Int32.ofNat o), .int (Int32.ofNat len), .null] 6)) (T15.setTop (mkF m 57 #[.val (.ref a), .val (.ref b), .val (.int (Int32.ofNat o)), .val (.int (Int32.ofNat len)), .val .null, .val (.ref s.heap.size)] [])) := c14.trans (st15 _ (Steps.refl _))
  have ap := apart (Or.inr ⟨_, (wk W (.laysFinal "java/lang/String" "java/lang/String" "value" "[B"))⟩) (Or.inr ⟨_, (wk W (.laysFinal "java/lang/String" "java/lang/String" "coder" "B"))⟩) f1 f2 (t₁ := .array .byte) (t₂ := .byte) (by decide +kernel) (by decide +kernel) (by decide)
  have al := X8.warmed.alike.symm.trans X15.warmed.alike
  have n7 : T11.heap[s.heap.size]? = some N := by rw [q11]; exact n1.1
  exact ⟨T15, none, _, _, _, X15, by simp, rfl, by omega, (fun _ => rfl), ⟨rfl, _, N, bl15, ((Same.refl D _).set _ (by simp)).set _ (by simp), sl15, (Cell.slots_setSlot_ne _ ap).trans sl13, n1.keep al (p15.other hne (p13.other hne n7)), n2, by rw [al.findClass]; exact n3, n4, n5, fun y c h1 h2 => p15.other h1 (p13.other h1 (by rw [q11]; exact n6 y c h2)), by rw [p15.2.2, p13.2.2, q11]; exact z8⟩, fun fs hl => c16.trans (X15.returnOut hexec hret (hb hbytes d57) hl)⟩
end New4
namespace New1
def yN : MethodName := ⟨"java/lang/String", "<init>", "([C)V"⟩
abbrev yB : ByteArray := jdk_42_method_3_code
theorem d0 : decode yB 0 = .ok (.aload_n 0, 1) := by decide +kernel
theorem d1 : decode yB 1 = .ok (.aload_n 1, 1) := by decide +kernel
theorem d2 : decode yB 2 = .ok (.iconst 0, 1) := by decide +kernel
theorem d3 : decode yB 3 = .ok (.aload_n 1, 1) := by decide +kernel
theorem d4 : decode yB 4 = .ok (.arraylength, 1) := by decide +kernel
theorem d5 : decode yB 5 = .ok (.aconst_null, 1) := by decide +kernel
theorem d6 : decode yB 6 = .ok (.invokespecial 27, 3) := by decide +kernel
theorem d9 : decode yB 9 = .ok (.return_, 1) := by decide +kernel
def site : List Cond := [New4.tab] ++ initW "java/lang/String" 27 New4.yN
def tab : Cond := tabOf yN yB 2 none site
def P (a : Addr) (D : Cell) (fV fC : Field) (b : Addr) (A : Cell) (z : Int32) (args : Array Value) (s : State) : Prop := args = #[.ref a, .ref b] ∧ Blank "java/lang/String" a D s ∧ Found "java/lang/String" "value" "[B" fV s ∧ Found "java/lang/String" "coder" "B" fC s ∧ Ch b A s ∧ StaticIs s "java/lang/String" "COMPACT_STRINGS" "Z" (.int z) ∧ ¬ z = 0 ∧ 0 < A.slots.size ∧ A.slots.size ≤ 536870912 ∧ ∀ i, i < A.slots.size → ¬ 255 < cv A i
def E (a : Addr) (D : Cell) (fV fC : Field) (A : Cell) (r : Option Value) (s u : State) : Prop := Got a D fV fC A 0 A.slots.size r s u
/-- new String(chars), not empty, no char above 255: a Latin-1 String of their low bytes -/
theorem law (l : Launch) (a : Addr) (D : Cell) (fV fC : Field) (b : Addr) (A : Cell) (z : Int32) : Law l yN 2 1 3 52 yB 2 none site (P a D fV fC b A z) (E a D fV fC A) [⟨a, fC.slot⟩, ⟨a, fV.slot⟩] 1 A.slots.size := by
  refine Law.of_walk (plainFor_of_name (by decide +kernel)) (by decide +kernel) (by decide +kernel) (by decide) (fun _ _ h => by rw [h.1]; rfl) (fun _ U U' hal hh h => ⟨h.1, h.2.1.mv hal hh, h.2.2.1.al hal, h.2.2.2.1.al hal, h.2.2.2.2.1.mv hal hh, h.2.2.2.2.2.1.there hal hh, h.2.2.2.2.2.2⟩) (fun r U U' V V' h1 hal h2 h => Got.mv r U U' V V' h1 hal h2 h) ?_
  intro p e s m args below meth c s₁ X0 hexec hbytes hml hret hlk hnm hown hh0 W hP
  obtain ⟨rfl, hB, f1, f2, hA, s1, hz, l0, l2, hp⟩ := hP
  have c1 : Steps p.tables e below (s₁.setTop (entryFrame m #[.ref a, .ref b] 2)) (s₁.setTop (mkF m 0 #[.val (.ref a), .val (.ref b)] [])) := entry rfl
  have c2 : Steps p.tables e below (s₁.setTop (entryFrame m #[.ref a, .ref b] 2)) (s₁.setTop (mkF m 6 #[.val (.ref a), .val (.ref b)] [.null, .int (Int32.ofNat A.slots.size), .int 0, .ref b, .ref a])) := c1.trans (by
    refine XS.aloadN X0.here hexec rfl (hb hbytes d0) rfl rfl ?_
    refine XS.aloadN X0.here hexec rfl (hb hbytes d1) rfl rfl ?_
    refine iconstV X0.here hexec rfl 0 (hb hbytes d2) (by decide) ?_
    refine XS.aloadN X0.here hexec rfl (hb hbytes d3) rfl rfl ?_
    refine X0.alen hexec (hA.1.mv X0.warmed.alike hh0) rfl rfl (hb hbytes d4) ?_
    refine XS.aconstNull X0.here hexec rfl (hb hbytes d5) ?_
    exact Steps.refl _)
  obtain ⟨v3, T3, X3, E3, g3⟩ := X0.callN hexec (New4.law l a D fV fC b A z 0 A.slots.size) rfl hown (wks W (initW "java/lang/String" 27 New4.yN)) (W New4.tab (by simp only [site, List.mem_cons, List.mem_append, true_or, or_true])) (W := 0) (Nat.le_of_ble_eq_true rfl) (Nat.le_of_ble_eq_true rfl) (Nat.le_refl _) (by show 0 + A.slots.size ≤ A.slots.size; omega) (g := (mkF m 6 #[.val (.ref a), .val (.ref b)] [.null, .int (Int32.ofNat A.slots.size), .int (Int32.ofNat 0), .ref b, .ref a])) rfl (by rw [hml]; rfl) c2 (argsL := [.ref b, .int (Int32.ofNat 0), .int (Int32.ofNat A.slots.size), .null]) (rest := []) rfl rfl (by show 2 * 0 + 0 ≤ _; decide) (hb hbytes d6) (⟨rfl, hB.mv X0.warmed.alike hh0, f1.al X0.warmed.alike, f2.al X0.warmed.alike, hA.mv X0.warmed.alike hh0, s1.there X0.warmed.alike hh0, hz, l0, by omega, l2, fun i hi => by rw [Nat.zero_add]; exact hp i hi⟩)
  have e0 := Got.mv _ s₁ s _ _ hh0.symm (Vm.Alike.refl _) rfl E3
  obtain rfl := e0.1
  have c4 : Steps p.tables e below (s₁.setTop (entryFrame m #[.ref a, .ref b] 2)) (T3.setTop (mkF m 9 #[.val (.ref a), .val (.ref b)] [])) := g3
  exact ⟨T3, none, _, _, _, X3, by simp, rfl, by omega, (fun _ => rfl), e0, fun fs hl => c4.trans (X3.returnOut hexec hret (hb hbytes d9) hl)⟩
theorem pays {l : Launch} {R : Room} {p : Program} {e : Env} {below : List Frame} {s : State} {sargs : Array Value} {len W : Nat} (a : Addr) (D : Cell) (fV fC : Field) (b : Addr) (A : Cell) (z : Int32) (htab : tab.before sargs s = true) (hfr : 4 ≤ R.frames) (hlo : W + 65 ≤ R.locals) :
    Back l R p e below s sargs yN len W (fun A₁ a₁ => A₁.cells + 1 ≤ R.cells ∧ A₁.slots + A.slots.size ≤ R.slots ∧ P a D fV fC b A z a₁ A₁.U) (fun A₁ _ v₁ B₁ => E a D fV fC A v₁ A₁.U B₁.U ∧ B₁.locs = A₁.locs ++ [⟨a, fC.slot⟩, ⟨a, fV.slot⟩] ∧ B₁.cells = A₁.cells + 1 ∧ B₁.slots = A₁.slots + A.slots.size) :=
  (law l a D fV fC b A z).pays htab hfr (by omega)
end New1
/-- the byte, read back as charAt reads it, is the char -/
theorem lo8_mask {x : Int32} (h0 : ¬ x < 0) (h1 : ¬ 255 < x) : lo8 x &&& 255 = x := by
  have t : ∀ k : Fin 256, lo8 (Int32.ofNat k.val) &&& 255 = Int32.ofNat k.val := by decide +kernel
  rw [Int32.lt_iff_toInt_lt] at h0 h1
  have e0 : (0 : Int32).toInt = 0 := rfl
  have e1 : (255 : Int32).toInt = 255 := rfl
  obtain ⟨k, hk⟩ : ∃ k : Nat, x.toInt = k := ⟨x.toInt.toNat, by omega⟩
  have hx : x = Int32.ofNat k := Int32.toInt_inj.mp (by rw [hk, Int32.toInt_ofNat_small (by omega)])
  rw [hx]
  exact t ⟨k, by omega⟩
end StrChars
namespace StrChars.Road
open Jvm Sem ClassFile Op Lib Jvm.Stand Jvm.Free Jvm.Free.XT
open Jvm.Lib.Cold (StaticIs)
abbrev ST : String := "java/lang/String"
/-- every table word that New1's law asks, flat -/
abbrev words : List Jvm.Cond := [.code New1.yN New1.yB 2 none, .initialized ST, .methodLink ST 27 New4.yN, .instanceMethod New4.yN,
  .code New4.yN New4.yB 6 none, .fieldLink ST 38 ST "COMPACT_STRINGS" "Z", .laysFinal ST ST "value" "[B", .fieldLink ST 9 ST "value" "[B", .laysFinal ST ST "coder" "B", .fieldLink ST 15 ST "coder" "B",
  .methodLink ST 1 Lib.objectInit, .instanceMethod Lib.objectInit, .code Lib.objectInit ⟨#[0xb1]⟩ 1 none, .methodLink ST 177 Cmp3.yN, .static Cmp3.yN, .methodLink ST 47 CodL.yN, .static CodL.yN,
  .code Cmp3.yN Cmp3.yB 6 (some (.array .byte)), .initialized U16, .arrayClass .byte, .methodLink U16 115 Cmp5.yN, .static Cmp5.yN, .code Cmp5.yN Cmp5.yB 7 (some .int), .code CodL.yN CodL.yB 2 (some .byte)]
theorem tab_of {a : Array Value} {s : State} (h : ∀ w ∈ words, w.before a s = true) : New1.tab.before a s = true := by
  have h5 : Cmp5.tab.before a s = true := unparts (wk h (.code Cmp5.yN Cmp5.yB 7 (some .int))) (wks h (.initialized Cmp5.yN.cls :: Cmp5.site))
  have hc : CodL.tab.before a s = true := unparts (wk h (.code CodL.yN CodL.yB 2 (some .byte))) (wks h (.initialized CodL.yN.cls :: CodL.site))
  have q5 : ∀ w ∈ Cmp5.tab :: words, w.before a s = true := fun w hw => (List.mem_cons.mp hw).elim (fun e => e ▸ h5) (h w)
  have h3 : Cmp3.tab.before a s = true := unparts (wk q5 (.code Cmp3.yN Cmp3.yB 6 (some (.array .byte)))) (wks q5 (.initialized Cmp3.yN.cls :: Cmp3.site))
  have q3 : ∀ w ∈ Cmp3.tab :: CodL.tab :: words, w.before a s = true := fun w hw => (List.mem_cons.mp hw).elim (fun e => e ▸ h3) fun hw => (List.mem_cons.mp hw).elim (fun e => e ▸ hc) (h w)
  have h4 : New4.tab.before a s = true := unparts (wk q3 (.code New4.yN New4.yB 6 none)) (wks q3 (.initialized New4.yN.cls :: New4.site))
  have q4 : ∀ w ∈ New4.tab :: words, w.before a s = true := fun w hw => (List.mem_cons.mp hw).elim (fun e => e ▸ h4) (h w)
  exact unparts (wk q4 (.code New1.yN New1.yB 2 none)) (wks q4 (.initialized New1.yN.cls :: New1.site))
/-- the words ride from the start Z to the walk's own state -/
theorem moved {Z s : State} {a0 args : Array Value} (hZ : Z.Warmed39 s.vm) (hw : ∀ d ∈ words, d.before a0 Z = true) : ∀ d ∈ words, d.before args s = true := fun d hd => by
  have q := hw d hd
  have t : ∀ d ∈ words, d = .arrayClass .byte ∨ (d.onTables && d.keepsFace) = true := by decide +kernel
  rcases t d hd with rfl | t
  · exact RoadKit.mvA hZ q
  · exact RoadKit.mv hZ q t
/-- WHAT COMES BACK, over the tables of the start Z: h the heap at the call, h' behind it -/
def Q (Z : State) (x : Addr) (A : Cell) (h : Heap) (v : Option Value) (h' : Heap) (L : List Loc) : Prop := v = none ∧ (∀ y ∈ L, y.base = x) ∧ RoadKit.Keep h h' [x] ∧ h'.size = h.size + 1 ∧ RoadKit.Exa Z h' x ST ∧ RoadKit.Fld Z h' x ST "value" "[B" (.ref h.size) ∧ RoadKit.Fld Z h' x ST "coder" "B" (.int 0) ∧
  (∃ V : Cell, RoadKit.Arr Z h' h.size V .byte ∧ V.vm = .none ∧ Z.vm.findClass "[B" = some V.cls ∧ V.slots.size = A.slots.size ∧ ∀ j, j < A.slots.size → V.slots[j]? = some (.int (lo8 (cv A j)))) ∧
  ∀ (O n d : String) (w : Value), RoadKit.Fld Z h x O n d w → RoadKit.slotOf Z O n d ≠ RoadKit.slotOf Z ST "value" "[B" → RoadKit.slotOf Z O n d ≠ RoadKit.slotOf Z ST "coder" "B" → RoadKit.Fld Z h' x O n d w
/-- **new String(chars) AT A CALL, IN THE ROAD'S FORM**: for specialBack behind newO: x the fresh String, b the char[] with the cell A -/
theorem back {p : Program} {l : Launch} {e : Env} {R : Room} {s : State} {args : Array Value} {below : List Frame} {len W : Nat} {Z : State} {a0 : Array Value} {h : Heap} (hZ : Z.Warmed39 s.vm) (hw : ∀ d ∈ words, d.before a0 Z = true) {kI : Nat} (wi : (Jvm.Cond.instantiable ST kI).before a0 Z = true)
    {x b : Addr} {A : Cell} {z : Int32} {v0 c0 : Value} (E : RoadKit.Exa Z h x ST) (V : RoadKit.Fld Z h x ST "value" "[B" v0) (C : RoadKit.Fld Z h x ST "coder" "B" c0) (K : RoadKit.Arr Z h b A .char) (hty : Typed .char A) (S : RoadKit.Sta Z h ST "COMPACT_STRINGS" "Z" (.int z)) (hz : ¬ z = 0)
    (l0 : 0 < A.slots.size) (l2 : A.slots.size ≤ 536870912) (hp : ∀ i, i < A.slots.size → ¬ 255 < cv A i) (hfr : 4 ≤ R.frames) (hlo : W + 65 ≤ R.locals) :
    Back l R p e below s args New1.yN len W (fun P a => a = #[.ref x, .ref b] ∧ P.U.heap = h ∧ P.cells + 1 ≤ R.cells ∧ P.slots + A.slots.size ≤ R.slots)
      (fun P _ v B => ∃ L, Q Z x A h v B.U.heap L ∧ B.locs = P.locs ++ L ∧ B.cells = P.cells + 1 ∧ B.slots = P.slots + A.slots.size) := by
  intro m meth c P g ig mk a X hg hsize hdg hW hn hp'
  obtain ⟨rfl, rfl, r1, r2⟩ := hp'
  have al : Z.vm.Alike P.U.vm := hZ.alike.trans X.warmed.alike
  obtain ⟨D, cfV, kV, iV, fV, hD, gV, stV, knV, obV, asV, slV⟩ := id V
  obtain ⟨D', cfC, kC, iC, fC, hD', gC, stC, -, -, asC, slC⟩ := id C
  cases hD.symm.trans hD'
  obtain ⟨D2, kD, e1, e2, e3, e4, e5⟩ := id E
  cases hD.symm.trans e1
  obtain ⟨c2, k2, i1, i2, i3, -⟩ := Cond.instantiable_spec wi
  cases e2.symm.trans i1
  cases e3.symm.trans i2
  obtain ⟨kU, u1, u2⟩ := al.2.2 _ _ e3
  have hB : Blank ST x D P.U := ⟨hD, ⟨knV, fun q hq => by rw [hq] at obV; cases obV⟩, by rw [al.findClass]; exact e2, kU, u1, by rw [u2]; exact i3, by rw [u2]; exact e5 i3⟩
  have F1 : Found ST "value" "[B" fV P.U := ⟨SBG.found_only al ⟨cfV, kV, iV, gV⟩, stV⟩
  have F2 : Found ST "coder" "B" fC P.U := ⟨SBG.found_only al ⟨cfC, kC, iC, gC⟩, stC⟩
  have hA : Ch b A P.U := ⟨⟨K.1, State.isArrayOf_alike al K.2.1, K.2.2, by omega⟩, hty⟩
  have hS : StaticIs P.U ST "COMPACT_STRINGS" "Z" (.int z) := by
    obtain ⟨cfS, iS, kS, fS, st, cS, t1, t2, t3, t4, t5, t6, t7⟩ := S
    exact StaticIs.there (s := { Z with heap := P.U.heap }) ⟨cfS, iS, kS, fS, st, cS, t1, t2, t3, t4, t5, (fun q => by rw [q] at t6; cases t6), t7⟩ al rfl
  obtain ⟨v, B, X', ⟨⟨hv, E', V', q1, q2, q3, q4, q5, q6, q7, q8, q9, q10, q11⟩, hl, hc, hs⟩, st⟩ := New1.pays x D fV fC b A z (tab_of (moved hZ hw)) hfr hlo m meth c P g ig mk _ X hg hsize hdg hW hn ⟨r1, r2, rfl, hB, F1, F2, hA, hS, hz, l0, l2, hp⟩
  have al' : Z.vm.Alike B.U.vm := hZ.alike.trans X'.warmed.alike
  have hsz : E'.slots.size = D.slots.size := by
    obtain ⟨-, -, -, kB, w1, w2, w3⟩ := q1
    obtain ⟨kB', y1, y2⟩ := al'.2.2 _ _ e3
    rw [q2.2.1] at w1
    cases w1.symm.trans y1
    rw [w3, e5 i3, y2]
  refine ⟨v, B, X', ⟨_, ⟨hv, ?_, ⟨by omega, fun y cy hy hn' => q10 y cy (by simpa using hn') hy, fun y cy hy => ?_⟩, q11, ⟨E', _, q1.1, by rw [q2.2.1]; exact e2, by rw [q2.2.1]; exact e3, by rw [q2.1]; exact obV, fun _ => by rw [hsz]; exact e5 i3⟩,
    ⟨E', cfV, kV, iV, fV, q1.1, gV, stV, by rw [q2.1]; exact knV, by rw [q2.1]; exact obV, by rw [q2.2.1]; exact asV, q3⟩, ⟨E', cfC, kC, iC, fC, q1.1, gC, stC, by rw [q2.1]; exact knV, by rw [q2.1]; exact obV, by rw [q2.2.1]; exact asC, q4⟩,
    ⟨V', ⟨q5.1, State.isArrayOf_alike al'.symm q5.2.1, q5.2.2.1⟩, q6, by rw [← al'.findClass]; exact q7, q8, fun j hj => by have := q9 j hj; rwa [Nat.zero_add] at this⟩, fun O n d w F n1 n2 => ?_⟩, hl, hc, hs⟩, st⟩
  · intro y hy
    simp only [List.mem_cons, List.not_mem_nil, or_false] at hy
    rcases hy with rfl | rfl <;> rfl
  · by_cases q : y = x
    · subst q
      cases hD.symm.trans hy
      exact ⟨E', q1.1, q2.2.1, q2.1, hsz⟩
    · exact ⟨cy, q10 y cy q hy, rfl, rfl, rfl⟩
  · obtain ⟨D3, cf, k, i, f, g1, g2, g3, g4, g5, g6, g7⟩ := F
    cases hD.symm.trans g1
    simp only [RoadKit.slotOf, g2, gV, gC, Option.map_some, Option.getD_some] at n1 n2
    exact ⟨E', cf, k, i, f, q1.1, g2, g3, by rw [q2.1]; exact g4, by rw [q2.1]; exact g5, by rw [q2.2.1]; exact g6, by rw [q2.2.2 f.slot (by simp [n1, n2])]; exact g7⟩
end StrChars.Road
namespace StrChars.Road
open Jvm Sem ClassFile Op Lib Jvm.Stand Jvm.Free Jvm.Free.XT
/-- WHAT COMES BACK, the byte[] as a list of values -/
def QA (Z : State) (x : Addr) (zn : Int32) (cs : List Int32) (h : Heap) (v : Option Value) (h' : Heap) (L : List Loc) : Prop := v = none ∧ (∀ y ∈ L, y.base = x) ∧ RoadKit.Keep h h' [x] ∧ h'.size = h.size + 1 ∧ RoadKit.Exa Z h' x ST ∧ RoadKit.Fld Z h' x ST "value" "[B" (.ref h.size) ∧ RoadKit.Fld Z h' x ST "coder" "B" (.int 0) ∧
  (∃ kb, Z.vm.findClass "[B" = some kb ∧ RoadKit.Arv Z h' h.size kb .byte zn (cs.map fun c => .int (lo8 c)) (.int 0)) ∧
  ∀ (O n d : String) (w : Value), RoadKit.Fld Z h x O n d w → RoadKit.slotOf Z O n d ≠ RoadKit.slotOf Z ST "value" "[B" → RoadKit.slotOf Z O n d ≠ RoadKit.slotOf Z ST "coder" "B" → RoadKit.Fld Z h' x O n d w
/-- **new String(chars) AT A CALL, THE ARRAYS AS LISTS**: the char[] at b holds cs, not empty, no char above 255 -/
theorem backArv {p : Program} {l : Launch} {e : Env} {R : Room} {s : State} {args : Array Value} {below : List Frame} {len W : Nat} {Z : State} {a0 : Array Value} {h : Heap} (hZ : Z.Warmed39 s.vm) (hw : ∀ d ∈ words, d.before a0 Z = true) {kI : Nat} (wi : (Jvm.Cond.instantiable ST kI).before a0 Z = true)
    {x b : Addr} {k : ClassId} {zn z : Int32} {cs : List Int32} {dv v0 c0 : Value} (E : RoadKit.Exa Z h x ST) (V : RoadKit.Fld Z h x ST "value" "[B" v0) (C : RoadKit.Fld Z h x ST "coder" "B" c0) (K : RoadKit.Arv Z h b k .char zn (cs.map Value.int) dv) (S : RoadKit.Sta Z h ST "COMPACT_STRINGS" "Z" (.int z)) (hz : ¬ z = 0)
    (hlen : zn.toNatClampNeg = cs.length) (h0 : 0 < cs.length) (hbig : cs.length ≤ 536870912) (hall : ∀ c ∈ cs, ¬ 255 < c) (hfr : 4 ≤ R.frames) (hlo : W + 65 ≤ R.locals) :
    Back l R p e below s args New1.yN len W (fun P a => a = #[.ref x, .ref b] ∧ P.U.heap = h ∧ P.cells + 1 ≤ R.cells ∧ P.slots + cs.length ≤ R.slots)
      (fun P _ v B => ∃ L, QA Z x zn cs h v B.U.heap L ∧ B.locs = P.locs ++ L ∧ B.cells = P.cells + 1 ∧ B.slots = P.slots + cs.length) := by
  obtain ⟨A, K1, K2, K3, K4, K5, K6⟩ := K
  have e : A.slots.size = cs.length := K3.trans hlen
  have hat : ∀ (i : Nat) (hi : i < cs.length), A.slots[i]? = some (.int cs[i]) := fun i hi => by rw [K5 i (by omega)]; simp [List.getD_eq_getElem?_getD, hi]
  have hcv : ∀ (i : Nat) (hi : i < cs.length), cv A i = cs[i] := fun i hi => by unfold cv; rw [hat i hi]
  have hty : Typed .char A := fun i v hv => by
    have hi : i < A.slots.size := (Array.getElem?_eq_some_iff.mp hv).1
    have q := K5 i hi
    rw [hv] at q
    rw [Option.some.inj q]
    exact K6 i hi
  refine Back.mono (back hZ hw wi E V C K1 hty S hz (by omega) (by omega) (fun i hi => by rw [hcv i (by omega)]; exact hall _ (List.getElem_mem _)) hfr hlo) (fun P a hp => ⟨hp.1, hp.2.1, hp.2.2.1, by rw [e]; exact hp.2.2.2⟩) (fun P a v B hp hq => ?_)
  obtain ⟨L, ⟨q1, q2, q3, q4, q5, q6, q7, ⟨V', v1, v2, v3, v4, v5⟩, q9⟩, hl, hc, hs⟩ := hq
  refine ⟨L, ⟨q1, q2, q3, q4, q5, q6, q7, ⟨V'.cls, v3, V', v1, rfl, by rw [v4, e, hlen], K4, fun i hi => ?_, fun i hi => ?_⟩, q9⟩, hl, hc, by rw [hs, e]⟩
  · have hi' : i < cs.length := by omega
    rw [v5 i (by omega), hcv i hi']; simp [List.getD_eq_getElem?_getD, hi']
  · have hi' : i < cs.length := by omega
    simp only [List.getD_eq_getElem?_getD, List.getElem?_map, List.getElem?_eq_getElem hi', Option.map_some, Option.getD_some]
    exact fits_lo8 _
end StrChars.Road
namespace StrChars.Road
open Jvm Sem ClassFile Op Lib Jvm.Stand Jvm.Free Jvm.Free.XT
/-- WHAT COMES BACK, in the writer's own shape -/
def QV (Z : State) (x : Addr) (N : Int32) (bs : List Int32) (h : Heap) (n0 : Nat) (v : Option Value) (h' : Heap) (L : List Loc) : Prop := v = none ∧ RoadKit.Fr n0 L ∧ RoadKit.Keep h h' [x] ∧ RoadKit.Exa Z h' x ST ∧ RoadKit.Fld Z h' x ST "coder" "B" (.int 0) ∧
  ∃ (t : Addr) (kb : ClassId), n0 ≤ t ∧ h.size ≤ t ∧ ¬ t = x ∧ RoadKit.Fld Z h' x ST "value" "[B" (.ref t) ∧ RoadKit.Arv Z h' t kb .byte N (bs.map Value.int) (.int 0)
/-- **new String(chars) AT A CALL, FOR THE WRITER**: a char[] of n known ints, each 0 to 255 -/
theorem backV {p : Program} {l : Launch} {e : Env} {R : Room} {s : State} {args : Array Value} {below : List Frame} {len W : Nat} {Z : State} {a0 : Array Value} {h : Heap} (hZ : Z.Warmed39 s.vm) (hw : ∀ d ∈ words, d.before a0 Z = true) {kI : Nat} (wi : (Jvm.Cond.instantiable ST kI).before a0 Z = true)
    {x b : Addr} {kC : ClassId} {cs bs : List Int32} {d v0 c0 : Value} {z N : Int32} {n n0 : Nat} (hx0 : n0 ≤ x) (hh0 : n0 ≤ h.size) (E : RoadKit.Exa Z h x ST) (V : RoadKit.Fld Z h x ST "value" "[B" v0) (C : RoadKit.Fld Z h x ST "coder" "B" c0) (K : RoadKit.Arv Z h b kC .char N (cs.map Value.int) d) (S : RoadKit.Sta Z h ST "COMPACT_STRINGS" "Z" (.int z)) (hz : ¬ z = 0)
    (hn : cs.length = n) (hN : N = Int32.ofNat n) (l0 : 0 < n) (l2 : n ≤ 4000) (hp : ∀ c ∈ cs, ¬ c < 0 ∧ ¬ (255 : Int32) < c) (hb : bs = cs.map (fun c => c.toInt8.toInt32)) (hfr : 4 ≤ R.frames) (hlo : W + 65 ≤ R.locals) :
    Back l R p e below s args (⟨"java/lang/String", "<init>", "([C)V"⟩ : MethodName) len W (fun P a => a = #[.ref x, .ref b] ∧ P.U.heap = h ∧ P.cells + 1 ≤ R.cells ∧ P.slots + n ≤ R.slots)
      (fun P _ v B => ∃ L, QV Z x N bs h n0 v B.U.heap L ∧ B.locs = P.locs ++ L ∧ B.cells = P.cells + 1 ∧ B.slots = P.slots + n) := by
  subst hn hN hb
  refine Back.mono (backArv hZ hw wi E V C K S hz (n32 (by omega)) l0 (by omega) (fun c hc => (hp c hc).2) hfr hlo) (fun P a hp => hp) (fun P a v B hp hq => ?_)
  obtain ⟨L, ⟨q1, q2, q3, q4, q5, q6, q7, ⟨kb, v1, v2⟩, q9⟩, hl, hc, hs⟩ := hq
  exact ⟨L, ⟨q1, fun y hy => by rw [q2 y hy]; exact hx0, q3, q5, q7, h.size, kb, hh0, Nat.le_refl _, Nat.ne_of_gt E.lt, q6, by rw [List.map_map]; exact v2⟩, hl, hc, hs⟩
end StrChars.Road
namespace StrChars
open Jvm Sem ClassFile Op Lib Jvm.Stand Jvm.Free.XT Jvm.Free.ALB Jvm.Free.JM Jvm.Free
open Jvm.Lib.Cold (StaticIs)
def hi8 (x : Int32) : Int32 := lo8 (x >>> ((8 : Int32) &&& 31))
/-- what StringUTF16.getChar makes of two bytes -/
def pairCh (u v : Int32) : Int32 := (((u &&& 255) <<< ((0 : Int32) &&& 31)) ||| ((v &&& 255) <<< ((8 : Int32) &&& 31))).toUInt32.toUInt16.toUInt32.toInt32
theorem shr0 (c : Int32) : c >>> ((0 : Int32) &&& 31) = c := by
  have e : ((0 : Int32) &&& 31) = 0 := by decide
  rw [e]
  apply Int32.toBitVec_inj.mp
  rw [Int32.toBitVec_shiftRight]
  have e1 : ((0 : Int32).toBitVec.smod 32) = 0#32 := by decide
  rw [e1, BitVec.sshiftRight_eq']
  exact BitVec.sshiftRight_zero
theorem lo8_and (x : Int32) : (lo8 x &&& 255).toBitVec.toNat = x.toBitVec.toNat % 256 := by
  have h : (lo8 x).toBitVec = (x.toBitVec.signExtend 8).signExtend 32 := by rw [lo8, Int8.toBitVec_toInt32, Int32.toBitVec_toInt8]
  rw [Int32.toBitVec_and, BitVec.toNat_and, h]
  have e : ((x.toBitVec.signExtend 8).signExtend 32).toNat % 256 = x.toBitVec.toNat % 256 := by
    rw [BitVec.toNat_signExtend]
    have hlt := x.toBitVec.isLt
    simp only [BitVec.toNat_setWidth, BitVec.toNat_signExtend]
    split <;> split <;> omega
  rw [← e]
  exact Nat.and_two_pow_sub_one_eq_mod _ 8
theorem pair_says {c : Int32} (h0 : ¬ c < 0) (h1 : ¬ 65535 < c) : pairCh (lo8 c) (hi8 c) = c := by
  rw [Int32.lt_iff_toInt_lt] at h0 h1
  have e0 : (0 : Int32).toInt = 0 := rfl
  have e1 : (65535 : Int32).toInt = 65535 := rfl
  have hc : c.toInt = c.toBitVec.toNat := by
    have := c.toBitVec.isLt
    have e : c.toInt = c.toBitVec.toInt := rfl
    rw [e] at h0 h1
    rw [e]
    rw [BitVec.toInt_eq_toNat_cond] at h0 h1 ⊢
    split at h0 <;> split <;> omega
  have hn : c.toBitVec.toNat < 65536 := by omega
  have a1 := lo8_and c
  have a2 : (hi8 c &&& 255).toBitVec.toNat = c.toBitVec.toNat / 256 := by
    rw [hi8, lo8_and]
    have e : ((8 : Int32) &&& 31) = 8 := by decide
    rw [e, Int32.toBitVec_shiftRight]
    have e2 : ((8 : Int32).toBitVec.smod 32) = 8#32 := by decide
    rw [e2, BitVec.sshiftRight_eq', BitVec.toNat_sshiftRight_of_msb_false (by rw [BitVec.msb_eq_false_iff_two_mul_lt]; omega)]
    show c.toBitVec.toNat >>> 8 % 256 = _
    rw [Nat.shiftRight_eq_div_pow]
    omega
  unfold pairCh
  apply Int32.toBitVec_inj.mp
  apply BitVec.eq_of_toNat_eq
  have f0 : ((0 : Int32) &&& 31) = 0 := by decide
  have f8 : ((8 : Int32) &&& 31) = 8 := by decide
  rw [f0, f8]
  have g : (((lo8 c &&& 255) <<< (0 : Int32)) ||| ((hi8 c &&& 255) <<< (8 : Int32))).toBitVec.toNat = c.toBitVec.toNat := by
    rw [Int32.toBitVec_or, Int32.toBitVec_shiftLeft, Int32.toBitVec_shiftLeft]
    have s0 : ((0 : Int32).toBitVec.smod 32) = 0#32 := by decide
    have s8 : ((8 : Int32).toBitVec.smod 32) = 8#32 := by decide
    rw [s0, s8, BitVec.toNat_or]
    simp only [BitVec.shiftLeft_eq', BitVec.toNat_shiftLeft, a1, a2]
    show (c.toBitVec.toNat % 256) <<< 0 % 2 ^ 32 ||| (c.toBitVec.toNat / 256) <<< 8 % 2 ^ 32 = _
    rw [Nat.shiftLeft_zero, Nat.mod_eq_of_lt (show c.toBitVec.toNat % 256 < 2 ^ 32 by omega), Nat.mod_eq_of_lt (show (c.toBitVec.toNat / 256) <<< 8 < 2 ^ 32 by rw [Nat.shiftLeft_eq]; omega), Nat.or_comm, ← Nat.shiftLeft_add_eq_or_of_lt (by omega), Nat.shiftLeft_eq]
    omega
  show BitVec.toNat (((((lo8 c &&& 255) <<< (0 : Int32)) ||| ((hi8 c &&& 255) <<< (8 : Int32))).toBitVec.setWidth 16).setWidth 32) = _
  rw [BitVec.toNat_setWidth, BitVec.toNat_setWidth, g]
  omega
end StrChars
namespace StrChars
open Jvm Sem ClassFile Op Lib Jvm.Stand Jvm.Free.XT Jvm.Free.ALB Jvm.Free.JM Jvm.Free
open Jvm.Lib.Cold (StaticIs)
theorem shr1 {n : Nat} (h : 2 * n < 2 ^ 31) : Int32.ofNat (2 * n) >>> ((1 : Int32) &&& 31) = Int32.ofNat n := by
  have e : ((1 : Int32) &&& 31) = 1 := by decide
  rw [e]
  apply Int32.toBitVec_inj.mp
  rw [Int32.toBitVec_shiftRight]
  have e1 : ((1 : Int32).toBitVec.smod 32) = 1#32 := by decide
  have hm : (BitVec.ofNat 32 (2 * n)).toNat = 2 * n := by rw [BitVec.toNat_ofNat, Nat.mod_eq_of_lt (by omega)]
  rw [e1, BitVec.sshiftRight_eq']
  apply BitVec.eq_of_toNat_eq
  show ((BitVec.ofNat 32 (2 * n)).sshiftRight 1).toNat = (BitVec.ofNat 32 n).toNat
  rw [BitVec.toNat_sshiftRight_of_msb_false (by rw [BitVec.msb_eq_false_iff_two_mul_lt, hm]; omega), hm, BitVec.toNat_ofNat, Nat.shiftRight_eq_div_pow]
  omega
/-- charAt's cast of a byte read back -/
def chr8 (u : Int32) : Int32 := (u &&& 255).toUInt32.toUInt16.toUInt32.toInt32
theorem chr8_lo8 {c : Int32} (h0 : ¬ c < 0) (h1 : ¬ 255 < c) : chr8 (lo8 c) = c := by
  have t : ∀ k : Fin 256, (Int32.ofNat k.val).toUInt32.toUInt16.toUInt32.toInt32 = Int32.ofNat k.val := by decide +kernel
  unfold chr8
  rw [lo8_mask h0 h1]
  rw [Int32.lt_iff_toInt_lt] at h0 h1
  have e0 : (0 : Int32).toInt = 0 := rfl
  have e1 : (255 : Int32).toInt = 255 := rfl
  obtain ⟨k, hk⟩ : ∃ k : Nat, c.toInt = k := ⟨c.toInt.toNat, by omega⟩
  have hx : c = Int32.ofNat k := Int32.toInt_inj.mp (by rw [hk, Int32.toInt_ofNat_small (by omega)])
  rw [hx]
  exact t ⟨k, by omega⟩
theorem narrow_ch {c : Int32} (h0 : ¬ c < 0) (h1 : ¬ 65535 < c) : narrow .char (.int c) = .int c := by
  have q : narrow .char (.int (pairCh (lo8 c) (hi8 c))) = .int (pairCh (lo8 c) (hi8 c)) := narrow_c _
  rwa [pair_says h0 h1] at q
/-- the array's cell V codes the n chars f 0 .. f (n - 1) by the coder cd, as the JDK does: coder 1 just where some char is above 255 -/
def Cod (cd : Int32) (n : Nat) (f : Nat → Int32) (V : Cell) : Prop := (cd = 0 ∧ V.slots.size = n ∧ ∀ j, j < n → V.slots[j]? = some (.int (lo8 (f j))) ∧ ¬ 255 < f j) ∨ (cd = 1 ∧ V.slots.size = 2 * n ∧ (∀ j, j < n → V.slots[2 * j]? = some (.int (lo8 (f j))) ∧ V.slots[2 * j + 1]? = some (.int (hi8 (f j)))) ∧ ∃ j, j < n ∧ 255 < f j)
theorem Cod.cd {cd : Int32} {n : Nat} {f : Nat → Int32} {V : Cell} (h : Cod cd n f V) : cd = 0 ∨ cd = 1 := h.imp (fun q => q.1) fun q => q.1
theorem Cod.len {cd : Int32} {n : Nat} {f : Nat → Int32} {V : Cell} (h : Cod cd n f V) (hs : V.slots.size < 2 ^ 31) : Int32.ofNat V.slots.size >>> (cd &&& 31) = Int32.ofNat n := by
  rcases h with ⟨rfl, h, -⟩ | ⟨rfl, h, -⟩
  · rw [shr0, h]
  · rw [h, shr1 (by omega)]
/-- **x is a String of the n chars f 0 .. f (n - 1)**, Latin-1 or UTF-16; its array at t has the cell V -/
def Txt (x t : Addr) (V : Cell) (cd : Int32) (n : Nat) (f : Nat → Int32) (U : State) : Prop := Exact "java/lang/String" x U ∧ Has x "java/lang/String" "value" "[B" (.ref t) U ∧ Has x "java/lang/String" "coder" "B" (.int cd) U ∧ XT.Arr .byte t V U ∧ Cod cd n f V ∧ ∀ j, j < n → ¬ f j < 0 ∧ ¬ 65535 < f j
theorem Txt.mv {x t : Addr} {V : Cell} {cd : Int32} {n : Nat} {f : Nat → Int32} {U U' : State} (h : Txt x t V cd n f U) (hal : U.vm.Alike U'.vm) (hh : U'.heap = U.heap) : Txt x t V cd n f U' := ⟨h.1.mv hal hh, h.2.1.mv hal hh, h.2.2.1.mv hal hh, h.2.2.2.1.mv hal hh, h.2.2.2.2⟩
namespace Cdr
def yN : MethodName := ⟨"java/lang/String", "coder", "()B"⟩
abbrev yB : ByteArray := jdk_42_method_152_code
theorem d0 : decode yB 0 = .ok (.getstatic 38, 3) := by decide +kernel
theorem d3 : decode yB 3 = .ok (.ifCond (.eq) 10, 3) := by decide +kernel
theorem d6 : decode yB 6 = .ok (.aload_n 0, 1) := by decide +kernel
theorem d7 : decode yB 7 = .ok (.getfield 15, 3) := by decide +kernel
theorem d10 : decode yB 10 = .ok (.goto 4, 3) := by decide +kernel
theorem d14 : decode yB 14 = .ok (.ireturn, 1) := by decide +kernel
def site : List Cond := [.fieldLink "java/lang/String" 38 "java/lang/String" "COMPACT_STRINGS" "Z", .fieldLink "java/lang/String" 15 "java/lang/String" "coder" "B"]
def tab : Cond := tabOf yN yB 1 (some .byte) site
def P (x : Addr) (cd z : Int32) (args : Array Value) (s : State) : Prop := args = #[.ref x] ∧ Has x "java/lang/String" "coder" "B" (.int cd) s ∧ (cd = 0 ∨ cd = 1) ∧ StaticIs s "java/lang/String" "COMPACT_STRINGS" "Z" (.int z) ∧ ¬ z = 0
def E (cd : Int32) (r : Option Value) (s u : State) : Prop := XT.PureE (some (.int cd)) r s u
theorem law (l : Launch) (x : Addr) (cd z : Int32) : Law l yN 1 0 0 0 yB 1 (some .byte) site (P x cd z) (E cd) [] 0 0 := by
  refine Law.of_walk (plainFor_of_name (by decide +kernel)) (by decide +kernel) (by decide +kernel) (by decide) (fun _ _ h => by rw [h.1]; rfl) (fun _ U U' hal hh h => ⟨h.1, h.2.1.mv hal hh, h.2.2.1, h.2.2.2.1.there hal hh, h.2.2.2.2⟩) (fun r U U' V V' h1 hal h2 h => XT.PureE.mv r U U' V V' h1 hal h2 h) ?_
  intro p e s m args below meth c s₁ X0 hexec hbytes hml hret hlk hnm hown hh0 W hP
  obtain ⟨rfl, hx, hc, s1, hz⟩ := hP
  have c1 : Steps p.tables e below (s₁.setTop (entryFrame m #[.ref x] 1)) (s₁.setTop (mkF m 0 #[.val (.ref x)] [])) := entry rfl
  obtain ⟨T2, X2, q2, st2⟩ := X0.sget hexec hown (wk W (.fieldLink "java/lang/String" 38 "java/lang/String" "COMPACT_STRINGS" "Z")) s1 (fun _ _ h => by rw [hh0]; exact h) (g := (mkF m 0 #[.val (.ref x)] [])) rfl (hb hbytes d0)
  have hh2 := q2.trans hh0
  have c3 : Steps p.tables e below (s₁.setTop (entryFrame m #[.ref x] 1)) (T2.setTop (mkF m 7 #[.val (.ref x)] [.ref x])) := (c1.trans (st2 _ (Steps.refl _))).trans (by
    refine XS.ifNo X2.here hexec rfl (hb hbytes d3) rfl (i0_eq_f hz) ?_
    refine XS.aloadN X2.here hexec rfl (hb hbytes d6) rfl rfl ?_
    exact Steps.refl _)
  obtain ⟨T4, X4, q4, st4⟩ := X2.hget hexec hown (wk W (.fieldLink "java/lang/String" 15 "java/lang/String" "coder" "B")) (hx.mv X2.warmed.alike hh2) (g := (mkF m 7 #[.val (.ref x)] [.ref x])) rfl (rest := []) rfl (hb hbytes d7)
  have c5 : Steps p.tables e below (s₁.setTop (entryFrame m #[.ref x] 1)) (T4.setTop (mkF m 14 #[.val (.ref x)] [.int cd])) := (c3.trans (st4 _ (Steps.refl _))).trans (by
    refine XS.goto X4.here hexec rfl (pc0 := 10) rfl (hb hbytes d10) (by decide) rfl ?_
    exact Steps.refl _)
  exact ⟨T4, some (.int cd), _, _, _, X4, rfl, rfl, rfl, (fun h => by cases h), ⟨rfl, q4.trans hh2⟩, fun fs hl => c5.trans (X4.ireturnOut hexec hret (by rcases hc with rfl | rfl <;> rfl) (Or.inr (Or.inr (Or.inl rfl))) (hb hbytes d14) hl)⟩
end Cdr
namespace Len
def yN : MethodName := ⟨"java/lang/String", "length", "()I"⟩
abbrev yB : ByteArray := jdk_42_method_54_code
theorem d0 : decode yB 0 = .ok (.aload_n 0, 1) := by decide +kernel
theorem d1 : decode yB 1 = .ok (.getfield 9, 3) := by decide +kernel
theorem d4 : decode yB 4 = .ok (.arraylength, 1) := by decide +kernel
theorem d5 : decode yB 5 = .ok (.aload_n 0, 1) := by decide +kernel
theorem d6 : decode yB 6 = .ok (.invokevirtual 335, 3) := by decide +kernel
theorem d9 : decode yB 9 = .ok (.ishr, 1) := by decide +kernel
theorem d10 : decode yB 10 = .ok (.ireturn, 1) := by decide +kernel
def site : List Cond := [.fieldLink "java/lang/String" 9 "java/lang/String" "value" "[B", Cdr.tab] ++ virtW "java/lang/String" 335 "java/lang/String" Cdr.yN Cdr.yN
def tab : Cond := tabOf yN yB 1 (some .int) site
def P (x t : Addr) (V : Cell) (cd : Int32) (n : Nat) (f : Nat → Int32) (z : Int32) (args : Array Value) (s : State) : Prop := args = #[.ref x] ∧ Txt x t V cd n f s ∧ StaticIs s "java/lang/String" "COMPACT_STRINGS" "Z" (.int z) ∧ ¬ z = 0
def E (n : Nat) (r : Option Value) (s u : State) : Prop := XT.PureE (some (.int (Int32.ofNat n))) r s u
/-- length() of a String of n chars, in either coding -/
theorem law (l : Launch) (x t : Addr) (V : Cell) (cd : Int32) (n : Nat) (f : Nat → Int32) (z : Int32) : Law l yN 1 0 1 13 yB 1 (some .int) site (P x t V cd n f z) (E n) [] 0 0 := by
  refine Law.of_walk (plainFor_of_name (by decide +kernel)) (by decide +kernel) (by decide +kernel) (by decide) (fun _ _ h => by rw [h.1]; rfl) (fun _ U U' hal hh h => ⟨h.1, h.2.1.mv hal hh, h.2.2.1.there hal hh, h.2.2.2⟩) (fun r U U' V V' h1 hal h2 h => XT.PureE.mv r U U' V V' h1 hal h2 h) ?_
  intro p e s m args below meth c s₁ X0 hexec hbytes hml hret hlk hnm hown hh0 W hP
  obtain ⟨rfl, hx, s1, hz⟩ := hP
  have v31 := hx.2.2.2.1.2.2.2
  have c1 : Steps p.tables e below (s₁.setTop (entryFrame m #[.ref x] 1)) (s₁.setTop (mkF m 1 #[.val (.ref x)] [.ref x])) := Steps.trans (entry rfl) (by
    show Steps p.tables e below (s₁.setTop (mkF m 0 #[.val (.ref x)] [])) _
    refine XS.aloadN X0.here hexec rfl (hb hbytes d0) rfl rfl ?_
    exact Steps.refl _)
  obtain ⟨T2, X2, q2, st2⟩ := X0.hget hexec hown (wk W (.fieldLink "java/lang/String" 9 "java/lang/String" "value" "[B")) (hx.mv X0.warmed.alike hh0).2.1 (g := (mkF m 1 #[.val (.ref x)] [.ref x])) rfl (rest := []) rfl (hb hbytes d1)
  have hh2 := q2.trans hh0
  have hx2 := hx.mv X2.warmed.alike hh2
  have c3 : Steps p.tables e below (s₁.setTop (entryFrame m #[.ref x] 1)) (T2.setTop (mkF m 6 #[.val (.ref x)] [.ref x, .int (Int32.ofNat V.slots.size)])) := (c1.trans (st2 _ (Steps.refl _))).trans (by
    refine X2.alen hexec hx2.2.2.2.1 rfl rfl (hb hbytes d4) ?_
    refine XS.aloadN X2.here hexec rfl (hb hbytes d5) rfl rfl ?_
    exact Steps.refl _)
  obtain ⟨v4, T4, X4, E4, g4⟩ := X2.callV hexec (Cdr.law l x cd z) hown (wks W (virtW "java/lang/String" 335 "java/lang/String" Cdr.yN Cdr.yN)) rfl (by decide) (wk W Cdr.tab) (W := 1) (Nat.le_of_ble_eq_true rfl) (Nat.le_of_ble_eq_true rfl) (Nat.le_refl _) (Nat.le_refl _) (hx2.1.fc X2.warmed.alike) hx2.1.is (g := (mkF m 6 #[.val (.ref x)] [.ref x, .int (Int32.ofNat V.slots.size)])) rfl (by rw [hml]; rfl) c3 (argsL := []) (rest := [.int (Int32.ofNat V.slots.size)]) rfl rfl (by show 2 * 0 + (1 + 0) ≤ _; decide) (hb hbytes d6) (⟨rfl, hx2.2.2.1, hx.2.2.2.2.1.cd, s1.there X2.warmed.alike hh2, hz⟩)
  obtain ⟨rfl, q4⟩ := E4
  have c5 : Steps p.tables e below (s₁.setTop (entryFrame m #[.ref x] 1)) (T4.setTop (mkF m 10 #[.val (.ref x)] [.int (Int32.ofNat V.slots.size >>> (cd &&& 31))])) := Steps.trans g4 (by
    refine ishr X4.here hexec rfl (hb hbytes d9) rfl ?_
    exact Steps.refl _)
  rw [hx.2.2.2.2.1.len v31] at c5
  exact ⟨T4, some (.int (Int32.ofNat n)), _, _, _, X4, rfl, rfl, rfl, (fun h => by cases h), ⟨rfl, q4.trans hh2⟩, fun fs hl => c5.trans (X4.ireturnOut hexec hret rfl (Or.inl rfl) (hb hbytes d10) hl)⟩
theorem pays {l : Launch} {R : Room} {p : Program} {e : Env} {below : List Frame} {s : State} {sargs : Array Value} {len W : Nat} (x t : Addr) (V : Cell) (cd : Int32) (n : Nat) (f : Nat → Int32) (z : Int32) (htab : tab.before sargs s = true) (hfr : 2 ≤ R.frames) (hlo : W + 25 ≤ R.locals) :
    Back l R p e below s sargs yN len W (fun A₁ a₁ => A₁.cells + 0 ≤ R.cells ∧ A₁.slots + 0 ≤ R.slots ∧ P x t V cd n f z a₁ A₁.U) (fun A₁ _ v₁ B₁ => E n v₁ A₁.U B₁.U ∧ B₁.locs = A₁.locs ++ [] ∧ B₁.cells = A₁.cells + 0 ∧ B₁.slots = A₁.slots + 0) :=
  (law l x t V cd n f z).pays htab hfr (by omega)
end Len
namespace IsL
def yN : MethodName := ⟨"java/lang/String", "isLatin1", "()Z"⟩
abbrev yB : ByteArray := jdk_42_method_154_code
theorem d0 : decode yB 0 = .ok (.getstatic 38, 3) := by decide +kernel
theorem d3 : decode yB 3 = .ok (.ifCond (.eq) 14, 3) := by decide +kernel
theorem d6 : decode yB 6 = .ok (.aload_n 0, 1) := by decide +kernel
theorem d7 : decode yB 7 = .ok (.getfield 15, 3) := by decide +kernel
theorem d10 : decode yB 10 = .ok (.ifCond (.ne) 7, 3) := by decide +kernel
theorem d13 : decode yB 13 = .ok (.iconst 1, 1) := by decide +kernel
theorem d14 : decode yB 14 = .ok (.goto 4, 3) := by decide +kernel
theorem d17 : decode yB 17 = .ok (.iconst 0, 1) := by decide +kernel
theorem d18 : decode yB 18 = .ok (.ireturn, 1) := by decide +kernel
def site : List Cond := [.fieldLink "java/lang/String" 38 "java/lang/String" "COMPACT_STRINGS" "Z", .fieldLink "java/lang/String" 15 "java/lang/String" "coder" "B"]
def tab : Cond := tabOf yN yB 1 (some .boolean) site
def P (x : Addr) (cd z : Int32) (args : Array Value) (s : State) : Prop := args = #[.ref x] ∧ Has x "java/lang/String" "coder" "B" (.int cd) s ∧ (cd = 0 ∨ cd = 1) ∧ StaticIs s "java/lang/String" "COMPACT_STRINGS" "Z" (.int z) ∧ ¬ z = 0
def E (cd : Int32) (r : Option Value) (s u : State) : Prop := XT.PureE (some (.int (1 - cd))) r s u
theorem law (l : Launch) (x : Addr) (cd z : Int32) : Law l yN 1 0 0 0 yB 1 (some .boolean) site (P x cd z) (E cd) [] 0 0 := by
  refine Law.of_walk (plainFor_of_name (by decide +kernel)) (by decide +kernel) (by decide +kernel) (by decide) (fun _ _ h => by rw [h.1]; rfl) (fun _ U U' hal hh h => ⟨h.1, h.2.1.mv hal hh, h.2.2.1, h.2.2.2.1.there hal hh, h.2.2.2.2⟩) (fun r U U' V V' h1 hal h2 h => XT.PureE.mv r U U' V V' h1 hal h2 h) ?_
  intro p e s m args below meth c s₁ X0 hexec hbytes hml hret hlk hnm hown hh0 W hP
  obtain ⟨rfl, hx, hc, s1, hz⟩ := hP
  have c1 : Steps p.tables e below (s₁.setTop (entryFrame m #[.ref x] 1)) (s₁.setTop (mkF m 0 #[.val (.ref x)] [])) := entry rfl
  obtain ⟨T2, X2, q2, st2⟩ := X0.sget hexec hown (wk W (.fieldLink "java/lang/String" 38 "java/lang/String" "COMPACT_STRINGS" "Z")) s1 (fun _ _ h => by rw [hh0]; exact h) (g := (mkF m 0 #[.val (.ref x)] [])) rfl (hb hbytes d0)
  have hh2 := q2.trans hh0
  have c3 : Steps p.tables e below (s₁.setTop (entryFrame m #[.ref x] 1)) (T2.setTop (mkF m 7 #[.val (.ref x)] [.ref x])) := (c1.trans (st2 _ (Steps.refl _))).trans (by
    refine XS.ifNo X2.here hexec rfl (hb hbytes d3) rfl (i0_eq_f hz) ?_
    refine XS.aloadN X2.here hexec rfl (hb hbytes d6) rfl rfl ?_
    exact Steps.refl _)
  obtain ⟨T4, X4, q4, st4⟩ := X2.hget hexec hown (wk W (.fieldLink "java/lang/String" 15 "java/lang/String" "coder" "B")) (hx.mv X2.warmed.alike hh2) (g := (mkF m 7 #[.val (.ref x)] [.ref x])) rfl (rest := []) rfl (hb hbytes d7)
  have c5 : Steps p.tables e below (s₁.setTop (entryFrame m #[.ref x] 1)) (T4.setTop (mkF m 10 #[.val (.ref x)] [.int cd])) := c3.trans (st4 _ (Steps.refl _))
  have c6 : Steps p.tables e below (s₁.setTop (entryFrame m #[.ref x] 1)) (T4.setTop (mkF m 18 #[.val (.ref x)] [.int (1 - cd)])) := by
    rcases hc with rfl | rfl
    · exact c5.trans (by
        refine XS.ifNo X4.here hexec rfl (hb hbytes d10) rfl (i0_ne_f rfl) ?_
        refine iconstV X4.here hexec rfl 1 (hb hbytes d13) (by decide) ?_
        refine XS.goto X4.here hexec rfl (pc0 := 14) rfl (hb hbytes d14) (by decide) rfl ?_
        exact Steps.refl _)
    · exact c5.trans (by
        refine XS.ifYes X4.here hexec rfl (pc0 := 10) rfl (hb hbytes d10) rfl (i0_ne_t (by decide)) (by decide) rfl ?_
        refine iconstV X4.here hexec rfl 0 (hb hbytes d17) (by decide) ?_
        exact Steps.refl _)
  exact ⟨T4, some (.int (1 - cd)), _, _, _, X4, rfl, rfl, rfl, (fun h => by cases h), ⟨rfl, q4.trans hh2⟩, fun fs hl => c6.trans (X4.ireturnOut hexec hret (by rcases hc with rfl | rfl <;> rfl) (Or.inr (Or.inl rfl)) (hb hbytes d18) hl)⟩
end IsL
namespace LChA
def yN : MethodName := ⟨"java/lang/StringLatin1", "charAt", "([BI)C"⟩
abbrev yB : ByteArray := jdk_43_method_2_code
theorem d0 : decode yB 0 = .ok (.iload_n 1, 1) := by decide +kernel
theorem d1 : decode yB 1 = .ok (.aload_n 0, 1) := by decide +kernel
theorem d2 : decode yB 2 = .ok (.arraylength, 1) := by decide +kernel
theorem d3 : decode yB 3 = .ok (.invokestatic 9, 3) := by decide +kernel
theorem d6 : decode yB 6 = .ok (.aload_n 0, 1) := by decide +kernel
theorem d7 : decode yB 7 = .ok (.iload_n 1, 1) := by decide +kernel
theorem d8 : decode yB 8 = .ok (.baload, 1) := by decide +kernel
theorem d9 : decode yB 9 = .ok (.sipush 255, 3) := by decide +kernel
theorem d12 : decode yB 12 = .ok (.iand, 1) := by decide +kernel
theorem d13 : decode yB 13 = .ok (.i2c, 1) := by decide +kernel
theorem d14 : decode yB 14 = .ok (.ireturn, 1) := by decide +kernel
def site : List Cond := [JO.Str_checkIndex.tab] ++ staticW "java/lang/StringLatin1" 9 JO.Str_checkIndex.yN
def tab : Cond := tabOf yN yB 2 (some .char) site
def P (t : Addr) (V : Cell) (i : Nat) (u : Int32) (fm : Value) (args : Array Value) (s : State) : Prop := args = #[.ref t, .int (Int32.ofNat i)] ∧ XT.Arr .byte t V s ∧ V.slots[i]? = some (.int u) ∧ (StaticIs s "jdk/internal/util/Preconditions" "SIOOBE_FORMATTER" "Ljava/util/function/BiFunction;" fm ∧ fm.isRef = true)
def E (u : Int32) (r : Option Value) (s w : State) : Prop := XT.PureE (some (.int (chr8 u))) r s w
theorem law (l : Launch) (t : Addr) (V : Cell) (i : Nat) (u : Int32) (fm : Value) : Law l yN 2 2 2 27 yB 2 (some .char) site (P t V i u fm) (E u) [] 0 0 := by
  refine Law.of_walk (plainFor_of_name (by decide +kernel)) (by decide +kernel) (by decide +kernel) (by decide) (fun _ _ h => by rw [h.1]; rfl) (fun _ U U' hal hh h => ⟨h.1, h.2.1.mv hal hh, h.2.2.1, h.2.2.2.1.there hal hh, h.2.2.2.2⟩) (fun r U U' V V' h1 hal h2 h => XT.PureE.mv r U U' V V' h1 hal h2 h) ?_
  intro p e s m args below meth c s₁ X0 hexec hbytes hml hret hlk hnm hown hh0 W hP
  obtain ⟨rfl, hV, hu, s1, rf⟩ := hP
  have v31 := hV.2.2.2
  have hi : i < V.slots.size := (Array.getElem?_eq_some_iff.mp hu).1
  have c1 : Steps p.tables e below (s₁.setTop (entryFrame m #[.ref t, .int (Int32.ofNat i)] 2)) (s₁.setTop (mkF m 0 #[.val (.ref t), .val (.int (Int32.ofNat i))] [])) := entry rfl
  have c2 : Steps p.tables e below (s₁.setTop (entryFrame m #[.ref t, .int (Int32.ofNat i)] 2)) (s₁.setTop (mkF m 3 #[.val (.ref t), .val (.int (Int32.ofNat i))] [.int (Int32.ofNat V.slots.size), .int (Int32.ofNat i)])) := c1.trans (by
    refine XS.iloadN X0.here hexec rfl (hb hbytes d0) rfl ?_
    refine XS.aloadN X0.here hexec rfl (hb hbytes d1) rfl rfl ?_
    refine X0.alen hexec (hV.mv X0.warmed.alike hh0) rfl rfl (hb hbytes d2) ?_
    exact Steps.refl _)
  obtain ⟨v3, T3, X3, E3, g3⟩ := X0.callS hexec (JO.Str_checkIndex.law l (Int32.ofNat i) (Int32.ofNat V.slots.size) fm) hown (wks W (staticW "java/lang/StringLatin1" 9 JO.Str_checkIndex.yN)) (wk W JO.Str_checkIndex.tab) (W := 0) (Nat.le_of_ble_eq_true rfl) (Nat.le_of_ble_eq_true rfl) (Nat.le_refl _) (Nat.le_refl _) (g := (mkF m 3 #[.val (.ref t), .val (.int (Int32.ofNat i))] [.int (Int32.ofNat V.slots.size), .int (Int32.ofNat i)])) rfl (by rw [hml]; rfl) c2 (argsL := [.int (Int32.ofNat i), .int (Int32.ofNat V.slots.size)]) (rest := []) rfl rfl (by show 2 * 0 + 0 ≤ _; decide) (hb hbytes d3) (⟨rfl, rf, s1.there X0.warmed.alike hh0, Int32.ofNat_not_neg (by omega), lt32 v31 hi⟩)
  obtain ⟨rfl, q3⟩ := E3
  have hh3 := q3.trans hh0
  have c4 : Steps p.tables e below (s₁.setTop (entryFrame m #[.ref t, .int (Int32.ofNat i)] 2)) (T3.setTop (mkF m 14 #[.val (.ref t), .val (.int (Int32.ofNat i))] [.int (chr8 u)])) := Steps.trans g3 (by
    refine XS.aloadN X3.here hexec rfl (hb hbytes d6) rfl rfl ?_
    refine XS.iloadN X3.here hexec rfl (hb hbytes d7) rfl ?_
    refine X3.aget hexec (hV.mv X3.warmed.alike hh3) rfl hu rfl rfl (hb hbytes d8) ?_
    refine sipushV X3.here hexec rfl 255 (hb hbytes d9) (by decide) ?_
    refine XS.iand X3.here hexec rfl (hb hbytes d12) rfl ?_
    refine i2c X3.here hexec rfl (hb hbytes d13) rfl ?_
    exact Steps.refl _)
  exact ⟨T3, some (.int (chr8 u)), _, _, _, X3, rfl, rfl, rfl, (fun h => by cases h), ⟨rfl, hh3⟩, fun fs hl => c4.trans (X3.ireturnOut hexec hret (narrow_c _) (Or.inr (Or.inr (Or.inr (Or.inl rfl)))) (hb hbytes d14) hl)⟩
end LChA
end StrChars
namespace StrChars.Road
open Jvm Sem ClassFile Op Lib Jvm.Stand Jvm.Free Jvm.Free.XT
open Jvm.Lib.Cold (StaticIs)
theorem consq {a : Array Value} {s : State} {c : Jvm.Cond} {L : List Jvm.Cond} (h0 : c.before a s = true) (h : ∀ w ∈ L, w.before a s = true) : ∀ w ∈ c :: L, w.before a s = true := fun w hw => (List.mem_cons.mp hw).elim (fun e => e ▸ h0) (h w)
/-- the words of String.length(), either coding -/
abbrev wordsLen : List Jvm.Cond := [.code Len.yN Len.yB 1 (some .int), .initialized ST, .fieldLink ST 9 ST "value" "[B", .fieldLink ST 38 ST "COMPACT_STRINGS" "Z", .fieldLink ST 15 ST "coder" "B", .code Cdr.yN Cdr.yB 1 (some .byte), .methodLink ST 335 Cdr.yN, .declares Cdr.yN, .selects ST Cdr.yN Cdr.yN, .instanceMethod Cdr.yN]
theorem tabLen_of {a : Array Value} {s : State} (h : ∀ w ∈ wordsLen, w.before a s = true) : Len.tab.before a s = true := by
  have hc : Cdr.tab.before a s = true := unparts (wk h (.code Cdr.yN Cdr.yB 1 (some .byte))) (wks h (.initialized Cdr.yN.cls :: Cdr.site))
  have q := consq hc h
  exact unparts (wk q (.code Len.yN Len.yB 1 (some .int))) (wks q (.initialized Len.yN.cls :: Len.site))
theorem movedLen {Z s : State} {a0 args : Array Value} (hZ : Z.Warmed39 s.vm) (hw : ∀ d ∈ wordsLen, d.before a0 Z = true) : ∀ d ∈ wordsLen, d.before args s = true := fun d hd => by
  have q := hw d hd
  have t : ∀ d ∈ wordsLen, d = .arrayClass .byte ∨ (d.onTables && d.keepsFace) = true := by decide +kernel
  rcases t d hd with rfl | t
  · exact RoadKit.mvA hZ q
  · exact RoadKit.mv hZ q t
/-- the bytes of the chars cs, low before high -/
def wideBytes : List Int32 → List Value
  | [] => []
  | c :: cs => .int (lo8 c) :: .int (hi8 c) :: wideBytes cs
theorem wide_lo (d : Value) : ∀ (cs : List Int32) (j : Nat), j < cs.length → (wideBytes cs).getD (2 * j) d = .int (lo8 (cs.getD j 0))
  | [], j, h => absurd h (Nat.not_lt_zero j)
  | c :: cs, 0, _ => rfl
  | c :: cs, j + 1, h => by
    have q := wide_lo d cs j (by simpa using h)
    rw [show 2 * (j + 1) = 2 * j + 1 + 1 from by omega]
    simpa [wideBytes] using q
theorem wide_hi (d : Value) : ∀ (cs : List Int32) (j : Nat), j < cs.length → (wideBytes cs).getD (2 * j + 1) d = .int (hi8 (cs.getD j 0))
  | [], j, h => absurd h (Nat.not_lt_zero j)
  | c :: cs, 0, _ => rfl
  | c :: cs, j + 1, h => by
    have q := wide_hi d cs j (by simpa using h)
    rw [show 2 * (j + 1) + 1 = 2 * j + 1 + 1 + 1 from by omega]
    simpa [wideBytes] using q
theorem low_at (d : Value) (cs : List Int32) (j : Nat) (h : j < cs.length) : (cs.map fun c => Value.int (lo8 c)).getD j d = .int (lo8 (cs.getD j 0)) := by
  simp [List.getD_eq_getElem?_getD, h]
/-- an array of N2 bytes vs codes the chars cs by the coder cd -/
def CodA (cs : List Int32) (cd N2 : Int32) (vs : List Value) : Prop := (cd = 0 ∧ N2 = Int32.ofNat cs.length ∧ vs = (cs.map fun c => Value.int (lo8 c)) ∧ ∀ c ∈ cs, ¬ 255 < c) ∨ (cd = 1 ∧ N2 = Int32.ofNat (2 * cs.length) ∧ vs = wideBytes cs ∧ ∃ c ∈ cs, 255 < c)
theorem CodA.cod {cs : List Int32} {cd N2 : Int32} {vs : List Value} {V : Cell} (h : CodA cs cd N2 vs) (hn : 2 * cs.length < 2 ^ 31) (hs : V.slots.size = N2.toNatClampNeg) (hv : RoadKit.Has V vs (.int 0)) : Cod cd cs.length (fun j => cs.getD j 0) V := by
  rcases h with ⟨rfl, rfl, rfl, h⟩ | ⟨rfl, rfl, rfl, c, hc, hw⟩
  · rw [n32 (by omega)] at hs
    exact Or.inl ⟨rfl, hs, fun j hj => ⟨by rw [hv j (by omega), low_at _ _ _ hj], by
      have e : cs.getD j 0 = cs[j] := by simp [List.getD_eq_getElem?_getD, hj]
      show ¬ 255 < cs.getD j 0
      rw [e]; exact h _ (List.getElem_mem _)⟩⟩
  · rw [n32 (by omega)] at hs
    obtain ⟨j, hj, rfl⟩ := List.getElem_of_mem hc
    exact Or.inr ⟨rfl, hs, fun j hj => ⟨by rw [hv _ (by omega), wide_lo _ _ _ hj], by rw [hv _ (by omega), wide_hi _ _ _ hj]⟩, j, hj, by
      have e : cs.getD j 0 = cs[j] := by simp [List.getD_eq_getElem?_getD, hj]
      show 255 < cs.getD j 0
      rw [e]; exact hw⟩
/-- an object of exactly java/lang/String, its two fields found: as the laws ask it -/
theorem strObj {Z U : State} {a0 : Array Value} {kI : Nat} (wi : (Jvm.Cond.instantiable ST kI).before a0 Z = true) (al : Z.vm.Alike U.vm) {x : Addr} {v0 c0 : Value} (E : RoadKit.Exa Z U.heap x ST) (V : RoadKit.Fld Z U.heap x ST "value" "[B" v0) (C : RoadKit.Fld Z U.heap x ST "coder" "B" c0) :
    ∃ (D : Cell) (fV fC : Field), Blank ST x D U ∧ Found ST "value" "[B" fV U ∧ Found ST "coder" "B" fC U ∧ D.slots[fV.slot]? = some v0 ∧ D.slots[fC.slot]? = some c0 ∧ RoadKit.slotOf Z ST "value" "[B" = fV.slot ∧ RoadKit.slotOf Z ST "coder" "B" = fC.slot := by
  obtain ⟨D, cfV, kV, iV, fV, hD, gV, stV, knV, obV, asV, slV⟩ := V
  obtain ⟨D', cfC, kC, iC, fC, hD', gC, stC, -, -, asC, slC⟩ := C
  cases hD.symm.trans hD'
  obtain ⟨D2, kD, e1, e2, e3, e4, e5⟩ := E
  cases hD.symm.trans e1
  obtain ⟨c2, k2, i1, i2, i3, -⟩ := Cond.instantiable_spec wi
  cases e2.symm.trans i1
  cases e3.symm.trans i2
  obtain ⟨kU, u1, u2⟩ := al.2.2 _ _ e3
  exact ⟨D, fV, fC, ⟨hD, ⟨knV, fun q hq => by rw [hq] at obV; cases obV⟩, by rw [al.findClass]; exact e2, kU, u1, by rw [u2]; exact i3, by rw [u2]; exact e5 i3⟩, ⟨SBG.found_only al ⟨cfV, kV, iV, gV⟩, stV⟩, ⟨SBG.found_only al ⟨cfC, kC, iC, gC⟩, stC⟩, slV, slC, by simp [RoadKit.slotOf, gV], by simp [RoadKit.slotOf, gC]⟩
theorem sta_is {Z U : State} (al : Z.vm.Alike U.vm) {C n d : String} {v : Value} (S : RoadKit.Sta Z U.heap C n d v) : StaticIs U C n d v := by
  obtain ⟨cfS, iS, kS, fS, st, cS, t1, t2, t3, t4, t5, t6, t7⟩ := S
  exact StaticIs.there (s := { Z with heap := U.heap }) ⟨cfS, iS, kS, fS, st, cS, t1, t2, t3, t4, t5, (fun q => by rw [q] at t6; cases t6), t7⟩ al rfl
/-- **length() OF SUCH A STRING** -/
theorem lenW {p : Program} {l : Launch} {e : Env} {R : Room} {s : State} {args : Array Value} {below : List Frame} {len W : Nat} {Z : State} {a0 : Array Value} {h : Heap} (hZ : Z.Warmed39 s.vm) (hw : ∀ d ∈ wordsLen, d.before a0 Z = true) {kI : Nat} (wi : (Jvm.Cond.instantiable ST kI).before a0 Z = true)
    {x t : Addr} {kb : ClassId} {cs : List Int32} {cd N2 z : Int32} {vs : List Value} (E : RoadKit.Exa Z h x ST) (V : RoadKit.Fld Z h x ST "value" "[B" (.ref t)) (C : RoadKit.Fld Z h x ST "coder" "B" (.int cd)) (K : RoadKit.Arv Z h t kb .byte N2 vs (.int 0)) (hc : CodA cs cd N2 vs) (hb : ∀ c ∈ cs, ¬ c < 0 ∧ ¬ (65535 : Int32) < c)
    (S : RoadKit.Sta Z h ST "COMPACT_STRINGS" "Z" (.int z)) (hz : ¬ z = 0) (l2 : cs.length ≤ 4000) (hfr : 2 ≤ R.frames) (hlo : W + 25 ≤ R.locals) :
    Back l R p e below s args (⟨"java/lang/String", "length", "()I"⟩ : MethodName) len W (fun P a => a = #[.ref x] ∧ P.U.heap = h ∧ P.cells + 0 ≤ R.cells ∧ P.slots + 0 ≤ R.slots)
      (fun P _ v B => ∃ L, (v = some (.int (Int32.ofNat cs.length)) ∧ L = [] ∧ B.U.heap = h) ∧ B.locs = P.locs ++ L ∧ B.cells = P.cells + 0 ∧ B.slots = P.slots + 0) := by
  obtain ⟨A, K1, K2, K3, K4, K5, K6⟩ := K
  have hcod := hc.cod (by omega) K3 K5
  intro m meth c P g ig mk a X hg hsize hdg hW hn hp'
  obtain ⟨rfl, rfl, r1, r2⟩ := hp'
  have al : Z.vm.Alike P.U.vm := hZ.alike.trans X.warmed.alike
  obtain ⟨D, fV, fC, hB, F1, F2, g1, g2, -, -⟩ := strObj wi al E V C
  have hx : Txt x t A cd cs.length (fun j => cs.getD j 0) P.U := ⟨⟨_, hB.2.2.1, D, hB.1, rfl, by cases q : D.vm <;> first | rfl | exact absurd q (hB.2.1.2 _)⟩, Has.of hB F1 g1, Has.of hB F2 g2, ⟨K1.1, State.isArrayOf_alike al K1.2.1, K1.2.2, by rcases hcod with ⟨-, q, -⟩ | ⟨-, q, -⟩ <;> omega⟩, hcod, fun j hj => by
    have e : cs.getD j 0 = cs[j] := by simp [List.getD_eq_getElem?_getD, hj]
    show ¬ cs.getD j 0 < 0 ∧ ¬ 65535 < cs.getD j 0
    rw [e]; exact hb _ (List.getElem_mem _)⟩
  obtain ⟨v, B, X', ⟨⟨hv, hh⟩, hl, hk, hs⟩, st⟩ := Len.pays x t A cd cs.length (fun j => cs.getD j 0) z (tabLen_of (movedLen hZ hw)) hfr hlo m meth c P g ig mk _ X hg hsize hdg hW hn ⟨r1, r2, rfl, hx, sta_is al S, hz⟩
  exact ⟨v, B, X', ⟨[], ⟨hv, rfl, hh⟩, hl, hk, hs⟩, st⟩
end StrChars.Road
namespace StrChars.Road
open Jvm Sem ClassFile Op Lib Jvm.Stand Jvm.Free Jvm.Free.XT
open Jvm.Lib.Cold (StaticIs)
/-- the road's facts of a String, as the laws ask it -/
theorem txt_of {Z U : State} {a0 : Array Value} {kI : Nat} (wi : (Jvm.Cond.instantiable ST kI).before a0 Z = true) (al : Z.vm.Alike U.vm) {x t : Addr} {kb : ClassId} {cs : List Int32} {cd N2 : Int32} {vs : List Value} (E : RoadKit.Exa Z U.heap x ST) (V : RoadKit.Fld Z U.heap x ST "value" "[B" (.ref t)) (C : RoadKit.Fld Z U.heap x ST "coder" "B" (.int cd)) (K : RoadKit.Arv Z U.heap t kb .byte N2 vs (.int 0)) (hc : CodA cs cd N2 vs) (hb : ∀ c ∈ cs, ¬ c < 0 ∧ ¬ (65535 : Int32) < c) (l2 : cs.length ≤ 4000) :
    ∃ A, Txt x t A cd cs.length (fun j => cs.getD j 0) U := by
  obtain ⟨A, K1, K2, K3, K4, K5, K6⟩ := K
  have hcod := hc.cod (by omega) K3 K5
  obtain ⟨D, fV, fC, hB, F1, F2, g1, g2, -, -⟩ := strObj wi al E V C
  exact ⟨A, ⟨_, hB.2.2.1, D, hB.1, rfl, by cases q : D.vm <;> first | rfl | exact absurd q (hB.2.1.2 _)⟩, Has.of hB F1 g1, Has.of hB F2 g2, ⟨K1.1, State.isArrayOf_alike al K1.2.1, K1.2.2, by rcases hcod with ⟨-, q, -⟩ | ⟨-, q, -⟩ <;> omega⟩, hcod, fun j hj => by
    have e : cs.getD j 0 = cs[j] := by simp [List.getD_eq_getElem?_getD, hj]
    show ¬ cs.getD j 0 < 0 ∧ ¬ 65535 < cs.getD j 0
    rw [e]; exact hb _ (List.getElem_mem _)⟩
end StrChars.Road
namespace StrChars
open Jvm Sem ClassFile Op Lib Jvm.Stand Jvm.Free.XT Jvm.Free.ALB Jvm.Free.JM Jvm.Free
open Jvm.Lib.Cold (StaticIs)
namespace ChN
def yN : MethodName := ⟨"java/lang/String", "charAt", "(I)C"⟩
abbrev yB : ByteArray := jdk_42_method_56_code
theorem d0 : decode yB 0 = .ok (.aload_n 0, 1) := by decide +kernel
theorem d1 : decode yB 1 = .ok (.invokevirtual 492, 3) := by decide +kernel
theorem d4 : decode yB 4 = .ok (.ifCond (.eq) 12, 3) := by decide +kernel
theorem d7 : decode yB 7 = .ok (.aload_n 0, 1) := by decide +kernel
theorem d8 : decode yB 8 = .ok (.getfield 9, 3) := by decide +kernel
theorem d11 : decode yB 11 = .ok (.iload_n 1, 1) := by decide +kernel
theorem d12 : decode yB 12 = .ok (.invokestatic 495, 3) := by decide +kernel
theorem d15 : decode yB 15 = .ok (.ireturn, 1) := by decide +kernel
def site : List Cond := [.fieldLink "java/lang/String" 9 "java/lang/String" "value" "[B", IsL.tab, LChA.tab] ++ virtW "java/lang/String" 492 "java/lang/String" IsL.yN IsL.yN ++ staticW "java/lang/String" 495 LChA.yN
def tab : Cond := tabOf yN yB 2 (some .char) site
def P (x t : Addr) (V : Cell) (n : Nat) (f : Nat → Int32) (z : Int32) (fm : Value) (i : Nat) (args : Array Value) (s : State) : Prop := args = #[.ref x, .int (Int32.ofNat i)] ∧ Txt x t V 0 n f s ∧ i < n ∧ StaticIs s "java/lang/String" "COMPACT_STRINGS" "Z" (.int z) ∧ ¬ z = 0 ∧ StaticIs s "jdk/internal/util/Preconditions" "SIOOBE_FORMATTER" "Ljava/util/function/BiFunction;" fm ∧ fm.isRef = true
def E (f : Nat → Int32) (i : Nat) (r : Option Value) (s u : State) : Prop := XT.PureE (some (.int (f i))) r s u
/-- charAt(i) of a Latin-1 String of n chars, i < n: f i -/
theorem law (l : Launch) (x t : Addr) (V : Cell) (n : Nat) (f : Nat → Int32) (z : Int32) (fm : Value) (i : Nat) : Law l yN 2 1 3 40 yB 2 (some .char) site (P x t V n f z fm i) (E f i) [] 0 0 := by
  refine Law.of_walk (plainFor_of_name (by decide +kernel)) (by decide +kernel) (by decide +kernel) (by decide) (fun _ _ h => by rw [h.1]; rfl) (fun _ U U' hal hh h => ⟨h.1, h.2.1.mv hal hh, h.2.2.1, h.2.2.2.1.there hal hh, h.2.2.2.2.1, h.2.2.2.2.2.1.there hal hh, h.2.2.2.2.2.2⟩) (fun r U U' V V' h1 hal h2 h => XT.PureE.mv r U U' V V' h1 hal h2 h) ?_
  intro p e s m args below meth c s₁ X0 hexec hbytes hml hret hlk hnm hown hh0 W hP
  obtain ⟨rfl, hx, hi, s1, hz, s3, rf⟩ := hP
  have v31 := hx.2.2.2.1.2.2.2
  have hr := hx.2.2.2.2.2 i hi
  have hx0 := hx.mv X0.warmed.alike hh0
  have c1 : Steps p.tables e below (s₁.setTop (entryFrame m #[.ref x, .int (Int32.ofNat i)] 2)) (s₁.setTop (mkF m 1 #[.val (.ref x), .val (.int (Int32.ofNat i))] [.ref x])) := Steps.trans (entry rfl) (by
    show Steps p.tables e below (s₁.setTop (mkF m 0 #[.val (.ref x), .val (.int (Int32.ofNat i))] [])) _
    refine XS.aloadN X0.here hexec rfl (hb hbytes d0) rfl rfl ?_
    exact Steps.refl _)
  obtain ⟨v2, T2, X2, E2, g2⟩ := X0.callV hexec (IsL.law l x 0 z) hown (wks W (virtW "java/lang/String" 492 "java/lang/String" IsL.yN IsL.yN)) rfl (by decide) (wk W IsL.tab) (W := 0) (Nat.le_of_ble_eq_true rfl) (Nat.le_of_ble_eq_true rfl) (Nat.le_refl _) (Nat.le_refl _) (hx0.1.fc X0.warmed.alike) hx0.1.is (g := (mkF m 1 #[.val (.ref x), .val (.int (Int32.ofNat i))] [.ref x])) rfl (by rw [hml]; rfl) c1 (argsL := []) (rest := []) rfl rfl (by show 2 * 0 + 0 ≤ _; decide) (hb hbytes d1) (⟨rfl, hx0.2.2.1, hx.2.2.2.2.1.cd, s1.there X0.warmed.alike hh0, hz⟩)
  obtain ⟨rfl, q2⟩ := E2
  have hh2 := q2.trans hh0
  have hx2 := hx.mv X2.warmed.alike hh2
  obtain ⟨-, k1, k2⟩ | ⟨k0, -⟩ := hx.2.2.2.2.1
  · have c3 : Steps p.tables e below (s₁.setTop (entryFrame m #[.ref x, .int (Int32.ofNat i)] 2)) (T2.setTop (mkF m 8 #[.val (.ref x), .val (.int (Int32.ofNat i))] [.ref x])) := Steps.trans g2 (by
      refine XS.ifNo X2.here hexec rfl (hb hbytes d4) rfl (i0_eq_f (by decide)) ?_
      refine XS.aloadN X2.here hexec rfl (hb hbytes d7) rfl rfl ?_
      exact Steps.refl _)
    obtain ⟨T4, X4, q4, st4⟩ := X2.hget hexec hown (wk W (.fieldLink "java/lang/String" 9 "java/lang/String" "value" "[B")) hx2.2.1 (g := (mkF m 8 #[.val (.ref x), .val (.int (Int32.ofNat i))] [.ref x])) rfl (rest := []) rfl (hb hbytes d8)
    have hh4 := q4.trans hh2
    have c5 : Steps p.tables e below (s₁.setTop (entryFrame m #[.ref x, .int (Int32.ofNat i)] 2)) (T4.setTop (mkF m 12 #[.val (.ref x), .val (.int (Int32.ofNat i))] [.int (Int32.ofNat i), .ref t])) := (c3.trans (st4 _ (Steps.refl _))).trans (by
      refine XS.iloadN X4.here hexec rfl (hb hbytes d11) rfl ?_
      exact Steps.refl _)
    obtain ⟨v6, T6, X6, E6, g6⟩ := X4.callS hexec (LChA.law l t V i (lo8 (f i)) fm) hown (wks W (staticW "java/lang/String" 495 LChA.yN)) (wk W LChA.tab) (W := 0) (Nat.le_of_ble_eq_true rfl) (Nat.le_of_ble_eq_true rfl) (Nat.le_refl _) (Nat.le_refl _) (g := (mkF m 12 #[.val (.ref x), .val (.int (Int32.ofNat i))] [.int (Int32.ofNat i), .ref t])) rfl (by rw [hml]; rfl) c5 (argsL := [.ref t, .int (Int32.ofNat i)]) (rest := []) rfl rfl (by show 2 * 0 + 0 ≤ _; decide) (hb hbytes d12) (⟨rfl, hx.2.2.2.1.mv X4.warmed.alike hh4, (k2 i hi).1, s3.there X4.warmed.alike hh4, rf⟩)
    obtain ⟨rfl, q6⟩ := E6
    rw [chr8_lo8 hr.1 (k2 i hi).2] at g6
    exact ⟨T6, some (.int (f i)), _, _, _, X6, rfl, rfl, rfl, (fun h => by cases h), ⟨rfl, q6.trans hh4⟩, fun fs hl => Steps.trans g6 (X6.ireturnOut hexec hret (narrow_ch hr.1 hr.2) (Or.inr (Or.inr (Or.inr (Or.inl rfl)))) (hb hbytes d15) hl)⟩
  · exact absurd k0 (by decide)
theorem pays {l : Launch} {R : Room} {p : Program} {e : Env} {below : List Frame} {s : State} {sargs : Array Value} {len W : Nat} (x t : Addr) (V : Cell) (n : Nat) (f : Nat → Int32) (z : Int32) (fm : Value) (i : Nat) (htab : tab.before sargs s = true) (hfr : 4 ≤ R.frames) (hlo : W + 53 ≤ R.locals) :
    Back l R p e below s sargs yN len W (fun A₁ a₁ => A₁.cells + 0 ≤ R.cells ∧ A₁.slots + 0 ≤ R.slots ∧ P x t V n f z fm i a₁ A₁.U) (fun A₁ _ v₁ B₁ => E f i v₁ A₁.U B₁.U ∧ B₁.locs = A₁.locs ++ [] ∧ B₁.cells = A₁.cells + 0 ∧ B₁.slots = A₁.slots + 0) :=
  (law l x t V n f z fm i).pays htab hfr (by omega)
end ChN
end StrChars
namespace StrChars.Road
open Jvm Sem ClassFile Op Lib Jvm.Stand Jvm.Free Jvm.Free.XT
open Jvm.Lib.Cold (StaticIs)
/-- the words of String.charAt(int), the Latin-1 road alone -/
abbrev wordsChN : List Jvm.Cond := [.code ChN.yN ChN.yB 2 (some .char), .initialized ST, .fieldLink ST 9 ST "value" "[B", .fieldLink ST 38 ST "COMPACT_STRINGS" "Z", .fieldLink ST 15 ST "coder" "B", .code IsL.yN IsL.yB 1 (some .boolean), .methodLink ST 492 IsL.yN, .declares IsL.yN, .selects ST IsL.yN IsL.yN, .instanceMethod IsL.yN,
  .methodLink ST 495 LChA.yN, .static LChA.yN, .code LChA.yN LChA.yB 2 (some .char), .initialized "java/lang/StringLatin1", .methodLink "java/lang/StringLatin1" 9 JO.Str_checkIndex.yN, .static JO.Str_checkIndex.yN, .code JO.Str_checkIndex.yN JO.Str_checkIndex.yB 2 none,
  .fieldLink ST 1053 "jdk/internal/util/Preconditions" "SIOOBE_FORMATTER" "Ljava/util/function/BiFunction;", .methodLink ST 1059 JC.PreCheck.yN, .static JC.PreCheck.yN, .code JC.PreCheck.yN JC.PreCheck.yB 3 (some .int), .initialized "jdk/internal/util/Preconditions"]
theorem tabChN_of {a : Array Value} {s : State} (h : ∀ w ∈ wordsChN, w.before a s = true) : ChN.tab.before a s = true := by
  have hp : JC.PreCheck.tab.before a s = true := unparts (wk h (.code JC.PreCheck.yN JC.PreCheck.yB 3 (some .int))) (wks h (.initialized JC.PreCheck.yN.cls :: JC.PreCheck.site))
  have qk := consq hp h
  have hk : JO.Str_checkIndex.tab.before a s = true := unparts (wk qk (.code JO.Str_checkIndex.yN JO.Str_checkIndex.yB 2 none)) (wks qk (.initialized JO.Str_checkIndex.yN.cls :: JO.Str_checkIndex.site))
  have ql := consq hk h
  have hl : LChA.tab.before a s = true := unparts (wk ql (.code LChA.yN LChA.yB 2 (some .char))) (wks ql (.initialized LChA.yN.cls :: LChA.site))
  have hi : IsL.tab.before a s = true := unparts (wk h (.code IsL.yN IsL.yB 1 (some .boolean))) (wks h (.initialized IsL.yN.cls :: IsL.site))
  have q := consq hi (consq hl h)
  exact unparts (wk q (.code ChN.yN ChN.yB 2 (some .char))) (wks q (.initialized ChN.yN.cls :: ChN.site))
theorem movedChN {Z s : State} {a0 args : Array Value} (hZ : Z.Warmed39 s.vm) (hw : ∀ d ∈ wordsChN, d.before a0 Z = true) : ∀ d ∈ wordsChN, d.before args s = true := fun d hd => by
  have t : ∀ d ∈ wordsChN, (d.onTables && d.keepsFace) = true := by decide +kernel
  exact RoadKit.mv hZ (hw d hd) (t d hd)
/-- **charAt(i) OF A LATIN-1 STRING**, i < n: the char -/
theorem chN {p : Program} {l : Launch} {e : Env} {R : Room} {s : State} {args : Array Value} {below : List Frame} {len W : Nat} {Z : State} {a0 : Array Value} {h : Heap} (hZ : Z.Warmed39 s.vm) (hw : ∀ d ∈ wordsChN, d.before a0 Z = true) {kI : Nat} (wi : (Jvm.Cond.instantiable ST kI).before a0 Z = true)
    {x t : Addr} {kb : ClassId} {cs : List Int32} {N2 z : Int32} {vs : List Value} {fm : Value} {i : Nat} {j : Int32} (E : RoadKit.Exa Z h x ST) (V : RoadKit.Fld Z h x ST "value" "[B" (.ref t)) (C : RoadKit.Fld Z h x ST "coder" "B" (.int 0)) (K : RoadKit.Arv Z h t kb .byte N2 vs (.int 0)) (hc : CodA cs 0 N2 vs) (hb : ∀ c ∈ cs, ¬ c < 0 ∧ ¬ (65535 : Int32) < c)
    (S : RoadKit.Sta Z h ST "COMPACT_STRINGS" "Z" (.int z)) (hz : ¬ z = 0) (F : RoadKit.Sta Z h "jdk/internal/util/Preconditions" "SIOOBE_FORMATTER" "Ljava/util/function/BiFunction;" fm) (rf : fm.isRef = true) (l2 : cs.length ≤ 4000) (hi : i < cs.length) (hj : j = Int32.ofNat i) (hfr : 4 ≤ R.frames) (hlo : W + 53 ≤ R.locals) :
    Back l R p e below s args (⟨"java/lang/String", "charAt", "(I)C"⟩ : MethodName) len W (fun P a => a = #[.ref x, .int j] ∧ P.U.heap = h ∧ P.cells + 0 ≤ R.cells ∧ P.slots + 0 ≤ R.slots)
      (fun P _ v B => ∃ L, (v = some (.int (cs.getD i 0)) ∧ L = [] ∧ B.U.heap = h) ∧ B.locs = P.locs ++ L ∧ B.cells = P.cells + 0 ∧ B.slots = P.slots + 0) := by
  subst hj
  intro m meth c P g ig mk a X hg hsize hdg hW hn hp'
  obtain ⟨rfl, rfl, r1, r2⟩ := hp'
  have al : Z.vm.Alike P.U.vm := hZ.alike.trans X.warmed.alike
  obtain ⟨A, hx⟩ := txt_of wi al E V C K hc hb l2
  obtain ⟨v, B, X', ⟨⟨hv, hh⟩, hl, hk, hs⟩, st⟩ := ChN.pays x t A cs.length (fun j => cs.getD j 0) z fm i (tabChN_of (movedChN hZ hw)) hfr hlo m meth c P g ig mk _ X hg hsize hdg hW hn ⟨r1, r2, rfl, hx, hi, sta_is al S, hz, sta_is al F, rf⟩
  exact ⟨v, B, X', ⟨[], ⟨hv, rfl, hh⟩, hl, hk, hs⟩, st⟩
/-- what backV says of its String, as the contracts of this text ask it: cs's low bytes, coder 0 -/
theorem codOf {cs : List Int32} {n : Nat} (hn : cs.length = n) (hb : ∀ c ∈ cs, ¬ 255 < c) : CodA cs 0 (Int32.ofNat n) ((cs.map lo8).map Value.int) := Or.inl ⟨rfl, by rw [hn], by simp [List.map_map, Function.comp_def], hb⟩
end StrChars.Road
end Jvm.Pilot.@@N@@
namespace Jvm.Pilot.@@N@@
open Jvm Jvm.ClassFile Sem Op Lib Jvm.Free Jvm.Stand Jvm.LawKit Jvm.RoadKit Bundle Jvm.Pilot.@@N@@.Jvm.D
theorem own_nW {sf : List Addr} : ∀ x ∈ ([] : List Addr), x ∈ sf := fun _ z => nomatch z
theorem own_wM (i : Nat) {d : Jvm.Cond} (h : tables_1[i]? = some d) : d ∈ tables_1 := List.mem_of_getElem? h
section Own
variable {w : Bool} {p : Program} {l : Launch} {e : Env} {R : Room} {s : State} {m : MethodId} {args : Array Value} {below : List Frame} {meth : Method} {c : Code} {T : State} {cells slots n0 mx : Nat} {Z : State} {a0 : Array Value} {h : Heap} {bytes : ByteArray} {ret : Option FieldType} {own nm : String} {EL : List (String × Nat)} {sf : List Addr} {Q : Outcome → State → Prop} {pc q : Nat} {Ls : Array Slot} {st rest : List Value}
def own_Base (w : Bool) (s : State) (vm0 : Vm) (h : Heap) : Prop := (w = false ∧ vm0 = s.vm) ∨ (w = true ∧ ∃ k0, s.Since vm0 k0 ∧ k0 ≤ h.size)
/-- addresses that the walk has made and that are no literal's -/
def own_Sf (Z : State) (EL : List (String × Nat)) (vm : Vm) (h : Heap) (sf : List Addr) : Prop := ∀ x ∈ sf, Safe Z EL vm h x ∧ x < h.size
def own_At (w : Bool) (p : Program) (l : Launch) (e : Env) (R : Room) (s : State) (m : MethodId) (args : Array Value) (below : List Frame) (meth : Method) (c : Code) (bytes : ByteArray) (ret : Option FieldType) (own nm : String) (mx : Nat) (Z : State) (n0 : Nat) (a0 : Array Value) (EL : List (String × Nat)) (sf : List Addr) (T : State) (h : Heap) (cells slots : Nat) : Prop :=
  (p.tables.exec = Jvm.exec ∧ c.code = bytes ∧ meth.sig.returnType = ret ∧ meth.locks = false ∧ meth.name = nm ∧ c.maxLocals = mx) ∧
  ∃ (vm0 : Vm) (locs : List Loc), Stand p l e R (s.setVm vm0) m args below meth c T locs cells slots ∧ own_Base w s vm0 h ∧ Z.Warmed39 vm0 ∧ vm0.findClass own = some m.cls ∧ T.heap = h ∧ Fr n0 locs ∧ Old Z n0 h ∧ EW Z a0 EL ∧ CHr Z EL s.vm s.heap vm0 h ∧ own_Sf Z EL vm0 h sf
def own_Run (p : Program) (e : Env) (below : List Frame) (Q : Outcome → State → Prop) (m : MethodId) (T : State) (pc : Nat) (Ls : Array Slot) (st : List Value) : Prop :=
  ∃ s₂ o, Steps p.tables e below (T.setTop (mkF m pc Ls st)) s₂ ∧ s₂.status = .running ∧ Ended s₂ below o ∧ Q o s₂
def own_End : Bool → State → Outcome → State → List Loc → Nat → Nat → Prop
  | true, s, o, t, L, k, n => ReturnedEndW s o t L k n
  | false, s, o, t, L, k, n => FrameEnd s o t L k n
/-- what an invocation leaves: Qc of the value returned and the heap -/
def own_Q (w : Bool) (s : State) (rm : Room) (n0 : Nat) (Z : State) (EL : List (String × Nat)) (Qc : Option Value → Heap → Prop) (o : Outcome) (t : State) : Prop :=
  ∃ v L, o = .returned v ∧ (Qc v t.heap ∧ Fr n0 L ∧ Old Z n0 t.heap ∧ s.heap.size ≤ t.heap.size) ∧ CHr Z EL s.vm s.heap t.vm t.heap ∧ own_End w s o t L rm.cells rm.slots
def own_Met (w : Bool) (l : Launch) (Z : State) (n0 : Nat) (EL : List (String × Nat)) (sf : List Addr) (y : MethodName) (bytes : ByteArray) (mx : Nat) (ret : Option FieldType) (ws : List Jvm.Cond) (rm : Room) (as' : Array Value) (h : Heap) (Qc : Option Value → Heap → Prop) : Prop :=
  MetFree l y (head1 (Jvm.Cond.code y bytes mx ret :: ws) rm) (fun a U => a = as' ∧ Z.Warmed39 U.vm ∧ U.heap = h ∧ CHv Z EL U.vm h ∧ own_Sf Z EL U.vm h sf) (fun _ _ _ _ _ => True) (fun _ U o U' => own_Q w U rm n0 Z EL Qc o U')
theorem own_by {T' : State} {Ls' : Array Slot} {st' : List Value} (hs : ∀ t, Steps p.tables e below (T'.setTop (mkF m q Ls' st')) t → Steps p.tables e below (T.setTop (mkF m pc Ls st)) t) (k : own_Run p e below Q m T' q Ls' st') : own_Run p e below Q m T pc Ls st := by
  obtain ⟨a, o, h1, r⟩ := k
  exact ⟨a, o, hs _ h1, r⟩
theorem own_At.old (A : own_At w p l e R s m args below meth c bytes ret own nm mx Z n0 a0 EL sf T h cells slots) : Old Z n0 h := by obtain ⟨-, _, _, -, -, -, -, -, -, O, -⟩ := A; exact O
theorem own_At.fr (A : own_At w p l e R s m args below meth c bytes ret own nm mx Z n0 a0 EL sf T h cells slots) : n0 ≤ h.size := by have O := A.old; exact O.1 ▸ O.2.1
theorem own_Base.le {vm0 : Vm} {h h' : Heap} (B : own_Base w s vm0 h) (g : h.size ≤ h'.size) : own_Base w s vm0 h' := by
  rcases B with B | ⟨B, k0, B1, B2⟩
  · exact Or.inl B
  · exact Or.inr ⟨B, k0, B1, Nat.le_trans B2 g⟩
theorem own_ch0 {vm vm1 : Vm} {h h' : Heap} (g : h.size ≤ h'.size) : CHr Z [] vm h vm1 h' := by
  refine ⟨fun p hp => ?_, g, fun y B => ?_⟩
  · cases hp
  · obtain ⟨p, hp, -⟩ := B
    cases hp
theorem own_Sf.ext {vm : Vm} {h h' : Heap} (S : own_Sf Z EL vm h sf) (H : CHv Z EL vm h) (E : Ext h h') : own_Sf Z EL vm h' sf := fun x hx => ⟨(S x hx).1.ext E H, Nat.lt_of_lt_of_le (S x hx).2 E.1⟩
theorem own_Sf.new {vm : Vm} {h h' : Heap} (S : own_Sf Z EL vm h sf) (H : CHv Z EL vm h) (E : Ext h h') (g : h.size < h'.size) : own_Sf Z EL vm h' (h.size :: sf) := fun x hx => by
  rcases List.mem_cons.mp hx with rfl | hx
  · exact ⟨(Safe.new (Nat.le_refl _)).ext E H, g⟩
  · exact S.ext H E x hx
theorem own_Sf.wr {vm : Vm} {h h' : Heap} {a : Addr} {sl : Nat} {v : Value} (S : own_Sf Z EL vm h sf) (H : CHv Z EL vm h) (W : Wr h h' a sl v) (Sa : Safe Z EL vm h a) : own_Sf Z EL vm h' sf := fun x hx => ⟨Safe.wr W Sa H (S x hx).1, by rw [W.size]; exact (S x hx).2⟩
theorem own_Sf.ch {vm vm1 : Vm} {h h' : Heap} (S : own_Sf Z EL vm h sf) (C : CHr Z EL vm h vm1 h') : own_Sf Z EL vm1 h' sf := fun x hx => ⟨C.safe (S x hx).2 (S x hx).1, Nat.lt_of_lt_of_le (S x hx).2 C.2.1⟩
/-- what may be written: a made object, anything where there are no literals, no String and no byte[] -/
def own_Wok (Z : State) (EL : List (String × Nat)) (sf : List Addr) (h : Heap) (a : Addr) : Prop := a ∈ sf ∨ EL = [] ∨ (∃ C, Exa Z h a C ∧ C ≠ "java/lang/String" ∧ C ≠ "[B") ∨ ∃ cl ty, Arr Z h a cl ty ∧ ty ≠ .byte
theorem own_Wok.safe {vm : Vm} {a : Addr} (W : own_Wok Z EL sf h a) (hZ : Z.Warmed39 vm) (S : own_Sf Z EL vm h sf) : Safe Z EL vm h a := by
  rcases W with W | rfl | ⟨C, E, h1, h2⟩ | ⟨cl, ty, Ar, ht⟩
  · exact (S a W).1
  · exact fun B => by
      obtain ⟨p, hp, -⟩ := B
      cases hp
  · exact Safe.exa hZ.alike E h1 h2
  · exact Safe.arr hZ.alike Ar ht
/-- the entry -/
theorem own_enter {y : MethodName} {mx : Nat} {ws : List Jvm.Cond} {rm : Room} {as' : Array Value} {Qc : Option Value → Heap → Prop} (hpl : plainName own = true) (O : Old Z n0 h) (hEL : EW Z a0 EL) (hef : ∀ m, entryFrame m as' mx = mkF m 0 Ls [])
    (body : ∀ p e s m args below meth c T Q, Q = own_Q w s rm n0 Z EL Qc → own_At w p l e rm s m args below meth c bytes ret own nm mx Z n0 a0 EL sf T h 0 0 → own_Run p e below Q m T 0 Ls []) (ho : y.cls = own := by rfl) (hn : y.name = nm := by rfl) : own_Met w l Z n0 EL sf y bytes mx ret ws rm as' h Qc := by
  subst ho hn
  refine MetFree.of_bodySF (plainFor_of_name hpl) hisR ?_
  intro p e s m args below meth c s₁ Bd hml0 hP hK
  obtain ⟨rfl, hZ, hh, hCH, hSf⟩ := hP
  have X0 : Stand p l e rm s m args below meth c s₁ [] 0 0 := Stand.of_body Bd
  have e0 : s₁.heap = h := by rw [← hh, Bd.state]; rfl
  have hown : s.vm.findClass y.cls = some m.cls := findClass_of_methodNamed Bd.named
  have A : own_At w p l e rm s m args below meth c bytes ret y.cls y.name mx Z n0 a0 EL sf s₁ h 0 0 :=
    ⟨⟨Bd.exec, Bd.bytes, Bd.returns, Bd.notSynchronized, (name_of_methodNamed Bd.named Bd.method).1, hml0⟩, s.vm, [], X0, (by
      cases w
      · exact Or.inl ⟨rfl, rfl⟩
      · exact Or.inr ⟨rfl, 0, (State.WarmedH.refl s).since 0, Nat.zero_le _⟩), hZ, hown, e0, Fr.nil n0, O, hEL, (by rw [hh]; exact CHr.refl hCH), hSf⟩
  obtain ⟨s₂, o, h1, h2, h3, h4⟩ := body p e s m args below meth c s₁ _ rfl A
  exact ⟨s₂, o, castTop (hef m) h1, h2, h3, h4⟩
/-- the end of a walk, whatever the returning instruction -/
theorem own_end {rm : Room} {Qc : Option Value → Heap → Prop} (A : own_At w p l e R s m args below meth c bytes ret own nm mx Z n0 a0 EL sf T h cells slots) (hQ : Q = own_Q w s rm n0 Z EL Qc) (v : Option Value) (hv : ret = none → v = none) (hq : Qc v h) (hk : cells ≤ rm.cells) (hn : slots ≤ rm.slots)
    (hs : ∀ fs, (∀ (f : JFrame) (acts : List Action), f.method = m → f.locked = none → f.entered = [] → (doReturn e (T.setTop f) acts v).1 = T.setFrames fs) → Steps p.tables e below (T.setTop (mkF m pc Ls st)) (T.setFrames fs)) : own_Run p e below Q m T pc Ls st := by
  subst hQ
  obtain ⟨⟨hx, hby, hret, hlk, hnm, hml⟩, vm0, locs, X, B, hZ, hown, hT, N, O, hEL, Ch, Sf⟩ := A
  subst hT
  have Ch' := Ch.trans (CHv.at X hZ hEL Ch.1)
  rcases B with ⟨rfl, rfl⟩ | ⟨rfl, k0, B1, B2⟩
  · have X' : Stand p l e R s m args below meth c T locs cells slots := X
    obtain ⟨fs, hr, hrun, hended, hW, hsame⟩ := X'.leave (v := v) (fun z => hv (hret ▸ z)) hlk
    exact ⟨_, _, hs fs hr, hrun, hended, v, locs, rfl, ⟨hq, N, O, X'.same.2.1⟩, Ch', ⟨_, rfl⟩, hW, hsame.mono hk hn⟩
  · obtain ⟨fs, hr, hrun, hended, hW⟩ := X.leaveW B1 B2 (v := v) (fun z => hv (hret ▸ z)) hlk
    exact ⟨_, _, hs fs hr, hrun, hended, v, locs, rfl, ⟨hq, N, O, X.same.2.1⟩, Ch', hW.1, hW.2.1, hW.2.2.1, hW.2.2.2.mono hk hn⟩
theorem own_retN {z : Int32} {t : FieldType} {rm : Room} {Qc : Option Value → Heap → Prop} (A : own_At w p l e R s m args below meth c bytes (some t) own nm mx Z n0 a0 EL sf T h cells slots) (hQ : Q = own_Q w s rm n0 Z EL Qc) (ht : t = .boolean ∨ t = .byte ∨ t = .char ∨ t = .short) (hd : decode bytes pc = .ok (.ireturn, 1)) (hq : Qc (some (.int (nar t z))) h) (hk : cells ≤ rm.cells := by decide) (hn : slots ≤ rm.slots := by decide) : own_Run p e below Q m T pc Ls (.int z :: rest) := by
  obtain ⟨⟨hx, hby, hret, hlk, hnm, hml⟩, vm0, locs, X, r⟩ := id A
  subst hby
  exact own_end A hQ (some (.int (nar t z))) (fun z => by cases z) hq hk hn (fun fs hr => RoadKit.retN X hx hret ht hd hr)
theorem own_retI {z : Int32} {rm : Room} {Qc : Option Value → Heap → Prop} (A : own_At w p l e R s m args below meth c bytes (some .int) own nm mx Z n0 a0 EL sf T h cells slots) (hQ : Q = own_Q w s rm n0 Z EL Qc)  (hd : decode bytes pc = .ok (.ireturn, 1)) (hq : Qc (some (.int z)) h) (hk : cells ≤ rm.cells := by decide) (hn : slots ≤ rm.slots := by decide) : own_Run p e below Q m T pc Ls (.int z :: rest) := by
  obtain ⟨⟨hx, hby, hret, hlk, hnm, hml⟩, vm0, locs, X, r⟩ := id A
  subst hby
  exact own_end A hQ (some (.int z)) (fun z => by cases z) hq hk hn (fun fs hr => RoadKit.retOut X hx hret rfl (Or.inl ⟨rfl, Or.inl rfl, z, rfl⟩) hd hr)
theorem own_retA {z : Value} {t : FieldType} {rm : Room} {Qc : Option Value → Heap → Prop} (A : own_At w p l e R s m args below meth c bytes (some t) own nm mx Z n0 a0 EL sf T h cells slots) (hQ : Q = own_Q w s rm n0 Z EL Qc) (ht : t.isReference = true) (hz : z.isRef = true) (hnz : narrow t z = z) (hd : decode bytes pc = .ok (.areturn, 1)) (hq : Qc (some z) h) (hk : cells ≤ rm.cells := by decide) (hn : slots ≤ rm.slots := by decide) : own_Run p e below Q m T pc Ls (z :: rest) := by
  obtain ⟨⟨hx, hby, hret, hlk, hnm, hml⟩, vm0, locs, X, r⟩ := id A
  subst hby
  exact own_end A hQ (some z) (fun z => by cases z) hq hk hn (fun fs hr => RoadKit.retOut X hx hret hnz (Or.inr (Or.inr (Or.inr (Or.inr ⟨rfl, ht, hz⟩)))) hd hr)
theorem own_ret0 {rm : Room} {Qc : Option Value → Heap → Prop} (A : own_At w p l e R s m args below meth c bytes none own nm mx Z n0 a0 EL sf T h cells slots) (hQ : Q = own_Q w s rm n0 Z EL Qc) (hd : decode bytes pc = .ok (.return_, 1)) (hq : Qc none h) (hk : cells ≤ rm.cells := by decide) (hn : slots ≤ rm.slots := by decide) : own_Run p e below Q m T pc Ls [] := by
  obtain ⟨⟨hx, hby, hret, hlk, hnm, hml⟩, vm0, locs, X, r⟩ := id A
  subst hby
  exact own_end A hQ none (fun _ => rfl) hq hk hn (fun fs hr => X.returnOut hx hret hd hr)
theorem own_aloadN (A : own_At w p l e R s m args below meth c bytes ret own nm mx Z n0 a0 EL sf T h cells slots) {i : Fin 4} {v : Value} (hd : decode bytes pc = .ok (.aload_n i, 1)) (hl : Ls[i.val]? = some (.val v)) (hv : v.isRef = true) (k : own_Run p e below Q m T q Ls (v :: st)) (hq : pc + 1 = q := by rfl) : own_Run p e below Q m T pc Ls st := by
  obtain ⟨⟨hx, hby, -⟩, vm0, locs, X, -⟩ := A
  subst hby hq
  refine own_by (fun t z => ?_) k
  exact XS.aloadN X.here hx rfl hd hl hv z
theorem own_aload (A : own_At w p l e R s m args below meth c bytes ret own nm mx Z n0 a0 EL sf T h cells slots) {i : Nat} {v : Value} (hd : decode bytes pc = .ok (.aload i, 2)) (hl : Ls[i]? = some (.val v)) (hv : v.isRef = true) (k : own_Run p e below Q m T q Ls (v :: st)) (hq : pc + 2 = q := by rfl) : own_Run p e below Q m T pc Ls st := by
  obtain ⟨⟨hx, hby, -⟩, vm0, locs, X, -⟩ := A
  subst hby hq
  refine own_by (fun t z => ?_) k
  exact XS.aload X.here hx rfl hd hl hv z
theorem own_iloadN (A : own_At w p l e R s m args below meth c bytes ret own nm mx Z n0 a0 EL sf T h cells slots) {i : Fin 4} {v : Int32} (hd : decode bytes pc = .ok (.iload_n i, 1)) (hl : Ls[i.val]? = some (.val (.int v))) (k : own_Run p e below Q m T q Ls (.int v :: st)) (hq : pc + 1 = q := by rfl) : own_Run p e below Q m T pc Ls st := by
  obtain ⟨⟨hx, hby, -⟩, vm0, locs, X, -⟩ := A
  subst hby hq
  refine own_by (fun t z => ?_) k
  exact XS.iloadN X.here hx rfl hd hl z
theorem own_iload (A : own_At w p l e R s m args below meth c bytes ret own nm mx Z n0 a0 EL sf T h cells slots) {i : Nat} {v : Int32} (hd : decode bytes pc = .ok (.iload i, 2)) (hl : Ls[i]? = some (.val (.int v))) (k : own_Run p e below Q m T q Ls (.int v :: st)) (hq : pc + 2 = q := by rfl) : own_Run p e below Q m T pc Ls st := by
  obtain ⟨⟨hx, hby, -⟩, vm0, locs, X, -⟩ := A
  subst hby hq
  refine own_by (fun t z => ?_) k
  exact XS.iload X.here hx rfl hd hl z
theorem own_istoreN (A : own_At w p l e R s m args below meth c bytes ret own nm mx Z n0 a0 EL sf T h cells slots) {i : Fin 4} {v : Int32} {L' : Array Slot} (hd : decode bytes pc = .ok (.istore_n i, 1)) (hl : storeLocals Ls i.val (.int v) = some L') (k : own_Run p e below Q m T q L' rest) (hq : pc + 1 = q := by rfl) : own_Run p e below Q m T pc Ls (.int v :: rest) := by
  obtain ⟨⟨hx, hby, -⟩, vm0, locs, X, -⟩ := A
  subst hby hq
  refine own_by (fun t z => ?_) k
  exact XS.istoreN X.here hx rfl hd rfl hl z
theorem own_istore (A : own_At w p l e R s m args below meth c bytes ret own nm mx Z n0 a0 EL sf T h cells slots) {i : Nat} {v : Int32} {L' : Array Slot} (hd : decode bytes pc = .ok (.istore i, 2)) (hl : storeLocals Ls i (.int v) = some L') (k : own_Run p e below Q m T q L' rest) (hq : pc + 2 = q := by rfl) : own_Run p e below Q m T pc Ls (.int v :: rest) := by
  obtain ⟨⟨hx, hby, -⟩, vm0, locs, X, -⟩ := A
  subst hby hq
  refine own_by (fun t z => ?_) k
  exact XS.istore X.here hx rfl hd rfl hl z
theorem own_astoreN (A : own_At w p l e R s m args below meth c bytes ret own nm mx Z n0 a0 EL sf T h cells slots) {i : Fin 4} {v : Value} {L' : Array Slot} (hd : decode bytes pc = .ok (.astore_n i, 1)) (hv : v.isRef = true) (hl : storeLocals Ls i.val v = some L') (k : own_Run p e below Q m T q L' rest) (hq : pc + 1 = q := by rfl) : own_Run p e below Q m T pc Ls (v :: rest) := by
  obtain ⟨⟨hx, hby, -⟩, vm0, locs, X, -⟩ := A
  subst hby hq
  refine own_by (fun t z => ?_) k
  exact XS.astoreN X.here hx rfl hd rfl hv hl z
theorem own_astore (A : own_At w p l e R s m args below meth c bytes ret own nm mx Z n0 a0 EL sf T h cells slots) {i : Nat} {v : Value} {L' : Array Slot} (hd : decode bytes pc = .ok (.astore i, 2)) (hv : v.isRef = true) (hl : storeLocals Ls i v = some L') (k : own_Run p e below Q m T q L' rest) (hq : pc + 2 = q := by rfl) : own_Run p e below Q m T pc Ls (v :: rest) := by
  obtain ⟨⟨hx, hby, -⟩, vm0, locs, X, -⟩ := A
  subst hby hq
  refine own_by (fun t z => ?_) k
  exact XS.astore X.here hx rfl hd rfl hv hl z
theorem own_iconst (A : own_At w p l e R s m args below meth c bytes ret own nm mx Z n0 a0 EL sf T h cells slots) {i : Int} (v : Int32) (hd : decode bytes pc = .ok (.iconst i, 1)) (hv : Int32.ofInt i = v) (k : own_Run p e below Q m T q Ls (.int v :: st)) (hq : pc + 1 = q := by rfl) : own_Run p e below Q m T pc Ls st := by
  obtain ⟨⟨hx, hby, -⟩, vm0, locs, X, -⟩ := A
  subst hby hq hv
  refine own_by (fun t z => ?_) k
  exact XS.iconst X.here hx rfl hd z
theorem own_bipush (A : own_At w p l e R s m args below meth c bytes ret own nm mx Z n0 a0 EL sf T h cells slots) {i : Int} (v : Int32) (hd : decode bytes pc = .ok (.bipush i, 2)) (hv : (Int8.ofInt i).toInt32 = v) (k : own_Run p e below Q m T q Ls (.int v :: st)) (hq : pc + 2 = q := by rfl) : own_Run p e below Q m T pc Ls st := by
  obtain ⟨⟨hx, hby, -⟩, vm0, locs, X, -⟩ := A
  subst hby hq hv
  refine own_by (fun t z => ?_) k
  exact XS.bipush X.here hx rfl hd z
theorem own_sipush (A : own_At w p l e R s m args below meth c bytes ret own nm mx Z n0 a0 EL sf T h cells slots) {i : Int} (v : Int32) (hd : decode bytes pc = .ok (.sipush i, 3)) (hv : (Int16.ofInt i).toInt32 = v) (k : own_Run p e below Q m T q Ls (.int v :: st)) (hq : pc + 3 = q := by rfl) : own_Run p e below Q m T pc Ls st := by
  obtain ⟨⟨hx, hby, -⟩, vm0, locs, X, -⟩ := A
  subst hby hq hv
  refine own_by (fun t z => ?_) k
  exact XS.sipush X.here hx rfl hd z
theorem own_aconstNull (A : own_At w p l e R s m args below meth c bytes ret own nm mx Z n0 a0 EL sf T h cells slots)  (hd : decode bytes pc = .ok (.aconst_null, 1))  (k : own_Run p e below Q m T q Ls (.null :: st)) (hq : pc + 1 = q := by rfl) : own_Run p e below Q m T pc Ls st := by
  obtain ⟨⟨hx, hby, -⟩, vm0, locs, X, -⟩ := A
  subst hby hq
  refine own_by (fun t z => ?_) k
  exact XS.aconstNull X.here hx rfl hd  z
theorem own_iadd (A : own_At w p l e R s m args below meth c bytes ret own nm mx Z n0 a0 EL sf T h cells slots) {x y : Int32} (hd : decode bytes pc = .ok (.iadd, 1))  (k : own_Run p e below Q m T q Ls (.int (x + y) :: rest)) (hq : pc + 1 = q := by rfl) : own_Run p e below Q m T pc Ls (.int y :: .int x :: rest) := by
  obtain ⟨⟨hx, hby, -⟩, vm0, locs, X, -⟩ := A
  subst hby hq
  refine own_by (fun t z => ?_) k
  exact XS.iadd X.here hx rfl hd rfl z
theorem own_isub (A : own_At w p l e R s m args below meth c bytes ret own nm mx Z n0 a0 EL sf T h cells slots) {x y : Int32} (hd : decode bytes pc = .ok (.isub, 1))  (k : own_Run p e below Q m T q Ls (.int (x - y) :: rest)) (hq : pc + 1 = q := by rfl) : own_Run p e below Q m T pc Ls (.int y :: .int x :: rest) := by
  obtain ⟨⟨hx, hby, -⟩, vm0, locs, X, -⟩ := A
  subst hby hq
  refine own_by (fun t z => ?_) k
  exact XS.isub X.here hx rfl hd rfl z
theorem own_iand (A : own_At w p l e R s m args below meth c bytes ret own nm mx Z n0 a0 EL sf T h cells slots) {x y : Int32} (hd : decode bytes pc = .ok (.iand, 1))  (k : own_Run p e below Q m T q Ls (.int (x &&& y) :: rest)) (hq : pc + 1 = q := by rfl) : own_Run p e below Q m T pc Ls (.int y :: .int x :: rest) := by
  obtain ⟨⟨hx, hby, -⟩, vm0, locs, X, -⟩ := A
  subst hby hq
  refine own_by (fun t z => ?_) k
  exact XS.iand X.here hx rfl hd rfl z
theorem own_ishl (A : own_At w p l e R s m args below meth c bytes ret own nm mx Z n0 a0 EL sf T h cells slots) {x y : Int32} (hd : decode bytes pc = .ok (.ishl, 1))  (k : own_Run p e below Q m T q Ls (.int (x <<< (y &&& 31)) :: rest)) (hq : pc + 1 = q := by rfl) : own_Run p e below Q m T pc Ls (.int y :: .int x :: rest) := by
  obtain ⟨⟨hx, hby, -⟩, vm0, locs, X, -⟩ := A
  subst hby hq
  refine own_by (fun t z => ?_) k
  exact XS.ishl X.here hx rfl hd rfl z
theorem own_ishr (A : own_At w p l e R s m args below meth c bytes ret own nm mx Z n0 a0 EL sf T h cells slots) {x y : Int32} (hd : decode bytes pc = .ok (.ishr, 1))  (k : own_Run p e below Q m T q Ls (.int (x >>> (y &&& 31)) :: rest)) (hq : pc + 1 = q := by rfl) : own_Run p e below Q m T pc Ls (.int y :: .int x :: rest) := by
  obtain ⟨⟨hx, hby, -⟩, vm0, locs, X, -⟩ := A
  subst hby hq
  refine own_by (fun t z => ?_) k
  exact XS.ishr X.here hx rfl hd rfl z
theorem own_iushr (A : own_At w p l e R s m args below meth c bytes ret own nm mx Z n0 a0 EL sf T h cells slots) {x y : Int32} (hd : decode bytes pc = .ok (.iushr, 1))  (k : own_Run p e below Q m T q Ls (.int ((x.toUInt32 >>> (y &&& 31).toUInt32).toInt32) :: rest)) (hq : pc + 1 = q := by rfl) : own_Run p e below Q m T pc Ls (.int y :: .int x :: rest) := by
  obtain ⟨⟨hx, hby, -⟩, vm0, locs, X, -⟩ := A
  subst hby hq
  refine own_by (fun t z => ?_) k
  exact XS.iushr X.here hx rfl hd rfl z
theorem own_irem (A : own_At w p l e R s m args below meth c bytes ret own nm mx Z n0 a0 EL sf T h cells slots) {x y : Int32} (hd : decode bytes pc = .ok (.irem, 1)) (hy : y ≠ 0) (k : own_Run p e below Q m T q Ls (.int (x % y) :: rest)) (hq : pc + 1 = q := by rfl) : own_Run p e below Q m T pc Ls (.int y :: .int x :: rest) := by
  obtain ⟨⟨hx, hby, -⟩, vm0, locs, X, -⟩ := A
  subst hby hq
  refine own_by (fun t z => ?_) k
  exact iremM X hx rfl hd rfl hy z
theorem own_i2c (A : own_At w p l e R s m args below meth c bytes ret own nm mx Z n0 a0 EL sf T h cells slots) {x : Int32} (hd : decode bytes pc = .ok (.i2c, 1))  (k : own_Run p e below Q m T q Ls (.int (x.toUInt32.toUInt16.toUInt32.toInt32) :: rest)) (hq : pc + 1 = q := by rfl) : own_Run p e below Q m T pc Ls (.int x :: rest) := by
  obtain ⟨⟨hx, hby, -⟩, vm0, locs, X, -⟩ := A
  subst hby hq
  refine own_by (fun t z => ?_) k
  exact XS.i2c X.here hx rfl hd rfl z
theorem own_dup (A : own_At w p l e R s m args below meth c bytes ret own nm mx Z n0 a0 EL sf T h cells slots) {x : Value} (hd : decode bytes pc = .ok (.dup, 1)) (hc : x.category = 1) (k : own_Run p e below Q m T q Ls (x :: x :: rest)) (hq : pc + 1 = q := by rfl) : own_Run p e below Q m T pc Ls (x :: rest) := by
  obtain ⟨⟨hx, hby, -⟩, vm0, locs, X, -⟩ := A
  subst hby hq
  refine own_by (fun t z => ?_) k
  exact XS.dup X.here hx rfl hd rfl hc z
theorem own_pop (A : own_At w p l e R s m args below meth c bytes ret own nm mx Z n0 a0 EL sf T h cells slots) {x : Value} (hd : decode bytes pc = .ok (.pop, 1)) (hc : x.category = 1) (k : own_Run p e below Q m T q Ls rest) (hq : pc + 1 = q := by rfl) : own_Run p e below Q m T pc Ls (x :: rest) := by
  obtain ⟨⟨hx, hby, -⟩, vm0, locs, X, -⟩ := A
  subst hby hq
  refine own_by (fun t z => ?_) k
  exact XS.pop X.here hx rfl hd rfl hc z
theorem own_goto (A : own_At w p l e R s m args below meth c bytes ret own nm mx Z n0 a0 EL sf T h cells slots) {o : Int} (hd : decode bytes pc = .ok (.goto o, 3)) (k : own_Run p e below Q m T q Ls st) (ho : 0 ≤ (pc : Int) + o := by decide) (hq : ((pc : Int) + o).toNat = q := by decide) : own_Run p e below Q m T pc Ls st := by
  obtain ⟨⟨hx, hby, -⟩, vm0, locs, X, -⟩ := A
  subst hby
  refine own_by (fun t z => ?_) k
  exact XS.goto X.here hx rfl (pc0 := pc) rfl hd ho hq z
def own_cp : ClassFile.Cond → Int32 → Int32 → Prop
  | .eq, x, y => x = y
  | .ne, x, y => ¬ x = y
  | .lt, x, y => x < y
  | .ge, x, y => ¬ x < y
  | .gt, x, y => y < x
  | .le, x, y => ¬ y < x
def own_cn : ClassFile.Cond → Int32 → Int32 → Prop
  | .eq, x, y => ¬ x = y
  | .ne, x, y => x = y
  | .lt, x, y => ¬ x < y
  | .ge, x, y => x < y
  | .gt, x, y => ¬ y < x
  | .le, x, y => y < x
theorem own_cpT {cd : ClassFile.Cond} {x y : Int32} (h : own_cp cd x y) : if_icmp.holds cd x y = true := by
  cases cd
  all_goals simp only [own_cp] at h
  · exact (teq h).1
  · exact (feq h).2
  · exact (tlt h).1
  · exact (flt h).2.1
  · exact (tlt h).2.2.1
  · exact (flt h).2.2.2
theorem own_cnF {cd : ClassFile.Cond} {x y : Int32} (h : own_cn cd x y) : if_icmp.holds cd x y = false := by
  cases cd
  all_goals simp only [own_cn] at h
  · exact (feq h).1
  · exact (teq h).2
  · exact (flt h).1
  · exact (tlt h).2.1
  · exact (flt h).2.2.1
  · exact (tlt h).2.2.2
theorem own_ifcT (A : own_At w p l e R s m args below meth c bytes ret own nm mx Z n0 a0 EL sf T h cells slots) {cd : ClassFile.Cond} {x : Int32} {o : Int} (hd : decode bytes pc = .ok (.ifCond cd o, 3)) (hc : own_cp cd x (0 : Int32)) (k : own_Run p e below Q m T q Ls rest) (ho : 0 ≤ (pc : Int) + o := by decide) (hq : ((pc : Int) + o).toNat = q := by decide) : own_Run p e below Q m T pc Ls (.int x :: rest) := by
  obtain ⟨⟨hx, hby, -⟩, vm0, locs, X, -⟩ := A
  subst hby
  refine own_by (fun t z => ?_) k
  exact XS.ifYes X.here hx rfl (pc0 := pc) rfl hd rfl (by rw [if0]; exact own_cpT hc) ho hq z
theorem own_ifcF (A : own_At w p l e R s m args below meth c bytes ret own nm mx Z n0 a0 EL sf T h cells slots) {cd : ClassFile.Cond} {x : Int32} {o : Int} (hd : decode bytes pc = .ok (.ifCond cd o, 3)) (hc : own_cn cd x (0 : Int32)) (k : own_Run p e below Q m T q Ls rest) (hq : pc + 3 = q := by rfl) : own_Run p e below Q m T pc Ls (.int x :: rest) := by
  obtain ⟨⟨hx, hby, -⟩, vm0, locs, X, -⟩ := A
  subst hby hq
  refine own_by (fun t z => ?_) k
  exact XS.ifNo X.here hx rfl hd rfl (by rw [if0]; exact own_cnF hc) z
theorem own_icmpT (A : own_At w p l e R s m args below meth c bytes ret own nm mx Z n0 a0 EL sf T h cells slots) {cd : ClassFile.Cond} {x y : Int32} {o : Int} (hd : decode bytes pc = .ok (.if_icmp cd o, 3)) (hc : own_cp cd x y) (k : own_Run p e below Q m T q Ls rest) (ho : 0 ≤ (pc : Int) + o := by decide) (hq : ((pc : Int) + o).toNat = q := by decide) : own_Run p e below Q m T pc Ls (.int y :: .int x :: rest) := by
  obtain ⟨⟨hx, hby, -⟩, vm0, locs, X, -⟩ := A
  subst hby
  refine own_by (fun t z => ?_) k
  exact XS.icmpYes X.here hx rfl (pc0 := pc) rfl hd rfl (own_cpT hc) ho hq z
theorem own_icmpF (A : own_At w p l e R s m args below meth c bytes ret own nm mx Z n0 a0 EL sf T h cells slots) {cd : ClassFile.Cond} {x y : Int32} {o : Int} (hd : decode bytes pc = .ok (.if_icmp cd o, 3)) (hc : own_cn cd x y) (k : own_Run p e below Q m T q Ls rest) (hq : pc + 3 = q := by rfl) : own_Run p e below Q m T pc Ls (.int y :: .int x :: rest) := by
  obtain ⟨⟨hx, hby, -⟩, vm0, locs, X, -⟩ := A
  subst hby hq
  refine own_by (fun t z => ?_) k
  exact XS.icmpNo X.here hx rfl hd rfl (own_cnF hc) z
theorem own_ifnullF (A : own_At w p l e R s m args below meth c bytes ret own nm mx Z n0 a0 EL sf T h cells slots) {b : Addr} {o : Int} (hd : decode bytes pc = .ok (.ifnull o, 3)) (k : own_Run p e below Q m T q Ls rest) (hq : pc + 3 = q := by rfl) : own_Run p e below Q m T pc Ls (.ref b :: rest) := by
  obtain ⟨⟨hx, hby, -⟩, vm0, locs, X, -⟩ := A
  subst hby hq
  refine own_by (fun t z => ?_) k
  exact XS.ifnullNo X.here hx rfl hd rfl z
theorem own_ifnonnullT (A : own_At w p l e R s m args below meth c bytes ret own nm mx Z n0 a0 EL sf T h cells slots) {b : Addr} {o : Int} (hd : decode bytes pc = .ok (.ifnonnull o, 3)) (k : own_Run p e below Q m T q Ls rest) (ho : 0 ≤ (pc : Int) + o := by decide) (hq : ((pc : Int) + o).toNat = q := by decide) : own_Run p e below Q m T pc Ls (.ref b :: rest) := by
  obtain ⟨⟨hx, hby, -⟩, vm0, locs, X, -⟩ := A
  subst hby
  refine own_by (fun t z => ?_) k
  exact XS.ifnonnullYes X.here hx rfl (pc0 := pc) rfl hd rfl ho hq z
theorem own_getF (A : own_At w p l e R s m args below meth c bytes ret own nm mx Z n0 a0 EL sf T h cells slots) {i : Nat} {R0 O n d host : String} {a : Addr} {v : Value} (wl : (Jvm.Cond.fieldLink own i R0 n d).before a0 Z = true ∨ (Jvm.Cond.fieldLinkNest own i R0 n d host).before a0 Z = true) (via : Via Z R0 O n d) (F : Fld Z h a O n d v) (hd : decode bytes pc = .ok (.getfield i, 3))
    (k : ∀ T', own_At w p l e R s m args below meth c bytes ret own nm mx Z n0 a0 EL sf T' h cells slots → own_Run p e below Q m T' q Ls (v :: rest)) (hq : pc + 3 = q := by rfl) : own_Run p e below Q m T pc Ls (.ref a :: rest) := by
  obtain ⟨⟨hx, hby, r⟩, vm0, locs, X, B, hZ, hown, hT, N, Od, hEL, Ch, Sf⟩ := A
  subst hby hq
  obtain ⟨T', X', e', st'⟩ := getF X hx (s := s.setVm vm0) hZ hown wl via hT F (g := mkF m pc Ls (.ref a :: rest)) rfl rfl hd
  exact own_by st' (k T' ⟨⟨hx, rfl, r⟩, vm0, locs, X', B, hZ, hown, e', N, Od, hEL, Ch, Sf⟩)
theorem own_getS (A : own_At w p l e R s m args below meth c bytes ret own nm mx Z n0 a0 EL sf T h cells slots) {i : Nat} {R0 O n d : String} {v : Value} (wl : (Jvm.Cond.fieldLink own i R0 n d).before a0 Z = true) (via : Via Z R0 O n d) (F : Sta Z Z.heap O n d v) (hd : decode bytes pc = .ok (.getstatic i, 3))
    (k : ∀ T', own_At w p l e R s m args below meth c bytes ret own nm mx Z n0 a0 EL sf T' h cells slots → own_Run p e below Q m T' q Ls (v :: st)) (hq : pc + 3 = q := by rfl) : own_Run p e below Q m T pc Ls st := by
  obtain ⟨⟨hx, hby, r⟩, vm0, locs, X, B, hZ, hown, hT, N, Od, hEL, Ch, Sf⟩ := A
  subst hby hq
  obtain ⟨T', X', e', st'⟩ := getS X hx (s := s.setVm vm0) (host := "") hZ hown wl via hT (F.ext Od.2) (g := mkF m pc Ls st) rfl hd
  exact own_by st' (k T' ⟨⟨hx, rfl, r⟩, vm0, locs, X', B, hZ, hown, e', N, Od, hEL, Ch, Sf⟩)
theorem own_putF (A : own_At w p l e R s m args below meth c bytes ret own nm mx Z n0 a0 EL sf T h cells slots) {i kk : Nat} {R0 O n d host C : String} {ty : FieldType} {a : Addr} {v old : Value} (wl : (Jvm.Cond.fieldLink own i R0 n d).before a0 Z = true ∨ (Jvm.Cond.fieldLinkNest own i R0 n d host).before a0 Z = true) (via : Via Z R0 O n d) (F : Fld Z h a O n d old) (E : Exa Z h a C) (L : (Jvm.Cond.lays C O n d).before a0 Z = true ∨ ((Jvm.Cond.laysFinal C O n d).before a0 Z = true ∧ own = O ∧ nm = "<init>")) (wi : (Jvm.Cond.instantiable C kk).before a0 Z = true)
    (hty : parseFieldDescriptor d = some ty) (hn : narrow ty v = v) (hf : fits ty v = true) (ha : n0 ≤ a) (hwo : own_Wok Z EL sf h a) (hd : decode bytes pc = .ok (.putfield i, 3)) (k : ∀ T' h', own_At w p l e R s m args below meth c bytes ret own nm mx Z n0 a0 EL sf T' h' cells slots → Wr h h' a (RoadKit.slotOf Z O n d) v → own_Run p e below Q m T' q Ls rest) (hq : pc + 3 = q := by rfl) : own_Run p e below Q m T pc Ls (v :: .ref a :: rest) := by
  obtain ⟨⟨hx, hby, r1, r2, r3, r4⟩, vm0, locs, X, B, hZ, hown, hT, N, Od, hEL, Ch, Sf⟩ := A
  subst hby hq
  obtain ⟨T', h', X', e', W, st'⟩ := putF X hx (s := s.setVm vm0) hZ hown wl via hT F E (L.imp id fun z => ⟨z.1, z.2.1, r3.trans z.2.2⟩) wi hty hn hf (g := mkF m pc Ls (v :: .ref a :: rest)) rfl rfl hd
  exact own_by st' (k T' h' ⟨⟨hx, rfl, r1, r2, r3, r4⟩, vm0, _, X', B.le (Nat.le_of_eq W.size.symm), hZ, hown, e', Fr.snoc X' N ha, Od.wr W ha, hEL, Ch.trans (CHr.wr W (hwo.safe hZ Sf) Ch.1), Sf.wr Ch.1 W (hwo.safe hZ Sf)⟩ W)
theorem own_newO (A : own_At w p l e R s m args below meth c bytes ret own nm mx Z n0 a0 EL sf T h cells slots) {i n : Nat} {C : String} (w1 : (Jvm.Cond.classLink own i C).before a0 Z = true) (wi : (Jvm.Cond.instantiable C n).before a0 Z = true) (wz : (Jvm.Cond.initialized C).before a0 Z = true) (hd : decode bytes pc = .ok (.new i, 3)) (hc : cells + 1 ≤ R.cells) (hl : slots + n ≤ R.slots)
    (k : ∀ T' h' a, h.size = a → n0 ≤ a → own_At w p l e R s m args below meth c bytes ret own nm mx Z n0 a0 EL (a :: sf) T' h' (cells + 1) (slots + n) → Ext h h' → Exa Z h' a C → (∀ {O nm d : String} {ty : FieldType}, Laid Z a0 C O nm d → parseFieldDescriptor d = some ty → Fld Z h' a O nm d (defaultValue ty)) → own_Run p e below Q m T' q Ls (.ref a :: st)) (hq : pc + 3 = q := by rfl) : own_Run p e below Q m T pc Ls st := by
  have g0 := A.fr
  obtain ⟨⟨hx, hby, r⟩, vm0, locs, X, B, hZ, hown, hT, N, Od, hEL, Ch, Sf⟩ := A
  subst hby hq
  obtain ⟨T', h', X', e', E, Ex, D, -, st'⟩ := newO X hx (s := s.setVm vm0) hZ hown w1 wi wz hT (g := mkF m pc Ls st) rfl hd hc hl
  exact own_by st' (k T' h' h.size rfl g0 ⟨⟨hx, rfl, r⟩, vm0, _, X', B.le E.1, hZ, hown, e', N, Od.ext E, hEL, Ch.trans (CHr.ext E Ch.1), Sf.new Ch.1 E Ex.lt⟩ E Ex D)
theorem own_newP (A : own_At w p l e R s m args below meth c bytes ret own nm mx Z n0 a0 EL sf T h cells slots) {aty : ArrayType} (w1 : (Jvm.Cond.arrayClass (newarray.typeOf aty)).before a0 Z = true) (hd : decode bytes pc = .ok (.newarray aty, 2)) {n : Int32} (cap : Nat) (hn : ¬ n < 0) (hcap : n.toNatClampNeg ≤ cap) (hb : cap * 8 ≤ 536870912) (hc : cells + 1 ≤ R.cells) (hl : slots + cap ≤ R.slots)
    (k : ∀ T' h' a cA, h.size = a → n0 ≤ a → own_At w p l e R s m args below meth c bytes ret own nm mx Z n0 a0 EL (a :: sf) T' h' (cells + 1) (slots + cap) → Ext h h' → Arr Z h' a (newA cA (newarray.typeOf aty) n) (newarray.typeOf aty) → own_Run p e below Q m T' q Ls (.ref a :: rest)) (hq : pc + 2 = q := by rfl) : own_Run p e below Q m T pc Ls (.int n :: rest) := by
  have g0 := A.fr
  obtain ⟨⟨hx, hby, r⟩, vm0, locs, X, B, hZ, hown, hT, N, Od, hEL, Ch, Sf⟩ := A
  subst hby hq
  obtain ⟨T', h', cA, X', e', E, Ar, st'⟩ := newP X hx (s := s.setVm vm0) hZ w1 hT (g := mkF m pc Ls (.int n :: rest)) rfl hd rfl hn hcap hb hc hl
  exact own_by st' (k T' h' h.size cA rfl g0 ⟨⟨hx, rfl, r⟩, vm0, _, X', B.le E.1, hZ, hown, e', N, Od.ext E, hEL, Ch.trans (CHr.ext E Ch.1), Sf.new Ch.1 E Ar.lt⟩ E Ar)
theorem own_initO (A : own_At w p l e R s m args below meth c bytes ret own nm mx Z n0 a0 EL sf T h cells slots) {i : Nat} {a : Addr} (w1 : (Jvm.Cond.methodLink own i Lib.objectInit).before a0 Z = true) (w2 : (Jvm.Cond.instanceMethod Lib.objectInit).before a0 Z = true) (w3 : (Jvm.Cond.code Lib.objectInit ⟨#[0xb1]⟩ 1 none).before a0 Z = true) (hd : decode bytes pc = .ok (.invokespecial i, 3)) (hsz : Ls.size = mx) {W : Nat} (hf : 1 ≤ R.frames) (hW : (rest.map fun v => v.category).sum ≤ W) (hl : W + 12 ≤ R.locals)
    (k : ∀ T', own_At w p l e R s m args below meth c bytes ret own nm mx Z n0 a0 EL sf T' h cells slots → own_Run p e below Q m T' q Ls rest) (hq : pc + 3 = q := by rfl) : own_Run p e below Q m T pc Ls (.ref a :: rest) := by
  obtain ⟨⟨hx, hby, r1, r2, r3, r4⟩, vm0, locs, X, B, hZ, hown, hT, N, Od, hEL, Ch, Sf⟩ := A
  subst hby hq
  obtain ⟨T', X', e', st'⟩ := initO X hx (s := s.setVm vm0) hZ hown w1 w2 w3 hT (g := mkF m pc Ls (.ref a :: rest)) rfl (hsz.trans r4.symm) rfl hd hf (W := W) (by show 2 * 0 + _ ≤ _; rw [Nat.mul_zero, Nat.zero_add]; exact hW) hl
  exact own_by st' (k T' ⟨⟨hx, rfl, r1, r2, r3, r4⟩, vm0, _, X', B, hZ, hown, e', N, Od, hEL, Ch, Sf⟩)
theorem own_stC (A : own_At w p l e R s m args below meth c bytes ret own nm mx Z n0 a0 EL sf T h cells slots) {a : Addr} {cl : Cell} {j x : Int32} (Ar : Arr Z h a cl .char) (hj : ¬ (j < 0 ∨ cl.slots.size ≤ j.toNatClampNeg)) (ha : n0 ≤ a) (hwo : own_Wok Z EL sf h a) (hd : decode bytes pc = .ok (.castore, 1)) (k : ∀ T' h', own_At w p l e R s m args below meth c bytes ret own nm mx Z n0 a0 EL sf T' h' cells slots → Wr h h' a j.toNatClampNeg (.int (nar .char x)) → own_Run p e below Q m T' q Ls rest) (hq : pc + 1 = q := by rfl) : own_Run p e below Q m T pc Ls (.int x :: .int j :: .ref a :: rest) := by
  obtain ⟨⟨hx, hby, r⟩, vm0, locs, X, B, hZ, hown, hT, N, Od, hEL, Ch, Sf⟩ := A
  subst hby hq
  obtain ⟨T', h', X', e', W, st'⟩ := RoadKit.stC X hx (s := s.setVm vm0) hZ hT Ar hj (g := mkF m pc Ls (.int x :: .int j :: .ref a :: rest)) rfl rfl hd
  exact own_by st' (k T' h' ⟨⟨hx, rfl, r⟩, vm0, _, X', B.le (Nat.le_of_eq W.size.symm), hZ, hown, e', Fr.snoc X' N ha, Od.wr W ha, hEL, Ch.trans (CHr.wr W (hwo.safe hZ Sf) Ch.1), Sf.wr Ch.1 W (hwo.safe hZ Sf)⟩ W)
theorem own_arrlen (A : own_At w p l e R s m args below meth c bytes ret own nm mx Z n0 a0 EL sf T h cells slots) {a : Addr} {cl : Cell} {ty : FieldType} (Ar : Arr Z h a cl ty) (hd : decode bytes pc = .ok (.arraylength, 1)) (k : own_Run p e below Q m T q Ls (.int cl.slots.size.toInt32 :: rest)) (hq : pc + 1 = q := by rfl) : own_Run p e below Q m T pc Ls (.ref a :: rest) := by
  obtain ⟨⟨hx, hby, r⟩, vm0, locs, X, B, hZ, hown, hT, N, Od, hEL, Ch, Sf⟩ := A
  subst hby hq hT
  exact own_by (fun t z => X.arraylength hx Ar.1 (State.isArrayOf_alike (T := s.setVm vm0) hZ.alike Ar.2.1) (g := mkF m pc Ls (.ref a :: rest)) rfl rfl hd t z) k
/-- a callee that a library or own law pays, narrow (it interns nothing; ws: what it may write) -/
def own_Pays (l : Launch) (R : Room) (p : Program) (e : Env) (below : List Frame) (s : State) (args : Array Value) (Z : State) (n0 : Nat) (EL : List (String × Nat)) (ws : List Addr) (y : MethodName) (len W k n : Nat) (as' : Array Value) (h : Heap) (Qc : Option Value → Heap → Prop) : Prop :=
  ∀ vm0, Z.Warmed39 vm0 → Back l R p e below (s.setVm vm0) args y len W (fun A a => a = as' ∧ A.U.heap = h ∧ A.cells + k ≤ R.cells ∧ A.slots + n ≤ R.slots)
    (fun A _ v B => ∃ L, (Qc v B.U.heap ∧ Fr n0 L ∧ Old Z n0 B.U.heap ∧ h.size ≤ B.U.heap.size ∧ (EL = [] ∨ Keep h B.U.heap ws)) ∧ B.locs = A.locs ++ L ∧ B.cells = A.cells + k ∧ B.slots = A.slots + n)
theorem own_pay {y : MethodName} {bytes : ByteArray} {mx len W : Nat} {ret : Option FieldType} {rm : Room} {as' : Array Value} {Qc : Option Value → Heap → Prop} (M : own_Met false l Z n0 [] [] y bytes mx ret [] rm as' h Qc) (wc : (Jvm.Cond.code y bytes mx ret).before a0 Z = true) (wz : (Jvm.Cond.initialized y.cls).before a0 Z = true) (hf : rm.frames + 1 ≤ R.frames) (hl : W + (mx + 11) + rm.locals ≤ R.locals) :
    own_Pays l R p e below s args Z n0 [] [] y len W rm.cells rm.slots as' h Qc := fun vm0 hZ => by
  have M' : MetFree l y (head1 [Jvm.Cond.code y bytes mx ret] rm) (fun a U => a = as' ∧ Z.Warmed39 U.vm ∧ U.heap = h) (fun _ _ _ _ _ => True) (fun _ U o U' => ∃ v L, o = .returned v ∧ (fun v h' L => Qc v h' ∧ Fr n0 L ∧ Old Z n0 h' ∧ h.size ≤ h'.size ∧ (([] : List (String × Nat)) = [] ∨ Keep h h' [])) v U'.heap L ∧ FrameEnd U o U' L rm.cells rm.slots) :=
    MetFree.mono M (fun _ U z => ⟨z.1, z.2.1, z.2.2, (own_ch0 (vm := U.vm) (h := h) (Nat.le_refl _)).1, fun x hx => nomatch hx⟩) (fun _ _ _ _ _ z => z) (fun a U o U' hp ⟨v, L, h1, ⟨h2, h3, h4, h5⟩, _, h6⟩ => ⟨v, L, h1, ⟨h2, h3, h4, hp.2.2 ▸ h5, Or.inl rfl⟩, h6⟩)
  exact backOf (s := s.setVm vm0) (Q := fun v h' L => Qc v h' ∧ Fr n0 L ∧ Old Z n0 h' ∧ h.size ≤ h'.size ∧ (([] : List (String × Nat)) = [] ∨ Keep h h' [])) M' hZ wc wz hf hl
/-- a callee that may intern; sf': what it asks to be made and no literal's -/
def own_PaysW (l : Launch) (R : Room) (p : Program) (e : Env) (below : List Frame) (s : State) (args : Array Value) (Z : State) (n0 : Nat) (a0 : Array Value) (EL : List (String × Nat)) (ws : List Addr) (y : MethodName) (len W k n : Nat) (as' : Array Value) (h : Heap) (Qc : Option Value → Heap → Prop) : Prop :=
  ∀ vm0, EW Z a0 EL → Z.Warmed39 vm0 → CHv Z EL vm0 h → own_Sf Z EL vm0 h ws → BackS l R p e below (s.setVm vm0) args y len W (fun A a => a = as' ∧ A.U.heap = h ∧ A.cells + k ≤ R.cells ∧ A.slots + n ≤ R.slots)
    (fun A _ v B => ∃ L, (Qc v B.U.heap ∧ Fr n0 L ∧ Old Z n0 B.U.heap ∧ CHr Z EL vm0 h B.U.vm B.U.heap) ∧ B.locs = A.locs ++ L ∧ B.cells = A.cells + k ∧ B.slots = A.slots + n)
theorem own_payW {ws : List Addr} {y : MethodName} {bytes : ByteArray} {mx len W : Nat} {ret : Option FieldType} {rm : Room} {as' : Array Value} {Qc : Option Value → Heap → Prop} (M : own_Met true l Z n0 EL ws y bytes mx ret [] rm as' h Qc) (wc : (Jvm.Cond.code y bytes mx ret).before a0 Z = true) (wz : (Jvm.Cond.initialized y.cls).before a0 Z = true) (hf : rm.frames + 1 ≤ R.frames) (hl : W + (mx + 11) + rm.locals ≤ R.locals) :
    own_PaysW l R p e below s args Z n0 a0 EL ws y len W rm.cells rm.slots as' h Qc := fun vm0 hEL hZ H S => by
  refine BackS.of_freeW (bytes := bytes) (maxL := mx) (ret := ret) (E := fun _ first o t L k n => k = rm.cells ∧ n = rm.slots ∧ (∃ v, o = .returned v ∧ Qc v t.heap ∧ Fr n0 L ∧ Old Z n0 t.heap) ∧ CHr Z EL first.vm first.heap t.vm t.heap) M hf hl ?_ ?_ (fun _ _ _ _ _ _ _ _ _ => trivial) ?_ ?_
  · intro m meth c A a Y hp
    have hU : Z.Warmed39 A.U.vm := wtrans (s := s.setVm vm0) hZ Y.warmed
    exact ⟨by show (Cond.and _ .tt).before a A.U = true; rw [Cond.before_and, mv hU wc]; rfl, mv hU wc, mv hU wz, hp.2.2.1, hp.2.2.2⟩
  · intro m meth c A a g mk Y hp
    have C := CHv.at Y hZ hEL H
    exact ⟨hp.1, wtrans (s := s.setVm vm0) hZ Y.warmed, hp.2.1, C.1, fun x hx => ⟨C.safe (S x hx).2 (S x hx).1, (S x hx).2⟩⟩
  · rintro a first o t ⟨v, L, h1, ⟨h2, h3, h4, h5⟩, h6, h7⟩
    exact ⟨L, _, _, h7, rfl, rfl, ⟨v, h1, h2, h3, h4⟩, h6⟩
  · rintro m meth c A a g mk v t L k n Y hp - - ⟨e1, e2, ⟨v', e3, e4, e5, e6⟩, e7⟩
    cases e3
    subst e1 e2
    refine ⟨L, ⟨e4, e5, e6, (CHv.at Y hZ hEL H).trans ?_⟩, rfl, rfl, rfl⟩
    rw [← hp.2.1]
    exact e7
theorem own_static (A : own_At w p l e R s m args below meth c bytes ret own nm mx Z n0 a0 EL sf T h cells slots) {i mxy : Nat} {y : MethodName} {by' : ByteArray} {rt : Option FieldType} {k n W : Nat} {argsL : List Value} {Qc : Option Value → Heap → Prop} (w1 : (Jvm.Cond.methodLink own i y).before a0 Z = true) (w2 : (Jvm.Cond.static y).before a0 Z = true) (w3 : (Jvm.Cond.initialized y.cls).before a0 Z = true) (w4 : (Jvm.Cond.code y by' mxy rt).before a0 Z = true) (hy : y.cls ≠ "java/lang/invoke/MethodHandle" ∧ y.cls ≠ "java/lang/invoke/VarHandle") {ws : List Addr} (M : own_Pays l R p e below s args Z n0 EL ws y 3 W k n argsL.toArray h Qc) (hws : ∀ x ∈ ws, x ∈ sf) (hW : (rest.map fun v => v.category).sum ≤ W)  {sig : MethodDescriptor} (hds : parseMethodDescriptor y.desc = some sig) (hlen : argsL.length = sig.parameters.length) (hst : st = argsL.reverse ++ rest) (hsz : Ls.size = mx) (hd : decode bytes pc = .ok (.invokestatic i, 3)) (hc : cells + k ≤ R.cells) (hs : slots + n ≤ R.slots)
    (kk : ∀ v T' h', own_At w p l e R s m args below meth c bytes ret own nm mx Z n0 a0 EL sf T' h' (cells + k) (slots + n) → Qc v h' → own_Run p e below Q m T' q Ls (v.toList ++ rest)) (hq : pc + 3 = q := by rfl) : own_Run p e below Q m T pc Ls st := by
  obtain ⟨⟨hx, hby, r1, r2, r3, r4⟩, vm0, locs, X, B, hZ, hown, hT, N, Od, hEL, Ch, Sf⟩ := A
  subst hby hq hst hT
  obtain ⟨v, vm1, ⟨T', L', k', n'⟩, -, X', ⟨L, ⟨hQ, N', O', gr, hK⟩, l1, l2, l3⟩, st'⟩ := Jvm.LawKit.callS X hx hown (mvT (s := s.setVm vm0) hZ w1) (mvT (s := s.setVm vm0) hZ w2) (mvT (s := s.setVm vm0) hZ w3) (mvT (s := s.setVm vm0) hZ w4) hy (M vm0 hZ) (g := mkF m pc Ls (argsL.reverse ++ rest)) rfl (hsz.trans r4.symm)  (argsL := argsL) (rest := rest) (lenOf (ps := sig.parameters) (r := sig.returnType) hds hlen) rfl (by show 2 * 0 + _ ≤ _; rw [Nat.mul_zero, Nat.zero_add]; exact hW) hd (fun _ _ => ⟨rfl, rfl, hc, hs⟩)
  dsimp only [Pt.U, Pt.locs, Pt.cells, Pt.slots] at X' l1 l2 l3 st' hQ O' gr hK
  subst l1 l2 l3
  have C : CHr Z EL vm0 T.heap vm0 T'.heap := by
    rcases hK with rfl | hK
    · exact own_ch0 gr
    · exact CHr.keep hK (fun x hx => (Sf x (hws x hx)).1) Ch.1
  exact own_by (st') (kk v T' T'.heap ⟨⟨hx, rfl, r1, r2, r3, r4⟩, vm0, _, X', B.le gr, hZ, hown, rfl, N.app N', O', hEL, Ch.trans C, Sf.ch C⟩ hQ)
theorem own_staticW (A : own_At true p l e R s m args below meth c bytes ret own nm mx Z n0 a0 EL sf T h cells slots) {i mxy : Nat} {y : MethodName} {by' : ByteArray} {rt : Option FieldType} {k n W : Nat} {argsL : List Value} {Qc : Option Value → Heap → Prop} (w1 : (Jvm.Cond.methodLink own i y).before a0 Z = true) (w2 : (Jvm.Cond.static y).before a0 Z = true) (w3 : (Jvm.Cond.initialized y.cls).before a0 Z = true) (w4 : (Jvm.Cond.code y by' mxy rt).before a0 Z = true) (hy : y.cls ≠ "java/lang/invoke/MethodHandle" ∧ y.cls ≠ "java/lang/invoke/VarHandle") {ws : List Addr} (M : own_PaysW l R p e below s args Z n0 a0 EL ws y 3 W k n argsL.toArray h Qc) (hws : ∀ x ∈ ws, x ∈ sf) (hW : (rest.map fun v => v.category).sum ≤ W)  {sig : MethodDescriptor} (hds : parseMethodDescriptor y.desc = some sig) (hlen : argsL.length = sig.parameters.length) (hst : st = argsL.reverse ++ rest) (hsz : Ls.size = mx) (hd : decode bytes pc = .ok (.invokestatic i, 3)) (hc : cells + k ≤ R.cells) (hs : slots + n ≤ R.slots)
    (kk : ∀ v T' h', own_At true p l e R s m args below meth c bytes ret own nm mx Z n0 a0 EL sf T' h' (cells + k) (slots + n) → Qc v h' → own_Run p e below Q m T' q Ls (v.toList ++ rest)) (hq : pc + 3 = q := by rfl) : own_Run p e below Q m T pc Ls st := by
  obtain ⟨⟨hx, hby, r1, r2, r3, r4⟩, vm0, locs, X, B, hZ, hown, hT, N, Od, hEL, Ch, Sf⟩ := A
  subst hby hq hst hT
  obtain ⟨v, vm1, ⟨T', L', k', n'⟩, -, X', hS, gr, ⟨L, ⟨hQ, N', O', C⟩, l1, l2, l3⟩, st'⟩ := callSS X hx hown (mvT (s := s.setVm vm0) hZ w1) (mvT (s := s.setVm vm0) hZ w2) (mvT (s := s.setVm vm0) hZ w3) (mvT (s := s.setVm vm0) hZ w4) hy (M vm0 hEL hZ Ch.1 (fun x hx => Sf x (hws x hx))) (g := mkF m pc Ls (argsL.reverse ++ rest)) rfl (hsz.trans r4.symm)  (argsL := argsL) (rest := rest) (lenOf (ps := sig.parameters) (r := sig.returnType) hds hlen) rfl (by show 2 * 0 + _ ≤ _; rw [Nat.mul_zero, Nat.zero_add]; exact hW) hd (fun _ _ => ⟨rfl, rfl, hc, hs⟩)
  dsimp only [Pt.U, Pt.locs, Pt.cells, Pt.slots] at X' l1 l2 l3 st' hQ O' hS gr C
  subst l1 l2 l3
  have hZ' : Z.Warmed39 T'.vm := State.Warmed39.trans (t := s.setVm vm0) hZ hS.1
  have hown' : T'.vm.findClass own = some m.cls := by rw [hS.1.alike.findClass]; exact hown
  obtain ⟨k0, B1, B2⟩ : ∃ k0, s.Since vm0 k0 ∧ k0 ≤ T.heap.size := by
    rcases B with ⟨B, -⟩ | ⟨-, B⟩
    · cases B
    · exact B
  exact own_by (fun _ z => st'.trans z) (kk v T' T'.heap ⟨⟨hx, rfl, r1, r2, r3, r4⟩, T'.vm, _, X', Or.inr ⟨rfl, _, B1.trans hS (Nat.le_trans B2 gr), Nat.le_refl _⟩, hZ', hown', rfl, N.app N', O', hEL, Ch.trans C, Sf.ch C⟩ hQ)
theorem own_special (A : own_At w p l e R s m args below meth c bytes ret own nm mx Z n0 a0 EL sf T h cells slots) {i mxy : Nat} {y : MethodName} {by' : ByteArray} {a : Addr} {k n W : Nat} {argsL : List Value} {Qc : Option Value → Heap → Prop} (hy1 : y.name = "<init>") (w1 : (Jvm.Cond.methodLink own i y).before a0 Z = true) (w2 : (Jvm.Cond.instanceMethod y).before a0 Z = true) (w3 : (Jvm.Cond.code y by' mxy none).before a0 Z = true) (hy : y.cls ≠ "java/lang/invoke/MethodHandle" ∧ y.cls ≠ "java/lang/invoke/VarHandle") {ws : List Addr} (M : own_Pays l R p e below s args Z n0 EL ws y 3 W k n (.ref a :: argsL).toArray h Qc) (hws : ∀ x ∈ ws, x ∈ sf) (hW : (rest.map fun v => v.category).sum ≤ W)  {sig : MethodDescriptor} (hds : parseMethodDescriptor y.desc = some sig) (hlen : argsL.length = sig.parameters.length) (hst : st = argsL.reverse ++ .ref a :: rest) (hsz : Ls.size = mx) (hd : decode bytes pc = .ok (.invokespecial i, 3)) (hc : cells + k ≤ R.cells) (hs : slots + n ≤ R.slots)
    (kk : ∀ v T' h', own_At w p l e R s m args below meth c bytes ret own nm mx Z n0 a0 EL sf T' h' (cells + k) (slots + n) → Qc v h' → own_Run p e below Q m T' q Ls (v.toList ++ rest)) (hq : pc + 3 = q := by rfl) : own_Run p e below Q m T pc Ls st := by
  obtain ⟨⟨hx, hby, r1, r2, r3, r4⟩, vm0, locs, X, B, hZ, hown, hT, N, Od, hEL, Ch, Sf⟩ := A
  subst hby hq hst hT
  obtain ⟨v, vm1, ⟨T', L', k', n'⟩, -, X', ⟨L, ⟨hQ, N', O', gr, hK⟩, l1, l2, l3⟩, st'⟩ := X.specialBack hx hy1 hown (mvT (s := s.setVm vm0) hZ w1) (mvT (s := s.setVm vm0) hZ w2) (mvT (s := s.setVm vm0) hZ w3) hy (M vm0 hZ) (g := mkF m pc Ls (argsL.reverse ++ .ref a :: rest)) rfl (hsz.trans r4.symm) (Steps.refl _) (a := a) (argsL := argsL) (rest := rest) (lenOf (ps := sig.parameters) (r := sig.returnType) hds hlen) rfl (by show 2 * 0 + _ ≤ _; rw [Nat.mul_zero, Nat.zero_add]; exact hW) hd (fun _ _ => ⟨rfl, rfl, hc, hs⟩)
  dsimp only [Pt.U, Pt.locs, Pt.cells, Pt.slots] at X' l1 l2 l3 st' hQ O' gr hK
  subst l1 l2 l3
  have C : CHr Z EL vm0 T.heap vm0 T'.heap := by
    rcases hK with rfl | hK
    · exact own_ch0 gr
    · exact CHr.keep hK (fun x hx => (Sf x (hws x hx)).1) Ch.1
  exact own_by (fun _ z => st'.trans z) (kk v T' T'.heap ⟨⟨hx, rfl, r1, r2, r3, r4⟩, vm0, _, X', B.le gr, hZ, hown, rfl, N.app N', O', hEL, Ch.trans C, Sf.ch C⟩ hQ)
theorem own_specialW (A : own_At true p l e R s m args below meth c bytes ret own nm mx Z n0 a0 EL sf T h cells slots) {i mxy : Nat} {y : MethodName} {by' : ByteArray} {a : Addr} {k n W : Nat} {argsL : List Value} {Qc : Option Value → Heap → Prop} (hy1 : y.name = "<init>") (w1 : (Jvm.Cond.methodLink own i y).before a0 Z = true) (w2 : (Jvm.Cond.instanceMethod y).before a0 Z = true) (w3 : (Jvm.Cond.code y by' mxy none).before a0 Z = true) (hy : y.cls ≠ "java/lang/invoke/MethodHandle" ∧ y.cls ≠ "java/lang/invoke/VarHandle") {ws : List Addr} (M : own_PaysW l R p e below s args Z n0 a0 EL ws y 3 W k n (.ref a :: argsL).toArray h Qc) (hws : ∀ x ∈ ws, x ∈ sf) (hW : (rest.map fun v => v.category).sum ≤ W)  {sig : MethodDescriptor} (hds : parseMethodDescriptor y.desc = some sig) (hlen : argsL.length = sig.parameters.length) (hst : st = argsL.reverse ++ .ref a :: rest) (hsz : Ls.size = mx) (hd : decode bytes pc = .ok (.invokespecial i, 3)) (hc : cells + k ≤ R.cells) (hs : slots + n ≤ R.slots)
    (kk : ∀ v T' h', own_At true p l e R s m args below meth c bytes ret own nm mx Z n0 a0 EL sf T' h' (cells + k) (slots + n) → Qc v h' → own_Run p e below Q m T' q Ls (v.toList ++ rest)) (hq : pc + 3 = q := by rfl) : own_Run p e below Q m T pc Ls st := by
  obtain ⟨⟨hx, hby, r1, r2, r3, r4⟩, vm0, locs, X, B, hZ, hown, hT, N, Od, hEL, Ch, Sf⟩ := A
  subst hby hq hst hT
  obtain ⟨v, vm1, ⟨T', L', k', n'⟩, -, X', hS, gr, ⟨L, ⟨hQ, N', O', C⟩, l1, l2, l3⟩, st'⟩ := X.specialBackS hx hy1 hown (mvT (s := s.setVm vm0) hZ w1) (mvT (s := s.setVm vm0) hZ w2) (mvT (s := s.setVm vm0) hZ w3) hy (M vm0 hEL hZ Ch.1 (fun x hx => Sf x (hws x hx))) (g := mkF m pc Ls (argsL.reverse ++ .ref a :: rest)) rfl (hsz.trans r4.symm) (Steps.refl _) (a := a) (argsL := argsL) (rest := rest) (lenOf (ps := sig.parameters) (r := sig.returnType) hds hlen) rfl (by show 2 * 0 + _ ≤ _; rw [Nat.mul_zero, Nat.zero_add]; exact hW) hd (fun _ _ => ⟨rfl, rfl, hc, hs⟩)
  dsimp only [Pt.U, Pt.locs, Pt.cells, Pt.slots] at X' l1 l2 l3 st' hQ O' hS gr C
  subst l1 l2 l3
  have hZ' : Z.Warmed39 T'.vm := State.Warmed39.trans (t := s.setVm vm0) hZ hS.1
  have hown' : T'.vm.findClass own = some m.cls := by rw [hS.1.alike.findClass]; exact hown
  obtain ⟨k0, B1, B2⟩ : ∃ k0, s.Since vm0 k0 ∧ k0 ≤ T.heap.size := by
    rcases B with ⟨B, -⟩ | ⟨-, B⟩
    · cases B
    · exact B
  exact own_by (fun _ z => st'.trans z) (kk v T' T'.heap ⟨⟨hx, rfl, r1, r2, r3, r4⟩, T'.vm, _, X', Or.inr ⟨rfl, _, B1.trans hS (Nat.le_trans B2 gr), Nat.le_refl _⟩, hZ', hown', rfl, N.app N', O', hEL, Ch.trans C, Sf.ch C⟩ hQ)
theorem own_virtual (A : own_At w p l e R s m args below meth c bytes ret own nm mx Z n0 a0 EL sf T h cells slots) {i : Nat} {y : MethodName} {C : String} {a : Addr} {k n W : Nat} {argsL : List Value} {Qc : Option Value → Heap → Prop} (w1 : (Jvm.Cond.methodLink own i y).before a0 Z = true) (w2 : (Jvm.Cond.declares y).before a0 Z = true) (w3 : (Jvm.Cond.selects C y y).before a0 Z = true) (w4 : (Jvm.Cond.instanceMethod y).before a0 Z = true) (hy : y.cls ≠ "java/lang/invoke/MethodHandle" ∧ y.cls ≠ "java/lang/invoke/VarHandle") {ws : List Addr} (M : own_Pays l R p e below s args Z n0 EL ws y 3 W k n (.ref a :: argsL).toArray h Qc) (hws : ∀ x ∈ ws, x ∈ sf) (hW : (rest.map fun v => v.category).sum ≤ W) (E : Exa Z h a C) {sig : MethodDescriptor} (hds : parseMethodDescriptor y.desc = some sig) (hlen : argsL.length = sig.parameters.length) (hst : st = argsL.reverse ++ .ref a :: rest) (hsz : Ls.size = mx) (hd : decode bytes pc = .ok (.invokevirtual i, 3)) (hc : cells + k ≤ R.cells) (hs : slots + n ≤ R.slots)
    (kk : ∀ v T' h', own_At w p l e R s m args below meth c bytes ret own nm mx Z n0 a0 EL sf T' h' (cells + k) (slots + n) → Qc v h' → own_Run p e below Q m T' q Ls (v.toList ++ rest)) (hq : pc + 3 = q := by rfl) : own_Run p e below Q m T pc Ls st := by
  obtain ⟨⟨hx, hby, r1, r2, r3, r4⟩, vm0, locs, X, B, hZ, hown, hT, N, Od, hEL, Ch, Sf⟩ := A
  subst hby hq hst hT
  obtain ⟨cq, kq, qa, qb, qc⟩ := isOf (s := s.setVm vm0) (T := T) hZ rfl E
  obtain ⟨v, vm1, ⟨T', L', k', n'⟩, -, X', ⟨L, ⟨hQ, N', O', gr, hK⟩, l1, l2, l3⟩, st'⟩ := X.virtualBack hx hown (mvT (s := s.setVm vm0) hZ w1) (mvT (s := s.setVm vm0) hZ w2) (notFace_of_selects (args := #[]) (mvT (s := s.setVm vm0) hZ w3)) (mvT (s := s.setVm vm0) hZ w3) (mvT (s := s.setVm vm0) hZ w4) hy (M vm0 hZ) qa qc (g := mkF m pc Ls (argsL.reverse ++ .ref a :: rest)) rfl (hsz.trans r4.symm) (Steps.refl _) (argsL := argsL) (rest := rest) (lenOf (ps := sig.parameters) (r := sig.returnType) hds hlen) rfl (by show 2 * 0 + _ ≤ _; rw [Nat.mul_zero, Nat.zero_add]; exact hW) hd (fun _ _ => ⟨rfl, rfl, hc, hs⟩)
  dsimp only [Pt.U, Pt.locs, Pt.cells, Pt.slots] at X' l1 l2 l3 st' hQ O' gr hK
  subst l1 l2 l3
  have C : CHr Z EL vm0 T.heap vm0 T'.heap := by
    rcases hK with rfl | hK
    · exact own_ch0 gr
    · exact CHr.keep hK (fun x hx => (Sf x (hws x hx)).1) Ch.1
  exact own_by (fun _ z => st'.trans z) (kk v T' T'.heap ⟨⟨hx, rfl, r1, r2, r3, r4⟩, vm0, _, X', B.le gr, hZ, hown, rfl, N.app N', O', hEL, Ch.trans C, Sf.ch C⟩ hQ)
theorem own_virtualW (A : own_At true p l e R s m args below meth c bytes ret own nm mx Z n0 a0 EL sf T h cells slots) {i : Nat} {y : MethodName} {C : String} {a : Addr} {k n W : Nat} {argsL : List Value} {Qc : Option Value → Heap → Prop} (w1 : (Jvm.Cond.methodLink own i y).before a0 Z = true) (w2 : (Jvm.Cond.declares y).before a0 Z = true) (w3 : (Jvm.Cond.selects C y y).before a0 Z = true) (w4 : (Jvm.Cond.instanceMethod y).before a0 Z = true) (hy : y.cls ≠ "java/lang/invoke/MethodHandle" ∧ y.cls ≠ "java/lang/invoke/VarHandle") {ws : List Addr} (M : own_PaysW l R p e below s args Z n0 a0 EL ws y 3 W k n (.ref a :: argsL).toArray h Qc) (hws : ∀ x ∈ ws, x ∈ sf) (hW : (rest.map fun v => v.category).sum ≤ W) (E : Exa Z h a C) {sig : MethodDescriptor} (hds : parseMethodDescriptor y.desc = some sig) (hlen : argsL.length = sig.parameters.length) (hst : st = argsL.reverse ++ .ref a :: rest) (hsz : Ls.size = mx) (hd : decode bytes pc = .ok (.invokevirtual i, 3)) (hc : cells + k ≤ R.cells) (hs : slots + n ≤ R.slots)
    (kk : ∀ v T' h', own_At true p l e R s m args below meth c bytes ret own nm mx Z n0 a0 EL sf T' h' (cells + k) (slots + n) → Qc v h' → own_Run p e below Q m T' q Ls (v.toList ++ rest)) (hq : pc + 3 = q := by rfl) : own_Run p e below Q m T pc Ls st := by
  obtain ⟨⟨hx, hby, r1, r2, r3, r4⟩, vm0, locs, X, B, hZ, hown, hT, N, Od, hEL, Ch, Sf⟩ := A
  subst hby hq hst hT
  obtain ⟨cq, kq, qa, qb, qc⟩ := isOf (s := s.setVm vm0) (T := T) hZ rfl E
  obtain ⟨v, vm1, ⟨T', L', k', n'⟩, -, X', hS, gr, ⟨L, ⟨hQ, N', O', C⟩, l1, l2, l3⟩, st'⟩ := X.virtualBackS hx hown (mvT (s := s.setVm vm0) hZ w1) (mvT (s := s.setVm vm0) hZ w2) (notFace_of_selects (args := #[]) (mvT (s := s.setVm vm0) hZ w3)) (mvT (s := s.setVm vm0) hZ w3) (mvT (s := s.setVm vm0) hZ w4) hy (M vm0 hEL hZ Ch.1 (fun x hx => Sf x (hws x hx))) qa qc (g := mkF m pc Ls (argsL.reverse ++ .ref a :: rest)) rfl (hsz.trans r4.symm) (Steps.refl _) (argsL := argsL) (rest := rest) (lenOf (ps := sig.parameters) (r := sig.returnType) hds hlen) rfl (by show 2 * 0 + _ ≤ _; rw [Nat.mul_zero, Nat.zero_add]; exact hW) hd (fun _ _ => ⟨rfl, rfl, hc, hs⟩)
  dsimp only [Pt.U, Pt.locs, Pt.cells, Pt.slots] at X' l1 l2 l3 st' hQ O' hS gr C
  subst l1 l2 l3
  have hZ' : Z.Warmed39 T'.vm := State.Warmed39.trans (t := s.setVm vm0) hZ hS.1
  have hown' : T'.vm.findClass own = some m.cls := by rw [hS.1.alike.findClass]; exact hown
  obtain ⟨k0, B1, B2⟩ : ∃ k0, s.Since vm0 k0 ∧ k0 ≤ T.heap.size := by
    rcases B with ⟨B, -⟩ | ⟨-, B⟩
    · cases B
    · exact B
  exact own_by (fun _ z => st'.trans z) (kk v T' T'.heap ⟨⟨hx, rfl, r1, r2, r3, r4⟩, T'.vm, _, X', Or.inr ⟨rfl, _, B1.trans hS (Nat.le_trans B2 gr), Nat.le_refl _⟩, hZ', hown', rfl, N.app N', O', hEL, Ch.trans C, Sf.ch C⟩ hQ)
theorem own_virtualUp (A : own_At w p l e R s m args below meth c bytes ret own nm mx Z n0 a0 EL sf T h cells slots) {i : Nat} {x y : MethodName} {C owner : String} {a : Addr} {k n W : Nat} {argsL : List Value} {Qc : Option Value → Heap → Prop} (w1 : (Jvm.Cond.methodLink own i x).before a0 Z = true) (w2 : (Jvm.Cond.sameMethod x.cls owner x.name x.desc).before a0 Z = true) (w3 : (Jvm.Cond.declares ⟨owner, x.name, x.desc⟩).before a0 Z = true) (hy : owner ≠ "java/lang/invoke/MethodHandle" ∧ owner ≠ "java/lang/invoke/VarHandle") (w4 : (Jvm.Cond.selects C x y).before a0 Z = true) (w5 : (Jvm.Cond.instanceMethod y).before a0 Z = true) {ws : List Addr} (M : own_Pays l R p e below s args Z n0 EL ws y 3 W k n (.ref a :: argsL).toArray h Qc) (hws : ∀ x ∈ ws, x ∈ sf) (hW : (rest.map fun v => v.category).sum ≤ W) (E : Exa Z h a C) {sig : MethodDescriptor} (hds : parseMethodDescriptor x.desc = some sig) (hlen : argsL.length = sig.parameters.length) (hst : st = argsL.reverse ++ .ref a :: rest) (hsz : Ls.size = mx) (hd : decode bytes pc = .ok (.invokevirtual i, 3)) (hc : cells + k ≤ R.cells) (hs : slots + n ≤ R.slots)
    (kk : ∀ v T' h', own_At w p l e R s m args below meth c bytes ret own nm mx Z n0 a0 EL sf T' h' (cells + k) (slots + n) → Qc v h' → own_Run p e below Q m T' q Ls (v.toList ++ rest)) (hq : pc + 3 = q := by rfl) : own_Run p e below Q m T pc Ls st := by
  obtain ⟨⟨hx, hby, r1, r2, r3, r4⟩, vm0, locs, X, B, hZ, hown, hT, N, Od, hEL, Ch, Sf⟩ := A
  subst hby hq hst hT
  obtain ⟨cq, kq, qa, qb, qc⟩ := isOf (s := s.setVm vm0) (T := T) hZ rfl E
  obtain ⟨v, vm1, ⟨T', L', k', n'⟩, -, X', ⟨L, ⟨hQ, N', O', gr, hK⟩, l1, l2, l3⟩, st'⟩ := X.virtualBackUp hx hown (mvT (s := s.setVm vm0) hZ w1) (mvT (s := s.setVm vm0) hZ w2) (mvT (s := s.setVm vm0) hZ w3) hy (mvT (s := s.setVm vm0) hZ w4) (mvT (s := s.setVm vm0) hZ w5) (M vm0 hZ) qa qc (g := mkF m pc Ls (argsL.reverse ++ .ref a :: rest)) rfl (hsz.trans r4.symm) (Steps.refl _) (argsL := argsL) (rest := rest) (lenOf (ps := sig.parameters) (r := sig.returnType) hds hlen) rfl (by show 2 * 0 + _ ≤ _; rw [Nat.mul_zero, Nat.zero_add]; exact hW) hd (fun _ _ => ⟨rfl, rfl, hc, hs⟩)
  dsimp only [Pt.U, Pt.locs, Pt.cells, Pt.slots] at X' l1 l2 l3 st' hQ O' gr hK
  subst l1 l2 l3
  have C : CHr Z EL vm0 T.heap vm0 T'.heap := by
    rcases hK with rfl | hK
    · exact own_ch0 gr
    · exact CHr.keep hK (fun x hx => (Sf x (hws x hx)).1) Ch.1
  exact own_by (fun _ z => st'.trans z) (kk v T' T'.heap ⟨⟨hx, rfl, r1, r2, r3, r4⟩, vm0, _, X', B.le gr, hZ, hown, rfl, N.app N', O', hEL, Ch.trans C, Sf.ch C⟩ hQ)
/-- ldc of a String constant that is said to be held, read -/
theorem own_ldcR (A : own_At true p l e R s m args below meth c bytes ret own nm mx Z n0 a0 EL sf T h cells slots) {i n : Nat} {text : String} (wl : (Jvm.Cond.stringLink own i text).before a0 Z = true) (wS : ∀ a ∈ Bundle.stringAtoms, a.before a0 Z = true) (hmem : (own, i) ∈ EL) {vs : List Value} {z : Int32} (ht : (∀ c ∈ text.toList, c.toNat < 256) ∧ text.toList.map (fun c => Value.int (Jvm.Lit.byteI c.toNat.toUInt16)) = vs) (hz : ¬ z < 0) (hlz : z.toNatClampNeg = vs.length) (hd : decode bytes pc = .ok (.ldc i, 2)) (hn : 4 * text.toList.length ≤ n) (hbig : n ≤ 536870912) (hc : cells + 2 ≤ R.cells) (hl : slots + (n + 4) ≤ R.slots)
    (k : ∀ a b cb T' h', own_At true p l e R s m args below meth c bytes ret own nm mx Z n0 a0 EL sf T' h' (cells + 2) (slots + (n + 4)) → Ext h h' → Exa Z h' a "java/lang/String" → Fld Z h' a "java/lang/String" "coder" "B" (.int 0) → Fld Z h' a "java/lang/String" "value" "[B" (.ref b) → Arv Z h' b cb .byte z vs (.int 0) → (∀ x ∈ sf, x ≠ a ∧ x ≠ b) → own_Run p e below Q m T' q Ls (.ref a :: st)) (hq : pc + 2 = q := by rfl) : own_Run p e below Q m T pc Ls st := by
  obtain ⟨⟨hx, hby, r⟩, vm0, locs, X, B, hZ, hown, hT, N, Od, hEL, Ch, Sf⟩ := A
  subst hby hq
  obtain ⟨k0, B1, B2⟩ : ∃ k0, s.Since vm0 k0 ∧ k0 ≤ h.size := by
    rcases B with ⟨B, -⟩ | ⟨-, B⟩
    · cases B
    · exact B
  obtain ⟨a, T', h', k1, b, cb, X', e', E, hS, hk, hZ', hown', f1, f2, f3, f4, -, -, C, -, f5, st'⟩ := ldcCH X hx hZ hown wl wS hT B1 B2 hEL hmem Ch.1 ht hz hlz (g := mkF m pc Ls st) rfl hd hn hbig hc hl
  exact own_by st' (k a b cb T' h' ⟨⟨hx, rfl, r⟩, T'.vm, _, X', Or.inr ⟨rfl, k1, hS, hk⟩, hZ', hown', e', N, Od.ext E, hEL, Ch.trans C, Sf.ch C⟩ E f1 f2 f3 f4 (fun x hx => f5 x (Sf.ch C x hx).1))
theorem own_enterP {y : MethodName} {mx : Nat} {ws : List Jvm.Cond} {rm : Room} {as' : Array Value} {Qc : Option Value → Heap → Prop} (hpl : plainFor y = true) (O : Old Z n0 h) (hEL : EW Z a0 EL) (hef : ∀ m, entryFrame m as' mx = mkF m 0 Ls [])
    (body : ∀ p e s m args below meth c T Q, Q = own_Q w s rm n0 Z EL Qc → own_At w p l e rm s m args below meth c bytes ret own nm mx Z n0 a0 EL sf T h 0 0 → own_Run p e below Q m T 0 Ls []) (ho : y.cls = own := by rfl) (hn : y.name = nm := by rfl) : own_Met w l Z n0 EL sf y bytes mx ret ws rm as' h Qc := by
  subst ho hn
  refine MetFree.of_bodySF hpl hisR ?_
  intro p e s m args below meth c s₁ Bd hml0 hP hK
  obtain ⟨rfl, hZ, hh, hCH, hSf⟩ := hP
  have X0 : Stand p l e rm s m args below meth c s₁ [] 0 0 := Stand.of_body Bd
  have e0 : s₁.heap = h := by rw [← hh, Bd.state]; rfl
  have hown : s.vm.findClass y.cls = some m.cls := findClass_of_methodNamed Bd.named
  have A : own_At w p l e rm s m args below meth c bytes ret y.cls y.name mx Z n0 a0 EL sf s₁ h 0 0 :=
    ⟨⟨Bd.exec, Bd.bytes, Bd.returns, Bd.notSynchronized, (name_of_methodNamed Bd.named Bd.method).1, hml0⟩, s.vm, [], X0, (by
      cases w
      · exact Or.inl ⟨rfl, rfl⟩
      · exact Or.inr ⟨rfl, 0, (State.WarmedH.refl s).since 0, Nat.zero_le _⟩), hZ, hown, e0, Fr.nil n0, O, hEL, (by rw [hh]; exact CHr.refl hCH), hSf⟩
  obtain ⟨s₂, o, h1, h2, h3, h4⟩ := body p e s m args below meth c s₁ _ rfl A
  exact ⟨s₂, o, castTop (hef m) h1, h2, h3, h4⟩
theorem own_payN {ws : List Addr} {y : MethodName} {bytes : ByteArray} {mx len W : Nat} {ret : Option FieldType} {rm : Room} {as' : Array Value} {Qc : Option Value → Heap → Prop} (M : own_Met false l Z n0 [] [] y bytes mx ret [] rm as' h Qc) (hK : ∀ v h', Qc v h' → Keep h h' ws) (wc : (Jvm.Cond.code y bytes mx ret).before a0 Z = true) (wz : (Jvm.Cond.initialized y.cls).before a0 Z = true) (hf : rm.frames + 1 ≤ R.frames) (hl : W + (mx + 11) + rm.locals ≤ R.locals) :
    own_Pays l R p e below s args Z n0 EL ws y len W rm.cells rm.slots as' h Qc := fun vm0 hZ => by
  have M' : MetFree l y (head1 [Jvm.Cond.code y bytes mx ret] rm) (fun a U => a = as' ∧ Z.Warmed39 U.vm ∧ U.heap = h) (fun _ _ _ _ _ => True) (fun _ U o U' => ∃ v L, o = .returned v ∧ (fun v h' L => Qc v h' ∧ Fr n0 L ∧ Old Z n0 h' ∧ h.size ≤ h'.size ∧ (EL = [] ∨ Keep h h' ws)) v U'.heap L ∧ FrameEnd U o U' L rm.cells rm.slots) :=
    MetFree.mono M (fun _ U z => ⟨z.1, z.2.1, z.2.2, (own_ch0 (vm := U.vm) (h := h) (Nat.le_refl _)).1, fun x hx => nomatch hx⟩) (fun _ _ _ _ _ z => z) (fun a U o U' hp ⟨v, L, h1, ⟨h2, h3, h4, h5⟩, _, h6⟩ => ⟨v, L, h1, ⟨h2, h3, h4, hp.2.2 ▸ h5, Or.inr (hK v _ h2)⟩, h6⟩)
  exact backOf (s := s.setVm vm0) (Q := fun v h' L => Qc v h' ∧ Fr n0 L ∧ Old Z n0 h' ∧ h.size ≤ h'.size ∧ (EL = [] ∨ Keep h h' ws)) M' hZ wc wz hf hl
theorem own_same {y y' : MethodName} {C : String} (wi : (Jvm.Cond.instanceMethod y).before a0 Z = true) (wi' : (Jvm.Cond.instanceMethod y').before a0 Z = true) (ws : (Jvm.Cond.selects C y' y').before a0 Z = true) (hc : y'.cls = y.cls) (hy : y.cls ≠ "java/lang/invoke/MethodHandle" ∧ y.cls ≠ "java/lang/invoke/VarHandle") : (Jvm.Cond.sameMethod y.cls y.cls y.name y.desc).before a0 Z = true := by
  obtain ⟨mk, methM, hnamed, hmethM, -, -⟩ := Cond.instanceMethod_spec wi
  obtain ⟨mk', methM', hnamed', hmethM', -, -⟩ := Cond.instanceMethod_spec wi'
  obtain ⟨kr, q1, q2⟩ := notFace_of_selects ws mk' hnamed'
  have f1 := findClass_of_methodNamed hnamed
  have f2 := findClass_of_methodNamed hnamed'
  rw [hc] at f2
  have e : mk'.cls = mk.cls := Option.some.inj (f2.symm.trans f1)
  rw [e] at q1
  have hfound : Z.methodFound? y.cls y.name y.desc = some mk := State.methodFound?_of_named hnamed hy
  simp only [Cond.before, Cond.holds, Cond.value, f1, hfound, hnamed, q1]
  simp
  exact q2
theorem own_selP {y : MethodName} {C : String} {s' : State} {a1 : Array Value} (wi : (Jvm.Cond.instanceMethod y).before a1 s' = true) (ws : (Jvm.Cond.selects C y y).before a1 s' = true) (wp : (Jvm.Cond.privateMethod y).before a1 s' = true) (hy : y.cls ≠ "java/lang/invoke/MethodHandle" ∧ y.cls ≠ "java/lang/invoke/VarHandle") : (Jvm.Cond.selects y.cls y y).before a1 s' = true := by
  obtain ⟨mk, methM, hnamed, hmethM, -, -⟩ := Cond.instanceMethod_spec wi
  obtain ⟨kr, q1, q2⟩ := notFace_of_selects ws mk hnamed
  exact Jvm.Stand.selects_self_of_private (findClass_of_methodNamed hnamed) q1 q2 (Cond.privateMethod_at wp) wi hy
theorem own_private (A : own_At w p l e R s m args below meth c bytes ret own nm mx Z n0 a0 EL sf T h cells slots) {i mxy : Nat} {y : MethodName} {by' : ByteArray} {rt : Option FieldType} {C C' : String} {a : Addr} {k n W : Nat} {argsL : List Value} {Qc : Option Value → Heap → Prop} (w1 : (Jvm.Cond.methodLink own i y).before a0 Z = true) (w2 : (Jvm.Cond.instanceMethod y).before a0 Z = true) (w3 : (Jvm.Cond.selects C y y).before a0 Z = true) (w4 : (Jvm.Cond.privateMethod y).before a0 Z = true) (wc : (Jvm.Cond.code y by' mxy rt).before a0 Z = true) (hy : y.cls ≠ "java/lang/invoke/MethodHandle" ∧ y.cls ≠ "java/lang/invoke/VarHandle") {ws : List Addr} (M : own_Pays l R p e below s args Z n0 EL ws y 3 W k n (.ref a :: argsL).toArray h Qc) (hws : ∀ x ∈ ws, x ∈ sf) (hW : (rest.map fun v => v.category).sum ≤ W) (E : Exa Z h a C') {sig : MethodDescriptor} (hds : parseMethodDescriptor y.desc = some sig) (hlen : argsL.length = sig.parameters.length) (hst : st = argsL.reverse ++ .ref a :: rest) (hsz : Ls.size = mx) (hd : decode bytes pc = .ok (.invokevirtual i, 3)) (hc : cells + k ≤ R.cells) (hs : slots + n ≤ R.slots)
    (kk : ∀ v T' h', own_At w p l e R s m args below meth c bytes ret own nm mx Z n0 a0 EL sf T' h' (cells + k) (slots + n) → Qc v h' → own_Run p e below Q m T' q Ls (v.toList ++ rest)) (hq : pc + 3 = q := by rfl) : own_Run p e below Q m T pc Ls st := by
  obtain ⟨⟨hx, hby, r1, r2, r3, r4⟩, vm0, locs, X, B, hZ, hown, hT, N, Od, hEL, Ch, Sf⟩ := A
  subst hby hq hst hT
  obtain ⟨v, vm1, ⟨T', L', k', n'⟩, -, X', ⟨L, ⟨hQ, N', O', gr, hK⟩, l1, l2, l3⟩, st'⟩ := X.privateBack hx hown (mvT (s := s.setVm vm0) hZ w1) (mvT (s := s.setVm vm0) hZ w2) (own_selP (mvT (s := s.setVm vm0) hZ w2) (mvT (s := s.setVm vm0) hZ w3) (mvP (s := s.setVm vm0) hZ w4) hy) (Cond.privateMethod_at (args := #[]) (mvP (s := s.setVm vm0) hZ w4)) (mvT (s := s.setVm vm0) hZ wc) hy (M vm0 hZ) (g := mkF m pc Ls (argsL.reverse ++ .ref a :: rest)) rfl (hsz.trans r4.symm) (Steps.refl _) E.cell.choose_spec.1 E.cell.choose_spec.2 (argsL := argsL) (rest := rest) (lenOf (ps := sig.parameters) (r := sig.returnType) hds hlen) rfl (by show 2 * 0 + _ ≤ _; rw [Nat.mul_zero, Nat.zero_add]; exact hW) hd (fun _ _ => ⟨rfl, rfl, hc, hs⟩)
  dsimp only [Pt.U, Pt.locs, Pt.cells, Pt.slots] at X' l1 l2 l3 st' hQ O' gr hK
  subst l1 l2 l3
  have C : CHr Z EL vm0 T.heap vm0 T'.heap := by
    rcases hK with rfl | hK
    · exact own_ch0 gr
    · exact CHr.keep hK (fun x hx => (Sf x (hws x hx)).1) Ch.1
  exact own_by (fun _ z => st'.trans z) (kk v T' T'.heap ⟨⟨hx, rfl, r1, r2, r3, r4⟩, vm0, _, X', B.le gr, hZ, hown, rfl, N.app N', O', hEL, Ch.trans C, Sf.ch C⟩ hQ)
theorem own_super (A : own_At w p l e R s m args below meth c bytes ret own nm mx Z n0 a0 EL sf T h cells slots) {i mxy : Nat} {y : MethodName} {by' : ByteArray} {rt : Option FieldType} {C : String} {a : Addr} {k n W : Nat} {argsL : List Value} {Qc : Option Value → Heap → Prop} (w1 : (Jvm.Cond.methodLink own i y).before a0 Z = true) (w2 : (Jvm.Cond.sameMethod y.cls y.cls y.name y.desc).before a0 Z = true) (w3 : (Jvm.Cond.instanceMethod y).before a0 Z = true) (w4 : (Jvm.Cond.superclass own y.cls).before a0 Z = true) (wc : (Jvm.Cond.code y by' mxy rt).before a0 Z = true) (hn : y.name ≠ "<init>") {ws : List Addr} (M : own_Pays l R p e below s args Z n0 EL ws y 3 W k n (.ref a :: argsL).toArray h Qc) (hws : ∀ x ∈ ws, x ∈ sf) (hW : (rest.map fun v => v.category).sum ≤ W) (E : Exa Z h a C) {sig : MethodDescriptor} (hds : parseMethodDescriptor y.desc = some sig) (hlen : argsL.length = sig.parameters.length) (hst : st = argsL.reverse ++ .ref a :: rest) (hsz : Ls.size = mx) (hd : decode bytes pc = .ok (.invokespecial i, 3)) (hc : cells + k ≤ R.cells) (hs : slots + n ≤ R.slots)
    (kk : ∀ v T' h', own_At w p l e R s m args below meth c bytes ret own nm mx Z n0 a0 EL sf T' h' (cells + k) (slots + n) → Qc v h' → own_Run p e below Q m T' q Ls (v.toList ++ rest)) (hq : pc + 3 = q := by rfl) : own_Run p e below Q m T pc Ls st := by
  obtain ⟨⟨hx, hby, r1, r2, r3, r4⟩, vm0, locs, X, B, hZ, hown, hT, N, Od, hEL, Ch, Sf⟩ := A
  subst hby hq hst hT
  obtain ⟨v, vm1, ⟨T', L', k', n'⟩, -, X', ⟨L, ⟨hQ, N', O', gr, hK⟩, l1, l2, l3⟩, st'⟩ := superBack X hx (s := s.setVm vm0) hZ hown w1 w2 w3 w4 hn (M vm0 hZ) rfl (Ins.self E) (g := mkF m pc Ls (argsL.reverse ++ .ref a :: rest)) rfl (hsz.trans r4.symm) wc (argsL := argsL) (rest := rest) (lenOf (ps := sig.parameters) (r := sig.returnType) hds hlen) rfl (by show 2 * 0 + _ ≤ _; rw [Nat.mul_zero, Nat.zero_add]; exact hW) hd (fun _ _ => ⟨rfl, rfl, hc, hs⟩)
  dsimp only [Pt.U, Pt.locs, Pt.cells, Pt.slots] at X' l1 l2 l3 st' hQ O' gr hK
  subst l1 l2 l3
  have C : CHr Z EL vm0 T.heap vm0 T'.heap := by
    rcases hK with rfl | hK
    · exact own_ch0 gr
    · exact CHr.keep hK (fun x hx => (Sf x (hws x hx)).1) Ch.1
  exact own_by (fun _ z => st'.trans z) (kk v T' T'.heap ⟨⟨hx, rfl, r1, r2, r3, r4⟩, vm0, _, X', B.le gr, hZ, hown, rfl, N.app N', O', hEL, Ch.trans C, Sf.ch C⟩ hQ)
theorem own_specialN (A : own_At true p l e R s m args below meth c bytes ret own nm mx Z n0 a0 EL sf T h cells slots) {i mxy : Nat} {y : MethodName} {by' : ByteArray} {a : Addr} {k n W : Nat} {argsL : List Value} {Qc : Option Value → Heap → Prop} (hy1 : y.name = "<init>") (w1 : (Jvm.Cond.methodLink own i y).before a0 Z = true) (w2 : (Jvm.Cond.instanceMethod y).before a0 Z = true) (w3 : (Jvm.Cond.code y by' mxy none).before a0 Z = true) (hy : y.cls ≠ "java/lang/invoke/MethodHandle" ∧ y.cls ≠ "java/lang/invoke/VarHandle") {ws : List Addr} (M : own_Pays l R p e below s args Z n0 EL ws y 3 W k n (.ref a :: argsL).toArray h Qc) (hws : ∀ x ∈ ws, x ∈ sf) (hKp : ∀ v h', Qc v h' → Keep h h' ws) (hW : (rest.map fun v => v.category).sum ≤ W)  {sig : MethodDescriptor} (hds : parseMethodDescriptor y.desc = some sig) (hlen : argsL.length = sig.parameters.length) (hst : st = argsL.reverse ++ .ref a :: rest) (hsz : Ls.size = mx) (hd : decode bytes pc = .ok (.invokespecial i, 3)) (hc : cells + k ≤ R.cells) (hs : slots + n ≤ R.slots)
    (kk : ∀ v T' h', (∀ ns : List Addr, (∀ x ∈ ns, h.size ≤ x ∧ x < h'.size) → own_At true p l e R s m args below meth c bytes ret own nm mx Z n0 a0 EL (ns ++ sf) T' h' (cells + k) (slots + n)) → Qc v h' → own_Run p e below Q m T' q Ls (v.toList ++ rest)) (hq : pc + 3 = q := by rfl) : own_Run p e below Q m T pc Ls st := by
  obtain ⟨⟨hx, hby, r1, r2, r3, r4⟩, vm0, locs, X, B, hZ, hown, hT, N, Od, hEL, Ch, Sf⟩ := A
  subst hby hq hst hT
  obtain ⟨v, vm1, ⟨T', L', k', n'⟩, -, X', ⟨L, ⟨hQ, N', O', gr, hK⟩, l1, l2, l3⟩, st'⟩ := X.specialBack hx hy1 hown (mvT (s := s.setVm vm0) hZ w1) (mvT (s := s.setVm vm0) hZ w2) (mvT (s := s.setVm vm0) hZ w3) hy (M vm0 hZ) (g := mkF m pc Ls (argsL.reverse ++ .ref a :: rest)) rfl (hsz.trans r4.symm) (Steps.refl _) (a := a) (argsL := argsL) (rest := rest) (lenOf (ps := sig.parameters) (r := sig.returnType) hds hlen) rfl (by show 2 * 0 + _ ≤ _; rw [Nat.mul_zero, Nat.zero_add]; exact hW) hd (fun _ _ => ⟨rfl, rfl, hc, hs⟩)
  dsimp only [Pt.U, Pt.locs, Pt.cells, Pt.slots] at X' l1 l2 l3 st' hQ O' gr hK
  subst l1 l2 l3
  have C : CHr Z EL vm0 T.heap vm0 T'.heap := by
    rcases hK with rfl | hK
    · exact own_ch0 gr
    · exact CHr.keep hK (fun x hx => (Sf x (hws x hx)).1) Ch.1
  exact own_by (fun _ z => st'.trans z) (kk v T' T'.heap (fun ns hns => ⟨⟨hx, rfl, r1, r2, r3, r4⟩, vm0, _, X', B.le gr, hZ, hown, rfl, N.app N', O', hEL, Ch.trans C, fun x hx => (List.mem_append.mp hx).elim (fun q => ⟨Safe.keep (hKp v _ hQ) (fun x hx => (Sf x (hws x hx)).1) Ch.1 (Safe.new (hns x q).1), (hns x q).2⟩) (fun q => Sf.ch C x q)⟩) hQ)
theorem own_acopy (A : own_At w p l e R s m args below meth c bytes ret own nm mx Z n0 a0 EL sf T h cells slots) {i W : Nat} {a b : Addr} {k k' : ClassId} {ty : FieldType} {z z' sp dp nn : Int32} {vs vd us : List Value} {dv dd : Value} (w1 : (Jvm.Cond.methodLink own i Jvm.Stand.acN).before a0 Z = true) (w2 : (Jvm.Cond.native Jvm.Stand.acN).before a0 Z = true) (w3 : (Jvm.Cond.static Jvm.Stand.acN).before a0 Z = true) (w4 : (Jvm.Cond.initialized "java/lang/System").before a0 Z = true) (VA : Arv Z h a k ty z vs dv) (VB : Arv Z h b k' ty z' vd dd) (hty : refKind ty = false)
    (h1 : ¬ sp < 0) (h2 : ¬ dp < 0) (h3 : ¬ nn < 0) (h4 : sp.toNatClampNeg + nn.toNatClampNeg ≤ z.toNatClampNeg) (h5 : dp.toNatClampNeg + nn.toNatClampNeg ≤ z'.toNatClampNeg) (hus : us = (List.range nn.toNatClampNeg).map fun i => vs.getD (sp.toNatClampNeg + i) dv) (hl : dp.toNatClampNeg + nn.toNatClampNeg ≤ vd.length) (ge : n0 ≤ b) (hwo : own_Wok Z EL sf h b) (hsz : Ls.size = mx) (hd : decode bytes pc = .ok (.invokestatic i, 3)) (hf : 1 ≤ R.frames) (hW : (rest.map fun v => v.category).sum ≤ W) (hlo : W + (nativeFrameWords "java/lang/System" "arraycopy" 5 + 11) ≤ R.locals)
    (kk : ∀ T' h', own_At w p l e R s m args below meth c bytes ret own nm mx Z n0 a0 EL sf T' h' cells slots → Keep h h' [b] → Arv Z h' b k' ty z' (vd.take dp.toNatClampNeg ++ us ++ vd.drop (dp.toNatClampNeg + nn.toNatClampNeg)) dd → own_Run p e below Q m T' q Ls rest) (hq : pc + 3 = q := by rfl) : own_Run p e below Q m T pc Ls (.int nn :: .int dp :: .ref b :: .int sp :: .ref a :: rest) := by
  obtain ⟨⟨hx, hby, r1, r2, r3, r4⟩, vm0, locs, X, B, hZ, hown, hT, N, Od, hEL, Ch, Sf⟩ := A
  subst hby hq
  obtain ⟨T', h', L, X', e', N', K, V', st'⟩ := cpA X hx (s := s.setVm vm0) hZ hown w1 w2 w3 w4 hT VA VB (Or.inl ⟨rfl, hty⟩) h1 h2 h3 h4 h5 hus hl N ge (g := mkF m pc Ls (.int nn :: .int dp :: .ref b :: .int sp :: .ref a :: rest)) rfl (hsz.trans r4.symm) rfl hd hf (W := W) (by show 2 * 0 + _ ≤ _; rw [Nat.mul_zero, Nat.zero_add]; exact hW) hlo
  have Sb := own_Wok.safe hwo hZ Sf
  have C : CHr Z EL vm0 h vm0 h' := CHr.keep K (fun x hx => by
    obtain rfl := List.mem_singleton.mp hx
    exact Sb) Ch.1
  exact own_by st' (kk T' h' ⟨⟨hx, rfl, r1, r2, r3, r4⟩, vm0, _, X', B.le K.1, hZ, hown, e', N', Od.keep K (allS ge all0), hEL, Ch.trans C, Sf.ch C⟩ K V')
end Own
section OwnArr
variable {w : Bool} {p : Program} {l : Launch} {e : Env} {R : Room} {s : State} {m : MethodId} {args : Array Value} {below : List Frame} {meth : Method} {c : Code} {T : State} {cells slots n0 mx : Nat} {Z : State} {a0 : Array Value} {h : Heap} {bytes : ByteArray} {ret : Option FieldType} {own nm : String} {EL : List (String × Nat)} {sf : List Addr} {Q : Outcome → State → Prop} {pc q : Nat} {Ls : Array Slot} {st rest : List Value}
theorem own_inb {c : Cell} {z j : Int32} {i : Nat} (S : c.slots.size = z.toNatClampNeg) (h0 : ¬ j < 0) (hj : j.toNatClampNeg = i) (hi : i < z.toNatClampNeg) : ¬ (j < 0 ∨ c.slots.size ≤ j.toNatClampNeg) := by
  rw [S, hj]
  exact fun y => y.elim h0 fun y => absurd hi (Nat.not_lt.mpr y)
theorem own_newPv (A : own_At w p l e R s m args below meth c bytes ret own nm mx Z n0 a0 EL sf T h cells slots) {aty : ArrayType} {ty : FieldType} {dv : Value} (hty : newarray.typeOf aty = ty) (hdv : defaultValue ty = dv) (w1 : (Jvm.Cond.arrayClass ty).before a0 Z = true) (hd : decode bytes pc = .ok (.newarray aty, 2)) {n : Int32} (cap : Nat) (hn : ¬ n < 0) (hcap : n.toNatClampNeg = cap) (hb : cap * 8 ≤ 536870912) (hc : cells + 1 ≤ R.cells) (hl : slots + cap ≤ R.slots)
    (k : ∀ T' h' a cA, h.size = a → n0 ≤ a → own_At w p l e R s m args below meth c bytes ret own nm mx Z n0 a0 EL (a :: sf) T' h' (cells + 1) (slots + cap) → Ext h h' → Arv Z h' a cA ty n (List.replicate cap dv) dv → own_Run p e below Q m T' q Ls (.ref a :: rest)) (hq : pc + 2 = q := by rfl) : own_Run p e below Q m T pc Ls (.int n :: rest) := by
  subst hty hdv
  exact own_newP A w1 hd cap hn (Nat.le_of_eq hcap) hb hc hl (fun T' h' a cA g1 g2 A' E Ar => k T' h' a cA g1 g2 A' E ((Arv.new Ar hn).pad (pad_rep [] _ cap))) hq
theorem own_arrlenv (A : own_At w p l e R s m args below meth c bytes ret own nm mx Z n0 a0 EL sf T h cells slots) {a : Addr} {cA : ClassId} {ty : FieldType} {z : Int32} {vs : List Value} {dv : Value} (V : Arv Z h a cA ty z vs dv) (hd : decode bytes pc = .ok (.arraylength, 1)) (k : own_Run p e below Q m T q Ls (.int z :: rest)) (hq : pc + 1 = q := by rfl) : own_Run p e below Q m T pc Ls (.ref a :: rest) := by
  obtain ⟨c, Ar, q1, S, q3, H, G⟩ := V
  refine own_arrlen A Ar hd ?_ hq
  rw [len_of S q3]
  exact k
theorem own_stCv (A : own_At w p l e R s m args below meth c bytes ret own nm mx Z n0 a0 EL sf T h cells slots) {a : Addr} {cA : ClassId} {z j x : Int32} {vs : List Value} {dv : Value} (V : Arv Z h a cA .char z vs dv) (i : Nat) (h0 : ¬ j < 0) (hj : j.toNatClampNeg = i) (hi : i < z.toNatClampNeg) (hi' : i < vs.length) (ha : n0 ≤ a) (hwo : own_Wok Z EL sf h a) (hd : decode bytes pc = .ok (.castore, 1))
    (k : ∀ T' h' sl, own_At w p l e R s m args below meth c bytes ret own nm mx Z n0 a0 EL sf T' h' cells slots → Wr h h' a sl (.int (nar .char x)) → Arv Z h' a cA .char z (vs.set i (.int (nar .char x))) dv → own_Run p e below Q m T' q Ls rest) (hq : pc + 1 = q := by rfl) : own_Run p e below Q m T pc Ls (.int x :: .int j :: .ref a :: rest) := by
  obtain ⟨c, Ar, q1, S, q3, H, G⟩ := V
  exact own_stC A Ar (own_inb S h0 hj hi) ha hwo hd (fun T' h' A' W => k T' h' _ A' W (Arv.set Ar q1 S q3 H G (fits_nar_char x) W i hj hi')) hq
end OwnArr
section OwnMore
variable {w : Bool} {p : Program} {l : Launch} {e : Env} {R : Room} {s : State} {m : MethodId} {args : Array Value} {below : List Frame} {meth : Method} {c : Code} {T : State} {cells slots n0 mx : Nat} {Z : State} {a0 : Array Value} {h : Heap} {bytes : ByteArray} {ret : Option FieldType} {own nm : String} {EL : List (String × Nat)} {sf : List Addr} {Q : Outcome → State → Prop} {pc q : Nat} {Ls : Array Slot} {st rest : List Value}
end OwnMore
section OwnStr
variable {w : Bool} {p : Program} {l : Launch} {e : Env} {R : Room} {s : State} {m : MethodId} {args : Array Value} {below : List Frame} {meth : Method} {c : Code} {T : State} {cells slots n0 mx : Nat} {Z : State} {a0 : Array Value} {h : Heap} {bytes : ByteArray} {ret : Option FieldType} {own nm : String} {EL : List (String × Nat)} {sf : List Addr} {Q : Outcome → State → Prop} {pc q : Nat} {Ls : Array Slot} {st rest : List Value}
theorem own_payV {len W kI : Nat} (hws : ∀ d ∈ StrChars.Road.words, d.before a0 Z = true) (wi : (Jvm.Cond.instantiable "java/lang/String" kI).before a0 Z = true) {x b : Addr} {kC : ClassId} {cs bs : List Int32} {d v0 c0 : Value} {N : Int32} {n : Nat} (O : Old Z n0 h) (hx0 : n0 ≤ x) (E : Exa Z h x "java/lang/String") (V : Fld Z h x "java/lang/String" "value" "[B" v0) (C : Fld Z h x "java/lang/String" "coder" "B" c0) (K : Arv Z h b kC .char N (cs.map Value.int) d) {zc : Int32} (SC : Sta Z Z.heap "java/lang/String" "COMPACT_STRINGS" "Z" (.int zc)) (hz : ¬ zc = 0)
    (hn : cs.length = n) (hN : N = Int32.ofNat n) (l0 : 0 < n) (l2 : n ≤ 4000) (hp : ∀ c ∈ cs, ¬ c < 0 ∧ ¬ (255 : Int32) < c) (hb : bs = cs.map (fun c => c.toInt8.toInt32)) (hfr : 4 ≤ R.frames) (hlo : W + 65 ≤ R.locals) :
    own_Pays l R p e below s args Z n0 EL [x] (⟨"java/lang/String", "<init>", "([C)V"⟩ : MethodName) len W 1 n #[.ref x, .ref b] h (fun v h' => v = none ∧ Keep h h' [x] ∧ Exa Z h' x "java/lang/String" ∧ Fld Z h' x "java/lang/String" "coder" "B" (.int 0) ∧ ∃ (t : Addr) (kb : ClassId), n0 ≤ t ∧ h.size ≤ t ∧ Fld Z h' x "java/lang/String" "value" "[B" (.ref t) ∧ Arv Z h' t kb .byte N (bs.map Value.int) (.int 0)) := fun vm0 hZ =>
  Back.mono (StrChars.Road.backV (s := s.setVm vm0) hZ hws wi hx0 (O.1 ▸ O.2.1) E V C K (SC.ext O.2) hz hn hN l0 l2 hp hb hfr hlo) (fun _ _ z => z) (fun A a v B hp ⟨L, ⟨q1, q2, q3, q4, q5, t, kb, r1, r2, r3, r4, r5⟩, l1, l2, l3⟩ => ⟨L, ⟨⟨q1, q3, q4, q5, t, kb, r1, r2, r4, r5⟩, q2, O.keep q3 (allS hx0 all0), q3.1, Or.inr q3⟩, l1, l2, l3⟩)
theorem own_payLen {len W kI : Nat} (hws : ∀ d ∈ StrChars.Road.wordsLen, d.before a0 Z = true) (wi : (Jvm.Cond.instantiable "java/lang/String" kI).before a0 Z = true) {x1 t1 : Addr} {kb1 : ClassId} {cs1 : List Int32} {cd1 N1 : Int32} {vs1 : List Value} (O : Old Z n0 h) (E1 : Exa Z h x1 "java/lang/String") (V1 : Fld Z h x1 "java/lang/String" "value" "[B" (.ref t1)) (C1 : Fld Z h x1 "java/lang/String" "coder" "B" (.int cd1)) (K1 : Arv Z h t1 kb1 .byte N1 vs1 (.int 0)) (hc1 : StrChars.Road.CodA cs1 cd1 N1 vs1) (hb1 : ∀ c ∈ cs1, ¬ c < 0 ∧ ¬ (65535 : Int32) < c) (l21 : cs1.length ≤ 4000) {zc : Int32} (SC : Sta Z Z.heap "java/lang/String" "COMPACT_STRINGS" "Z" (.int zc)) (hz : ¬ zc = 0) (hfr : 2 ≤ R.frames) (hlo : W + 25 ≤ R.locals) :
    own_Pays l R p e below s args Z n0 EL [] (⟨"java/lang/String", "length", "()I"⟩ : MethodName) len W 0 0 #[.ref x1] h (fun v h' => v = some (.int (Int32.ofNat cs1.length)) ∧ h = h') := fun vm0 hZ =>
  Back.mono (StrChars.Road.lenW (s := s.setVm vm0) hZ hws wi E1 V1 C1 K1 hc1 hb1 (SC.ext O.2) hz l21 hfr hlo) (fun _ _ z => z) (fun A a v B hp ⟨L, ⟨q1, q2, q3⟩, l1, l2, l3⟩ => by
    subst q2
    exact ⟨[], ⟨⟨q1, q3.symm⟩, Fr.nil _, by rw [q3]; exact O, by rw [q3]; exact Nat.le_refl _, Or.inr (by rw [q3]; exact Keep.refl _ _)⟩, l1, l2, l3⟩)
theorem own_payCh {len W kI : Nat} (hws : ∀ d ∈ StrChars.Road.wordsChN, d.before a0 Z = true) (wi : (Jvm.Cond.instantiable "java/lang/String" kI).before a0 Z = true) {x1 t1 : Addr} {kb1 : ClassId} {cs1 : List Int32} {N1 : Int32} {vs1 : List Value} {fm : Value} {i : Nat} {j : Int32} (O : Old Z n0 h) (E1 : Exa Z h x1 "java/lang/String") (V1 : Fld Z h x1 "java/lang/String" "value" "[B" (.ref t1)) (C1 : Fld Z h x1 "java/lang/String" "coder" "B" (.int 0)) (K1 : Arv Z h t1 kb1 .byte N1 vs1 (.int 0)) (hc1 : StrChars.Road.CodA cs1 0 N1 vs1) (hb1 : ∀ c ∈ cs1, ¬ c < 0 ∧ ¬ (65535 : Int32) < c) (l21 : cs1.length ≤ 4000) {zc : Int32} (SC : Sta Z Z.heap "java/lang/String" "COMPACT_STRINGS" "Z" (.int zc)) (hz : ¬ zc = 0) (SF : Sta Z Z.heap "jdk/internal/util/Preconditions" "SIOOBE_FORMATTER" "Ljava/util/function/BiFunction;" fm) (rf : fm.isRef = true) (hi : i < cs1.length) (hj : j = Int32.ofNat i) (hfr : 4 ≤ R.frames) (hlo : W + 53 ≤ R.locals) :
    own_Pays l R p e below s args Z n0 EL [] (⟨"java/lang/String", "charAt", "(I)C"⟩ : MethodName) len W 0 0 #[.ref x1, .int j] h (fun v h' => v = some (.int (cs1.getD i 0)) ∧ h = h') := fun vm0 hZ =>
  Back.mono (StrChars.Road.chN (s := s.setVm vm0) hZ hws wi E1 V1 C1 K1 hc1 hb1 (SC.ext O.2) hz (SF.ext O.2) rf l21 hi hj hfr hlo) (fun _ _ z => z) (fun A a v B hp ⟨L, ⟨q1, q2, q3⟩, l1, l2, l3⟩ => by
    subst q2
    exact ⟨[], ⟨⟨q1, q3.symm⟩, Fr.nil _, by rw [q3]; exact O, by rw [q3]; exact Nat.le_refl _, Or.inr (by rw [q3]; exact Keep.refl _ _)⟩, l1, l2, l3⟩)
theorem own_cod (cs : List Int32) {n : Nat} {N : Int32} {vs : List Value} (hn : cs.length = n) (hb : ∀ c ∈ cs, ¬ (255 : Int32) < c) (hN : Int32.ofNat n = N) (hv : (cs.map (fun c => c.toInt8.toInt32)).map Value.int = vs) : StrChars.Road.CodA cs 0 N vs := by
  subst hN hv
  exact StrChars.Road.codOf hn hb
end OwnStr
section OwnCase
variable {args : Array Value} {s : State} {t : Term}
end OwnCase
section OwnCase2
variable {args : Array Value} {s : State} {t u : Term}
end OwnCase2
theorem own_pd0 : parseMethodDescriptor "(ICC)Ljava/lang/String;" = some ⟨[.int, .char, .char], some (.object "java/lang/String")⟩ := by decide +kernel
theorem own_pd1 : parseMethodDescriptor "(Ljava/lang/String;IICCICC)Z" = some ⟨[(.object "java/lang/String"), .int, .int, .char, .char, .int, .char, .char], some .boolean⟩ := by decide +kernel
theorem own_pd2 : parseMethodDescriptor "([C)V" = some ⟨[(.array .char)], none⟩ := by decide +kernel
theorem own_pd3 : parseMethodDescriptor "([CIILjava/lang/Void;)V" = some ⟨[(.array .char), .int, .int, (.object "java/lang/Void")], none⟩ := by decide +kernel
theorem own_pd4 : parseMethodDescriptor "(Ljava/lang/String;Ljava/lang/String;)V" = some ⟨[(.object "java/lang/String"), (.object "java/lang/String")], none⟩ := by decide +kernel
theorem own_pd5 : parseMethodDescriptor "()Ljava/lang/String;" = some ⟨[], some (.object "java/lang/String")⟩ := by decide +kernel
theorem own_pd6 : parseMethodDescriptor "()V" = some ⟨[], none⟩ := by decide +kernel
theorem own_pd7 : parseMethodDescriptor "(I)V" = some ⟨[.int], none⟩ := by decide +kernel
theorem own_pd8 : parseMethodDescriptor "(Ljava/lang/String;)Ljava/lang/StringBuilder;" = some ⟨[(.object "java/lang/String")], some (.object "java/lang/StringBuilder")⟩ := by decide +kernel
theorem own_pd9 : parseMethodDescriptor "(Ljava/lang/String;)Ljava/lang/AbstractStringBuilder;" = some ⟨[(.object "java/lang/String")], some (.object "java/lang/AbstractStringBuilder")⟩ := by decide +kernel
theorem own_pd10 : parseMethodDescriptor "()I" = some ⟨[], some .int⟩ := by decide +kernel
theorem own_pd11 : parseMethodDescriptor "()B" = some ⟨[], some .byte⟩ := by decide +kernel
theorem own_pd12 : parseMethodDescriptor "(ILjava/lang/String;)V" = some ⟨[.int, (.object "java/lang/String")], none⟩ := by decide +kernel
theorem own_pd13 : parseMethodDescriptor "(Ljava/lang/String;)V" = some ⟨[(.object "java/lang/String")], none⟩ := by decide +kernel
theorem own_pd14 : parseMethodDescriptor "([BIB)V" = some ⟨[(.array .byte), .int, .byte], none⟩ := by decide +kernel
theorem own_pd15 : parseMethodDescriptor "(Ljava/lang/StringBuilder;)V" = some ⟨[(.object "java/lang/StringBuilder")], none⟩ := by decide +kernel
theorem own_pd16 : parseMethodDescriptor "(Ljava/lang/AbstractStringBuilder;Ljava/lang/Void;)V" = some ⟨[(.object "java/lang/AbstractStringBuilder"), (.object "java/lang/Void")], none⟩ := by decide +kernel
theorem own_pd17 : parseMethodDescriptor "()[B" = some ⟨[], some (.array .byte)⟩ := by decide +kernel
theorem own_pd18 : parseMethodDescriptor "()Z" = some ⟨[], some .boolean⟩ := by decide +kernel
theorem own_pd19 : parseMethodDescriptor "([BII)[B" = some ⟨[(.array .byte), .int, .int], some (.array .byte)⟩ := by decide +kernel
theorem own_pd20 : parseMethodDescriptor "(II)V" = some ⟨[.int, .int], none⟩ := by decide +kernel
theorem own_pd21 : parseMethodDescriptor "(II)I" = some ⟨[.int, .int], some .int⟩ := by decide +kernel
theorem own_pd22 : parseMethodDescriptor "(I)C" = some ⟨[.int], some .char⟩ := by decide +kernel
theorem own_satoms {Z : State} {a0 : Array Value} (hw : ∀ d ∈ tables_1, d.before a0 Z = true) : ∀ d ∈ Bundle.stringAtoms, d.before a0 Z = true := by
  intro d hd
  simp only [Bundle.stringAtoms, List.mem_cons, List.not_mem_nil, or_false] at hd
  rcases hd with rfl | rfl | rfl | rfl | rfl | rfl | rfl
  all_goals exact hw _ (by decide +kernel)
theorem own_fc {P : Int32 → Prop} {b : Int32} {l : List Int32} (h : P b) (t : ∀ c ∈ l, P c) : ∀ c ∈ b :: l, P c := fun c hc => by
  rcases List.mem_cons.mp hc with rfl | hc
  · exact h
  · exact t c hc
theorem own_b16 {cs : List Int32} (hp : ∀ c ∈ cs, ¬ c < 0 ∧ ¬ (255 : Int32) < c) : ∀ c ∈ cs, ¬ c < 0 ∧ ¬ (65535 : Int32) < c := fun c hc => by
  obtain ⟨h0, h1⟩ := hp c hc
  refine ⟨h0, ?_⟩
  rw [Int32.lt_iff_toInt_lt] at h1 ⊢
  have e : (255 : Int32).toInt = 255 := rfl
  have e' : (65535 : Int32).toInt = 65535 := rfl
  omega
theorem own_byte (y : Int32) : ∃ c : Int32, (y &&& (255 : Int32)).toUInt32.toUInt16.toUInt32.toInt32 = c ∧ ¬ c < 0 ∧ ¬ (255 : Int32) < c ∧ nar .char c = c := by
  have e3 := c_mask y 255 8 (by decide) (by decide)
  have e8 : ((2 ^ 8 : Nat) : Int) = 256 := rfl
  rw [e8] at e3
  have c0 := c_i2c (y &&& (255 : Int32))
  have eC : (y &&& (255 : Int32)).toUInt32.toUInt16.toUInt32.toInt32 = y &&& 255 := by
    rw [← Int32.toInt_inj]
    omega
  have e : (255 : Int32).toInt = 255 := rfl
  have z : (0 : Int32).toInt = 0 := rfl
  refine ⟨y &&& 255, eC, ?_, ?_, eC⟩
  · rw [Int32.lt_iff_toInt_lt]
    omega
  · rw [Int32.lt_iff_toInt_lt]
    omega
theorem own_wV {Z : State} {a0 : Array Value} (hw : ∀ d ∈ tables_1, d.before a0 Z = true) : ∀ d ∈ StrChars.Road.words, d.before a0 Z = true := fun d hd => hw d ((by decide +kernel : ∀ d ∈ StrChars.Road.words, d ∈ tables_1) d hd)
theorem own_wLen {Z : State} {a0 : Array Value} (hw : ∀ d ∈ tables_1, d.before a0 Z = true) : ∀ d ∈ StrChars.Road.wordsLen, d.before a0 Z = true := fun d hd => hw d ((by decide +kernel : ∀ d ∈ StrChars.Road.wordsLen, d ∈ tables_1) d hd)
theorem own_wCh {Z : State} {a0 : Array Value} (hw : ∀ d ∈ tables_1, d.before a0 Z = true) : ∀ d ∈ StrChars.Road.wordsChN, d.before a0 Z = true := fun d hd => hw d ((by decide +kernel : ∀ d ∈ StrChars.Road.wordsChN, d ∈ tables_1) d hd)
theorem own_rem3 (y : Int32) : (y &&& (255 : Int32)) % (3 : Int32) = 0 ∨ (y &&& (255 : Int32)) % (3 : Int32) = 1 ∨ (y &&& (255 : Int32)) % (3 : Int32) = 2 := by
  have e := c_mask y 255 8 (by decide) (by decide)
  have p : ((2 ^ 8 : Nat) : Int) = 256 := rfl
  rw [p] at e
  have e0 : (0 : Int32).toInt = 0 := rfl
  have e1 : (1 : Int32).toInt = 1 := rfl
  have e2 : (2 : Int32).toInt = 2 := rfl
  have e3 : (3 : Int32).toInt = 3 := rfl
  have r := (c_irem (y &&& 255) 3 3 e3).1 (by omega)
  simp only [← Int32.toInt_inj]
  omega
def own_apf (n k : Int32) (us vs : List Value) : Prop := (¬ n < 0) ∧ (¬ k < 0) ∧ (n <<< ((0 : Int32) &&& 31) = n) ∧ (k >>> ((0 : Int32) &&& 31) = k) ∧ (n.toNatClampNeg + k.toNatClampNeg ≤ (16 : Int32).toNatClampNeg) ∧ (n.toNatClampNeg + k.toNatClampNeg ≤ vs.length) ∧ (us = (List.range k.toNatClampNeg).map fun i => us.getD ((0 : Int32).toNatClampNeg + i) (.int 0)) ∧ (¬ (0 : Int32) < (n + k) - ((16 : Int32) >>> ((0 : Int32) &&& 31)))
theorem own_apf.n0 {n k : Int32} {us vs : List Value} (P : own_apf n k us vs) : ¬ n < 0 := P.1
theorem own_apf.k0 {n k : Int32} {us vs : List Value} (P : own_apf n k us vs) : ¬ k < 0 := P.2.1
theorem own_apf.sh {n k : Int32} {us vs : List Value} (P : own_apf n k us vs) : n <<< ((0 : Int32) &&& 31) = n := P.2.2.1
theorem own_apf.kr {n k : Int32} {us vs : List Value} (P : own_apf n k us vs) : k >>> ((0 : Int32) &&& 31) = k := P.2.2.2.1
theorem own_apf.le {n k : Int32} {us vs : List Value} (P : own_apf n k us vs) : n.toNatClampNeg + k.toNatClampNeg ≤ (16 : Int32).toNatClampNeg := P.2.2.2.2.1
theorem own_apf.lv {n k : Int32} {us vs : List Value} (P : own_apf n k us vs) : n.toNatClampNeg + k.toNatClampNeg ≤ vs.length := P.2.2.2.2.2.1
theorem own_apf.us {n k : Int32} {us vs : List Value} (P : own_apf n k us vs) : us = (List.range k.toNatClampNeg).map fun i => us.getD ((0 : Int32).toNatClampNeg + i) (.int 0) := P.2.2.2.2.2.2.1
theorem own_apf.cap {n k : Int32} {us vs : List Value} (P : own_apf n k us vs) : ¬ (0 : Int32) < (n + k) - ((16 : Int32) >>> ((0 : Int32) &&& 31)) := P.2.2.2.2.2.2.2
theorem own_apf_mk {n k : Int32} {us vs : List Value} (h0 : ¬ n < 0) (h1 : ¬ k < 0) (h2 : n <<< ((0 : Int32) &&& 31) = n) (h3 : k >>> ((0 : Int32) &&& 31) = k) (h4 : n.toNatClampNeg + k.toNatClampNeg ≤ (16 : Int32).toNatClampNeg) (h5 : n.toNatClampNeg + k.toNatClampNeg ≤ vs.length) (h6 : us = (List.range k.toNatClampNeg).map fun i => us.getD ((0 : Int32).toNatClampNeg + i) (.int 0)) (h7 : ¬ (0 : Int32) < (n + k) - ((16 : Int32) >>> ((0 : Int32) &&& 31))) : own_apf n k us vs := ⟨h0, h1, h2, h3, h4, h5, h6, h7⟩
def own_spl (n k : Int32) (us vs : List Value) : List Value := vs.take n.toNatClampNeg ++ us ++ vs.drop (n.toNatClampNeg + k.toNatClampNeg)
def own_R (f c s l : Nat) : Room := { frames := f, cells := c, slots := s, locals := l }
theorem own_ent {l : Launch} {Z : State} {n0 : Nat} {a0 : Array Value} {EL : List (String × Nat)} {sf : List Addr} {w : Bool} {own nm : String} {bytes : ByteArray} {ret : Option FieldType} {h : Heap} {Ls : Array Slot} {y : MethodName} {mx : Nat} {ws : List Jvm.Cond} {rm : Room} {as' : Array Value} {Qc : Option Value → Heap → Prop} (hpl : plainName own = true) (O : Old Z n0 h) (hEL : EW Z a0 EL)
    (body : ∀ p e s m args below meth c T Q, Q = own_Q w s rm n0 Z EL Qc → own_At w p l e rm s m args below meth c bytes ret own nm mx Z n0 a0 EL sf T h 0 0 → own_Run p e below Q m T 0 Ls []) (hef : ∀ m, entryFrame m as' mx = mkF m 0 Ls [] := by intro m; first | (simp [entryFrame, mkF, argsToLocals, Value.category, maxLocals]; done) | rfl) (ho : y.cls = own := by rfl) (hn : y.name = nm := by rfl) : own_Met w l Z n0 EL sf y bytes mx ret ws rm as' h Qc := own_enter hpl O hEL hef body ho hn
def own_H (Z : State) (a0 : Array Value) (zc : Int32) (fm : Value) : Prop := (∀ d ∈ tables_1, d.before a0 Z = true) ∧ (Sta Z Z.heap "java/lang/String" "COMPACT_STRINGS" "Z" (.int zc)) ∧ (¬ zc = 0) ∧ (Sta Z Z.heap "jdk/internal/util/Preconditions" "SIOOBE_FORMATTER" "Ljava/util/function/BiFunction;" fm) ∧ (fm.isRef = true)
theorem own_H.w {Z : State} {a0 : Array Value} {zc : Int32} {fm : Value} (P : own_H Z a0 zc fm) : ∀ d ∈ tables_1, d.before a0 Z = true := P.1
theorem own_H.SC {Z : State} {a0 : Array Value} {zc : Int32} {fm : Value} (P : own_H Z a0 zc fm) : Sta Z Z.heap "java/lang/String" "COMPACT_STRINGS" "Z" (.int zc) := P.2.1
theorem own_H.hz {Z : State} {a0 : Array Value} {zc : Int32} {fm : Value} (P : own_H Z a0 zc fm) : ¬ zc = 0 := P.2.2.1
theorem own_H.SF {Z : State} {a0 : Array Value} {zc : Int32} {fm : Value} (P : own_H Z a0 zc fm) : Sta Z Z.heap "jdk/internal/util/Preconditions" "SIOOBE_FORMATTER" "Ljava/util/function/BiFunction;" fm := P.2.2.2.1
theorem own_H.rf {Z : State} {a0 : Array Value} {zc : Int32} {fm : Value} (P : own_H Z a0 zc fm) : fm.isRef = true := P.2.2.2.2
theorem own_H_mk {Z : State} {a0 : Array Value} {zc : Int32} {fm : Value} (h0 : ∀ d ∈ tables_1, d.before a0 Z = true) (h1 : Sta Z Z.heap "java/lang/String" "COMPACT_STRINGS" "Z" (.int zc)) (h2 : ¬ zc = 0) (h3 : Sta Z Z.heap "jdk/internal/util/Preconditions" "SIOOBE_FORMATTER" "Ljava/util/function/BiFunction;" fm) (h4 : fm.isRef = true) : own_H Z a0 zc fm := ⟨h0, h1, h2, h3, h4⟩
theorem own_H.k {Z : State} {a0 : Array Value} {zc : Int32} {fm : Value} (P : own_H Z a0 zc fm) (i : Nat) {d : Jvm.Cond} (h : tables_1[i]? = some d) : d.before a0 Z = true := P.w _ (List.mem_of_getElem? h)
variable {l : Launch} {Z : State} {a0 : Array Value} {zc : Int32} {fm : Value} {h0 : Heap} {n0 : Nat}
theorem own_keepE {h h' : Heap} (q : h = h') : Keep h h' [] := by subst q; exact Keep.refl _ _
theorem d15_0 : decode jdk_42_method_152_code 0 = .ok (.getstatic 38, 3) := by decide +kernel
theorem d15_3 : decode jdk_42_method_152_code 3 = .ok (.ifCond .eq 10, 3) := by decide +kernel
theorem d15_6 : decode jdk_42_method_152_code 6 = .ok (.aload_n 0, 1) := by decide +kernel
theorem d15_7 : decode jdk_42_method_152_code 7 = .ok (.getfield 15, 3) := by decide +kernel
theorem d15_10 : decode jdk_42_method_152_code 10 = .ok (.goto 4, 3) := by decide +kernel
theorem d15_14 : decode jdk_42_method_152_code 14 = .ok (.ireturn, 1) := by decide +kernel
theorem own_pn0 : plainName "java/lang/String" = true := by first | (simp [plainName, overriddenIn]; done) | decide +kernel
theorem rm_cod (x : Addr) (O0 : Old Z n0 h0) (H : own_H Z a0 zc fm) (Cx : Fld Z h0 x "java/lang/String" "coder" "B" (.int 0)):
  own_Met false l Z n0 [] [] ⟨"java/lang/String", "coder", "()B"⟩ jdk_42_method_152_code 1 (some .byte) [] (own_R 0 0 0 0) #[(.ref x)] h0 (fun v h => v = some (.int 0) ∧ h0 = h) := by
  refine own_ent (a0 := a0) (nm := "coder") (Ls := #[.val (.ref x)]) own_pn0 O0 EW.nil ?_
  intro p e _ m _ below _ _ T0 Q hQ A0
  refine own_getS (q := 3) A0 (H.k 18 rfl) Via.refl H.SC d15_0 ?_
  intro T1 A2
  refine own_ifcF (q := 6) A2 d15_3 (show ¬ zc = (0 : Int32) from H.hz) ?_
  refine own_aloadN (q := 7) A2 d15_6 rfl rfl ?_
  refine own_getF (host := "") (q := 10) A2 (Or.inl (H.k 30 rfl)) Via.refl Cx d15_7 ?_
  intro T3 A4
  refine own_goto (q := 14) A4 d15_10 ?_
  exact own_retN A4 hQ (t := .byte) (by simp) d15_14 ⟨rfl, rfl⟩
theorem d14_0 : decode jdk_42_method_54_code 0 = .ok (.aload_n 0, 1) := by decide +kernel
theorem d14_1 : decode jdk_42_method_54_code 1 = .ok (.getfield 9, 3) := by decide +kernel
theorem d14_4 : decode jdk_42_method_54_code 4 = .ok (.arraylength, 1) := by decide +kernel
theorem d14_5 : decode jdk_42_method_54_code 5 = .ok (.aload_n 0, 1) := by decide +kernel
theorem d14_6 : decode jdk_42_method_54_code 6 = .ok (.invokevirtual 335, 3) := by decide +kernel
theorem d14_9 : decode jdk_42_method_54_code 9 = .ok (.ishr, 1) := by decide +kernel
theorem d14_10 : decode jdk_42_method_54_code 10 = .ok (.ireturn, 1) := by decide +kernel
theorem rm_len (x t : Addr) (kt : ClassId) (k : Int32) (us : List Value) (O0 : Old Z n0 h0) (H : own_H Z a0 zc fm) (Ex : Exa Z h0 x "java/lang/String") (Vx : Fld Z h0 x "java/lang/String" "value" "[B" (.ref t)) (Cx : Fld Z h0 x "java/lang/String" "coder" "B" (.int 0)) (Kx : Arv Z h0 t kt .byte k us (.int 0)) :
  own_Met false l Z n0 [] [] ⟨"java/lang/String", "length", "()I"⟩ jdk_42_method_54_code 1 (some .int) [] (own_R 1 0 0 13) #[(.ref x)] h0 (fun v h => v = some (.int (k >>> ((0 : Int32) &&& 31))) ∧ h0 = h) := by
  refine own_ent (a0 := a0) (nm := "length") (Ls := #[.val (.ref x)]) own_pn0 O0 EW.nil ?_
  intro p e _ m _ below _ _ T0 Q hQ A0
  refine own_aloadN (q := 1) A0 d14_0 rfl rfl ?_
  refine own_getF (host := "") (q := 4) A0 (Or.inl (H.k 32 rfl)) Via.refl Vx d14_1 ?_
  intro T1 A2
  refine own_arrlenv (q := 5) A2 Kx d14_4 ?_
  refine own_aloadN (q := 6) A2 d14_5 rfl rfl ?_
  refine own_virtual (q := 9) (W := 1) (argsL := []) (rest := [(.int k)]) A2 (H.k 86 rfl) (H.k 87 rfl) (H.k 89 rfl) (H.k 88 rfl) (by decide) (own_pay (rm_cod x A2.old H Cx) (H.k 90 rfl) (H.k 6 rfl) (by decide) (by decide)) own_nW (Nat.le_of_eq rfl) Ex own_pd11 rfl rfl rfl d14_6 (by decide) (by decide) ?_
  rintro v3 T4 h5 A6 ⟨rfl, rfl⟩
  show own_Run p e below Q m T4 9 #[.val (.ref x)] [(.int (0 : Int32)), (.int k)]
  refine own_ishr (q := 10) A6 d14_9 ?_
  exact own_retI A6 hQ d14_10 ⟨rfl, rfl⟩
theorem d11_0 : decode jdk_68_method_2_code 0 = .ok (.aload_n 0, 1) := by decide +kernel
theorem d11_1 : decode jdk_68_method_2_code 1 = .ok (.invokespecial 3, 3) := by decide +kernel
theorem d11_4 : decode jdk_68_method_2_code 4 = .ok (.getstatic 18, 3) := by decide +kernel
theorem d11_7 : decode jdk_68_method_2_code 7 = .ok (.ifCond .eq 18, 3) := by decide +kernel
theorem d11_10 : decode jdk_68_method_2_code 10 = .ok (.aload_n 0, 1) := by decide +kernel
theorem d11_11 : decode jdk_68_method_2_code 11 = .ok (.iload_n 1, 1) := by decide +kernel
theorem d11_12 : decode jdk_68_method_2_code 12 = .ok (.newarray .byte, 2) := by decide +kernel
theorem d11_14 : decode jdk_68_method_2_code 14 = .ok (.putfield 15, 3) := by decide +kernel
theorem d11_17 : decode jdk_68_method_2_code 17 = .ok (.aload_n 0, 1) := by decide +kernel
theorem d11_18 : decode jdk_68_method_2_code 18 = .ok (.iconst 0, 1) := by decide +kernel
theorem d11_19 : decode jdk_68_method_2_code 19 = .ok (.putfield 22, 3) := by decide +kernel
theorem d11_22 : decode jdk_68_method_2_code 22 = .ok (.goto 16, 3) := by decide +kernel
theorem d11_38 : decode jdk_68_method_2_code 38 = .ok (.return_, 1) := by decide +kernel
theorem own_pn1 : plainName "java/lang/AbstractStringBuilder" = true := by first | (simp [plainName, overriddenIn]; done) | decide +kernel
theorem rm_abi (sb : Addr) (O0 : Old Z n0 h0) (H : own_H Z a0 zc fm) (Eb : Exa Z h0 sb "java/lang/StringBuilder") (Fv : Fld Z h0 sb "java/lang/AbstractStringBuilder" "value" "[B" .null) (Fc : Fld Z h0 sb "java/lang/AbstractStringBuilder" "coder" "B" (.int 0)) (Fn : Fld Z h0 sb "java/lang/AbstractStringBuilder" "count" "I" (.int 0)) (gb : n0 ≤ sb) :
  own_Met false l Z n0 [] [] ⟨"java/lang/AbstractStringBuilder", "<init>", "(I)V"⟩ jdk_68_method_2_code 2 none [] (own_R 1 1 16 12) #[(.ref sb), (.int (16 : Int32))] h0 (fun v h => v = none ∧ Keep h0 h [sb] ∧ Exa Z h sb "java/lang/StringBuilder" ∧ Fld Z h sb "java/lang/AbstractStringBuilder" "coder" "B" (.int 0) ∧ Fld Z h sb "java/lang/AbstractStringBuilder" "count" "I" (.int 0) ∧ ∃ (va : Addr) (kv : ClassId), n0 ≤ va ∧ h0.size ≤ va ∧ Fld Z h sb "java/lang/AbstractStringBuilder" "value" "[B" (.ref va) ∧ Arv Z h va kv .byte 16 [(.int 0), (.int 0), (.int 0), (.int 0), (.int 0), (.int 0), (.int 0), (.int 0), (.int 0), (.int 0), (.int 0), (.int 0), (.int 0), (.int 0), (.int 0), (.int 0)] (.int 0)) := by
  refine own_ent (a0 := a0) (nm := "<init>") (Ls := #[.val (.ref sb), .val (.int (16 : Int32))]) own_pn1 O0 EW.nil ?_
  intro p e _ m _ below _ _ T0 Q hQ A0
  refine own_aloadN (q := 1) A0 d11_0 rfl rfl ?_
  refine own_initO (q := 4) (W := 0) A0 (H.k 65 rfl) (H.k 16 rfl) (H.k 17 rfl) d11_1 rfl (by decide) (Nat.le_of_eq rfl) (by decide) ?_
  intro T1 A2
  refine own_getS (q := 7) A2 (H.k 66 rfl) Via.refl H.SC d11_4 ?_
  intro T3 A4
  refine own_ifcF (q := 10) A4 d11_7 (show ¬ zc = (0 : Int32) from H.hz) ?_
  refine own_aloadN (q := 11) A4 d11_10 rfl rfl ?_
  refine own_iloadN (q := 12) A4 d11_11 rfl ?_
  refine own_newPv (q := 14) (ty := .byte) (dv := .int 0) A4 rfl rfl (H.k 23 rfl) d11_12 16 (by decide) (by decide) (by decide) (by decide) (by decide) ?_
  intro T5 h6 a7 k8 g9 g10 A11 E12 X13
  have z14 : sb ≠ a7 := Nat.ne_of_lt (Nat.lt_of_lt_of_le Eb.lt (Nat.le_of_eq g9))
  have K15 := (Keep.refl h0 [sb]).ext E12
  have f16 := Eb.ext E12
  have f17 := Fv.ext E12
  have f18 := Fc.ext E12
  have f19 := Fn.ext E12
  have f20 : Arv Z h6 a7 k8 .byte (16 : Int32) [(.int (0 : Int32)), (.int (0 : Int32)), (.int (0 : Int32)), (.int (0 : Int32)), (.int (0 : Int32)), (.int (0 : Int32)), (.int (0 : Int32)), (.int (0 : Int32)), (.int (0 : Int32)), (.int (0 : Int32)), (.int (0 : Int32)), (.int (0 : Int32)), (.int (0 : Int32)), (.int (0 : Int32)), (.int (0 : Int32)), (.int (0 : Int32))] (.int 0) := X13
  refine own_putF (host := "") (q := 17) A11 (Or.inl (H.k 67 rfl)) Via.refl f17 f16 (Or.inl (H.k 68 rfl)) (H.k 54 rfl) (ty := (.array .byte)) (by decide) rfl rfl gb (Or.inr (Or.inl rfl)) d11_14 ?_
  intro T21 h22 A23 W24
  have K25 := K15.wr W24 (Or.inl (by simp))
  have f26 := f16.wr W24
  have f27 := f17.same W24
  have f28 := f18.other W24 (Or.inr (slot_ne (Or.inl (H.k 70 rfl)) (Or.inl (H.k 68 rfl)) (by decide) (by decide : parseFieldDescriptor "B" = some .byte) (by decide : parseFieldDescriptor "[B" = some (.array .byte))))
  have f29 := f19.other W24 (Or.inr (slot_ne (Or.inl (H.k 92 rfl)) (Or.inl (H.k 68 rfl)) (by decide) (by decide : parseFieldDescriptor "I" = some .int) (by decide : parseFieldDescriptor "[B" = some (.array .byte))))
  have f30 := f20.other W24 (Ne.symm z14)
  refine own_aloadN (q := 18) A23 d11_17 rfl rfl ?_
  refine own_iconst (q := 19) A23 (0 : Int32) d11_18 rfl ?_
  refine own_putF (host := "") (q := 22) A23 (Or.inl (H.k 69 rfl)) Via.refl f28 f26 (Or.inl (H.k 70 rfl)) (H.k 54 rfl) (ty := .byte) (by decide) rfl rfl gb (Or.inr (Or.inl rfl)) d11_19 ?_
  intro T31 h32 A33 W34
  have K35 := K25.wr W34 (Or.inl (by simp))
  have f36 := f26.wr W34
  have f37 := f27.other W34 (Or.inr (slot_ne (Or.inl (H.k 68 rfl)) (Or.inl (H.k 70 rfl)) (by decide) (by decide : parseFieldDescriptor "[B" = some (.array .byte)) (by decide : parseFieldDescriptor "B" = some .byte)))
  have f38 := f28.same W34
  have f39 := f29.other W34 (Or.inr (slot_ne (Or.inl (H.k 92 rfl)) (Or.inl (H.k 70 rfl)) (by decide) (by decide : parseFieldDescriptor "I" = some .int) (by decide : parseFieldDescriptor "B" = some .byte)))
  have f40 := f30.other W34 (Ne.symm z14)
  refine own_goto (q := 38) A33 d11_22 ?_
  exact own_ret0 A33 hQ d11_38 ⟨rfl, K35, f36, f38, f39, a7, _, g10, (Nat.le_trans (Keep.refl h0 [sb]).1 (Nat.le_of_eq g9)), f37, f40⟩
theorem d10_0 : decode jdk_67_method_1_code 0 = .ok (.aload_n 0, 1) := by decide +kernel
theorem d10_1 : decode jdk_67_method_1_code 1 = .ok (.bipush 16, 2) := by decide +kernel
theorem d10_3 : decode jdk_67_method_1_code 3 = .ok (.invokespecial 1, 3) := by decide +kernel
theorem d10_6 : decode jdk_67_method_1_code 6 = .ok (.return_, 1) := by decide +kernel
theorem own_pn2 : plainName "java/lang/StringBuilder" = true := by first | (simp [plainName, overriddenIn]; done) | decide +kernel
theorem rm_sbi (sb : Addr) (O0 : Old Z n0 h0) (H : own_H Z a0 zc fm) (Eb : Exa Z h0 sb "java/lang/StringBuilder") (Fv : Fld Z h0 sb "java/lang/AbstractStringBuilder" "value" "[B" .null) (Fc : Fld Z h0 sb "java/lang/AbstractStringBuilder" "coder" "B" (.int 0)) (Fn : Fld Z h0 sb "java/lang/AbstractStringBuilder" "count" "I" (.int 0)) (gb : n0 ≤ sb) :
  own_Met false l Z n0 [] [] ⟨"java/lang/StringBuilder", "<init>", "()V"⟩ jdk_67_method_1_code 1 none [] (own_R 2 1 16 25) #[(.ref sb)] h0 (fun v h => v = none ∧ Keep h0 h [sb] ∧ Exa Z h sb "java/lang/StringBuilder" ∧ Fld Z h sb "java/lang/AbstractStringBuilder" "coder" "B" (.int 0) ∧ Fld Z h sb "java/lang/AbstractStringBuilder" "count" "I" (.int 0) ∧ ∃ (va : Addr) (kv : ClassId), n0 ≤ va ∧ h0.size ≤ va ∧ Fld Z h sb "java/lang/AbstractStringBuilder" "value" "[B" (.ref va) ∧ Arv Z h va kv .byte 16 [(.int 0), (.int 0), (.int 0), (.int 0), (.int 0), (.int 0), (.int 0), (.int 0), (.int 0), (.int 0), (.int 0), (.int 0), (.int 0), (.int 0), (.int 0), (.int 0)] (.int 0)) := by
  refine own_ent (a0 := a0) (nm := "<init>") (Ls := #[.val (.ref sb)]) own_pn2 O0 EW.nil ?_
  intro p e _ m _ below _ _ T0 Q hQ A0
  refine own_aloadN (q := 1) A0 d10_0 rfl rfl ?_
  refine own_bipush (q := 3) A0 (16 : Int32) d10_1 rfl ?_
  refine own_special (q := 6) (W := 0) (argsL := [(.int (16 : Int32))]) (rest := []) A0 rfl (H.k 59 rfl) (H.k 60 rfl) (H.k 64 rfl) (by decide) (own_pay (rm_abi sb A0.old H Eb Fv Fc Fn gb) (H.k 64 rfl) (H.k 63 rfl) (by decide) (by decide)) own_nW (Nat.le_of_eq rfl) own_pd7 rfl rfl rfl d10_3 (by decide) (by decide) ?_
  rintro v2 T3 h4 A5 ⟨rfl, q1⟩
  show own_Run p e below Q m T3 6 #[.val (.ref sb)] []
  exact own_ret0 A5 hQ d10_6 ⟨rfl, q1⟩
theorem d16_0 : decode jdk_68_method_9_code 0 = .ok (.aload_n 0, 1) := by decide +kernel
theorem d16_1 : decode jdk_68_method_9_code 1 = .ok (.getfield 15, 3) := by decide +kernel
theorem d16_4 : decode jdk_68_method_9_code 4 = .ok (.arraylength, 1) := by decide +kernel
theorem d16_5 : decode jdk_68_method_9_code 5 = .ok (.aload_n 0, 1) := by decide +kernel
theorem d16_6 : decode jdk_68_method_9_code 6 = .ok (.getfield 22, 3) := by decide +kernel
theorem d16_9 : decode jdk_68_method_9_code 9 = .ok (.ishr, 1) := by decide +kernel
theorem d16_10 : decode jdk_68_method_9_code 10 = .ok (.istore_n 2, 1) := by decide +kernel
theorem d16_11 : decode jdk_68_method_9_code 11 = .ok (.iload_n 1, 1) := by decide +kernel
theorem d16_12 : decode jdk_68_method_9_code 12 = .ok (.iload_n 2, 1) := by decide +kernel
theorem d16_13 : decode jdk_68_method_9_code 13 = .ok (.isub, 1) := by decide +kernel
theorem d16_14 : decode jdk_68_method_9_code 14 = .ok (.ifCond .le 24, 3) := by decide +kernel
theorem d16_38 : decode jdk_68_method_9_code 38 = .ok (.return_, 1) := by decide +kernel
theorem rm_ens (sb va : Addr) (kv : ClassId) (n : Int32) (vs : List Value) (c : Int32) (O0 : Old Z n0 h0) (H : own_H Z a0 zc fm) (Eb : Exa Z h0 sb "java/lang/StringBuilder") (Fv : Fld Z h0 sb "java/lang/AbstractStringBuilder" "value" "[B" (.ref va)) (Fc : Fld Z h0 sb "java/lang/AbstractStringBuilder" "coder" "B" (.int 0)) (Fn : Fld Z h0 sb "java/lang/AbstractStringBuilder" "count" "I" (.int n)) (Kv : Arv Z h0 va kv .byte 16 vs (.int 0)) (gb : n0 ≤ sb) (gv : n0 ≤ va) (hc : ¬ (0 : Int32) < c - ((16 : Int32) >>> ((0 : Int32) &&& 31))):
  own_Met false l Z n0 [] [] ⟨"java/lang/AbstractStringBuilder", "ensureCapacityInternal", "(I)V"⟩ jdk_68_method_9_code 3 none [] (own_R 0 0 0 0) #[(.ref sb), (.int c)] h0 (fun v h => v = none ∧ h0 = h) := by
  refine own_ent (a0 := a0) (nm := "ensureCapacityInternal") (Ls := #[.val (.ref sb), .val (.int c), .unset]) own_pn1 O0 EW.nil ?_
  intro p e _ m _ below _ _ T0 Q hQ A0
  refine own_aloadN (q := 1) A0 d16_0 rfl rfl ?_
  refine own_getF (host := "") (q := 4) A0 (Or.inl (H.k 67 rfl)) Via.refl Fv d16_1 ?_
  intro T1 A2
  refine own_arrlenv (q := 5) A2 Kv d16_4 ?_
  refine own_aloadN (q := 6) A2 d16_5 rfl rfl ?_
  refine own_getF (host := "") (q := 9) A2 (Or.inl (H.k 69 rfl)) Via.refl Fc d16_6 ?_
  intro T3 A4
  refine own_ishr (q := 10) A4 d16_9 ?_
  refine own_istoreN (q := 11) (L' := #[.val (.ref sb), .val (.int c), .val (.int (((16 : Int32) >>> ((0 : Int32) &&& 31))))]) A4 d16_10 rfl ?_
  refine own_iloadN (q := 12) A4 d16_11 rfl ?_
  refine own_iloadN (q := 13) A4 d16_12 rfl ?_
  refine own_isub (q := 14) A4 d16_13 ?_
  refine own_ifcT (q := 38) A4 d16_14 (show ¬ (0 : Int32) < (c - (((16 : Int32) >>> ((0 : Int32) &&& 31)))) from hc) ?_
  exact own_ret0 A4 hQ d16_38 ⟨rfl, rfl⟩
theorem d18_0 : decode jdk_68_method_71_code 0 = .ok (.getstatic 18, 3) := by decide +kernel
theorem d18_3 : decode jdk_68_method_71_code 3 = .ok (.ifCond .eq 18, 3) := by decide +kernel
theorem d18_6 : decode jdk_68_method_71_code 6 = .ok (.aload_n 0, 1) := by decide +kernel
theorem d18_7 : decode jdk_68_method_71_code 7 = .ok (.getfield 22, 3) := by decide +kernel
theorem d18_10 : decode jdk_68_method_71_code 10 = .ok (.aload_n 1, 1) := by decide +kernel
theorem d18_11 : decode jdk_68_method_71_code 11 = .ok (.invokevirtual 40, 3) := by decide +kernel
theorem d18_14 : decode jdk_68_method_71_code 14 = .ok (.if_icmp .eq 7, 3) := by decide +kernel
theorem d18_21 : decode jdk_68_method_71_code 21 = .ok (.return_, 1) := by decide +kernel
theorem rm_inf (sb va : Addr) (kv : ClassId) (n : Int32) (vs : List Value) (x t : Addr) (kt : ClassId) (k : Int32) (us : List Value) (O0 : Old Z n0 h0) (H : own_H Z a0 zc fm) (Eb : Exa Z h0 sb "java/lang/StringBuilder") (Fv : Fld Z h0 sb "java/lang/AbstractStringBuilder" "value" "[B" (.ref va)) (Fc : Fld Z h0 sb "java/lang/AbstractStringBuilder" "coder" "B" (.int 0)) (Fn : Fld Z h0 sb "java/lang/AbstractStringBuilder" "count" "I" (.int n)) (Kv : Arv Z h0 va kv .byte 16 vs (.int 0)) (gb : n0 ≤ sb) (gv : n0 ≤ va) (Ex : Exa Z h0 x "java/lang/String") (Vx : Fld Z h0 x "java/lang/String" "value" "[B" (.ref t)) (Cx : Fld Z h0 x "java/lang/String" "coder" "B" (.int 0)) (Kx : Arv Z h0 t kt .byte k us (.int 0)) :
  own_Met false l Z n0 [] [] ⟨"java/lang/AbstractStringBuilder", "inflateIfNeededFor", "(Ljava/lang/String;)V"⟩ jdk_68_method_71_code 2 none [] (own_R 1 0 0 13) #[(.ref sb), (.ref x)] h0 (fun v h => v = none ∧ h0 = h) := by
  refine own_ent (a0 := a0) (nm := "inflateIfNeededFor") (Ls := #[.val (.ref sb), .val (.ref x)]) own_pn1 O0 EW.nil ?_
  intro p e _ m _ below _ _ T0 Q hQ A0
  refine own_getS (q := 3) A0 (H.k 66 rfl) Via.refl H.SC d18_0 ?_
  intro T1 A2
  refine own_ifcF (q := 6) A2 d18_3 (show ¬ zc = (0 : Int32) from H.hz) ?_
  refine own_aloadN (q := 7) A2 d18_6 rfl rfl ?_
  refine own_getF (host := "") (q := 10) A2 (Or.inl (H.k 69 rfl)) Via.refl Fc d18_7 ?_
  intro T3 A4
  refine own_aloadN (q := 11) A4 d18_10 rfl rfl ?_
  refine own_virtual (q := 14) (W := 1) (argsL := []) (rest := [(.int (0 : Int32))]) A4 (H.k 108 rfl) (H.k 87 rfl) (H.k 89 rfl) (H.k 88 rfl) (by decide) (own_pay (rm_cod x A4.old H Cx) (H.k 90 rfl) (H.k 6 rfl) (by decide) (by decide)) own_nW (Nat.le_of_eq rfl) Ex own_pd11 rfl rfl rfl d18_11 (by decide) (by decide) ?_
  rintro v5 T6 h7 A8 ⟨rfl, rfl⟩
  show own_Run p e below Q m T6 14 #[.val (.ref sb), .val (.ref x)] [(.int (0 : Int32)), (.int (0 : Int32))]
  refine own_icmpT (q := 21) A8 d18_14 (show (0 : Int32) = (0 : Int32) from rfl) ?_
  exact own_ret0 A8 hQ d18_21 ⟨rfl, rfl⟩
theorem d19_0 : decode jdk_42_method_147_code 0 = .ok (.aload_n 0, 1) := by decide +kernel
theorem d19_1 : decode jdk_42_method_147_code 1 = .ok (.invokevirtual 335, 3) := by decide +kernel
theorem d19_4 : decode jdk_42_method_147_code 4 = .ok (.iload_n 3, 1) := by decide +kernel
theorem d19_5 : decode jdk_42_method_147_code 5 = .ok (.if_icmp .ne 23, 3) := by decide +kernel
theorem d19_8 : decode jdk_42_method_147_code 8 = .ok (.aload_n 0, 1) := by decide +kernel
theorem d19_9 : decode jdk_42_method_147_code 9 = .ok (.getfield 9, 3) := by decide +kernel
theorem d19_12 : decode jdk_42_method_147_code 12 = .ok (.iconst 0, 1) := by decide +kernel
theorem d19_13 : decode jdk_42_method_147_code 13 = .ok (.aload_n 1, 1) := by decide +kernel
theorem d19_14 : decode jdk_42_method_147_code 14 = .ok (.iload_n 2, 1) := by decide +kernel
theorem d19_15 : decode jdk_42_method_147_code 15 = .ok (.iload_n 3, 1) := by decide +kernel
theorem d19_16 : decode jdk_42_method_147_code 16 = .ok (.ishl, 1) := by decide +kernel
theorem d19_17 : decode jdk_42_method_147_code 17 = .ok (.aload_n 0, 1) := by decide +kernel
theorem d19_18 : decode jdk_42_method_147_code 18 = .ok (.getfield 9, 3) := by decide +kernel
theorem d19_21 : decode jdk_42_method_147_code 21 = .ok (.arraylength, 1) := by decide +kernel
theorem d19_22 : decode jdk_42_method_147_code 22 = .ok (.invokestatic 212, 3) := by decide +kernel
theorem d19_25 : decode jdk_42_method_147_code 25 = .ok (.goto 18, 3) := by decide +kernel
theorem d19_43 : decode jdk_42_method_147_code 43 = .ok (.return_, 1) := by decide +kernel
theorem rm_gb (x t : Addr) (kt : ClassId) (k : Int32) (us : List Value) (va : Addr) (kv : ClassId) (n : Int32) (vs : List Value) (O0 : Old Z n0 h0) (H : own_H Z a0 zc fm) (Ex : Exa Z h0 x "java/lang/String") (Vx : Fld Z h0 x "java/lang/String" "value" "[B" (.ref t)) (Cx : Fld Z h0 x "java/lang/String" "coder" "B" (.int 0)) (Kx : Arv Z h0 t kt .byte k us (.int 0)) (Kv : Arv Z h0 va kv .byte 16 vs (.int 0)) (gv : n0 ≤ va) (P : own_apf n k us vs):
  own_Met false l Z n0 [] [] ⟨"java/lang/String", "getBytes", "([BIB)V"⟩ jdk_42_method_147_code 4 none [] (own_R 1 0 0 18) #[(.ref x), (.ref va), (.int n), (.int (0 : Int32))] h0 (fun v h => v = none ∧ Keep h0 h [va] ∧ Arv Z h va kv .byte 16 (own_spl n k us vs) (.int 0)) := by
  refine own_ent (a0 := a0) (nm := "getBytes") (Ls := #[.val (.ref x), .val (.ref va), .val (.int n), .val (.int (0 : Int32))]) own_pn0 O0 EW.nil ?_
  intro p e _ m _ below _ _ T0 Q hQ A0
  refine own_aloadN (q := 1) A0 d19_0 rfl rfl ?_
  refine own_virtual (q := 4) (W := 0) (argsL := []) (rest := []) A0 (H.k 86 rfl) (H.k 87 rfl) (H.k 89 rfl) (H.k 88 rfl) (by decide) (own_pay (rm_cod x A0.old H Cx) (H.k 90 rfl) (H.k 6 rfl) (by decide) (by decide)) own_nW (Nat.le_of_eq rfl) Ex own_pd11 rfl rfl rfl d19_1 (by decide) (by decide) ?_
  rintro v1 T2 h3 A4 ⟨rfl, rfl⟩
  show own_Run p e below Q m T2 4 #[.val (.ref x), .val (.ref va), .val (.int n), .val (.int (0 : Int32))] [(.int (0 : Int32))]
  refine own_iloadN (q := 5) A4 d19_4 rfl ?_
  refine own_icmpF (q := 8) A4 d19_5 (show (0 : Int32) = (0 : Int32) from rfl) ?_
  refine own_aloadN (q := 9) A4 d19_8 rfl rfl ?_
  refine own_getF (host := "") (q := 12) A4 (Or.inl (H.k 32 rfl)) Via.refl Vx d19_9 ?_
  intro T5 A6
  refine own_iconst (q := 13) A6 (0 : Int32) d19_12 rfl ?_
  refine own_aloadN (q := 14) A6 d19_13 rfl rfl ?_
  refine own_iloadN (q := 15) A6 d19_14 rfl ?_
  refine own_iloadN (q := 16) A6 d19_15 rfl ?_
  refine own_ishl (q := 17) A6 d19_16 ?_
  refine own_aloadN (q := 18) A6 d19_17 rfl rfl ?_
  refine own_getF (host := "") (q := 21) A6 (Or.inl (H.k 32 rfl)) Via.refl Vx d19_18 ?_
  intro T7 A8
  refine own_arrlenv (q := 22) A8 Kx d19_21 ?_
  rw [P.sh]
  refine own_acopy (q := 25) (W := 0) A8 (H.k 114 rfl) (H.k 117 rfl) (H.k 115 rfl) (H.k 116 rfl) Kx Kv rfl (by decide) P.n0 P.k0 (by rw [show (0 : Int32).toNatClampNeg = 0 from rfl, Nat.zero_add]; exact Nat.le_refl _) P.le P.us P.lv gv (Or.inr (Or.inl rfl)) rfl d19_22 (by decide) (Nat.le_of_eq rfl) (by decide) ?_
  intro T9 h10 A11 K12 V13
  refine own_goto (q := 43) A11 d19_25 ?_
  exact own_ret0 A11 hQ d19_43 ⟨rfl, K12, V13⟩
theorem d17_0 : decode jdk_68_method_73_code 0 = .ok (.aload_n 0, 1) := by decide +kernel
theorem d17_1 : decode jdk_68_method_73_code 1 = .ok (.aload_n 2, 1) := by decide +kernel
theorem d17_2 : decode jdk_68_method_73_code 2 = .ok (.invokevirtual 397, 3) := by decide +kernel
theorem d17_5 : decode jdk_68_method_73_code 5 = .ok (.aload_n 2, 1) := by decide +kernel
theorem d17_6 : decode jdk_68_method_73_code 6 = .ok (.aload_n 0, 1) := by decide +kernel
theorem d17_7 : decode jdk_68_method_73_code 7 = .ok (.getfield 15, 3) := by decide +kernel
theorem d17_10 : decode jdk_68_method_73_code 10 = .ok (.iload_n 1, 1) := by decide +kernel
theorem d17_11 : decode jdk_68_method_73_code 11 = .ok (.aload_n 0, 1) := by decide +kernel
theorem d17_12 : decode jdk_68_method_73_code 12 = .ok (.getfield 22, 3) := by decide +kernel
theorem d17_15 : decode jdk_68_method_73_code 15 = .ok (.invokevirtual 399, 3) := by decide +kernel
theorem d17_18 : decode jdk_68_method_73_code 18 = .ok (.return_, 1) := by decide +kernel
theorem rm_put (sb va : Addr) (kv : ClassId) (n : Int32) (vs : List Value) (x t : Addr) (kt : ClassId) (k : Int32) (us : List Value) (O0 : Old Z n0 h0) (H : own_H Z a0 zc fm) (Eb : Exa Z h0 sb "java/lang/StringBuilder") (Fv : Fld Z h0 sb "java/lang/AbstractStringBuilder" "value" "[B" (.ref va)) (Fc : Fld Z h0 sb "java/lang/AbstractStringBuilder" "coder" "B" (.int 0)) (Fn : Fld Z h0 sb "java/lang/AbstractStringBuilder" "count" "I" (.int n)) (Kv : Arv Z h0 va kv .byte 16 vs (.int 0)) (gb : n0 ≤ sb) (gv : n0 ≤ va) (Ex : Exa Z h0 x "java/lang/String") (Vx : Fld Z h0 x "java/lang/String" "value" "[B" (.ref t)) (Cx : Fld Z h0 x "java/lang/String" "coder" "B" (.int 0)) (Kx : Arv Z h0 t kt .byte k us (.int 0)) (P : own_apf n k us vs):
  own_Met false l Z n0 [] [] ⟨"java/lang/AbstractStringBuilder", "putStringAt", "(ILjava/lang/String;)V"⟩ jdk_68_method_73_code 3 none [] (own_R 2 0 0 33) #[(.ref sb), (.int n), (.ref x)] h0 (fun v h => v = none ∧ Keep h0 h [va] ∧ Arv Z h va kv .byte 16 (own_spl n k us vs) (.int 0)) := by
  refine own_ent (a0 := a0) (nm := "putStringAt") (Ls := #[.val (.ref sb), .val (.int n), .val (.ref x)]) own_pn1 O0 EW.nil ?_
  intro p e _ m _ below _ _ T0 Q hQ A0
  refine own_aloadN (q := 1) A0 d17_0 rfl rfl ?_
  refine own_aloadN (q := 2) A0 d17_1 rfl rfl ?_
  refine own_private (q := 5) (W := 0) (argsL := [(.ref x)]) (rest := []) A0 (H.k 103 rfl) (H.k 104 rfl) (H.k 106 rfl) (H.k 105 rfl) (H.k 107 rfl) (by decide) (own_pay (rm_inf sb va kv n vs x t kt k us A0.old H Eb Fv Fc Fn Kv gb gv Ex Vx Cx Kx) (H.k 107 rfl) (H.k 63 rfl) (by decide) (by decide)) own_nW (Nat.le_of_eq rfl) Eb own_pd13 rfl rfl rfl d17_2 (by decide) (by decide) ?_
  rintro v1 T2 h3 A4 ⟨rfl, rfl⟩
  show own_Run p e below Q m T2 5 #[.val (.ref sb), .val (.int n), .val (.ref x)] []
  refine own_aloadN (q := 6) A4 d17_5 rfl rfl ?_
  refine own_aloadN (q := 7) A4 d17_6 rfl rfl ?_
  refine own_getF (host := "") (q := 10) A4 (Or.inl (H.k 67 rfl)) Via.refl Fv d17_7 ?_
  intro T5 A6
  refine own_iloadN (q := 11) A6 d17_10 rfl ?_
  refine own_aloadN (q := 12) A6 d17_11 rfl rfl ?_
  refine own_getF (host := "") (q := 15) A6 (Or.inl (H.k 69 rfl)) Via.refl Fc d17_12 ?_
  intro T7 A8
  refine own_virtual (q := 18) (W := 0) (argsL := [(.ref va), (.int n), (.int (0 : Int32))]) (rest := []) A8 (H.k 109 rfl) (H.k 110 rfl) (H.k 112 rfl) (H.k 111 rfl) (by decide) (own_pay (rm_gb x t kt k us va kv n vs A8.old H Ex Vx Cx Kx Kv gv P) (H.k 113 rfl) (H.k 6 rfl) (by decide) (by decide)) own_nW (Nat.le_of_eq rfl) Ex own_pd14 rfl rfl rfl d17_15 (by decide) (by decide) ?_
  rintro v10 T11 h12 A13 ⟨rfl, q9⟩
  show own_Run p e below Q m T11 18 #[.val (.ref sb), .val (.int n), .val (.ref x)] []
  exact own_ret0 A13 hQ d17_18 ⟨rfl, q9⟩
theorem d13_0 : decode jdk_68_method_22_code 0 = .ok (.aload_n 1, 1) := by decide +kernel
theorem d13_1 : decode jdk_68_method_22_code 1 = .ok (.ifnonnull 8, 3) := by decide +kernel
theorem d13_9 : decode jdk_68_method_22_code 9 = .ok (.aload_n 1, 1) := by decide +kernel
theorem d13_10 : decode jdk_68_method_22_code 10 = .ok (.invokevirtual 32, 3) := by decide +kernel
theorem d13_13 : decode jdk_68_method_22_code 13 = .ok (.istore_n 2, 1) := by decide +kernel
theorem d13_14 : decode jdk_68_method_22_code 14 = .ok (.aload_n 0, 1) := by decide +kernel
theorem d13_15 : decode jdk_68_method_22_code 15 = .ok (.aload_n 0, 1) := by decide +kernel
theorem d13_16 : decode jdk_68_method_22_code 16 = .ok (.getfield 79, 3) := by decide +kernel
theorem d13_19 : decode jdk_68_method_22_code 19 = .ok (.iload_n 2, 1) := by decide +kernel
theorem d13_20 : decode jdk_68_method_22_code 20 = .ok (.iadd, 1) := by decide +kernel
theorem d13_21 : decode jdk_68_method_22_code 21 = .ok (.invokevirtual 100, 3) := by decide +kernel
theorem d13_24 : decode jdk_68_method_22_code 24 = .ok (.aload_n 0, 1) := by decide +kernel
theorem d13_25 : decode jdk_68_method_22_code 25 = .ok (.aload_n 0, 1) := by decide +kernel
theorem d13_26 : decode jdk_68_method_22_code 26 = .ok (.getfield 79, 3) := by decide +kernel
theorem d13_29 : decode jdk_68_method_22_code 29 = .ok (.aload_n 1, 1) := by decide +kernel
theorem d13_30 : decode jdk_68_method_22_code 30 = .ok (.invokevirtual 208, 3) := by decide +kernel
theorem d13_33 : decode jdk_68_method_22_code 33 = .ok (.aload_n 0, 1) := by decide +kernel
theorem d13_34 : decode jdk_68_method_22_code 34 = .ok (.dup, 1) := by decide +kernel
theorem d13_35 : decode jdk_68_method_22_code 35 = .ok (.getfield 79, 3) := by decide +kernel
theorem d13_38 : decode jdk_68_method_22_code 38 = .ok (.iload_n 2, 1) := by decide +kernel
theorem d13_39 : decode jdk_68_method_22_code 39 = .ok (.iadd, 1) := by decide +kernel
theorem d13_40 : decode jdk_68_method_22_code 40 = .ok (.putfield 79, 3) := by decide +kernel
theorem d13_43 : decode jdk_68_method_22_code 43 = .ok (.aload_n 0, 1) := by decide +kernel
theorem d13_44 : decode jdk_68_method_22_code 44 = .ok (.areturn, 1) := by decide +kernel
theorem rm_aap (sb va : Addr) (kv : ClassId) (n : Int32) (vs : List Value) (x t : Addr) (kt : ClassId) (k : Int32) (us : List Value) (O0 : Old Z n0 h0) (H : own_H Z a0 zc fm) (Eb : Exa Z h0 sb "java/lang/StringBuilder") (Fv : Fld Z h0 sb "java/lang/AbstractStringBuilder" "value" "[B" (.ref va)) (Fc : Fld Z h0 sb "java/lang/AbstractStringBuilder" "coder" "B" (.int 0)) (Fn : Fld Z h0 sb "java/lang/AbstractStringBuilder" "count" "I" (.int n)) (Kv : Arv Z h0 va kv .byte 16 vs (.int 0)) (gb : n0 ≤ sb) (gv : n0 ≤ va) (Ex : Exa Z h0 x "java/lang/String") (Vx : Fld Z h0 x "java/lang/String" "value" "[B" (.ref t)) (Cx : Fld Z h0 x "java/lang/String" "coder" "B" (.int 0)) (Kx : Arv Z h0 t kt .byte k us (.int 0)) (P : own_apf n k us vs) (nbv : sb ≠ va) (nxb : x ≠ sb) (ntb : t ≠ sb) (nxv : x ≠ va) (ntv : t ≠ va):
  own_Met false l Z n0 [] [] ⟨"java/lang/AbstractStringBuilder", "append", "(Ljava/lang/String;)Ljava/lang/AbstractStringBuilder;"⟩ jdk_68_method_22_code 3 (some (.object "java/lang/AbstractStringBuilder")) [] (own_R 3 0 0 47) #[(.ref sb), (.ref x)] h0 (fun v h => v = some (.ref sb) ∧ Keep h0 h [sb, va] ∧ Exa Z h sb "java/lang/StringBuilder" ∧ Fld Z h sb "java/lang/AbstractStringBuilder" "value" "[B" (.ref va) ∧ Fld Z h sb "java/lang/AbstractStringBuilder" "coder" "B" (.int 0) ∧ Fld Z h sb "java/lang/AbstractStringBuilder" "count" "I" (.int (n + k)) ∧ Arv Z h va kv .byte 16 (own_spl n k us vs) (.int 0)) := by
  refine own_ent (a0 := a0) (nm := "append") (Ls := #[.val (.ref sb), .val (.ref x), .unset]) own_pn1 O0 EW.nil ?_
  intro p e _ m _ below _ _ T0 Q hQ A0
  refine own_aloadN (q := 1) A0 d13_0 rfl rfl ?_
  refine own_ifnonnullT (q := 9) A0 d13_1 ?_
  refine own_aloadN (q := 10) A0 d13_9 rfl rfl ?_
  refine own_virtual (q := 13) (W := 0) (argsL := []) (rest := []) A0 (H.k 81 rfl) (H.k 82 rfl) (H.k 84 rfl) (H.k 83 rfl) (by decide) (own_pay (rm_len x t kt k us A0.old H Ex Vx Cx Kx) (H.k 85 rfl) (H.k 6 rfl) (by decide) (by decide)) own_nW (Nat.le_of_eq rfl) Ex own_pd10 rfl rfl rfl d13_10 (by decide) (by decide) ?_
  rintro v1 T2 h3 A4 ⟨rfl, rfl⟩
  show own_Run p e below Q m T2 13 #[.val (.ref sb), .val (.ref x), .unset] [(.int (k >>> ((0 : Int32) &&& 31)))]
  rw [P.kr]
  refine own_istoreN (q := 14) (L' := #[.val (.ref sb), .val (.ref x), .val (.int k)]) A4 d13_13 rfl ?_
  refine own_aloadN (q := 15) A4 d13_14 rfl rfl ?_
  refine own_aloadN (q := 16) A4 d13_15 rfl rfl ?_
  refine own_getF (host := "") (q := 19) A4 (Or.inl (H.k 91 rfl)) Via.refl Fn d13_16 ?_
  intro T5 A6
  refine own_iloadN (q := 20) A6 d13_19 rfl ?_
  refine own_iadd (q := 21) A6 d13_20 ?_
  refine own_private (q := 24) (W := 0) (argsL := [(.int (n + k))]) (rest := []) A6 (H.k 93 rfl) (H.k 94 rfl) (H.k 96 rfl) (H.k 95 rfl) (H.k 97 rfl) (by decide) (own_pay (rm_ens sb va kv n vs (n + k) A6.old H Eb Fv Fc Fn Kv gb gv P.cap) (H.k 97 rfl) (H.k 63 rfl) (by decide) (by decide)) own_nW (Nat.le_of_eq rfl) Eb own_pd7 rfl rfl rfl d13_21 (by decide) (by decide) ?_
  rintro v7 T8 h9 A10 ⟨rfl, rfl⟩
  show own_Run p e below Q m T8 24 #[.val (.ref sb), .val (.ref x), .val (.int k)] []
  refine own_aloadN (q := 25) A10 d13_24 rfl rfl ?_
  refine own_aloadN (q := 26) A10 d13_25 rfl rfl ?_
  refine own_getF (host := "") (q := 29) A10 (Or.inl (H.k 91 rfl)) Via.refl Fn d13_26 ?_
  intro T11 A12
  refine own_aloadN (q := 30) A12 d13_29 rfl rfl ?_
  refine own_private (q := 33) (W := 0) (argsL := [(.int n), (.ref x)]) (rest := []) A12 (H.k 98 rfl) (H.k 99 rfl) (H.k 101 rfl) (H.k 100 rfl) (H.k 102 rfl) (by decide) (own_pay (rm_put sb va kv n vs x t kt k us A12.old H Eb Fv Fc Fn Kv gb gv Ex Vx Cx Kx P) (H.k 102 rfl) (H.k 63 rfl) (by decide) (by decide)) own_nW (Nat.le_of_eq rfl) Eb own_pd12 rfl rfl rfl d13_30 (by decide) (by decide) ?_
  rintro v15 T16 h17 A18 ⟨rfl, K13, V14⟩
  show own_Run p e below Q m T16 33 #[.val (.ref sb), .val (.ref x), .val (.int k)] []
  have f19 := Eb.keep K13
  have f20 := Fv.keep K13 (ninS nbv nin0)
  have f21 := Fc.keep K13 (ninS nbv nin0)
  have f22 := Fn.keep K13 (ninS nbv nin0)
  have K23 := (Keep.refl h0 [sb, va]).trans K13 (allS (Or.inl (by simp)) all0)
  refine own_aloadN (q := 34) A18 d13_33 rfl rfl ?_
  refine own_dup (q := 35) A18 d13_34 rfl ?_
  refine own_getF (host := "") (q := 38) A18 (Or.inl (H.k 91 rfl)) Via.refl f22 d13_35 ?_
  intro T24 A25
  refine own_iloadN (q := 39) A25 d13_38 rfl ?_
  refine own_iadd (q := 40) A25 d13_39 ?_
  refine own_putF (host := "") (q := 43) A25 (Or.inl (H.k 91 rfl)) Via.refl f22 f19 (Or.inl (H.k 92 rfl)) (H.k 54 rfl) (ty := .int) (by decide) rfl rfl gb (Or.inr (Or.inl rfl)) d13_40 ?_
  intro T26 h27 A28 W29
  have K30 := K23.wr W29 (Or.inl (by simp))
  have f31 := f19.wr W29
  have f32 := f20.other W29 (Or.inr (slot_ne (Or.inl (H.k 68 rfl)) (Or.inl (H.k 92 rfl)) (by decide) (by decide : parseFieldDescriptor "[B" = some (.array .byte)) (by decide : parseFieldDescriptor "I" = some .int)))
  have f33 := f21.other W29 (Or.inr (slot_ne (Or.inl (H.k 70 rfl)) (Or.inl (H.k 92 rfl)) (by decide) (by decide : parseFieldDescriptor "B" = some .byte) (by decide : parseFieldDescriptor "I" = some .int)))
  have f34 := f22.same W29
  have f35 := V14.other W29 (Ne.symm nbv)
  refine own_aloadN (q := 44) A28 d13_43 rfl rfl ?_
  exact own_retA A28 hQ rfl rfl rfl d13_44 ⟨rfl, K30, f31, f32, f33, f34, f35⟩
theorem d12_0 : decode jdk_67_method_7_code 0 = .ok (.aload_n 0, 1) := by decide +kernel
theorem d12_1 : decode jdk_67_method_7_code 1 = .ok (.aload_n 1, 1) := by decide +kernel
theorem d12_2 : decode jdk_67_method_7_code 2 = .ok (.invokespecial 29, 3) := by decide +kernel
theorem d12_5 : decode jdk_67_method_7_code 5 = .ok (.pop, 1) := by decide +kernel
theorem d12_6 : decode jdk_67_method_7_code 6 = .ok (.aload_n 0, 1) := by decide +kernel
theorem d12_7 : decode jdk_67_method_7_code 7 = .ok (.areturn, 1) := by decide +kernel
theorem rm_sap (sb va : Addr) (kv : ClassId) (n : Int32) (vs : List Value) (x t : Addr) (kt : ClassId) (k : Int32) (us : List Value) (O0 : Old Z n0 h0) (H : own_H Z a0 zc fm) (Eb : Exa Z h0 sb "java/lang/StringBuilder") (Fv : Fld Z h0 sb "java/lang/AbstractStringBuilder" "value" "[B" (.ref va)) (Fc : Fld Z h0 sb "java/lang/AbstractStringBuilder" "coder" "B" (.int 0)) (Fn : Fld Z h0 sb "java/lang/AbstractStringBuilder" "count" "I" (.int n)) (Kv : Arv Z h0 va kv .byte 16 vs (.int 0)) (gb : n0 ≤ sb) (gv : n0 ≤ va) (Ex : Exa Z h0 x "java/lang/String") (Vx : Fld Z h0 x "java/lang/String" "value" "[B" (.ref t)) (Cx : Fld Z h0 x "java/lang/String" "coder" "B" (.int 0)) (Kx : Arv Z h0 t kt .byte k us (.int 0)) (P : own_apf n k us vs) (nbv : sb ≠ va) (nxb : x ≠ sb) (ntb : t ≠ sb) (nxv : x ≠ va) (ntv : t ≠ va):
  own_Met false l Z n0 [] [] ⟨"java/lang/StringBuilder", "append", "(Ljava/lang/String;)Ljava/lang/StringBuilder;"⟩ jdk_67_method_7_code 2 (some (.object "java/lang/StringBuilder")) [] (own_R 4 0 0 61) #[(.ref sb), (.ref x)] h0 (fun v h => v = some (.ref sb) ∧ Keep h0 h [sb, va] ∧ Exa Z h sb "java/lang/StringBuilder" ∧ Fld Z h sb "java/lang/AbstractStringBuilder" "value" "[B" (.ref va) ∧ Fld Z h sb "java/lang/AbstractStringBuilder" "coder" "B" (.int 0) ∧ Fld Z h sb "java/lang/AbstractStringBuilder" "count" "I" (.int (n + k)) ∧ Arv Z h va kv .byte 16 (own_spl n k us vs) (.int 0)) := by
  refine own_ent (a0 := a0) (nm := "append") (Ls := #[.val (.ref sb), .val (.ref x)]) own_pn2 O0 EW.nil ?_
  intro p e _ m _ below _ _ T0 Q hQ A0
  refine own_aloadN (q := 1) A0 d12_0 rfl rfl ?_
  refine own_aloadN (q := 2) A0 d12_1 rfl rfl ?_
  refine own_super (q := 5) (W := 0) (argsL := [(.ref x)]) (rest := []) A0 (H.k 76 rfl) (own_same (H.k 77 rfl) (H.k 133 rfl) (H.k 134 rfl) rfl (by decide)) (H.k 77 rfl) (H.k 78 rfl) (H.k 80 rfl) (by decide) (own_pay (rm_aap sb va kv n vs x t kt k us A0.old H Eb Fv Fc Fn Kv gb gv Ex Vx Cx Kx P nbv nxb ntb nxv ntv) (H.k 80 rfl) (H.k 63 rfl) (by decide) (by decide)) own_nW (Nat.le_of_eq rfl) Eb own_pd9 rfl rfl rfl d12_2 (by decide) (by decide) ?_
  rintro v2 T3 h4 A5 ⟨rfl, q1⟩
  show own_Run p e below Q m T3 5 #[.val (.ref sb), .val (.ref x)] [(.ref sb)]
  refine own_pop (q := 6) A5 d12_5 rfl ?_
  refine own_aloadN (q := 7) A5 d12_6 rfl rfl ?_
  exact own_retA A5 hQ rfl rfl rfl d12_7 ⟨rfl, q1⟩
theorem d23_0 : decode jdk_68_method_64_code 0 = .ok (.aload_n 0, 1) := by decide +kernel
theorem d23_1 : decode jdk_68_method_64_code 1 = .ok (.getfield 15, 3) := by decide +kernel
theorem d23_4 : decode jdk_68_method_64_code 4 = .ok (.areturn, 1) := by decide +kernel
theorem rm_gv (sb va : Addr) (kv : ClassId) (n : Int32) (vs : List Value) (O0 : Old Z n0 h0) (H : own_H Z a0 zc fm) (Eb : Exa Z h0 sb "java/lang/StringBuilder") (Fv : Fld Z h0 sb "java/lang/AbstractStringBuilder" "value" "[B" (.ref va)) (Fc : Fld Z h0 sb "java/lang/AbstractStringBuilder" "coder" "B" (.int 0)) (Fn : Fld Z h0 sb "java/lang/AbstractStringBuilder" "count" "I" (.int n)) (Kv : Arv Z h0 va kv .byte 16 vs (.int 0)) (gb : n0 ≤ sb) (gv : n0 ≤ va) :
  own_Met false l Z n0 [] [] ⟨"java/lang/AbstractStringBuilder", "getValue", "()[B"⟩ jdk_68_method_64_code 1 (some (.array .byte)) [] (own_R 0 0 0 0) #[(.ref sb)] h0 (fun v h => v = some (.ref va) ∧ h0 = h) := by
  refine own_ent (a0 := a0) (nm := "getValue") (Ls := #[.val (.ref sb)]) own_pn1 O0 EW.nil ?_
  intro p e _ m _ below _ _ T0 Q hQ A0
  refine own_aloadN (q := 1) A0 d23_0 rfl rfl ?_
  refine own_getF (host := "") (q := 4) A0 (Or.inl (H.k 67 rfl)) Via.refl Fv d23_1 ?_
  intro T1 A2
  exact own_retA A2 hQ rfl rfl rfl d23_4 ⟨rfl, rfl⟩
theorem d25_0 : decode jdk_68_method_6_code 0 = .ok (.aload_n 0, 1) := by decide +kernel
theorem d25_1 : decode jdk_68_method_6_code 1 = .ok (.getfield 79, 3) := by decide +kernel
theorem d25_4 : decode jdk_68_method_6_code 4 = .ok (.ireturn, 1) := by decide +kernel
theorem rm_aln (sb va : Addr) (kv : ClassId) (n : Int32) (vs : List Value) (O0 : Old Z n0 h0) (H : own_H Z a0 zc fm) (Eb : Exa Z h0 sb "java/lang/StringBuilder") (Fv : Fld Z h0 sb "java/lang/AbstractStringBuilder" "value" "[B" (.ref va)) (Fc : Fld Z h0 sb "java/lang/AbstractStringBuilder" "coder" "B" (.int 0)) (Fn : Fld Z h0 sb "java/lang/AbstractStringBuilder" "count" "I" (.int n)) (Kv : Arv Z h0 va kv .byte 16 vs (.int 0)) (gb : n0 ≤ sb) (gv : n0 ≤ va) :
  own_Met false l Z n0 [] [] ⟨"java/lang/AbstractStringBuilder", "length", "()I"⟩ jdk_68_method_6_code 1 (some .int) [] (own_R 0 0 0 0) #[(.ref sb)] h0 (fun v h => v = some (.int n) ∧ h0 = h) := by
  refine own_ent (a0 := a0) (nm := "length") (Ls := #[.val (.ref sb)]) own_pn1 O0 EW.nil ?_
  intro p e _ m _ below _ _ T0 Q hQ A0
  refine own_aloadN (q := 1) A0 d25_0 rfl rfl ?_
  refine own_getF (host := "") (q := 4) A0 (Or.inl (H.k 91 rfl)) Via.refl Fn d25_1 ?_
  intro T1 A2
  exact own_retI A2 hQ d25_4 ⟨rfl, rfl⟩
theorem d24_0 : decode jdk_67_method_93_code 0 = .ok (.aload_n 0, 1) := by decide +kernel
theorem d24_1 : decode jdk_67_method_93_code 1 = .ok (.invokespecial 343, 3) := by decide +kernel
theorem d24_4 : decode jdk_67_method_93_code 4 = .ok (.ireturn, 1) := by decide +kernel
theorem rm_sln (sb va : Addr) (kv : ClassId) (n : Int32) (vs : List Value) (O0 : Old Z n0 h0) (H : own_H Z a0 zc fm) (Eb : Exa Z h0 sb "java/lang/StringBuilder") (Fv : Fld Z h0 sb "java/lang/AbstractStringBuilder" "value" "[B" (.ref va)) (Fc : Fld Z h0 sb "java/lang/AbstractStringBuilder" "coder" "B" (.int 0)) (Fn : Fld Z h0 sb "java/lang/AbstractStringBuilder" "count" "I" (.int n)) (Kv : Arv Z h0 va kv .byte 16 vs (.int 0)) (gb : n0 ≤ sb) (gv : n0 ≤ va) :
  own_Met false l Z n0 [] [] ⟨"java/lang/StringBuilder", "length", "()I"⟩ jdk_67_method_93_code 1 (some .int) [] (own_R 1 0 0 12) #[(.ref sb)] h0 (fun v h => v = some (.int n) ∧ h0 = h) := by
  refine own_ent (a0 := a0) (nm := "length") (Ls := #[.val (.ref sb)]) own_pn2 O0 EW.nil ?_
  intro p e _ m _ below _ _ T0 Q hQ A0
  refine own_aloadN (q := 1) A0 d24_0 rfl rfl ?_
  refine own_super (q := 4) (W := 0) (argsL := []) (rest := []) A0 (H.k 142 rfl) (own_same (H.k 138 rfl) (H.k 133 rfl) (H.k 134 rfl) rfl (by decide)) (H.k 138 rfl) (H.k 78 rfl) (H.k 143 rfl) (by decide) (own_pay (rm_aln sb va kv n vs A0.old H Eb Fv Fc Fn Kv gb gv) (H.k 143 rfl) (H.k 63 rfl) (by decide) (by decide)) own_nW (Nat.le_of_eq rfl) Eb own_pd10 rfl rfl rfl d24_1 (by decide) (by decide) ?_
  rintro v1 T2 h3 A4 ⟨rfl, rfl⟩
  show own_Run p e below Q m T2 4 #[.val (.ref sb)] [(.int n)]
  exact own_retI A4 hQ d24_4 ⟨rfl, rfl⟩
theorem d26_0 : decode jdk_68_method_68_code 0 = .ok (.getstatic 18, 3) := by decide +kernel
theorem d26_3 : decode jdk_68_method_68_code 3 = .ok (.ifCond .eq 14, 3) := by decide +kernel
theorem d26_6 : decode jdk_68_method_68_code 6 = .ok (.aload_n 0, 1) := by decide +kernel
theorem d26_7 : decode jdk_68_method_68_code 7 = .ok (.getfield 22, 3) := by decide +kernel
theorem d26_10 : decode jdk_68_method_68_code 10 = .ok (.ifCond .ne 7, 3) := by decide +kernel
theorem d26_13 : decode jdk_68_method_68_code 13 = .ok (.iconst 1, 1) := by decide +kernel
theorem d26_14 : decode jdk_68_method_68_code 14 = .ok (.goto 4, 3) := by decide +kernel
theorem d26_18 : decode jdk_68_method_68_code 18 = .ok (.ireturn, 1) := by decide +kernel
theorem rm_isl (sb va : Addr) (kv : ClassId) (n : Int32) (vs : List Value) (O0 : Old Z n0 h0) (H : own_H Z a0 zc fm) (Eb : Exa Z h0 sb "java/lang/StringBuilder") (Fv : Fld Z h0 sb "java/lang/AbstractStringBuilder" "value" "[B" (.ref va)) (Fc : Fld Z h0 sb "java/lang/AbstractStringBuilder" "coder" "B" (.int 0)) (Fn : Fld Z h0 sb "java/lang/AbstractStringBuilder" "count" "I" (.int n)) (Kv : Arv Z h0 va kv .byte 16 vs (.int 0)) (gb : n0 ≤ sb) (gv : n0 ≤ va) :
  own_Met false l Z n0 [] [] ⟨"java/lang/AbstractStringBuilder", "isLatin1", "()Z"⟩ jdk_68_method_68_code 1 (some .boolean) [] (own_R 0 0 0 0) #[(.ref sb)] h0 (fun v h => v = some (.int 1) ∧ h0 = h) := by
  refine own_ent (a0 := a0) (nm := "isLatin1") (Ls := #[.val (.ref sb)]) own_pn1 O0 EW.nil ?_
  intro p e _ m _ below _ _ T0 Q hQ A0
  refine own_getS (q := 3) A0 (H.k 66 rfl) Via.refl H.SC d26_0 ?_
  intro T1 A2
  refine own_ifcF (q := 6) A2 d26_3 (show ¬ zc = (0 : Int32) from H.hz) ?_
  refine own_aloadN (q := 7) A2 d26_6 rfl rfl ?_
  refine own_getF (host := "") (q := 10) A2 (Or.inl (H.k 69 rfl)) Via.refl Fc d26_7 ?_
  intro T3 A4
  refine own_ifcF (q := 13) A4 d26_10 (show (0 : Int32) = (0 : Int32) from rfl) ?_
  refine own_iconst (q := 14) A4 (1 : Int32) d26_13 rfl ?_
  refine own_goto (q := 18) A4 d26_14 ?_
  exact own_retN A4 hQ (t := .boolean) (by simp) d26_18 ⟨rfl, rfl⟩
theorem d30_0 : decode jdk_29_method_69_code 0 = .ok (.iload_n 0, 1) := by decide +kernel
theorem d30_1 : decode jdk_29_method_69_code 1 = .ok (.iload_n 1, 1) := by decide +kernel
theorem d30_2 : decode jdk_29_method_69_code 2 = .ok (.if_icmp .gt 7, 3) := by decide +kernel
theorem d30_9 : decode jdk_29_method_69_code 9 = .ok (.iload_n 1, 1) := by decide +kernel
theorem d30_10 : decode jdk_29_method_69_code 10 = .ok (.ireturn, 1) := by decide +kernel
theorem rm_min2 (O0 : Old Z n0 h0) (H : own_H Z a0 zc fm) :
  own_Met false l Z n0 [] [] ⟨"java/lang/Math", "min", "(II)I"⟩ jdk_29_method_69_code 2 (some .int) [] (own_R 0 0 0 0) #[(.int ((16 : Int32) - (0 : Int32))), (.int ((2 : Int32) - (0 : Int32)))] h0 (fun v h => v = some (.int (2 : Int32)) ∧ h0 = h) := by
  refine own_enterP (a0 := a0) (nm := "min") (own := "java/lang/Math") (Ls := #[.val (.int ((16 : Int32) - (0 : Int32))), .val (.int ((2 : Int32) - (0 : Int32)))]) (Jvm.Free.JP.mathPlain rfl (by decide +kernel)) O0 EW.nil (fun m => by first | (simp [entryFrame, mkF, argsToLocals, Value.category, maxLocals]; done) | rfl) ?_
  intro p e _ m _ below _ _ T0 Q hQ A0
  refine own_iloadN (q := 1) A0 d30_0 rfl ?_
  refine own_iloadN (q := 2) A0 d30_1 rfl ?_
  refine own_icmpT (q := 9) A0 d30_2 (show ((2 : Int32) - (0 : Int32)) < ((16 : Int32) - (0 : Int32)) from by decide) ?_
  refine own_iloadN (q := 10) A0 d30_9 rfl ?_
  exact own_retI A0 hQ d30_10 ⟨rfl, rfl⟩
theorem d29_0 : decode jdk_65_method_131_code 0 = .ok (.iload_n 1, 1) := by decide +kernel
theorem d29_1 : decode jdk_65_method_131_code 1 = .ok (.iload_n 0, 1) := by decide +kernel
theorem d29_2 : decode jdk_65_method_131_code 2 = .ok (.if_icmp .ge 35, 3) := by decide +kernel
theorem d29_37 : decode jdk_65_method_131_code 37 = .ok (.return_, 1) := by decide +kernel
theorem own_pn3 : plainName "java/util/Arrays" = true := by first | (simp [plainName, overriddenIn]; done) | decide +kernel
theorem rm_chk2 (O0 : Old Z n0 h0) (H : own_H Z a0 zc fm) :
  own_Met false l Z n0 [] [] ⟨"java/util/Arrays", "checkLength", "(II)V"⟩ jdk_65_method_131_code 2 none [] (own_R 0 0 0 0) #[(.int (0 : Int32)), (.int (2 : Int32))] h0 (fun v h => v = none ∧ h0 = h) := by
  refine own_ent (a0 := a0) (nm := "checkLength") (Ls := #[.val (.int (0 : Int32)), .val (.int (2 : Int32))]) own_pn3 O0 EW.nil ?_
  intro p e _ m _ below _ _ T0 Q hQ A0
  refine own_iloadN (q := 1) A0 d29_0 rfl ?_
  refine own_iloadN (q := 2) A0 d29_1 rfl ?_
  refine own_icmpT (q := 37) A0 d29_2 (show ¬ (2 : Int32) < (0 : Int32) from by decide) ?_
  exact own_ret0 A0 hQ d29_37 ⟨rfl, rfl⟩
theorem d28_0 : decode jdk_65_method_133_code 0 = .ok (.iload_n 1, 1) := by decide +kernel
theorem d28_1 : decode jdk_65_method_133_code 1 = .ok (.iload_n 2, 1) := by decide +kernel
theorem d28_2 : decode jdk_65_method_133_code 2 = .ok (.invokestatic 343, 3) := by decide +kernel
theorem d28_5 : decode jdk_65_method_133_code 5 = .ok (.iload_n 2, 1) := by decide +kernel
theorem d28_6 : decode jdk_65_method_133_code 6 = .ok (.iload_n 1, 1) := by decide +kernel
theorem d28_7 : decode jdk_65_method_133_code 7 = .ok (.isub, 1) := by decide +kernel
theorem d28_8 : decode jdk_65_method_133_code 8 = .ok (.istore_n 3, 1) := by decide +kernel
theorem d28_9 : decode jdk_65_method_133_code 9 = .ok (.iload_n 3, 1) := by decide +kernel
theorem d28_10 : decode jdk_65_method_133_code 10 = .ok (.newarray .byte, 2) := by decide +kernel
theorem d28_12 : decode jdk_65_method_133_code 12 = .ok (.astore 4, 2) := by decide +kernel
theorem d28_14 : decode jdk_65_method_133_code 14 = .ok (.aload_n 0, 1) := by decide +kernel
theorem d28_15 : decode jdk_65_method_133_code 15 = .ok (.iload_n 1, 1) := by decide +kernel
theorem d28_16 : decode jdk_65_method_133_code 16 = .ok (.aload 4, 2) := by decide +kernel
theorem d28_18 : decode jdk_65_method_133_code 18 = .ok (.iconst 0, 1) := by decide +kernel
theorem d28_19 : decode jdk_65_method_133_code 19 = .ok (.aload_n 0, 1) := by decide +kernel
theorem d28_20 : decode jdk_65_method_133_code 20 = .ok (.arraylength, 1) := by decide +kernel
theorem d28_21 : decode jdk_65_method_133_code 21 = .ok (.iload_n 1, 1) := by decide +kernel
theorem d28_22 : decode jdk_65_method_133_code 22 = .ok (.isub, 1) := by decide +kernel
theorem d28_23 : decode jdk_65_method_133_code 23 = .ok (.iload_n 3, 1) := by decide +kernel
theorem d28_24 : decode jdk_65_method_133_code 24 = .ok (.invokestatic 304, 3) := by decide +kernel
theorem d28_27 : decode jdk_65_method_133_code 27 = .ok (.invokestatic 150, 3) := by decide +kernel
theorem d28_30 : decode jdk_65_method_133_code 30 = .ok (.aload 4, 2) := by decide +kernel
theorem d28_32 : decode jdk_65_method_133_code 32 = .ok (.areturn, 1) := by decide +kernel
theorem rm_crb2 (va : Addr) (kv : ClassId) (b0 b1 : Int32) (rs : List Value) (O0 : Old Z n0 h0) (H : own_H Z a0 zc fm) (Kv : Arv Z h0 va kv .byte 16 ([.int b0, .int b1] ++ rs) (.int 0)) :
  own_Met false l Z n0 [] [] ⟨"java/util/Arrays", "copyOfRangeByte", "([BII)[B"⟩ jdk_65_method_133_code 5 (some (.array .byte)) [] (own_R 1 1 2 18) #[(.ref va), (.int (0 : Int32)), (.int (2 : Int32))] h0 (fun v h => ∃ (t : Addr) (kt : ClassId), v = some (.ref t) ∧ n0 ≤ t ∧ h0.size ≤ t ∧ Keep h0 h [] ∧ Arv Z h t kt .byte 2 [(.int b0), (.int b1)] (.int 0)) := by
  refine own_ent (a0 := a0) (nm := "copyOfRangeByte") (Ls := #[.val (.ref va), .val (.int (0 : Int32)), .val (.int (2 : Int32)), .unset, .unset]) own_pn3 O0 EW.nil ?_
  intro p e _ m _ below _ _ T0 Q hQ A0
  refine own_iloadN (q := 1) A0 d28_0 rfl ?_
  refine own_iloadN (q := 2) A0 d28_1 rfl ?_
  refine own_static (q := 5) (W := 0) (argsL := [(.int (0 : Int32)), (.int (2 : Int32))]) (rest := []) A0 (H.k 156 rfl) (H.k 157 rfl) (H.k 151 rfl) (H.k 158 rfl) (by decide) (own_pay (rm_chk2  A0.old H ) (H.k 158 rfl) (H.k 151 rfl) (by decide) (by decide)) own_nW (Nat.le_of_eq rfl) own_pd20 rfl rfl rfl d28_2 (by decide) (by decide) ?_
  rintro v1 T2 h3 A4 ⟨rfl, rfl⟩
  show own_Run p e below Q m T2 5 #[.val (.ref va), .val (.int (0 : Int32)), .val (.int (2 : Int32)), .unset, .unset] []
  refine own_iloadN (q := 6) A4 d28_5 rfl ?_
  refine own_iloadN (q := 7) A4 d28_6 rfl ?_
  refine own_isub (q := 8) A4 d28_7 ?_
  refine own_istoreN (q := 9) (L' := #[.val (.ref va), .val (.int (0 : Int32)), .val (.int (2 : Int32)), .val (.int ((2 : Int32) - (0 : Int32))), .unset]) A4 d28_8 rfl ?_
  refine own_iloadN (q := 10) A4 d28_9 rfl ?_
  refine own_newPv (q := 12) (ty := .byte) (dv := .int 0) A4 rfl rfl (H.k 23 rfl) d28_10 2 (by decide) (by decide) (by decide) (by decide) (by decide) ?_
  intro T5 h6 a7 k8 g9 g10 A11 E12 X13
  have z14 : va ≠ a7 := Nat.ne_of_lt (Nat.lt_of_lt_of_le Kv.lt (Nat.le_of_eq g9))
  have K15 := (Keep.refl h0 []).ext E12
  have f16 := Kv.ext E12
  have f17 : Arv Z h6 a7 k8 .byte (2 : Int32) [(.int (0 : Int32)), (.int (0 : Int32))] (.int 0) := X13
  refine own_astore (q := 14) (L' := #[.val (.ref va), .val (.int (0 : Int32)), .val (.int (2 : Int32)), .val (.int ((2 : Int32) - (0 : Int32))), .val (.ref a7)]) A11 d28_12 rfl rfl ?_
  refine own_aloadN (q := 15) A11 d28_14 rfl rfl ?_
  refine own_iloadN (q := 16) A11 d28_15 rfl ?_
  refine own_aload (q := 18) A11 d28_16 rfl rfl ?_
  refine own_iconst (q := 19) A11 (0 : Int32) d28_18 rfl ?_
  refine own_aloadN (q := 20) A11 d28_19 rfl rfl ?_
  refine own_arrlenv (q := 21) A11 f16 d28_20 ?_
  refine own_iloadN (q := 22) A11 d28_21 rfl ?_
  refine own_isub (q := 23) A11 d28_22 ?_
  refine own_iloadN (q := 24) A11 d28_23 rfl ?_
  refine own_static (q := 27) (W := 4) (argsL := [(.int ((16 : Int32) - (0 : Int32))), (.int ((2 : Int32) - (0 : Int32)))]) (rest := [(.int (0 : Int32)), (.ref a7), (.int (0 : Int32)), (.ref va)]) A11 (H.k 159 rfl) (H.k 160 rfl) (H.k 161 rfl) (H.k 162 rfl) (by decide) (own_pay (rm_min2  A11.old H ) (H.k 162 rfl) (H.k 161 rfl) (by decide) (by decide)) own_nW (Nat.le_of_eq rfl) own_pd21 rfl rfl rfl d28_24 (by decide) (by decide) ?_
  rintro v18 T19 h20 A21 ⟨rfl, rfl⟩
  show own_Run p e below Q m T19 27 #[.val (.ref va), .val (.int (0 : Int32)), .val (.int (2 : Int32)), .val (.int ((2 : Int32) - (0 : Int32))), .val (.ref a7)] [(.int (2 : Int32)), (.int (0 : Int32)), (.ref a7), (.int (0 : Int32)), (.ref va)]
  refine own_acopy (q := 30) (W := 0) A21 (H.k 163 rfl) (H.k 117 rfl) (H.k 115 rfl) (H.k 116 rfl) (us := [(.int b0), (.int b1)]) f16 f17 rfl (by decide) (by decide) (by decide) (by decide) (by decide) rfl (by decide) g10 (Or.inr (Or.inl rfl)) rfl d28_27 (by decide) (Nat.le_of_eq rfl) (by decide) ?_
  intro T22 h23 A24 K25 V26
  have K27 := K15.trans K25 (allS (Or.inr (Nat.le_trans (Keep.refl h0 []).1 (Nat.le_of_eq g9))) all0)
  refine own_aload (q := 32) A24 d28_30 rfl rfl ?_
  exact own_retA A24 hQ rfl rfl rfl d28_32 ⟨a7, _, rfl, g10, (Nat.le_trans (Keep.refl h0 []).1 (Nat.le_of_eq g9)), K27, V26⟩
theorem d27_0 : decode jdk_65_method_132_code 0 = .ok (.iload_n 1, 1) := by decide +kernel
theorem d27_1 : decode jdk_65_method_132_code 1 = .ok (.ifCond .ne 9, 3) := by decide +kernel
theorem d27_4 : decode jdk_65_method_132_code 4 = .ok (.iload_n 2, 1) := by decide +kernel
theorem d27_5 : decode jdk_65_method_132_code 5 = .ok (.aload_n 0, 1) := by decide +kernel
theorem d27_6 : decode jdk_65_method_132_code 6 = .ok (.arraylength, 1) := by decide +kernel
theorem d27_7 : decode jdk_65_method_132_code 7 = .ok (.if_icmp .eq 10, 3) := by decide +kernel
theorem d27_10 : decode jdk_65_method_132_code 10 = .ok (.aload_n 0, 1) := by decide +kernel
theorem d27_11 : decode jdk_65_method_132_code 11 = .ok (.iload_n 1, 1) := by decide +kernel
theorem d27_12 : decode jdk_65_method_132_code 12 = .ok (.iload_n 2, 1) := by decide +kernel
theorem d27_13 : decode jdk_65_method_132_code 13 = .ok (.invokestatic 339, 3) := by decide +kernel
theorem d27_16 : decode jdk_65_method_132_code 16 = .ok (.areturn, 1) := by decide +kernel
theorem rm_cor2 (va : Addr) (kv : ClassId) (b0 b1 : Int32) (rs : List Value) (O0 : Old Z n0 h0) (H : own_H Z a0 zc fm) (Kv : Arv Z h0 va kv .byte 16 ([.int b0, .int b1] ++ rs) (.int 0)) :
  own_Met false l Z n0 [] [] ⟨"java/util/Arrays", "copyOfRange", "([BII)[B"⟩ jdk_65_method_132_code 3 (some (.array .byte)) [] (own_R 2 1 2 34) #[(.ref va), (.int (0 : Int32)), (.int (2 : Int32))] h0 (fun v h => ∃ (t : Addr) (kt : ClassId), v = some (.ref t) ∧ n0 ≤ t ∧ h0.size ≤ t ∧ Keep h0 h [] ∧ Arv Z h t kt .byte 2 [(.int b0), (.int b1)] (.int 0)) := by
  refine own_ent (a0 := a0) (nm := "copyOfRange") (Ls := #[.val (.ref va), .val (.int (0 : Int32)), .val (.int (2 : Int32))]) own_pn3 O0 EW.nil ?_
  intro p e _ m _ below _ _ T0 Q hQ A0
  refine own_iloadN (q := 1) A0 d27_0 rfl ?_
  refine own_ifcF (q := 4) A0 d27_1 (show (0 : Int32) = (0 : Int32) from rfl) ?_
  refine own_iloadN (q := 5) A0 d27_4 rfl ?_
  refine own_aloadN (q := 6) A0 d27_5 rfl rfl ?_
  refine own_arrlenv (q := 7) A0 Kv d27_6 ?_
  refine own_icmpF (q := 10) A0 d27_7 (show ¬ (2 : Int32) = (16 : Int32) from by decide) ?_
  refine own_aloadN (q := 11) A0 d27_10 rfl rfl ?_
  refine own_iloadN (q := 12) A0 d27_11 rfl ?_
  refine own_iloadN (q := 13) A0 d27_12 rfl ?_
  refine own_static (q := 16) (W := 0) (argsL := [(.ref va), (.int (0 : Int32)), (.int (2 : Int32))]) (rest := []) A0 (H.k 153 rfl) (H.k 154 rfl) (H.k 151 rfl) (H.k 155 rfl) (by decide) (own_pay (rm_crb2 va kv b0 b1 rs A0.old H Kv) (H.k 155 rfl) (H.k 151 rfl) (by decide) (by decide)) own_nW (Nat.le_of_eq rfl) own_pd19 rfl rfl rfl d27_13 (by decide) (by decide) ?_
  rintro v4 T5 h6 A7 ⟨t1, k2, rfl, q3⟩
  show own_Run p e below Q m T5 16 #[.val (.ref va), .val (.int (0 : Int32)), .val (.int (2 : Int32))] [(.ref t1)]
  exact own_retA A7 hQ rfl rfl rfl d27_16 ⟨t1, k2, rfl, q3⟩
theorem d22_0 : decode jdk_42_method_150_code 0 = .ok (.aload_n 0, 1) := by decide +kernel
theorem d22_1 : decode jdk_42_method_150_code 1 = .ok (.invokespecial 1, 3) := by decide +kernel
theorem d22_4 : decode jdk_42_method_150_code 4 = .ok (.aload_n 1, 1) := by decide +kernel
theorem d22_5 : decode jdk_42_method_150_code 5 = .ok (.invokevirtual 552, 3) := by decide +kernel
theorem d22_8 : decode jdk_42_method_150_code 8 = .ok (.astore_n 3, 1) := by decide +kernel
theorem d22_9 : decode jdk_42_method_150_code 9 = .ok (.aload_n 1, 1) := by decide +kernel
theorem d22_10 : decode jdk_42_method_150_code 10 = .ok (.invokevirtual 549, 3) := by decide +kernel
theorem d22_13 : decode jdk_42_method_150_code 13 = .ok (.istore 4, 2) := by decide +kernel
theorem d22_15 : decode jdk_42_method_150_code 15 = .ok (.aload_n 1, 1) := by decide +kernel
theorem d22_16 : decode jdk_42_method_150_code 16 = .ok (.invokevirtual 1047, 3) := by decide +kernel
theorem d22_19 : decode jdk_42_method_150_code 19 = .ok (.ifCond .eq 22, 3) := by decide +kernel
theorem d22_22 : decode jdk_42_method_150_code 22 = .ok (.aload_n 0, 1) := by decide +kernel
theorem d22_23 : decode jdk_42_method_150_code 23 = .ok (.iconst 0, 1) := by decide +kernel
theorem d22_24 : decode jdk_42_method_150_code 24 = .ok (.putfield 15, 3) := by decide +kernel
theorem d22_27 : decode jdk_42_method_150_code 27 = .ok (.aload_n 0, 1) := by decide +kernel
theorem d22_28 : decode jdk_42_method_150_code 28 = .ok (.aload_n 3, 1) := by decide +kernel
theorem d22_29 : decode jdk_42_method_150_code 29 = .ok (.iconst 0, 1) := by decide +kernel
theorem d22_30 : decode jdk_42_method_150_code 30 = .ok (.iload 4, 2) := by decide +kernel
theorem d22_32 : decode jdk_42_method_150_code 32 = .ok (.invokestatic 54, 3) := by decide +kernel
theorem d22_35 : decode jdk_42_method_150_code 35 = .ok (.putfield 9, 3) := by decide +kernel
theorem d22_38 : decode jdk_42_method_150_code 38 = .ok (.goto 59, 3) := by decide +kernel
theorem d22_97 : decode jdk_42_method_150_code 97 = .ok (.return_, 1) := by decide +kernel
theorem rm_iab2 (a : Addr) (sb va : Addr) (kv : ClassId) (b0 b1 : Int32) (rs : List Value) (O0 : Old Z n0 h0) (H : own_H Z a0 zc fm) (Ea : Exa Z h0 a "java/lang/String") (Va : Fld Z h0 a "java/lang/String" "value" "[B" .null) (Ca : Fld Z h0 a "java/lang/String" "coder" "B" (.int 0)) (ga : n0 ≤ a) (nab : a ≠ sb) (nav : a ≠ va) (Eb : Exa Z h0 sb "java/lang/StringBuilder") (Fv : Fld Z h0 sb "java/lang/AbstractStringBuilder" "value" "[B" (.ref va)) (Fc : Fld Z h0 sb "java/lang/AbstractStringBuilder" "coder" "B" (.int 0)) (Fn : Fld Z h0 sb "java/lang/AbstractStringBuilder" "count" "I" (.int 2)) (Kv : Arv Z h0 va kv .byte 16 ([.int b0, .int b1] ++ rs) (.int 0)) (gb : n0 ≤ sb) (gv : n0 ≤ va) :
  own_Met false l Z n0 [] [] ⟨"java/lang/String", "<init>", "(Ljava/lang/AbstractStringBuilder;Ljava/lang/Void;)V"⟩ jdk_42_method_150_code 5 none [] (own_R 3 1 2 49) #[(.ref a), (.ref sb), .null] h0 (fun v h => v = none ∧ Keep h0 h [a] ∧ ∃ (t : Addr) (kt : ClassId), Exa Z h a "java/lang/String" ∧ Fld Z h a "java/lang/String" "coder" "B" (.int 0) ∧ Fld Z h a "java/lang/String" "value" "[B" (.ref t) ∧ Arv Z h t kt .byte 2 [(.int b0), (.int b1)] (.int 0)) := by
  refine own_ent (a0 := a0) (nm := "<init>") (Ls := #[.val (.ref a), .val (.ref sb), .val .null, .unset, .unset]) own_pn0 O0 EW.nil ?_
  intro p e _ m _ below _ _ T0 Q hQ A0
  refine own_aloadN (q := 1) A0 d22_0 rfl rfl ?_
  refine own_initO (q := 4) (W := 0) A0 (H.k 15 rfl) (H.k 16 rfl) (H.k 17 rfl) d22_1 rfl (by decide) (Nat.le_of_eq rfl) (by decide) ?_
  intro T1 A2
  refine own_aloadN (q := 5) A2 d22_4 rfl rfl ?_
  refine own_virtual (q := 8) (W := 0) (argsL := []) (rest := []) A2 (H.k 131 rfl) (H.k 132 rfl) (H.k 134 rfl) (H.k 133 rfl) (by decide) (own_pay (rm_gv sb va kv (2 : Int32) _ A2.old H Eb Fv Fc Fn Kv gb gv) (H.k 135 rfl) (H.k 63 rfl) (by decide) (by decide)) own_nW (Nat.le_of_eq rfl) Eb own_pd17 rfl rfl rfl d22_5 (by decide) (by decide) ?_
  rintro v3 T4 h5 A6 ⟨rfl, rfl⟩
  show own_Run p e below Q m T4 8 #[.val (.ref a), .val (.ref sb), .val .null, .unset, .unset] [(.ref va)]
  refine own_astoreN (q := 9) (L' := #[.val (.ref a), .val (.ref sb), .val .null, .val (.ref va), .unset]) A6 d22_8 rfl rfl ?_
  refine own_aloadN (q := 10) A6 d22_9 rfl rfl ?_
  refine own_virtualUp (q := 13) (W := 0) (argsL := []) (rest := []) A6 (H.k 136 rfl) (own_same (H.k 138 rfl) (H.k 133 rfl) (H.k 134 rfl) rfl (by decide)) (H.k 137 rfl) (by decide) (H.k 139 rfl) (H.k 140 rfl) (own_pay (rm_sln sb va kv (2 : Int32) _ A6.old H Eb Fv Fc Fn Kv gb gv) (H.k 141 rfl) (H.k 55 rfl) (by decide) (by decide)) own_nW (Nat.le_of_eq rfl) Eb own_pd10 rfl rfl rfl d22_10 (by decide) (by decide) ?_
  rintro v7 T8 h9 A10 ⟨rfl, rfl⟩
  show own_Run p e below Q m T8 13 #[.val (.ref a), .val (.ref sb), .val .null, .val (.ref va), .unset] [(.int (2 : Int32))]
  refine own_istore (q := 15) (L' := #[.val (.ref a), .val (.ref sb), .val .null, .val (.ref va), .val (.int (2 : Int32))]) A10 d22_13 rfl ?_
  refine own_aloadN (q := 16) A10 d22_15 rfl rfl ?_
  refine own_virtual (q := 19) (W := 0) (argsL := []) (rest := []) A10 (H.k 144 rfl) (H.k 145 rfl) (H.k 147 rfl) (H.k 146 rfl) (by decide) (own_pay (rm_isl sb va kv (2 : Int32) _ A10.old H Eb Fv Fc Fn Kv gb gv) (H.k 148 rfl) (H.k 63 rfl) (by decide) (by decide)) own_nW (Nat.le_of_eq rfl) Eb own_pd18 rfl rfl rfl d22_16 (by decide) (by decide) ?_
  rintro v11 T12 h13 A14 ⟨rfl, rfl⟩
  show own_Run p e below Q m T12 19 #[.val (.ref a), .val (.ref sb), .val .null, .val (.ref va), .val (.int (2 : Int32))] [(.int (1 : Int32))]
  refine own_ifcF (q := 22) A14 d22_19 (show ¬ (1 : Int32) = (0 : Int32) from by decide) ?_
  refine own_aloadN (q := 23) A14 d22_22 rfl rfl ?_
  refine own_iconst (q := 24) A14 (0 : Int32) d22_23 rfl ?_
  refine own_putF (host := "") (q := 27) A14 (Or.inl (H.k 30 rfl)) Via.refl Ca Ea (Or.inr ⟨(H.k 31 rfl), rfl, rfl⟩) (H.k 5 rfl) (ty := .byte) (by decide) rfl rfl ga (Or.inr (Or.inl rfl)) d22_24 ?_
  intro T15 h16 A17 W18
  have K19 := (Keep.refl h0 [a]).wr W18 (Or.inl (by simp))
  have f20 := Eb.wr W18
  have f21 := Fv.other W18 (Or.inl (Ne.symm nab))
  have f22 := Fc.other W18 (Or.inl (Ne.symm nab))
  have f23 := Fn.other W18 (Or.inl (Ne.symm nab))
  have f24 := Kv.other W18 (Ne.symm nav)
  have f25 := Ea.wr W18
  have f26 := Va.other W18 (Or.inr (slot_ne (Or.inr (H.k 33 rfl)) (Or.inr (H.k 31 rfl)) (by decide) (by decide : parseFieldDescriptor "[B" = some (.array .byte)) (by decide : parseFieldDescriptor "B" = some .byte)))
  have f27 := Ca.same W18
  refine own_aloadN (q := 28) A17 d22_27 rfl rfl ?_
  refine own_aloadN (q := 29) A17 d22_28 rfl rfl ?_
  refine own_iconst (q := 30) A17 (0 : Int32) d22_29 rfl ?_
  refine own_iload (q := 32) A17 d22_30 rfl ?_
  refine own_static (q := 35) (W := 1) (argsL := [(.ref va), (.int (0 : Int32)), (.int (2 : Int32))]) (rest := [(.ref a)]) A17 (H.k 149 rfl) (H.k 150 rfl) (H.k 151 rfl) (H.k 152 rfl) (by decide) (own_pay (rm_cor2 va kv b0 b1 rs A17.old H f24) (H.k 152 rfl) (H.k 151 rfl) (by decide) (by decide)) own_nW (Nat.le_of_eq rfl) own_pd19 rfl rfl rfl d22_32 (by decide) (by decide) ?_
  rintro v34 T35 h36 A37 ⟨t28, k29, rfl, g30, g31, K32, V33⟩
  show own_Run p e below Q m T35 35 #[.val (.ref a), .val (.ref sb), .val .null, .val (.ref va), .val (.int (2 : Int32))] [(.ref t28), (.ref a)]
  have z38 : a ≠ t28 := Nat.ne_of_lt (Nat.lt_of_lt_of_le f25.lt g31)
  have f39 := f25.keep K32
  have f40 := f26.keep K32 nin0
  have f41 := f27.keep K32 nin0
  have K42 := K19.trans K32 all0
  refine own_putF (host := "") (q := 38) A37 (Or.inl (H.k 32 rfl)) Via.refl f40 f39 (Or.inr ⟨(H.k 33 rfl), rfl, rfl⟩) (H.k 5 rfl) (ty := (.array .byte)) (by decide) rfl rfl ga (Or.inr (Or.inl rfl)) d22_35 ?_
  intro T43 h44 A45 W46
  have K47 := K42.wr W46 (Or.inl (by simp))
  have f48 := f39.wr W46
  have f49 := f40.same W46
  have f50 := f41.other W46 (Or.inr (slot_ne (Or.inr (H.k 31 rfl)) (Or.inr (H.k 33 rfl)) (by decide) (by decide : parseFieldDescriptor "B" = some .byte) (by decide : parseFieldDescriptor "[B" = some (.array .byte))))
  have f51 := V33.other W46 (Ne.symm z38)
  refine own_goto (q := 97) A45 d22_38 ?_
  exact own_ret0 A45 hQ d22_97 ⟨rfl, K47, t28, k29, f48, f50, f49, f51⟩
theorem d21_0 : decode jdk_42_method_53_code 0 = .ok (.aload_n 0, 1) := by decide +kernel
theorem d21_1 : decode jdk_42_method_53_code 1 = .ok (.aload_n 1, 1) := by decide +kernel
theorem d21_2 : decode jdk_42_method_53_code 2 = .ok (.aconst_null, 1) := by decide +kernel
theorem d21_3 : decode jdk_42_method_53_code 3 = .ok (.invokespecial 489, 3) := by decide +kernel
theorem d21_6 : decode jdk_42_method_53_code 6 = .ok (.return_, 1) := by decide +kernel
theorem rm_isb2 (a : Addr) (sb va : Addr) (kv : ClassId) (b0 b1 : Int32) (rs : List Value) (O0 : Old Z n0 h0) (H : own_H Z a0 zc fm) (Ea : Exa Z h0 a "java/lang/String") (Va : Fld Z h0 a "java/lang/String" "value" "[B" .null) (Ca : Fld Z h0 a "java/lang/String" "coder" "B" (.int 0)) (ga : n0 ≤ a) (nab : a ≠ sb) (nav : a ≠ va) (Eb : Exa Z h0 sb "java/lang/StringBuilder") (Fv : Fld Z h0 sb "java/lang/AbstractStringBuilder" "value" "[B" (.ref va)) (Fc : Fld Z h0 sb "java/lang/AbstractStringBuilder" "coder" "B" (.int 0)) (Fn : Fld Z h0 sb "java/lang/AbstractStringBuilder" "count" "I" (.int 2)) (Kv : Arv Z h0 va kv .byte 16 ([.int b0, .int b1] ++ rs) (.int 0)) (gb : n0 ≤ sb) (gv : n0 ≤ va) :
  own_Met false l Z n0 [] [] ⟨"java/lang/String", "<init>", "(Ljava/lang/StringBuilder;)V"⟩ jdk_42_method_53_code 2 none [] (own_R 4 1 2 65) #[(.ref a), (.ref sb)] h0 (fun v h => v = none ∧ Keep h0 h [a] ∧ ∃ (t : Addr) (kt : ClassId), Exa Z h a "java/lang/String" ∧ Fld Z h a "java/lang/String" "coder" "B" (.int 0) ∧ Fld Z h a "java/lang/String" "value" "[B" (.ref t) ∧ Arv Z h t kt .byte 2 [(.int b0), (.int b1)] (.int 0)) := by
  refine own_ent (a0 := a0) (nm := "<init>") (Ls := #[.val (.ref a), .val (.ref sb)]) own_pn0 O0 EW.nil ?_
  intro p e _ m _ below _ _ T0 Q hQ A0
  refine own_aloadN (q := 1) A0 d21_0 rfl rfl ?_
  refine own_aloadN (q := 2) A0 d21_1 rfl rfl ?_
  refine own_aconstNull (q := 3) A0 d21_2 ?_
  refine own_special (q := 6) (W := 0) (argsL := [(.ref sb), .null]) (rest := []) A0 rfl (H.k 128 rfl) (H.k 129 rfl) (H.k 130 rfl) (by decide) (own_pay (rm_iab2 a sb va kv b0 b1 rs A0.old H Ea Va Ca ga nab nav Eb Fv Fc Fn Kv gb gv) (H.k 130 rfl) (H.k 6 rfl) (by decide) (by decide)) own_nW (Nat.le_of_eq rfl) own_pd16 rfl rfl rfl d21_3 (by decide) (by decide) ?_
  rintro v2 T3 h4 A5 ⟨rfl, q1⟩
  show own_Run p e below Q m T3 6 #[.val (.ref a), .val (.ref sb)] []
  exact own_ret0 A5 hQ d21_6 ⟨rfl, q1⟩
theorem d20_0 : decode jdk_67_method_42_code 0 = .ok (.new 18, 3) := by decide +kernel
theorem d20_3 : decode jdk_67_method_42_code 3 = .ok (.dup, 1) := by decide +kernel
theorem d20_4 : decode jdk_67_method_42_code 4 = .ok (.aload_n 0, 1) := by decide +kernel
theorem d20_5 : decode jdk_67_method_42_code 5 = .ok (.invokespecial 137, 3) := by decide +kernel
theorem d20_8 : decode jdk_67_method_42_code 8 = .ok (.areturn, 1) := by decide +kernel
theorem rm_tos2 (sb va : Addr) (kv : ClassId) (b0 b1 : Int32) (rs : List Value) (O0 : Old Z n0 h0) (H : own_H Z a0 zc fm) (Eb : Exa Z h0 sb "java/lang/StringBuilder") (Fv : Fld Z h0 sb "java/lang/AbstractStringBuilder" "value" "[B" (.ref va)) (Fc : Fld Z h0 sb "java/lang/AbstractStringBuilder" "coder" "B" (.int 0)) (Fn : Fld Z h0 sb "java/lang/AbstractStringBuilder" "count" "I" (.int 2)) (Kv : Arv Z h0 va kv .byte 16 ([.int b0, .int b1] ++ rs) (.int 0)) (gb : n0 ≤ sb) (gv : n0 ≤ va) :
  own_Met false l Z n0 [] [] ⟨"java/lang/StringBuilder", "toString", "()Ljava/lang/String;"⟩ jdk_67_method_42_code 1 (some (.object "java/lang/String")) [] (own_R 5 2 6 79) #[(.ref sb)] h0 (fun v h => ∃ (a t : Addr) (kt : ClassId), v = some (.ref a) ∧ Keep h0 h [] ∧ Exa Z h a "java/lang/String" ∧ Fld Z h a "java/lang/String" "coder" "B" (.int 0) ∧ Fld Z h a "java/lang/String" "value" "[B" (.ref t) ∧ Arv Z h t kt .byte 2 [(.int b0), (.int b1)] (.int 0)) := by
  refine own_ent (a0 := a0) (nm := "toString") (Ls := #[.val (.ref sb)]) own_pn2 O0 EW.nil ?_
  intro p e _ m _ below _ _ T0 Q hQ A0
  refine own_newO (q := 3) A0 (H.k 124 rfl) (H.k 5 rfl) (H.k 6 rfl) d20_0 (by decide) (by decide) ?_
  intro T1 h2 a3 g4 g5 A6 E7 X8 D9
  have z10 : sb ≠ a3 := Nat.ne_of_lt (Nat.lt_of_lt_of_le Eb.lt (Nat.le_of_eq g4))
  have z11 : va ≠ a3 := Nat.ne_of_lt (Nat.lt_of_lt_of_le Kv.lt (Nat.le_of_eq g4))
  have K12 := (Keep.refl h0 []).ext E7
  have f13 := Eb.ext E7
  have f14 := Fv.ext E7
  have f15 := Fc.ext E7
  have f16 := Fn.ext E7
  have f17 := Kv.ext E7
  have f18 : Fld Z h2 a3 "java/lang/String" "value" "[B" .null := D9 (Or.inr (H.k 33 rfl)) (ty := (.array .byte)) (by decide)
  have f19 : Fld Z h2 a3 "java/lang/String" "coder" "B" (.int (0 : Int32)) := D9 (Or.inr (H.k 31 rfl)) (ty := .byte) (by decide)
  refine own_dup (q := 4) A6 d20_3 rfl ?_
  refine own_aloadN (q := 5) A6 d20_4 rfl rfl ?_
  refine own_special (q := 8) (W := 1) (argsL := [(.ref sb)]) (rest := [(.ref a3)]) A6 rfl (H.k 125 rfl) (H.k 126 rfl) (H.k 127 rfl) (by decide) (own_pay (rm_isb2 a3 sb va kv b0 b1 rs A6.old H X8 f18 f19 g5 (Ne.symm z10) (Ne.symm z11) f13 f14 f15 f16 f17 gb gv) (H.k 127 rfl) (H.k 6 rfl) (by decide) (by decide)) own_nW (Nat.le_of_eq rfl) own_pd15 rfl rfl rfl d20_5 (by decide) (by decide) ?_
  rintro v24 T25 h26 A27 ⟨rfl, K20, t21, k22, q23⟩
  show own_Run p e below Q m T25 8 #[.val (.ref sb)] [(.ref a3)]
  have K28 := K12.trans K20 (allS (Or.inr (Nat.le_trans (Keep.refl h0 []).1 (Nat.le_of_eq g4))) all0)
  exact own_retA A27 hQ rfl rfl rfl d20_8 ⟨a3, t21, k22, rfl, K28, q23⟩
theorem rm_min3 (O0 : Old Z n0 h0) (H : own_H Z a0 zc fm) :
  own_Met false l Z n0 [] [] ⟨"java/lang/Math", "min", "(II)I"⟩ jdk_29_method_69_code 2 (some .int) [] (own_R 0 0 0 0) #[(.int ((16 : Int32) - (0 : Int32))), (.int ((3 : Int32) - (0 : Int32)))] h0 (fun v h => v = some (.int (3 : Int32)) ∧ h0 = h) := by
  refine own_enterP (a0 := a0) (nm := "min") (own := "java/lang/Math") (Ls := #[.val (.int ((16 : Int32) - (0 : Int32))), .val (.int ((3 : Int32) - (0 : Int32)))]) (Jvm.Free.JP.mathPlain rfl (by decide +kernel)) O0 EW.nil (fun m => by first | (simp [entryFrame, mkF, argsToLocals, Value.category, maxLocals]; done) | rfl) ?_
  intro p e _ m _ below _ _ T0 Q hQ A0
  refine own_iloadN (q := 1) A0 d30_0 rfl ?_
  refine own_iloadN (q := 2) A0 d30_1 rfl ?_
  refine own_icmpT (q := 9) A0 d30_2 (show ((3 : Int32) - (0 : Int32)) < ((16 : Int32) - (0 : Int32)) from by decide) ?_
  refine own_iloadN (q := 10) A0 d30_9 rfl ?_
  exact own_retI A0 hQ d30_10 ⟨rfl, rfl⟩
theorem rm_chk3 (O0 : Old Z n0 h0) (H : own_H Z a0 zc fm) :
  own_Met false l Z n0 [] [] ⟨"java/util/Arrays", "checkLength", "(II)V"⟩ jdk_65_method_131_code 2 none [] (own_R 0 0 0 0) #[(.int (0 : Int32)), (.int (3 : Int32))] h0 (fun v h => v = none ∧ h0 = h) := by
  refine own_ent (a0 := a0) (nm := "checkLength") (Ls := #[.val (.int (0 : Int32)), .val (.int (3 : Int32))]) own_pn3 O0 EW.nil ?_
  intro p e _ m _ below _ _ T0 Q hQ A0
  refine own_iloadN (q := 1) A0 d29_0 rfl ?_
  refine own_iloadN (q := 2) A0 d29_1 rfl ?_
  refine own_icmpT (q := 37) A0 d29_2 (show ¬ (3 : Int32) < (0 : Int32) from by decide) ?_
  exact own_ret0 A0 hQ d29_37 ⟨rfl, rfl⟩
theorem rm_crb3 (va : Addr) (kv : ClassId) (b0 b1 b2 : Int32) (rs : List Value) (O0 : Old Z n0 h0) (H : own_H Z a0 zc fm) (Kv : Arv Z h0 va kv .byte 16 ([.int b0, .int b1, .int b2] ++ rs) (.int 0)) :
  own_Met false l Z n0 [] [] ⟨"java/util/Arrays", "copyOfRangeByte", "([BII)[B"⟩ jdk_65_method_133_code 5 (some (.array .byte)) [] (own_R 1 1 3 18) #[(.ref va), (.int (0 : Int32)), (.int (3 : Int32))] h0 (fun v h => ∃ (t : Addr) (kt : ClassId), v = some (.ref t) ∧ n0 ≤ t ∧ h0.size ≤ t ∧ Keep h0 h [] ∧ Arv Z h t kt .byte 3 [(.int b0), (.int b1), (.int b2)] (.int 0)) := by
  refine own_ent (a0 := a0) (nm := "copyOfRangeByte") (Ls := #[.val (.ref va), .val (.int (0 : Int32)), .val (.int (3 : Int32)), .unset, .unset]) own_pn3 O0 EW.nil ?_
  intro p e _ m _ below _ _ T0 Q hQ A0
  refine own_iloadN (q := 1) A0 d28_0 rfl ?_
  refine own_iloadN (q := 2) A0 d28_1 rfl ?_
  refine own_static (q := 5) (W := 0) (argsL := [(.int (0 : Int32)), (.int (3 : Int32))]) (rest := []) A0 (H.k 156 rfl) (H.k 157 rfl) (H.k 151 rfl) (H.k 158 rfl) (by decide) (own_pay (rm_chk3  A0.old H ) (H.k 158 rfl) (H.k 151 rfl) (by decide) (by decide)) own_nW (Nat.le_of_eq rfl) own_pd20 rfl rfl rfl d28_2 (by decide) (by decide) ?_
  rintro v1 T2 h3 A4 ⟨rfl, rfl⟩
  show own_Run p e below Q m T2 5 #[.val (.ref va), .val (.int (0 : Int32)), .val (.int (3 : Int32)), .unset, .unset] []
  refine own_iloadN (q := 6) A4 d28_5 rfl ?_
  refine own_iloadN (q := 7) A4 d28_6 rfl ?_
  refine own_isub (q := 8) A4 d28_7 ?_
  refine own_istoreN (q := 9) (L' := #[.val (.ref va), .val (.int (0 : Int32)), .val (.int (3 : Int32)), .val (.int ((3 : Int32) - (0 : Int32))), .unset]) A4 d28_8 rfl ?_
  refine own_iloadN (q := 10) A4 d28_9 rfl ?_
  refine own_newPv (q := 12) (ty := .byte) (dv := .int 0) A4 rfl rfl (H.k 23 rfl) d28_10 3 (by decide) (by decide) (by decide) (by decide) (by decide) ?_
  intro T5 h6 a7 k8 g9 g10 A11 E12 X13
  have z14 : va ≠ a7 := Nat.ne_of_lt (Nat.lt_of_lt_of_le Kv.lt (Nat.le_of_eq g9))
  have K15 := (Keep.refl h0 []).ext E12
  have f16 := Kv.ext E12
  have f17 : Arv Z h6 a7 k8 .byte (3 : Int32) [(.int (0 : Int32)), (.int (0 : Int32)), (.int (0 : Int32))] (.int 0) := X13
  refine own_astore (q := 14) (L' := #[.val (.ref va), .val (.int (0 : Int32)), .val (.int (3 : Int32)), .val (.int ((3 : Int32) - (0 : Int32))), .val (.ref a7)]) A11 d28_12 rfl rfl ?_
  refine own_aloadN (q := 15) A11 d28_14 rfl rfl ?_
  refine own_iloadN (q := 16) A11 d28_15 rfl ?_
  refine own_aload (q := 18) A11 d28_16 rfl rfl ?_
  refine own_iconst (q := 19) A11 (0 : Int32) d28_18 rfl ?_
  refine own_aloadN (q := 20) A11 d28_19 rfl rfl ?_
  refine own_arrlenv (q := 21) A11 f16 d28_20 ?_
  refine own_iloadN (q := 22) A11 d28_21 rfl ?_
  refine own_isub (q := 23) A11 d28_22 ?_
  refine own_iloadN (q := 24) A11 d28_23 rfl ?_
  refine own_static (q := 27) (W := 4) (argsL := [(.int ((16 : Int32) - (0 : Int32))), (.int ((3 : Int32) - (0 : Int32)))]) (rest := [(.int (0 : Int32)), (.ref a7), (.int (0 : Int32)), (.ref va)]) A11 (H.k 159 rfl) (H.k 160 rfl) (H.k 161 rfl) (H.k 162 rfl) (by decide) (own_pay (rm_min3  A11.old H ) (H.k 162 rfl) (H.k 161 rfl) (by decide) (by decide)) own_nW (Nat.le_of_eq rfl) own_pd21 rfl rfl rfl d28_24 (by decide) (by decide) ?_
  rintro v18 T19 h20 A21 ⟨rfl, rfl⟩
  show own_Run p e below Q m T19 27 #[.val (.ref va), .val (.int (0 : Int32)), .val (.int (3 : Int32)), .val (.int ((3 : Int32) - (0 : Int32))), .val (.ref a7)] [(.int (3 : Int32)), (.int (0 : Int32)), (.ref a7), (.int (0 : Int32)), (.ref va)]
  refine own_acopy (q := 30) (W := 0) A21 (H.k 163 rfl) (H.k 117 rfl) (H.k 115 rfl) (H.k 116 rfl) (us := [(.int b0), (.int b1), (.int b2)]) f16 f17 rfl (by decide) (by decide) (by decide) (by decide) (by decide) rfl (by decide) g10 (Or.inr (Or.inl rfl)) rfl d28_27 (by decide) (Nat.le_of_eq rfl) (by decide) ?_
  intro T22 h23 A24 K25 V26
  have K27 := K15.trans K25 (allS (Or.inr (Nat.le_trans (Keep.refl h0 []).1 (Nat.le_of_eq g9))) all0)
  refine own_aload (q := 32) A24 d28_30 rfl rfl ?_
  exact own_retA A24 hQ rfl rfl rfl d28_32 ⟨a7, _, rfl, g10, (Nat.le_trans (Keep.refl h0 []).1 (Nat.le_of_eq g9)), K27, V26⟩
theorem rm_cor3 (va : Addr) (kv : ClassId) (b0 b1 b2 : Int32) (rs : List Value) (O0 : Old Z n0 h0) (H : own_H Z a0 zc fm) (Kv : Arv Z h0 va kv .byte 16 ([.int b0, .int b1, .int b2] ++ rs) (.int 0)) :
  own_Met false l Z n0 [] [] ⟨"java/util/Arrays", "copyOfRange", "([BII)[B"⟩ jdk_65_method_132_code 3 (some (.array .byte)) [] (own_R 2 1 3 34) #[(.ref va), (.int (0 : Int32)), (.int (3 : Int32))] h0 (fun v h => ∃ (t : Addr) (kt : ClassId), v = some (.ref t) ∧ n0 ≤ t ∧ h0.size ≤ t ∧ Keep h0 h [] ∧ Arv Z h t kt .byte 3 [(.int b0), (.int b1), (.int b2)] (.int 0)) := by
  refine own_ent (a0 := a0) (nm := "copyOfRange") (Ls := #[.val (.ref va), .val (.int (0 : Int32)), .val (.int (3 : Int32))]) own_pn3 O0 EW.nil ?_
  intro p e _ m _ below _ _ T0 Q hQ A0
  refine own_iloadN (q := 1) A0 d27_0 rfl ?_
  refine own_ifcF (q := 4) A0 d27_1 (show (0 : Int32) = (0 : Int32) from rfl) ?_
  refine own_iloadN (q := 5) A0 d27_4 rfl ?_
  refine own_aloadN (q := 6) A0 d27_5 rfl rfl ?_
  refine own_arrlenv (q := 7) A0 Kv d27_6 ?_
  refine own_icmpF (q := 10) A0 d27_7 (show ¬ (3 : Int32) = (16 : Int32) from by decide) ?_
  refine own_aloadN (q := 11) A0 d27_10 rfl rfl ?_
  refine own_iloadN (q := 12) A0 d27_11 rfl ?_
  refine own_iloadN (q := 13) A0 d27_12 rfl ?_
  refine own_static (q := 16) (W := 0) (argsL := [(.ref va), (.int (0 : Int32)), (.int (3 : Int32))]) (rest := []) A0 (H.k 153 rfl) (H.k 154 rfl) (H.k 151 rfl) (H.k 155 rfl) (by decide) (own_pay (rm_crb3 va kv b0 b1 b2 rs A0.old H Kv) (H.k 155 rfl) (H.k 151 rfl) (by decide) (by decide)) own_nW (Nat.le_of_eq rfl) own_pd19 rfl rfl rfl d27_13 (by decide) (by decide) ?_
  rintro v4 T5 h6 A7 ⟨t1, k2, rfl, q3⟩
  show own_Run p e below Q m T5 16 #[.val (.ref va), .val (.int (0 : Int32)), .val (.int (3 : Int32))] [(.ref t1)]
  exact own_retA A7 hQ rfl rfl rfl d27_16 ⟨t1, k2, rfl, q3⟩
theorem rm_iab3 (a : Addr) (sb va : Addr) (kv : ClassId) (b0 b1 b2 : Int32) (rs : List Value) (O0 : Old Z n0 h0) (H : own_H Z a0 zc fm) (Ea : Exa Z h0 a "java/lang/String") (Va : Fld Z h0 a "java/lang/String" "value" "[B" .null) (Ca : Fld Z h0 a "java/lang/String" "coder" "B" (.int 0)) (ga : n0 ≤ a) (nab : a ≠ sb) (nav : a ≠ va) (Eb : Exa Z h0 sb "java/lang/StringBuilder") (Fv : Fld Z h0 sb "java/lang/AbstractStringBuilder" "value" "[B" (.ref va)) (Fc : Fld Z h0 sb "java/lang/AbstractStringBuilder" "coder" "B" (.int 0)) (Fn : Fld Z h0 sb "java/lang/AbstractStringBuilder" "count" "I" (.int 3)) (Kv : Arv Z h0 va kv .byte 16 ([.int b0, .int b1, .int b2] ++ rs) (.int 0)) (gb : n0 ≤ sb) (gv : n0 ≤ va) :
  own_Met false l Z n0 [] [] ⟨"java/lang/String", "<init>", "(Ljava/lang/AbstractStringBuilder;Ljava/lang/Void;)V"⟩ jdk_42_method_150_code 5 none [] (own_R 3 1 3 49) #[(.ref a), (.ref sb), .null] h0 (fun v h => v = none ∧ Keep h0 h [a] ∧ ∃ (t : Addr) (kt : ClassId), Exa Z h a "java/lang/String" ∧ Fld Z h a "java/lang/String" "coder" "B" (.int 0) ∧ Fld Z h a "java/lang/String" "value" "[B" (.ref t) ∧ Arv Z h t kt .byte 3 [(.int b0), (.int b1), (.int b2)] (.int 0)) := by
  refine own_ent (a0 := a0) (nm := "<init>") (Ls := #[.val (.ref a), .val (.ref sb), .val .null, .unset, .unset]) own_pn0 O0 EW.nil ?_
  intro p e _ m _ below _ _ T0 Q hQ A0
  refine own_aloadN (q := 1) A0 d22_0 rfl rfl ?_
  refine own_initO (q := 4) (W := 0) A0 (H.k 15 rfl) (H.k 16 rfl) (H.k 17 rfl) d22_1 rfl (by decide) (Nat.le_of_eq rfl) (by decide) ?_
  intro T1 A2
  refine own_aloadN (q := 5) A2 d22_4 rfl rfl ?_
  refine own_virtual (q := 8) (W := 0) (argsL := []) (rest := []) A2 (H.k 131 rfl) (H.k 132 rfl) (H.k 134 rfl) (H.k 133 rfl) (by decide) (own_pay (rm_gv sb va kv (3 : Int32) _ A2.old H Eb Fv Fc Fn Kv gb gv) (H.k 135 rfl) (H.k 63 rfl) (by decide) (by decide)) own_nW (Nat.le_of_eq rfl) Eb own_pd17 rfl rfl rfl d22_5 (by decide) (by decide) ?_
  rintro v3 T4 h5 A6 ⟨rfl, rfl⟩
  show own_Run p e below Q m T4 8 #[.val (.ref a), .val (.ref sb), .val .null, .unset, .unset] [(.ref va)]
  refine own_astoreN (q := 9) (L' := #[.val (.ref a), .val (.ref sb), .val .null, .val (.ref va), .unset]) A6 d22_8 rfl rfl ?_
  refine own_aloadN (q := 10) A6 d22_9 rfl rfl ?_
  refine own_virtualUp (q := 13) (W := 0) (argsL := []) (rest := []) A6 (H.k 136 rfl) (own_same (H.k 138 rfl) (H.k 133 rfl) (H.k 134 rfl) rfl (by decide)) (H.k 137 rfl) (by decide) (H.k 139 rfl) (H.k 140 rfl) (own_pay (rm_sln sb va kv (3 : Int32) _ A6.old H Eb Fv Fc Fn Kv gb gv) (H.k 141 rfl) (H.k 55 rfl) (by decide) (by decide)) own_nW (Nat.le_of_eq rfl) Eb own_pd10 rfl rfl rfl d22_10 (by decide) (by decide) ?_
  rintro v7 T8 h9 A10 ⟨rfl, rfl⟩
  show own_Run p e below Q m T8 13 #[.val (.ref a), .val (.ref sb), .val .null, .val (.ref va), .unset] [(.int (3 : Int32))]
  refine own_istore (q := 15) (L' := #[.val (.ref a), .val (.ref sb), .val .null, .val (.ref va), .val (.int (3 : Int32))]) A10 d22_13 rfl ?_
  refine own_aloadN (q := 16) A10 d22_15 rfl rfl ?_
  refine own_virtual (q := 19) (W := 0) (argsL := []) (rest := []) A10 (H.k 144 rfl) (H.k 145 rfl) (H.k 147 rfl) (H.k 146 rfl) (by decide) (own_pay (rm_isl sb va kv (3 : Int32) _ A10.old H Eb Fv Fc Fn Kv gb gv) (H.k 148 rfl) (H.k 63 rfl) (by decide) (by decide)) own_nW (Nat.le_of_eq rfl) Eb own_pd18 rfl rfl rfl d22_16 (by decide) (by decide) ?_
  rintro v11 T12 h13 A14 ⟨rfl, rfl⟩
  show own_Run p e below Q m T12 19 #[.val (.ref a), .val (.ref sb), .val .null, .val (.ref va), .val (.int (3 : Int32))] [(.int (1 : Int32))]
  refine own_ifcF (q := 22) A14 d22_19 (show ¬ (1 : Int32) = (0 : Int32) from by decide) ?_
  refine own_aloadN (q := 23) A14 d22_22 rfl rfl ?_
  refine own_iconst (q := 24) A14 (0 : Int32) d22_23 rfl ?_
  refine own_putF (host := "") (q := 27) A14 (Or.inl (H.k 30 rfl)) Via.refl Ca Ea (Or.inr ⟨(H.k 31 rfl), rfl, rfl⟩) (H.k 5 rfl) (ty := .byte) (by decide) rfl rfl ga (Or.inr (Or.inl rfl)) d22_24 ?_
  intro T15 h16 A17 W18
  have K19 := (Keep.refl h0 [a]).wr W18 (Or.inl (by simp))
  have f20 := Eb.wr W18
  have f21 := Fv.other W18 (Or.inl (Ne.symm nab))
  have f22 := Fc.other W18 (Or.inl (Ne.symm nab))
  have f23 := Fn.other W18 (Or.inl (Ne.symm nab))
  have f24 := Kv.other W18 (Ne.symm nav)
  have f25 := Ea.wr W18
  have f26 := Va.other W18 (Or.inr (slot_ne (Or.inr (H.k 33 rfl)) (Or.inr (H.k 31 rfl)) (by decide) (by decide : parseFieldDescriptor "[B" = some (.array .byte)) (by decide : parseFieldDescriptor "B" = some .byte)))
  have f27 := Ca.same W18
  refine own_aloadN (q := 28) A17 d22_27 rfl rfl ?_
  refine own_aloadN (q := 29) A17 d22_28 rfl rfl ?_
  refine own_iconst (q := 30) A17 (0 : Int32) d22_29 rfl ?_
  refine own_iload (q := 32) A17 d22_30 rfl ?_
  refine own_static (q := 35) (W := 1) (argsL := [(.ref va), (.int (0 : Int32)), (.int (3 : Int32))]) (rest := [(.ref a)]) A17 (H.k 149 rfl) (H.k 150 rfl) (H.k 151 rfl) (H.k 152 rfl) (by decide) (own_pay (rm_cor3 va kv b0 b1 b2 rs A17.old H f24) (H.k 152 rfl) (H.k 151 rfl) (by decide) (by decide)) own_nW (Nat.le_of_eq rfl) own_pd19 rfl rfl rfl d22_32 (by decide) (by decide) ?_
  rintro v34 T35 h36 A37 ⟨t28, k29, rfl, g30, g31, K32, V33⟩
  show own_Run p e below Q m T35 35 #[.val (.ref a), .val (.ref sb), .val .null, .val (.ref va), .val (.int (3 : Int32))] [(.ref t28), (.ref a)]
  have z38 : a ≠ t28 := Nat.ne_of_lt (Nat.lt_of_lt_of_le f25.lt g31)
  have f39 := f25.keep K32
  have f40 := f26.keep K32 nin0
  have f41 := f27.keep K32 nin0
  have K42 := K19.trans K32 all0
  refine own_putF (host := "") (q := 38) A37 (Or.inl (H.k 32 rfl)) Via.refl f40 f39 (Or.inr ⟨(H.k 33 rfl), rfl, rfl⟩) (H.k 5 rfl) (ty := (.array .byte)) (by decide) rfl rfl ga (Or.inr (Or.inl rfl)) d22_35 ?_
  intro T43 h44 A45 W46
  have K47 := K42.wr W46 (Or.inl (by simp))
  have f48 := f39.wr W46
  have f49 := f40.same W46
  have f50 := f41.other W46 (Or.inr (slot_ne (Or.inr (H.k 31 rfl)) (Or.inr (H.k 33 rfl)) (by decide) (by decide : parseFieldDescriptor "B" = some .byte) (by decide : parseFieldDescriptor "[B" = some (.array .byte))))
  have f51 := V33.other W46 (Ne.symm z38)
  refine own_goto (q := 97) A45 d22_38 ?_
  exact own_ret0 A45 hQ d22_97 ⟨rfl, K47, t28, k29, f48, f50, f49, f51⟩
theorem rm_isb3 (a : Addr) (sb va : Addr) (kv : ClassId) (b0 b1 b2 : Int32) (rs : List Value) (O0 : Old Z n0 h0) (H : own_H Z a0 zc fm) (Ea : Exa Z h0 a "java/lang/String") (Va : Fld Z h0 a "java/lang/String" "value" "[B" .null) (Ca : Fld Z h0 a "java/lang/String" "coder" "B" (.int 0)) (ga : n0 ≤ a) (nab : a ≠ sb) (nav : a ≠ va) (Eb : Exa Z h0 sb "java/lang/StringBuilder") (Fv : Fld Z h0 sb "java/lang/AbstractStringBuilder" "value" "[B" (.ref va)) (Fc : Fld Z h0 sb "java/lang/AbstractStringBuilder" "coder" "B" (.int 0)) (Fn : Fld Z h0 sb "java/lang/AbstractStringBuilder" "count" "I" (.int 3)) (Kv : Arv Z h0 va kv .byte 16 ([.int b0, .int b1, .int b2] ++ rs) (.int 0)) (gb : n0 ≤ sb) (gv : n0 ≤ va) :
  own_Met false l Z n0 [] [] ⟨"java/lang/String", "<init>", "(Ljava/lang/StringBuilder;)V"⟩ jdk_42_method_53_code 2 none [] (own_R 4 1 3 65) #[(.ref a), (.ref sb)] h0 (fun v h => v = none ∧ Keep h0 h [a] ∧ ∃ (t : Addr) (kt : ClassId), Exa Z h a "java/lang/String" ∧ Fld Z h a "java/lang/String" "coder" "B" (.int 0) ∧ Fld Z h a "java/lang/String" "value" "[B" (.ref t) ∧ Arv Z h t kt .byte 3 [(.int b0), (.int b1), (.int b2)] (.int 0)) := by
  refine own_ent (a0 := a0) (nm := "<init>") (Ls := #[.val (.ref a), .val (.ref sb)]) own_pn0 O0 EW.nil ?_
  intro p e _ m _ below _ _ T0 Q hQ A0
  refine own_aloadN (q := 1) A0 d21_0 rfl rfl ?_
  refine own_aloadN (q := 2) A0 d21_1 rfl rfl ?_
  refine own_aconstNull (q := 3) A0 d21_2 ?_
  refine own_special (q := 6) (W := 0) (argsL := [(.ref sb), .null]) (rest := []) A0 rfl (H.k 128 rfl) (H.k 129 rfl) (H.k 130 rfl) (by decide) (own_pay (rm_iab3 a sb va kv b0 b1 b2 rs A0.old H Ea Va Ca ga nab nav Eb Fv Fc Fn Kv gb gv) (H.k 130 rfl) (H.k 6 rfl) (by decide) (by decide)) own_nW (Nat.le_of_eq rfl) own_pd16 rfl rfl rfl d21_3 (by decide) (by decide) ?_
  rintro v2 T3 h4 A5 ⟨rfl, q1⟩
  show own_Run p e below Q m T3 6 #[.val (.ref a), .val (.ref sb)] []
  exact own_ret0 A5 hQ d21_6 ⟨rfl, q1⟩
theorem rm_tos3 (sb va : Addr) (kv : ClassId) (b0 b1 b2 : Int32) (rs : List Value) (O0 : Old Z n0 h0) (H : own_H Z a0 zc fm) (Eb : Exa Z h0 sb "java/lang/StringBuilder") (Fv : Fld Z h0 sb "java/lang/AbstractStringBuilder" "value" "[B" (.ref va)) (Fc : Fld Z h0 sb "java/lang/AbstractStringBuilder" "coder" "B" (.int 0)) (Fn : Fld Z h0 sb "java/lang/AbstractStringBuilder" "count" "I" (.int 3)) (Kv : Arv Z h0 va kv .byte 16 ([.int b0, .int b1, .int b2] ++ rs) (.int 0)) (gb : n0 ≤ sb) (gv : n0 ≤ va) :
  own_Met false l Z n0 [] [] ⟨"java/lang/StringBuilder", "toString", "()Ljava/lang/String;"⟩ jdk_67_method_42_code 1 (some (.object "java/lang/String")) [] (own_R 5 2 7 79) #[(.ref sb)] h0 (fun v h => ∃ (a t : Addr) (kt : ClassId), v = some (.ref a) ∧ Keep h0 h [] ∧ Exa Z h a "java/lang/String" ∧ Fld Z h a "java/lang/String" "coder" "B" (.int 0) ∧ Fld Z h a "java/lang/String" "value" "[B" (.ref t) ∧ Arv Z h t kt .byte 3 [(.int b0), (.int b1), (.int b2)] (.int 0)) := by
  refine own_ent (a0 := a0) (nm := "toString") (Ls := #[.val (.ref sb)]) own_pn2 O0 EW.nil ?_
  intro p e _ m _ below _ _ T0 Q hQ A0
  refine own_newO (q := 3) A0 (H.k 124 rfl) (H.k 5 rfl) (H.k 6 rfl) d20_0 (by decide) (by decide) ?_
  intro T1 h2 a3 g4 g5 A6 E7 X8 D9
  have z10 : sb ≠ a3 := Nat.ne_of_lt (Nat.lt_of_lt_of_le Eb.lt (Nat.le_of_eq g4))
  have z11 : va ≠ a3 := Nat.ne_of_lt (Nat.lt_of_lt_of_le Kv.lt (Nat.le_of_eq g4))
  have K12 := (Keep.refl h0 []).ext E7
  have f13 := Eb.ext E7
  have f14 := Fv.ext E7
  have f15 := Fc.ext E7
  have f16 := Fn.ext E7
  have f17 := Kv.ext E7
  have f18 : Fld Z h2 a3 "java/lang/String" "value" "[B" .null := D9 (Or.inr (H.k 33 rfl)) (ty := (.array .byte)) (by decide)
  have f19 : Fld Z h2 a3 "java/lang/String" "coder" "B" (.int (0 : Int32)) := D9 (Or.inr (H.k 31 rfl)) (ty := .byte) (by decide)
  refine own_dup (q := 4) A6 d20_3 rfl ?_
  refine own_aloadN (q := 5) A6 d20_4 rfl rfl ?_
  refine own_special (q := 8) (W := 1) (argsL := [(.ref sb)]) (rest := [(.ref a3)]) A6 rfl (H.k 125 rfl) (H.k 126 rfl) (H.k 127 rfl) (by decide) (own_pay (rm_isb3 a3 sb va kv b0 b1 b2 rs A6.old H X8 f18 f19 g5 (Ne.symm z10) (Ne.symm z11) f13 f14 f15 f16 f17 gb gv) (H.k 127 rfl) (H.k 6 rfl) (by decide) (by decide)) own_nW (Nat.le_of_eq rfl) own_pd15 rfl rfl rfl d20_5 (by decide) (by decide) ?_
  rintro v24 T25 h26 A27 ⟨rfl, K20, t21, k22, q23⟩
  show own_Run p e below Q m T25 8 #[.val (.ref sb)] [(.ref a3)]
  have K28 := K12.trans K20 (allS (Or.inr (Nat.le_trans (Keep.refl h0 []).1 (Nat.le_of_eq g4))) all0)
  exact own_retA A27 hQ rfl rfl rfl d20_8 ⟨a3, t21, k22, rfl, K28, q23⟩
theorem rm_min4 (O0 : Old Z n0 h0) (H : own_H Z a0 zc fm) :
  own_Met false l Z n0 [] [] ⟨"java/lang/Math", "min", "(II)I"⟩ jdk_29_method_69_code 2 (some .int) [] (own_R 0 0 0 0) #[(.int ((16 : Int32) - (0 : Int32))), (.int ((4 : Int32) - (0 : Int32)))] h0 (fun v h => v = some (.int (4 : Int32)) ∧ h0 = h) := by
  refine own_enterP (a0 := a0) (nm := "min") (own := "java/lang/Math") (Ls := #[.val (.int ((16 : Int32) - (0 : Int32))), .val (.int ((4 : Int32) - (0 : Int32)))]) (Jvm.Free.JP.mathPlain rfl (by decide +kernel)) O0 EW.nil (fun m => by first | (simp [entryFrame, mkF, argsToLocals, Value.category, maxLocals]; done) | rfl) ?_
  intro p e _ m _ below _ _ T0 Q hQ A0
  refine own_iloadN (q := 1) A0 d30_0 rfl ?_
  refine own_iloadN (q := 2) A0 d30_1 rfl ?_
  refine own_icmpT (q := 9) A0 d30_2 (show ((4 : Int32) - (0 : Int32)) < ((16 : Int32) - (0 : Int32)) from by decide) ?_
  refine own_iloadN (q := 10) A0 d30_9 rfl ?_
  exact own_retI A0 hQ d30_10 ⟨rfl, rfl⟩
theorem rm_chk4 (O0 : Old Z n0 h0) (H : own_H Z a0 zc fm) :
  own_Met false l Z n0 [] [] ⟨"java/util/Arrays", "checkLength", "(II)V"⟩ jdk_65_method_131_code 2 none [] (own_R 0 0 0 0) #[(.int (0 : Int32)), (.int (4 : Int32))] h0 (fun v h => v = none ∧ h0 = h) := by
  refine own_ent (a0 := a0) (nm := "checkLength") (Ls := #[.val (.int (0 : Int32)), .val (.int (4 : Int32))]) own_pn3 O0 EW.nil ?_
  intro p e _ m _ below _ _ T0 Q hQ A0
  refine own_iloadN (q := 1) A0 d29_0 rfl ?_
  refine own_iloadN (q := 2) A0 d29_1 rfl ?_
  refine own_icmpT (q := 37) A0 d29_2 (show ¬ (4 : Int32) < (0 : Int32) from by decide) ?_
  exact own_ret0 A0 hQ d29_37 ⟨rfl, rfl⟩
theorem rm_crb4 (va : Addr) (kv : ClassId) (b0 b1 b2 b3 : Int32) (rs : List Value) (O0 : Old Z n0 h0) (H : own_H Z a0 zc fm) (Kv : Arv Z h0 va kv .byte 16 ([.int b0, .int b1, .int b2, .int b3] ++ rs) (.int 0)) :
  own_Met false l Z n0 [] [] ⟨"java/util/Arrays", "copyOfRangeByte", "([BII)[B"⟩ jdk_65_method_133_code 5 (some (.array .byte)) [] (own_R 1 1 4 18) #[(.ref va), (.int (0 : Int32)), (.int (4 : Int32))] h0 (fun v h => ∃ (t : Addr) (kt : ClassId), v = some (.ref t) ∧ n0 ≤ t ∧ h0.size ≤ t ∧ Keep h0 h [] ∧ Arv Z h t kt .byte 4 [(.int b0), (.int b1), (.int b2), (.int b3)] (.int 0)) := by
  refine own_ent (a0 := a0) (nm := "copyOfRangeByte") (Ls := #[.val (.ref va), .val (.int (0 : Int32)), .val (.int (4 : Int32)), .unset, .unset]) own_pn3 O0 EW.nil ?_
  intro p e _ m _ below _ _ T0 Q hQ A0
  refine own_iloadN (q := 1) A0 d28_0 rfl ?_
  refine own_iloadN (q := 2) A0 d28_1 rfl ?_
  refine own_static (q := 5) (W := 0) (argsL := [(.int (0 : Int32)), (.int (4 : Int32))]) (rest := []) A0 (H.k 156 rfl) (H.k 157 rfl) (H.k 151 rfl) (H.k 158 rfl) (by decide) (own_pay (rm_chk4  A0.old H ) (H.k 158 rfl) (H.k 151 rfl) (by decide) (by decide)) own_nW (Nat.le_of_eq rfl) own_pd20 rfl rfl rfl d28_2 (by decide) (by decide) ?_
  rintro v1 T2 h3 A4 ⟨rfl, rfl⟩
  show own_Run p e below Q m T2 5 #[.val (.ref va), .val (.int (0 : Int32)), .val (.int (4 : Int32)), .unset, .unset] []
  refine own_iloadN (q := 6) A4 d28_5 rfl ?_
  refine own_iloadN (q := 7) A4 d28_6 rfl ?_
  refine own_isub (q := 8) A4 d28_7 ?_
  refine own_istoreN (q := 9) (L' := #[.val (.ref va), .val (.int (0 : Int32)), .val (.int (4 : Int32)), .val (.int ((4 : Int32) - (0 : Int32))), .unset]) A4 d28_8 rfl ?_
  refine own_iloadN (q := 10) A4 d28_9 rfl ?_
  refine own_newPv (q := 12) (ty := .byte) (dv := .int 0) A4 rfl rfl (H.k 23 rfl) d28_10 4 (by decide) (by decide) (by decide) (by decide) (by decide) ?_
  intro T5 h6 a7 k8 g9 g10 A11 E12 X13
  have z14 : va ≠ a7 := Nat.ne_of_lt (Nat.lt_of_lt_of_le Kv.lt (Nat.le_of_eq g9))
  have K15 := (Keep.refl h0 []).ext E12
  have f16 := Kv.ext E12
  have f17 : Arv Z h6 a7 k8 .byte (4 : Int32) [(.int (0 : Int32)), (.int (0 : Int32)), (.int (0 : Int32)), (.int (0 : Int32))] (.int 0) := X13
  refine own_astore (q := 14) (L' := #[.val (.ref va), .val (.int (0 : Int32)), .val (.int (4 : Int32)), .val (.int ((4 : Int32) - (0 : Int32))), .val (.ref a7)]) A11 d28_12 rfl rfl ?_
  refine own_aloadN (q := 15) A11 d28_14 rfl rfl ?_
  refine own_iloadN (q := 16) A11 d28_15 rfl ?_
  refine own_aload (q := 18) A11 d28_16 rfl rfl ?_
  refine own_iconst (q := 19) A11 (0 : Int32) d28_18 rfl ?_
  refine own_aloadN (q := 20) A11 d28_19 rfl rfl ?_
  refine own_arrlenv (q := 21) A11 f16 d28_20 ?_
  refine own_iloadN (q := 22) A11 d28_21 rfl ?_
  refine own_isub (q := 23) A11 d28_22 ?_
  refine own_iloadN (q := 24) A11 d28_23 rfl ?_
  refine own_static (q := 27) (W := 4) (argsL := [(.int ((16 : Int32) - (0 : Int32))), (.int ((4 : Int32) - (0 : Int32)))]) (rest := [(.int (0 : Int32)), (.ref a7), (.int (0 : Int32)), (.ref va)]) A11 (H.k 159 rfl) (H.k 160 rfl) (H.k 161 rfl) (H.k 162 rfl) (by decide) (own_pay (rm_min4  A11.old H ) (H.k 162 rfl) (H.k 161 rfl) (by decide) (by decide)) own_nW (Nat.le_of_eq rfl) own_pd21 rfl rfl rfl d28_24 (by decide) (by decide) ?_
  rintro v18 T19 h20 A21 ⟨rfl, rfl⟩
  show own_Run p e below Q m T19 27 #[.val (.ref va), .val (.int (0 : Int32)), .val (.int (4 : Int32)), .val (.int ((4 : Int32) - (0 : Int32))), .val (.ref a7)] [(.int (4 : Int32)), (.int (0 : Int32)), (.ref a7), (.int (0 : Int32)), (.ref va)]
  refine own_acopy (q := 30) (W := 0) A21 (H.k 163 rfl) (H.k 117 rfl) (H.k 115 rfl) (H.k 116 rfl) (us := [(.int b0), (.int b1), (.int b2), (.int b3)]) f16 f17 rfl (by decide) (by decide) (by decide) (by decide) (by decide) rfl (by decide) g10 (Or.inr (Or.inl rfl)) rfl d28_27 (by decide) (Nat.le_of_eq rfl) (by decide) ?_
  intro T22 h23 A24 K25 V26
  have K27 := K15.trans K25 (allS (Or.inr (Nat.le_trans (Keep.refl h0 []).1 (Nat.le_of_eq g9))) all0)
  refine own_aload (q := 32) A24 d28_30 rfl rfl ?_
  exact own_retA A24 hQ rfl rfl rfl d28_32 ⟨a7, _, rfl, g10, (Nat.le_trans (Keep.refl h0 []).1 (Nat.le_of_eq g9)), K27, V26⟩
theorem rm_cor4 (va : Addr) (kv : ClassId) (b0 b1 b2 b3 : Int32) (rs : List Value) (O0 : Old Z n0 h0) (H : own_H Z a0 zc fm) (Kv : Arv Z h0 va kv .byte 16 ([.int b0, .int b1, .int b2, .int b3] ++ rs) (.int 0)) :
  own_Met false l Z n0 [] [] ⟨"java/util/Arrays", "copyOfRange", "([BII)[B"⟩ jdk_65_method_132_code 3 (some (.array .byte)) [] (own_R 2 1 4 34) #[(.ref va), (.int (0 : Int32)), (.int (4 : Int32))] h0 (fun v h => ∃ (t : Addr) (kt : ClassId), v = some (.ref t) ∧ n0 ≤ t ∧ h0.size ≤ t ∧ Keep h0 h [] ∧ Arv Z h t kt .byte 4 [(.int b0), (.int b1), (.int b2), (.int b3)] (.int 0)) := by
  refine own_ent (a0 := a0) (nm := "copyOfRange") (Ls := #[.val (.ref va), .val (.int (0 : Int32)), .val (.int (4 : Int32))]) own_pn3 O0 EW.nil ?_
  intro p e _ m _ below _ _ T0 Q hQ A0
  refine own_iloadN (q := 1) A0 d27_0 rfl ?_
  refine own_ifcF (q := 4) A0 d27_1 (show (0 : Int32) = (0 : Int32) from rfl) ?_
  refine own_iloadN (q := 5) A0 d27_4 rfl ?_
  refine own_aloadN (q := 6) A0 d27_5 rfl rfl ?_
  refine own_arrlenv (q := 7) A0 Kv d27_6 ?_
  refine own_icmpF (q := 10) A0 d27_7 (show ¬ (4 : Int32) = (16 : Int32) from by decide) ?_
  refine own_aloadN (q := 11) A0 d27_10 rfl rfl ?_
  refine own_iloadN (q := 12) A0 d27_11 rfl ?_
  refine own_iloadN (q := 13) A0 d27_12 rfl ?_
  refine own_static (q := 16) (W := 0) (argsL := [(.ref va), (.int (0 : Int32)), (.int (4 : Int32))]) (rest := []) A0 (H.k 153 rfl) (H.k 154 rfl) (H.k 151 rfl) (H.k 155 rfl) (by decide) (own_pay (rm_crb4 va kv b0 b1 b2 b3 rs A0.old H Kv) (H.k 155 rfl) (H.k 151 rfl) (by decide) (by decide)) own_nW (Nat.le_of_eq rfl) own_pd19 rfl rfl rfl d27_13 (by decide) (by decide) ?_
  rintro v4 T5 h6 A7 ⟨t1, k2, rfl, q3⟩
  show own_Run p e below Q m T5 16 #[.val (.ref va), .val (.int (0 : Int32)), .val (.int (4 : Int32))] [(.ref t1)]
  exact own_retA A7 hQ rfl rfl rfl d27_16 ⟨t1, k2, rfl, q3⟩
theorem rm_iab4 (a : Addr) (sb va : Addr) (kv : ClassId) (b0 b1 b2 b3 : Int32) (rs : List Value) (O0 : Old Z n0 h0) (H : own_H Z a0 zc fm) (Ea : Exa Z h0 a "java/lang/String") (Va : Fld Z h0 a "java/lang/String" "value" "[B" .null) (Ca : Fld Z h0 a "java/lang/String" "coder" "B" (.int 0)) (ga : n0 ≤ a) (nab : a ≠ sb) (nav : a ≠ va) (Eb : Exa Z h0 sb "java/lang/StringBuilder") (Fv : Fld Z h0 sb "java/lang/AbstractStringBuilder" "value" "[B" (.ref va)) (Fc : Fld Z h0 sb "java/lang/AbstractStringBuilder" "coder" "B" (.int 0)) (Fn : Fld Z h0 sb "java/lang/AbstractStringBuilder" "count" "I" (.int 4)) (Kv : Arv Z h0 va kv .byte 16 ([.int b0, .int b1, .int b2, .int b3] ++ rs) (.int 0)) (gb : n0 ≤ sb) (gv : n0 ≤ va) :
  own_Met false l Z n0 [] [] ⟨"java/lang/String", "<init>", "(Ljava/lang/AbstractStringBuilder;Ljava/lang/Void;)V"⟩ jdk_42_method_150_code 5 none [] (own_R 3 1 4 49) #[(.ref a), (.ref sb), .null] h0 (fun v h => v = none ∧ Keep h0 h [a] ∧ ∃ (t : Addr) (kt : ClassId), Exa Z h a "java/lang/String" ∧ Fld Z h a "java/lang/String" "coder" "B" (.int 0) ∧ Fld Z h a "java/lang/String" "value" "[B" (.ref t) ∧ Arv Z h t kt .byte 4 [(.int b0), (.int b1), (.int b2), (.int b3)] (.int 0)) := by
  refine own_ent (a0 := a0) (nm := "<init>") (Ls := #[.val (.ref a), .val (.ref sb), .val .null, .unset, .unset]) own_pn0 O0 EW.nil ?_
  intro p e _ m _ below _ _ T0 Q hQ A0
  refine own_aloadN (q := 1) A0 d22_0 rfl rfl ?_
  refine own_initO (q := 4) (W := 0) A0 (H.k 15 rfl) (H.k 16 rfl) (H.k 17 rfl) d22_1 rfl (by decide) (Nat.le_of_eq rfl) (by decide) ?_
  intro T1 A2
  refine own_aloadN (q := 5) A2 d22_4 rfl rfl ?_
  refine own_virtual (q := 8) (W := 0) (argsL := []) (rest := []) A2 (H.k 131 rfl) (H.k 132 rfl) (H.k 134 rfl) (H.k 133 rfl) (by decide) (own_pay (rm_gv sb va kv (4 : Int32) _ A2.old H Eb Fv Fc Fn Kv gb gv) (H.k 135 rfl) (H.k 63 rfl) (by decide) (by decide)) own_nW (Nat.le_of_eq rfl) Eb own_pd17 rfl rfl rfl d22_5 (by decide) (by decide) ?_
  rintro v3 T4 h5 A6 ⟨rfl, rfl⟩
  show own_Run p e below Q m T4 8 #[.val (.ref a), .val (.ref sb), .val .null, .unset, .unset] [(.ref va)]
  refine own_astoreN (q := 9) (L' := #[.val (.ref a), .val (.ref sb), .val .null, .val (.ref va), .unset]) A6 d22_8 rfl rfl ?_
  refine own_aloadN (q := 10) A6 d22_9 rfl rfl ?_
  refine own_virtualUp (q := 13) (W := 0) (argsL := []) (rest := []) A6 (H.k 136 rfl) (own_same (H.k 138 rfl) (H.k 133 rfl) (H.k 134 rfl) rfl (by decide)) (H.k 137 rfl) (by decide) (H.k 139 rfl) (H.k 140 rfl) (own_pay (rm_sln sb va kv (4 : Int32) _ A6.old H Eb Fv Fc Fn Kv gb gv) (H.k 141 rfl) (H.k 55 rfl) (by decide) (by decide)) own_nW (Nat.le_of_eq rfl) Eb own_pd10 rfl rfl rfl d22_10 (by decide) (by decide) ?_
  rintro v7 T8 h9 A10 ⟨rfl, rfl⟩
  show own_Run p e below Q m T8 13 #[.val (.ref a), .val (.ref sb), .val .null, .val (.ref va), .unset] [(.int (4 : Int32))]
  refine own_istore (q := 15) (L' := #[.val (.ref a), .val (.ref sb), .val .null, .val (.ref va), .val (.int (4 : Int32))]) A10 d22_13 rfl ?_
  refine own_aloadN (q := 16) A10 d22_15 rfl rfl ?_
  refine own_virtual (q := 19) (W := 0) (argsL := []) (rest := []) A10 (H.k 144 rfl) (H.k 145 rfl) (H.k 147 rfl) (H.k 146 rfl) (by decide) (own_pay (rm_isl sb va kv (4 : Int32) _ A10.old H Eb Fv Fc Fn Kv gb gv) (H.k 148 rfl) (H.k 63 rfl) (by decide) (by decide)) own_nW (Nat.le_of_eq rfl) Eb own_pd18 rfl rfl rfl d22_16 (by decide) (by decide) ?_
  rintro v11 T12 h13 A14 ⟨rfl, rfl⟩
  show own_Run p e below Q m T12 19 #[.val (.ref a), .val (.ref sb), .val .null, .val (.ref va), .val (.int (4 : Int32))] [(.int (1 : Int32))]
  refine own_ifcF (q := 22) A14 d22_19 (show ¬ (1 : Int32) = (0 : Int32) from by decide) ?_
  refine own_aloadN (q := 23) A14 d22_22 rfl rfl ?_
  refine own_iconst (q := 24) A14 (0 : Int32) d22_23 rfl ?_
  refine own_putF (host := "") (q := 27) A14 (Or.inl (H.k 30 rfl)) Via.refl Ca Ea (Or.inr ⟨(H.k 31 rfl), rfl, rfl⟩) (H.k 5 rfl) (ty := .byte) (by decide) rfl rfl ga (Or.inr (Or.inl rfl)) d22_24 ?_
  intro T15 h16 A17 W18
  have K19 := (Keep.refl h0 [a]).wr W18 (Or.inl (by simp))
  have f20 := Eb.wr W18
  have f21 := Fv.other W18 (Or.inl (Ne.symm nab))
  have f22 := Fc.other W18 (Or.inl (Ne.symm nab))
  have f23 := Fn.other W18 (Or.inl (Ne.symm nab))
  have f24 := Kv.other W18 (Ne.symm nav)
  have f25 := Ea.wr W18
  have f26 := Va.other W18 (Or.inr (slot_ne (Or.inr (H.k 33 rfl)) (Or.inr (H.k 31 rfl)) (by decide) (by decide : parseFieldDescriptor "[B" = some (.array .byte)) (by decide : parseFieldDescriptor "B" = some .byte)))
  have f27 := Ca.same W18
  refine own_aloadN (q := 28) A17 d22_27 rfl rfl ?_
  refine own_aloadN (q := 29) A17 d22_28 rfl rfl ?_
  refine own_iconst (q := 30) A17 (0 : Int32) d22_29 rfl ?_
  refine own_iload (q := 32) A17 d22_30 rfl ?_
  refine own_static (q := 35) (W := 1) (argsL := [(.ref va), (.int (0 : Int32)), (.int (4 : Int32))]) (rest := [(.ref a)]) A17 (H.k 149 rfl) (H.k 150 rfl) (H.k 151 rfl) (H.k 152 rfl) (by decide) (own_pay (rm_cor4 va kv b0 b1 b2 b3 rs A17.old H f24) (H.k 152 rfl) (H.k 151 rfl) (by decide) (by decide)) own_nW (Nat.le_of_eq rfl) own_pd19 rfl rfl rfl d22_32 (by decide) (by decide) ?_
  rintro v34 T35 h36 A37 ⟨t28, k29, rfl, g30, g31, K32, V33⟩
  show own_Run p e below Q m T35 35 #[.val (.ref a), .val (.ref sb), .val .null, .val (.ref va), .val (.int (4 : Int32))] [(.ref t28), (.ref a)]
  have z38 : a ≠ t28 := Nat.ne_of_lt (Nat.lt_of_lt_of_le f25.lt g31)
  have f39 := f25.keep K32
  have f40 := f26.keep K32 nin0
  have f41 := f27.keep K32 nin0
  have K42 := K19.trans K32 all0
  refine own_putF (host := "") (q := 38) A37 (Or.inl (H.k 32 rfl)) Via.refl f40 f39 (Or.inr ⟨(H.k 33 rfl), rfl, rfl⟩) (H.k 5 rfl) (ty := (.array .byte)) (by decide) rfl rfl ga (Or.inr (Or.inl rfl)) d22_35 ?_
  intro T43 h44 A45 W46
  have K47 := K42.wr W46 (Or.inl (by simp))
  have f48 := f39.wr W46
  have f49 := f40.same W46
  have f50 := f41.other W46 (Or.inr (slot_ne (Or.inr (H.k 31 rfl)) (Or.inr (H.k 33 rfl)) (by decide) (by decide : parseFieldDescriptor "B" = some .byte) (by decide : parseFieldDescriptor "[B" = some (.array .byte))))
  have f51 := V33.other W46 (Ne.symm z38)
  refine own_goto (q := 97) A45 d22_38 ?_
  exact own_ret0 A45 hQ d22_97 ⟨rfl, K47, t28, k29, f48, f50, f49, f51⟩
theorem rm_isb4 (a : Addr) (sb va : Addr) (kv : ClassId) (b0 b1 b2 b3 : Int32) (rs : List Value) (O0 : Old Z n0 h0) (H : own_H Z a0 zc fm) (Ea : Exa Z h0 a "java/lang/String") (Va : Fld Z h0 a "java/lang/String" "value" "[B" .null) (Ca : Fld Z h0 a "java/lang/String" "coder" "B" (.int 0)) (ga : n0 ≤ a) (nab : a ≠ sb) (nav : a ≠ va) (Eb : Exa Z h0 sb "java/lang/StringBuilder") (Fv : Fld Z h0 sb "java/lang/AbstractStringBuilder" "value" "[B" (.ref va)) (Fc : Fld Z h0 sb "java/lang/AbstractStringBuilder" "coder" "B" (.int 0)) (Fn : Fld Z h0 sb "java/lang/AbstractStringBuilder" "count" "I" (.int 4)) (Kv : Arv Z h0 va kv .byte 16 ([.int b0, .int b1, .int b2, .int b3] ++ rs) (.int 0)) (gb : n0 ≤ sb) (gv : n0 ≤ va) :
  own_Met false l Z n0 [] [] ⟨"java/lang/String", "<init>", "(Ljava/lang/StringBuilder;)V"⟩ jdk_42_method_53_code 2 none [] (own_R 4 1 4 65) #[(.ref a), (.ref sb)] h0 (fun v h => v = none ∧ Keep h0 h [a] ∧ ∃ (t : Addr) (kt : ClassId), Exa Z h a "java/lang/String" ∧ Fld Z h a "java/lang/String" "coder" "B" (.int 0) ∧ Fld Z h a "java/lang/String" "value" "[B" (.ref t) ∧ Arv Z h t kt .byte 4 [(.int b0), (.int b1), (.int b2), (.int b3)] (.int 0)) := by
  refine own_ent (a0 := a0) (nm := "<init>") (Ls := #[.val (.ref a), .val (.ref sb)]) own_pn0 O0 EW.nil ?_
  intro p e _ m _ below _ _ T0 Q hQ A0
  refine own_aloadN (q := 1) A0 d21_0 rfl rfl ?_
  refine own_aloadN (q := 2) A0 d21_1 rfl rfl ?_
  refine own_aconstNull (q := 3) A0 d21_2 ?_
  refine own_special (q := 6) (W := 0) (argsL := [(.ref sb), .null]) (rest := []) A0 rfl (H.k 128 rfl) (H.k 129 rfl) (H.k 130 rfl) (by decide) (own_pay (rm_iab4 a sb va kv b0 b1 b2 b3 rs A0.old H Ea Va Ca ga nab nav Eb Fv Fc Fn Kv gb gv) (H.k 130 rfl) (H.k 6 rfl) (by decide) (by decide)) own_nW (Nat.le_of_eq rfl) own_pd16 rfl rfl rfl d21_3 (by decide) (by decide) ?_
  rintro v2 T3 h4 A5 ⟨rfl, q1⟩
  show own_Run p e below Q m T3 6 #[.val (.ref a), .val (.ref sb)] []
  exact own_ret0 A5 hQ d21_6 ⟨rfl, q1⟩
theorem rm_tos4 (sb va : Addr) (kv : ClassId) (b0 b1 b2 b3 : Int32) (rs : List Value) (O0 : Old Z n0 h0) (H : own_H Z a0 zc fm) (Eb : Exa Z h0 sb "java/lang/StringBuilder") (Fv : Fld Z h0 sb "java/lang/AbstractStringBuilder" "value" "[B" (.ref va)) (Fc : Fld Z h0 sb "java/lang/AbstractStringBuilder" "coder" "B" (.int 0)) (Fn : Fld Z h0 sb "java/lang/AbstractStringBuilder" "count" "I" (.int 4)) (Kv : Arv Z h0 va kv .byte 16 ([.int b0, .int b1, .int b2, .int b3] ++ rs) (.int 0)) (gb : n0 ≤ sb) (gv : n0 ≤ va) :
  own_Met false l Z n0 [] [] ⟨"java/lang/StringBuilder", "toString", "()Ljava/lang/String;"⟩ jdk_67_method_42_code 1 (some (.object "java/lang/String")) [] (own_R 5 2 8 79) #[(.ref sb)] h0 (fun v h => ∃ (a t : Addr) (kt : ClassId), v = some (.ref a) ∧ Keep h0 h [] ∧ Exa Z h a "java/lang/String" ∧ Fld Z h a "java/lang/String" "coder" "B" (.int 0) ∧ Fld Z h a "java/lang/String" "value" "[B" (.ref t) ∧ Arv Z h t kt .byte 4 [(.int b0), (.int b1), (.int b2), (.int b3)] (.int 0)) := by
  refine own_ent (a0 := a0) (nm := "toString") (Ls := #[.val (.ref sb)]) own_pn2 O0 EW.nil ?_
  intro p e _ m _ below _ _ T0 Q hQ A0
  refine own_newO (q := 3) A0 (H.k 124 rfl) (H.k 5 rfl) (H.k 6 rfl) d20_0 (by decide) (by decide) ?_
  intro T1 h2 a3 g4 g5 A6 E7 X8 D9
  have z10 : sb ≠ a3 := Nat.ne_of_lt (Nat.lt_of_lt_of_le Eb.lt (Nat.le_of_eq g4))
  have z11 : va ≠ a3 := Nat.ne_of_lt (Nat.lt_of_lt_of_le Kv.lt (Nat.le_of_eq g4))
  have K12 := (Keep.refl h0 []).ext E7
  have f13 := Eb.ext E7
  have f14 := Fv.ext E7
  have f15 := Fc.ext E7
  have f16 := Fn.ext E7
  have f17 := Kv.ext E7
  have f18 : Fld Z h2 a3 "java/lang/String" "value" "[B" .null := D9 (Or.inr (H.k 33 rfl)) (ty := (.array .byte)) (by decide)
  have f19 : Fld Z h2 a3 "java/lang/String" "coder" "B" (.int (0 : Int32)) := D9 (Or.inr (H.k 31 rfl)) (ty := .byte) (by decide)
  refine own_dup (q := 4) A6 d20_3 rfl ?_
  refine own_aloadN (q := 5) A6 d20_4 rfl rfl ?_
  refine own_special (q := 8) (W := 1) (argsL := [(.ref sb)]) (rest := [(.ref a3)]) A6 rfl (H.k 125 rfl) (H.k 126 rfl) (H.k 127 rfl) (by decide) (own_pay (rm_isb4 a3 sb va kv b0 b1 b2 b3 rs A6.old H X8 f18 f19 g5 (Ne.symm z10) (Ne.symm z11) f13 f14 f15 f16 f17 gb gv) (H.k 127 rfl) (H.k 6 rfl) (by decide) (by decide)) own_nW (Nat.le_of_eq rfl) own_pd15 rfl rfl rfl d20_5 (by decide) (by decide) ?_
  rintro v24 T25 h26 A27 ⟨rfl, K20, t21, k22, q23⟩
  show own_Run p e below Q m T25 8 #[.val (.ref sb)] [(.ref a3)]
  have K28 := K12.trans K20 (allS (Or.inr (Nat.le_trans (Keep.refl h0 []).1 (Nat.le_of_eq g4))) all0)
  exact own_retA A27 hQ rfl rfl rfl d20_8 ⟨a3, t21, k22, rfl, K28, q23⟩
theorem rm_min5 (O0 : Old Z n0 h0) (H : own_H Z a0 zc fm) :
  own_Met false l Z n0 [] [] ⟨"java/lang/Math", "min", "(II)I"⟩ jdk_29_method_69_code 2 (some .int) [] (own_R 0 0 0 0) #[(.int ((16 : Int32) - (0 : Int32))), (.int ((5 : Int32) - (0 : Int32)))] h0 (fun v h => v = some (.int (5 : Int32)) ∧ h0 = h) := by
  refine own_enterP (a0 := a0) (nm := "min") (own := "java/lang/Math") (Ls := #[.val (.int ((16 : Int32) - (0 : Int32))), .val (.int ((5 : Int32) - (0 : Int32)))]) (Jvm.Free.JP.mathPlain rfl (by decide +kernel)) O0 EW.nil (fun m => by first | (simp [entryFrame, mkF, argsToLocals, Value.category, maxLocals]; done) | rfl) ?_
  intro p e _ m _ below _ _ T0 Q hQ A0
  refine own_iloadN (q := 1) A0 d30_0 rfl ?_
  refine own_iloadN (q := 2) A0 d30_1 rfl ?_
  refine own_icmpT (q := 9) A0 d30_2 (show ((5 : Int32) - (0 : Int32)) < ((16 : Int32) - (0 : Int32)) from by decide) ?_
  refine own_iloadN (q := 10) A0 d30_9 rfl ?_
  exact own_retI A0 hQ d30_10 ⟨rfl, rfl⟩
theorem rm_chk5 (O0 : Old Z n0 h0) (H : own_H Z a0 zc fm) :
  own_Met false l Z n0 [] [] ⟨"java/util/Arrays", "checkLength", "(II)V"⟩ jdk_65_method_131_code 2 none [] (own_R 0 0 0 0) #[(.int (0 : Int32)), (.int (5 : Int32))] h0 (fun v h => v = none ∧ h0 = h) := by
  refine own_ent (a0 := a0) (nm := "checkLength") (Ls := #[.val (.int (0 : Int32)), .val (.int (5 : Int32))]) own_pn3 O0 EW.nil ?_
  intro p e _ m _ below _ _ T0 Q hQ A0
  refine own_iloadN (q := 1) A0 d29_0 rfl ?_
  refine own_iloadN (q := 2) A0 d29_1 rfl ?_
  refine own_icmpT (q := 37) A0 d29_2 (show ¬ (5 : Int32) < (0 : Int32) from by decide) ?_
  exact own_ret0 A0 hQ d29_37 ⟨rfl, rfl⟩
theorem rm_crb5 (va : Addr) (kv : ClassId) (b0 b1 b2 b3 b4 : Int32) (rs : List Value) (O0 : Old Z n0 h0) (H : own_H Z a0 zc fm) (Kv : Arv Z h0 va kv .byte 16 ([.int b0, .int b1, .int b2, .int b3, .int b4] ++ rs) (.int 0)) :
  own_Met false l Z n0 [] [] ⟨"java/util/Arrays", "copyOfRangeByte", "([BII)[B"⟩ jdk_65_method_133_code 5 (some (.array .byte)) [] (own_R 1 1 5 18) #[(.ref va), (.int (0 : Int32)), (.int (5 : Int32))] h0 (fun v h => ∃ (t : Addr) (kt : ClassId), v = some (.ref t) ∧ n0 ≤ t ∧ h0.size ≤ t ∧ Keep h0 h [] ∧ Arv Z h t kt .byte 5 [(.int b0), (.int b1), (.int b2), (.int b3), (.int b4)] (.int 0)) := by
  refine own_ent (a0 := a0) (nm := "copyOfRangeByte") (Ls := #[.val (.ref va), .val (.int (0 : Int32)), .val (.int (5 : Int32)), .unset, .unset]) own_pn3 O0 EW.nil ?_
  intro p e _ m _ below _ _ T0 Q hQ A0
  refine own_iloadN (q := 1) A0 d28_0 rfl ?_
  refine own_iloadN (q := 2) A0 d28_1 rfl ?_
  refine own_static (q := 5) (W := 0) (argsL := [(.int (0 : Int32)), (.int (5 : Int32))]) (rest := []) A0 (H.k 156 rfl) (H.k 157 rfl) (H.k 151 rfl) (H.k 158 rfl) (by decide) (own_pay (rm_chk5  A0.old H ) (H.k 158 rfl) (H.k 151 rfl) (by decide) (by decide)) own_nW (Nat.le_of_eq rfl) own_pd20 rfl rfl rfl d28_2 (by decide) (by decide) ?_
  rintro v1 T2 h3 A4 ⟨rfl, rfl⟩
  show own_Run p e below Q m T2 5 #[.val (.ref va), .val (.int (0 : Int32)), .val (.int (5 : Int32)), .unset, .unset] []
  refine own_iloadN (q := 6) A4 d28_5 rfl ?_
  refine own_iloadN (q := 7) A4 d28_6 rfl ?_
  refine own_isub (q := 8) A4 d28_7 ?_
  refine own_istoreN (q := 9) (L' := #[.val (.ref va), .val (.int (0 : Int32)), .val (.int (5 : Int32)), .val (.int ((5 : Int32) - (0 : Int32))), .unset]) A4 d28_8 rfl ?_
  refine own_iloadN (q := 10) A4 d28_9 rfl ?_
  refine own_newPv (q := 12) (ty := .byte) (dv := .int 0) A4 rfl rfl (H.k 23 rfl) d28_10 5 (by decide) (by decide) (by decide) (by decide) (by decide) ?_
  intro T5 h6 a7 k8 g9 g10 A11 E12 X13
  have z14 : va ≠ a7 := Nat.ne_of_lt (Nat.lt_of_lt_of_le Kv.lt (Nat.le_of_eq g9))
  have K15 := (Keep.refl h0 []).ext E12
  have f16 := Kv.ext E12
  have f17 : Arv Z h6 a7 k8 .byte (5 : Int32) [(.int (0 : Int32)), (.int (0 : Int32)), (.int (0 : Int32)), (.int (0 : Int32)), (.int (0 : Int32))] (.int 0) := X13
  refine own_astore (q := 14) (L' := #[.val (.ref va), .val (.int (0 : Int32)), .val (.int (5 : Int32)), .val (.int ((5 : Int32) - (0 : Int32))), .val (.ref a7)]) A11 d28_12 rfl rfl ?_
  refine own_aloadN (q := 15) A11 d28_14 rfl rfl ?_
  refine own_iloadN (q := 16) A11 d28_15 rfl ?_
  refine own_aload (q := 18) A11 d28_16 rfl rfl ?_
  refine own_iconst (q := 19) A11 (0 : Int32) d28_18 rfl ?_
  refine own_aloadN (q := 20) A11 d28_19 rfl rfl ?_
  refine own_arrlenv (q := 21) A11 f16 d28_20 ?_
  refine own_iloadN (q := 22) A11 d28_21 rfl ?_
  refine own_isub (q := 23) A11 d28_22 ?_
  refine own_iloadN (q := 24) A11 d28_23 rfl ?_
  refine own_static (q := 27) (W := 4) (argsL := [(.int ((16 : Int32) - (0 : Int32))), (.int ((5 : Int32) - (0 : Int32)))]) (rest := [(.int (0 : Int32)), (.ref a7), (.int (0 : Int32)), (.ref va)]) A11 (H.k 159 rfl) (H.k 160 rfl) (H.k 161 rfl) (H.k 162 rfl) (by decide) (own_pay (rm_min5  A11.old H ) (H.k 162 rfl) (H.k 161 rfl) (by decide) (by decide)) own_nW (Nat.le_of_eq rfl) own_pd21 rfl rfl rfl d28_24 (by decide) (by decide) ?_
  rintro v18 T19 h20 A21 ⟨rfl, rfl⟩
  show own_Run p e below Q m T19 27 #[.val (.ref va), .val (.int (0 : Int32)), .val (.int (5 : Int32)), .val (.int ((5 : Int32) - (0 : Int32))), .val (.ref a7)] [(.int (5 : Int32)), (.int (0 : Int32)), (.ref a7), (.int (0 : Int32)), (.ref va)]
  refine own_acopy (q := 30) (W := 0) A21 (H.k 163 rfl) (H.k 117 rfl) (H.k 115 rfl) (H.k 116 rfl) (us := [(.int b0), (.int b1), (.int b2), (.int b3), (.int b4)]) f16 f17 rfl (by decide) (by decide) (by decide) (by decide) (by decide) rfl (by decide) g10 (Or.inr (Or.inl rfl)) rfl d28_27 (by decide) (Nat.le_of_eq rfl) (by decide) ?_
  intro T22 h23 A24 K25 V26
  have K27 := K15.trans K25 (allS (Or.inr (Nat.le_trans (Keep.refl h0 []).1 (Nat.le_of_eq g9))) all0)
  refine own_aload (q := 32) A24 d28_30 rfl rfl ?_
  exact own_retA A24 hQ rfl rfl rfl d28_32 ⟨a7, _, rfl, g10, (Nat.le_trans (Keep.refl h0 []).1 (Nat.le_of_eq g9)), K27, V26⟩
theorem rm_cor5 (va : Addr) (kv : ClassId) (b0 b1 b2 b3 b4 : Int32) (rs : List Value) (O0 : Old Z n0 h0) (H : own_H Z a0 zc fm) (Kv : Arv Z h0 va kv .byte 16 ([.int b0, .int b1, .int b2, .int b3, .int b4] ++ rs) (.int 0)) :
  own_Met false l Z n0 [] [] ⟨"java/util/Arrays", "copyOfRange", "([BII)[B"⟩ jdk_65_method_132_code 3 (some (.array .byte)) [] (own_R 2 1 5 34) #[(.ref va), (.int (0 : Int32)), (.int (5 : Int32))] h0 (fun v h => ∃ (t : Addr) (kt : ClassId), v = some (.ref t) ∧ n0 ≤ t ∧ h0.size ≤ t ∧ Keep h0 h [] ∧ Arv Z h t kt .byte 5 [(.int b0), (.int b1), (.int b2), (.int b3), (.int b4)] (.int 0)) := by
  refine own_ent (a0 := a0) (nm := "copyOfRange") (Ls := #[.val (.ref va), .val (.int (0 : Int32)), .val (.int (5 : Int32))]) own_pn3 O0 EW.nil ?_
  intro p e _ m _ below _ _ T0 Q hQ A0
  refine own_iloadN (q := 1) A0 d27_0 rfl ?_
  refine own_ifcF (q := 4) A0 d27_1 (show (0 : Int32) = (0 : Int32) from rfl) ?_
  refine own_iloadN (q := 5) A0 d27_4 rfl ?_
  refine own_aloadN (q := 6) A0 d27_5 rfl rfl ?_
  refine own_arrlenv (q := 7) A0 Kv d27_6 ?_
  refine own_icmpF (q := 10) A0 d27_7 (show ¬ (5 : Int32) = (16 : Int32) from by decide) ?_
  refine own_aloadN (q := 11) A0 d27_10 rfl rfl ?_
  refine own_iloadN (q := 12) A0 d27_11 rfl ?_
  refine own_iloadN (q := 13) A0 d27_12 rfl ?_
  refine own_static (q := 16) (W := 0) (argsL := [(.ref va), (.int (0 : Int32)), (.int (5 : Int32))]) (rest := []) A0 (H.k 153 rfl) (H.k 154 rfl) (H.k 151 rfl) (H.k 155 rfl) (by decide) (own_pay (rm_crb5 va kv b0 b1 b2 b3 b4 rs A0.old H Kv) (H.k 155 rfl) (H.k 151 rfl) (by decide) (by decide)) own_nW (Nat.le_of_eq rfl) own_pd19 rfl rfl rfl d27_13 (by decide) (by decide) ?_
  rintro v4 T5 h6 A7 ⟨t1, k2, rfl, q3⟩
  show own_Run p e below Q m T5 16 #[.val (.ref va), .val (.int (0 : Int32)), .val (.int (5 : Int32))] [(.ref t1)]
  exact own_retA A7 hQ rfl rfl rfl d27_16 ⟨t1, k2, rfl, q3⟩
theorem rm_iab5 (a : Addr) (sb va : Addr) (kv : ClassId) (b0 b1 b2 b3 b4 : Int32) (rs : List Value) (O0 : Old Z n0 h0) (H : own_H Z a0 zc fm) (Ea : Exa Z h0 a "java/lang/String") (Va : Fld Z h0 a "java/lang/String" "value" "[B" .null) (Ca : Fld Z h0 a "java/lang/String" "coder" "B" (.int 0)) (ga : n0 ≤ a) (nab : a ≠ sb) (nav : a ≠ va) (Eb : Exa Z h0 sb "java/lang/StringBuilder") (Fv : Fld Z h0 sb "java/lang/AbstractStringBuilder" "value" "[B" (.ref va)) (Fc : Fld Z h0 sb "java/lang/AbstractStringBuilder" "coder" "B" (.int 0)) (Fn : Fld Z h0 sb "java/lang/AbstractStringBuilder" "count" "I" (.int 5)) (Kv : Arv Z h0 va kv .byte 16 ([.int b0, .int b1, .int b2, .int b3, .int b4] ++ rs) (.int 0)) (gb : n0 ≤ sb) (gv : n0 ≤ va) :
  own_Met false l Z n0 [] [] ⟨"java/lang/String", "<init>", "(Ljava/lang/AbstractStringBuilder;Ljava/lang/Void;)V"⟩ jdk_42_method_150_code 5 none [] (own_R 3 1 5 49) #[(.ref a), (.ref sb), .null] h0 (fun v h => v = none ∧ Keep h0 h [a] ∧ ∃ (t : Addr) (kt : ClassId), Exa Z h a "java/lang/String" ∧ Fld Z h a "java/lang/String" "coder" "B" (.int 0) ∧ Fld Z h a "java/lang/String" "value" "[B" (.ref t) ∧ Arv Z h t kt .byte 5 [(.int b0), (.int b1), (.int b2), (.int b3), (.int b4)] (.int 0)) := by
  refine own_ent (a0 := a0) (nm := "<init>") (Ls := #[.val (.ref a), .val (.ref sb), .val .null, .unset, .unset]) own_pn0 O0 EW.nil ?_
  intro p e _ m _ below _ _ T0 Q hQ A0
  refine own_aloadN (q := 1) A0 d22_0 rfl rfl ?_
  refine own_initO (q := 4) (W := 0) A0 (H.k 15 rfl) (H.k 16 rfl) (H.k 17 rfl) d22_1 rfl (by decide) (Nat.le_of_eq rfl) (by decide) ?_
  intro T1 A2
  refine own_aloadN (q := 5) A2 d22_4 rfl rfl ?_
  refine own_virtual (q := 8) (W := 0) (argsL := []) (rest := []) A2 (H.k 131 rfl) (H.k 132 rfl) (H.k 134 rfl) (H.k 133 rfl) (by decide) (own_pay (rm_gv sb va kv (5 : Int32) _ A2.old H Eb Fv Fc Fn Kv gb gv) (H.k 135 rfl) (H.k 63 rfl) (by decide) (by decide)) own_nW (Nat.le_of_eq rfl) Eb own_pd17 rfl rfl rfl d22_5 (by decide) (by decide) ?_
  rintro v3 T4 h5 A6 ⟨rfl, rfl⟩
  show own_Run p e below Q m T4 8 #[.val (.ref a), .val (.ref sb), .val .null, .unset, .unset] [(.ref va)]
  refine own_astoreN (q := 9) (L' := #[.val (.ref a), .val (.ref sb), .val .null, .val (.ref va), .unset]) A6 d22_8 rfl rfl ?_
  refine own_aloadN (q := 10) A6 d22_9 rfl rfl ?_
  refine own_virtualUp (q := 13) (W := 0) (argsL := []) (rest := []) A6 (H.k 136 rfl) (own_same (H.k 138 rfl) (H.k 133 rfl) (H.k 134 rfl) rfl (by decide)) (H.k 137 rfl) (by decide) (H.k 139 rfl) (H.k 140 rfl) (own_pay (rm_sln sb va kv (5 : Int32) _ A6.old H Eb Fv Fc Fn Kv gb gv) (H.k 141 rfl) (H.k 55 rfl) (by decide) (by decide)) own_nW (Nat.le_of_eq rfl) Eb own_pd10 rfl rfl rfl d22_10 (by decide) (by decide) ?_
  rintro v7 T8 h9 A10 ⟨rfl, rfl⟩
  show own_Run p e below Q m T8 13 #[.val (.ref a), .val (.ref sb), .val .null, .val (.ref va), .unset] [(.int (5 : Int32))]
  refine own_istore (q := 15) (L' := #[.val (.ref a), .val (.ref sb), .val .null, .val (.ref va), .val (.int (5 : Int32))]) A10 d22_13 rfl ?_
  refine own_aloadN (q := 16) A10 d22_15 rfl rfl ?_
  refine own_virtual (q := 19) (W := 0) (argsL := []) (rest := []) A10 (H.k 144 rfl) (H.k 145 rfl) (H.k 147 rfl) (H.k 146 rfl) (by decide) (own_pay (rm_isl sb va kv (5 : Int32) _ A10.old H Eb Fv Fc Fn Kv gb gv) (H.k 148 rfl) (H.k 63 rfl) (by decide) (by decide)) own_nW (Nat.le_of_eq rfl) Eb own_pd18 rfl rfl rfl d22_16 (by decide) (by decide) ?_
  rintro v11 T12 h13 A14 ⟨rfl, rfl⟩
  show own_Run p e below Q m T12 19 #[.val (.ref a), .val (.ref sb), .val .null, .val (.ref va), .val (.int (5 : Int32))] [(.int (1 : Int32))]
  refine own_ifcF (q := 22) A14 d22_19 (show ¬ (1 : Int32) = (0 : Int32) from by decide) ?_
  refine own_aloadN (q := 23) A14 d22_22 rfl rfl ?_
  refine own_iconst (q := 24) A14 (0 : Int32) d22_23 rfl ?_
  refine own_putF (host := "") (q := 27) A14 (Or.inl (H.k 30 rfl)) Via.refl Ca Ea (Or.inr ⟨(H.k 31 rfl), rfl, rfl⟩) (H.k 5 rfl) (ty := .byte) (by decide) rfl rfl ga (Or.inr (Or.inl rfl)) d22_24 ?_
  intro T15 h16 A17 W18
  have K19 := (Keep.refl h0 [a]).wr W18 (Or.inl (by simp))
  have f20 := Eb.wr W18
  have f21 := Fv.other W18 (Or.inl (Ne.symm nab))
  have f22 := Fc.other W18 (Or.inl (Ne.symm nab))
  have f23 := Fn.other W18 (Or.inl (Ne.symm nab))
  have f24 := Kv.other W18 (Ne.symm nav)
  have f25 := Ea.wr W18
  have f26 := Va.other W18 (Or.inr (slot_ne (Or.inr (H.k 33 rfl)) (Or.inr (H.k 31 rfl)) (by decide) (by decide : parseFieldDescriptor "[B" = some (.array .byte)) (by decide : parseFieldDescriptor "B" = some .byte)))
  have f27 := Ca.same W18
  refine own_aloadN (q := 28) A17 d22_27 rfl rfl ?_
  refine own_aloadN (q := 29) A17 d22_28 rfl rfl ?_
  refine own_iconst (q := 30) A17 (0 : Int32) d22_29 rfl ?_
  refine own_iload (q := 32) A17 d22_30 rfl ?_
  refine own_static (q := 35) (W := 1) (argsL := [(.ref va), (.int (0 : Int32)), (.int (5 : Int32))]) (rest := [(.ref a)]) A17 (H.k 149 rfl) (H.k 150 rfl) (H.k 151 rfl) (H.k 152 rfl) (by decide) (own_pay (rm_cor5 va kv b0 b1 b2 b3 b4 rs A17.old H f24) (H.k 152 rfl) (H.k 151 rfl) (by decide) (by decide)) own_nW (Nat.le_of_eq rfl) own_pd19 rfl rfl rfl d22_32 (by decide) (by decide) ?_
  rintro v34 T35 h36 A37 ⟨t28, k29, rfl, g30, g31, K32, V33⟩
  show own_Run p e below Q m T35 35 #[.val (.ref a), .val (.ref sb), .val .null, .val (.ref va), .val (.int (5 : Int32))] [(.ref t28), (.ref a)]
  have z38 : a ≠ t28 := Nat.ne_of_lt (Nat.lt_of_lt_of_le f25.lt g31)
  have f39 := f25.keep K32
  have f40 := f26.keep K32 nin0
  have f41 := f27.keep K32 nin0
  have K42 := K19.trans K32 all0
  refine own_putF (host := "") (q := 38) A37 (Or.inl (H.k 32 rfl)) Via.refl f40 f39 (Or.inr ⟨(H.k 33 rfl), rfl, rfl⟩) (H.k 5 rfl) (ty := (.array .byte)) (by decide) rfl rfl ga (Or.inr (Or.inl rfl)) d22_35 ?_
  intro T43 h44 A45 W46
  have K47 := K42.wr W46 (Or.inl (by simp))
  have f48 := f39.wr W46
  have f49 := f40.same W46
  have f50 := f41.other W46 (Or.inr (slot_ne (Or.inr (H.k 31 rfl)) (Or.inr (H.k 33 rfl)) (by decide) (by decide : parseFieldDescriptor "B" = some .byte) (by decide : parseFieldDescriptor "[B" = some (.array .byte))))
  have f51 := V33.other W46 (Ne.symm z38)
  refine own_goto (q := 97) A45 d22_38 ?_
  exact own_ret0 A45 hQ d22_97 ⟨rfl, K47, t28, k29, f48, f50, f49, f51⟩
theorem rm_isb5 (a : Addr) (sb va : Addr) (kv : ClassId) (b0 b1 b2 b3 b4 : Int32) (rs : List Value) (O0 : Old Z n0 h0) (H : own_H Z a0 zc fm) (Ea : Exa Z h0 a "java/lang/String") (Va : Fld Z h0 a "java/lang/String" "value" "[B" .null) (Ca : Fld Z h0 a "java/lang/String" "coder" "B" (.int 0)) (ga : n0 ≤ a) (nab : a ≠ sb) (nav : a ≠ va) (Eb : Exa Z h0 sb "java/lang/StringBuilder") (Fv : Fld Z h0 sb "java/lang/AbstractStringBuilder" "value" "[B" (.ref va)) (Fc : Fld Z h0 sb "java/lang/AbstractStringBuilder" "coder" "B" (.int 0)) (Fn : Fld Z h0 sb "java/lang/AbstractStringBuilder" "count" "I" (.int 5)) (Kv : Arv Z h0 va kv .byte 16 ([.int b0, .int b1, .int b2, .int b3, .int b4] ++ rs) (.int 0)) (gb : n0 ≤ sb) (gv : n0 ≤ va) :
  own_Met false l Z n0 [] [] ⟨"java/lang/String", "<init>", "(Ljava/lang/StringBuilder;)V"⟩ jdk_42_method_53_code 2 none [] (own_R 4 1 5 65) #[(.ref a), (.ref sb)] h0 (fun v h => v = none ∧ Keep h0 h [a] ∧ ∃ (t : Addr) (kt : ClassId), Exa Z h a "java/lang/String" ∧ Fld Z h a "java/lang/String" "coder" "B" (.int 0) ∧ Fld Z h a "java/lang/String" "value" "[B" (.ref t) ∧ Arv Z h t kt .byte 5 [(.int b0), (.int b1), (.int b2), (.int b3), (.int b4)] (.int 0)) := by
  refine own_ent (a0 := a0) (nm := "<init>") (Ls := #[.val (.ref a), .val (.ref sb)]) own_pn0 O0 EW.nil ?_
  intro p e _ m _ below _ _ T0 Q hQ A0
  refine own_aloadN (q := 1) A0 d21_0 rfl rfl ?_
  refine own_aloadN (q := 2) A0 d21_1 rfl rfl ?_
  refine own_aconstNull (q := 3) A0 d21_2 ?_
  refine own_special (q := 6) (W := 0) (argsL := [(.ref sb), .null]) (rest := []) A0 rfl (H.k 128 rfl) (H.k 129 rfl) (H.k 130 rfl) (by decide) (own_pay (rm_iab5 a sb va kv b0 b1 b2 b3 b4 rs A0.old H Ea Va Ca ga nab nav Eb Fv Fc Fn Kv gb gv) (H.k 130 rfl) (H.k 6 rfl) (by decide) (by decide)) own_nW (Nat.le_of_eq rfl) own_pd16 rfl rfl rfl d21_3 (by decide) (by decide) ?_
  rintro v2 T3 h4 A5 ⟨rfl, q1⟩
  show own_Run p e below Q m T3 6 #[.val (.ref a), .val (.ref sb)] []
  exact own_ret0 A5 hQ d21_6 ⟨rfl, q1⟩
theorem rm_tos5 (sb va : Addr) (kv : ClassId) (b0 b1 b2 b3 b4 : Int32) (rs : List Value) (O0 : Old Z n0 h0) (H : own_H Z a0 zc fm) (Eb : Exa Z h0 sb "java/lang/StringBuilder") (Fv : Fld Z h0 sb "java/lang/AbstractStringBuilder" "value" "[B" (.ref va)) (Fc : Fld Z h0 sb "java/lang/AbstractStringBuilder" "coder" "B" (.int 0)) (Fn : Fld Z h0 sb "java/lang/AbstractStringBuilder" "count" "I" (.int 5)) (Kv : Arv Z h0 va kv .byte 16 ([.int b0, .int b1, .int b2, .int b3, .int b4] ++ rs) (.int 0)) (gb : n0 ≤ sb) (gv : n0 ≤ va) :
  own_Met false l Z n0 [] [] ⟨"java/lang/StringBuilder", "toString", "()Ljava/lang/String;"⟩ jdk_67_method_42_code 1 (some (.object "java/lang/String")) [] (own_R 5 2 9 79) #[(.ref sb)] h0 (fun v h => ∃ (a t : Addr) (kt : ClassId), v = some (.ref a) ∧ Keep h0 h [] ∧ Exa Z h a "java/lang/String" ∧ Fld Z h a "java/lang/String" "coder" "B" (.int 0) ∧ Fld Z h a "java/lang/String" "value" "[B" (.ref t) ∧ Arv Z h t kt .byte 5 [(.int b0), (.int b1), (.int b2), (.int b3), (.int b4)] (.int 0)) := by
  refine own_ent (a0 := a0) (nm := "toString") (Ls := #[.val (.ref sb)]) own_pn2 O0 EW.nil ?_
  intro p e _ m _ below _ _ T0 Q hQ A0
  refine own_newO (q := 3) A0 (H.k 124 rfl) (H.k 5 rfl) (H.k 6 rfl) d20_0 (by decide) (by decide) ?_
  intro T1 h2 a3 g4 g5 A6 E7 X8 D9
  have z10 : sb ≠ a3 := Nat.ne_of_lt (Nat.lt_of_lt_of_le Eb.lt (Nat.le_of_eq g4))
  have z11 : va ≠ a3 := Nat.ne_of_lt (Nat.lt_of_lt_of_le Kv.lt (Nat.le_of_eq g4))
  have K12 := (Keep.refl h0 []).ext E7
  have f13 := Eb.ext E7
  have f14 := Fv.ext E7
  have f15 := Fc.ext E7
  have f16 := Fn.ext E7
  have f17 := Kv.ext E7
  have f18 : Fld Z h2 a3 "java/lang/String" "value" "[B" .null := D9 (Or.inr (H.k 33 rfl)) (ty := (.array .byte)) (by decide)
  have f19 : Fld Z h2 a3 "java/lang/String" "coder" "B" (.int (0 : Int32)) := D9 (Or.inr (H.k 31 rfl)) (ty := .byte) (by decide)
  refine own_dup (q := 4) A6 d20_3 rfl ?_
  refine own_aloadN (q := 5) A6 d20_4 rfl rfl ?_
  refine own_special (q := 8) (W := 1) (argsL := [(.ref sb)]) (rest := [(.ref a3)]) A6 rfl (H.k 125 rfl) (H.k 126 rfl) (H.k 127 rfl) (by decide) (own_pay (rm_isb5 a3 sb va kv b0 b1 b2 b3 b4 rs A6.old H X8 f18 f19 g5 (Ne.symm z10) (Ne.symm z11) f13 f14 f15 f16 f17 gb gv) (H.k 127 rfl) (H.k 6 rfl) (by decide) (by decide)) own_nW (Nat.le_of_eq rfl) own_pd15 rfl rfl rfl d20_5 (by decide) (by decide) ?_
  rintro v24 T25 h26 A27 ⟨rfl, K20, t21, k22, q23⟩
  show own_Run p e below Q m T25 8 #[.val (.ref sb)] [(.ref a3)]
  have K28 := K12.trans K20 (allS (Or.inr (Nat.le_trans (Keep.refl h0 []).1 (Nat.le_of_eq g4))) all0)
  exact own_retA A27 hQ rfl rfl rfl d20_8 ⟨a3, t21, k22, rfl, K28, q23⟩
theorem rm_min6 (O0 : Old Z n0 h0) (H : own_H Z a0 zc fm) :
  own_Met false l Z n0 [] [] ⟨"java/lang/Math", "min", "(II)I"⟩ jdk_29_method_69_code 2 (some .int) [] (own_R 0 0 0 0) #[(.int ((16 : Int32) - (0 : Int32))), (.int ((6 : Int32) - (0 : Int32)))] h0 (fun v h => v = some (.int (6 : Int32)) ∧ h0 = h) := by
  refine own_enterP (a0 := a0) (nm := "min") (own := "java/lang/Math") (Ls := #[.val (.int ((16 : Int32) - (0 : Int32))), .val (.int ((6 : Int32) - (0 : Int32)))]) (Jvm.Free.JP.mathPlain rfl (by decide +kernel)) O0 EW.nil (fun m => by first | (simp [entryFrame, mkF, argsToLocals, Value.category, maxLocals]; done) | rfl) ?_
  intro p e _ m _ below _ _ T0 Q hQ A0
  refine own_iloadN (q := 1) A0 d30_0 rfl ?_
  refine own_iloadN (q := 2) A0 d30_1 rfl ?_
  refine own_icmpT (q := 9) A0 d30_2 (show ((6 : Int32) - (0 : Int32)) < ((16 : Int32) - (0 : Int32)) from by decide) ?_
  refine own_iloadN (q := 10) A0 d30_9 rfl ?_
  exact own_retI A0 hQ d30_10 ⟨rfl, rfl⟩
theorem rm_chk6 (O0 : Old Z n0 h0) (H : own_H Z a0 zc fm) :
  own_Met false l Z n0 [] [] ⟨"java/util/Arrays", "checkLength", "(II)V"⟩ jdk_65_method_131_code 2 none [] (own_R 0 0 0 0) #[(.int (0 : Int32)), (.int (6 : Int32))] h0 (fun v h => v = none ∧ h0 = h) := by
  refine own_ent (a0 := a0) (nm := "checkLength") (Ls := #[.val (.int (0 : Int32)), .val (.int (6 : Int32))]) own_pn3 O0 EW.nil ?_
  intro p e _ m _ below _ _ T0 Q hQ A0
  refine own_iloadN (q := 1) A0 d29_0 rfl ?_
  refine own_iloadN (q := 2) A0 d29_1 rfl ?_
  refine own_icmpT (q := 37) A0 d29_2 (show ¬ (6 : Int32) < (0 : Int32) from by decide) ?_
  exact own_ret0 A0 hQ d29_37 ⟨rfl, rfl⟩
theorem rm_crb6 (va : Addr) (kv : ClassId) (b0 b1 b2 b3 b4 b5 : Int32) (rs : List Value) (O0 : Old Z n0 h0) (H : own_H Z a0 zc fm) (Kv : Arv Z h0 va kv .byte 16 ([.int b0, .int b1, .int b2, .int b3, .int b4, .int b5] ++ rs) (.int 0)) :
  own_Met false l Z n0 [] [] ⟨"java/util/Arrays", "copyOfRangeByte", "([BII)[B"⟩ jdk_65_method_133_code 5 (some (.array .byte)) [] (own_R 1 1 6 18) #[(.ref va), (.int (0 : Int32)), (.int (6 : Int32))] h0 (fun v h => ∃ (t : Addr) (kt : ClassId), v = some (.ref t) ∧ n0 ≤ t ∧ h0.size ≤ t ∧ Keep h0 h [] ∧ Arv Z h t kt .byte 6 [(.int b0), (.int b1), (.int b2), (.int b3), (.int b4), (.int b5)] (.int 0)) := by
  refine own_ent (a0 := a0) (nm := "copyOfRangeByte") (Ls := #[.val (.ref va), .val (.int (0 : Int32)), .val (.int (6 : Int32)), .unset, .unset]) own_pn3 O0 EW.nil ?_
  intro p e _ m _ below _ _ T0 Q hQ A0
  refine own_iloadN (q := 1) A0 d28_0 rfl ?_
  refine own_iloadN (q := 2) A0 d28_1 rfl ?_
  refine own_static (q := 5) (W := 0) (argsL := [(.int (0 : Int32)), (.int (6 : Int32))]) (rest := []) A0 (H.k 156 rfl) (H.k 157 rfl) (H.k 151 rfl) (H.k 158 rfl) (by decide) (own_pay (rm_chk6  A0.old H ) (H.k 158 rfl) (H.k 151 rfl) (by decide) (by decide)) own_nW (Nat.le_of_eq rfl) own_pd20 rfl rfl rfl d28_2 (by decide) (by decide) ?_
  rintro v1 T2 h3 A4 ⟨rfl, rfl⟩
  show own_Run p e below Q m T2 5 #[.val (.ref va), .val (.int (0 : Int32)), .val (.int (6 : Int32)), .unset, .unset] []
  refine own_iloadN (q := 6) A4 d28_5 rfl ?_
  refine own_iloadN (q := 7) A4 d28_6 rfl ?_
  refine own_isub (q := 8) A4 d28_7 ?_
  refine own_istoreN (q := 9) (L' := #[.val (.ref va), .val (.int (0 : Int32)), .val (.int (6 : Int32)), .val (.int ((6 : Int32) - (0 : Int32))), .unset]) A4 d28_8 rfl ?_
  refine own_iloadN (q := 10) A4 d28_9 rfl ?_
  refine own_newPv (q := 12) (ty := .byte) (dv := .int 0) A4 rfl rfl (H.k 23 rfl) d28_10 6 (by decide) (by decide) (by decide) (by decide) (by decide) ?_
  intro T5 h6 a7 k8 g9 g10 A11 E12 X13
  have z14 : va ≠ a7 := Nat.ne_of_lt (Nat.lt_of_lt_of_le Kv.lt (Nat.le_of_eq g9))
  have K15 := (Keep.refl h0 []).ext E12
  have f16 := Kv.ext E12
  have f17 : Arv Z h6 a7 k8 .byte (6 : Int32) [(.int (0 : Int32)), (.int (0 : Int32)), (.int (0 : Int32)), (.int (0 : Int32)), (.int (0 : Int32)), (.int (0 : Int32))] (.int 0) := X13
  refine own_astore (q := 14) (L' := #[.val (.ref va), .val (.int (0 : Int32)), .val (.int (6 : Int32)), .val (.int ((6 : Int32) - (0 : Int32))), .val (.ref a7)]) A11 d28_12 rfl rfl ?_
  refine own_aloadN (q := 15) A11 d28_14 rfl rfl ?_
  refine own_iloadN (q := 16) A11 d28_15 rfl ?_
  refine own_aload (q := 18) A11 d28_16 rfl rfl ?_
  refine own_iconst (q := 19) A11 (0 : Int32) d28_18 rfl ?_
  refine own_aloadN (q := 20) A11 d28_19 rfl rfl ?_
  refine own_arrlenv (q := 21) A11 f16 d28_20 ?_
  refine own_iloadN (q := 22) A11 d28_21 rfl ?_
  refine own_isub (q := 23) A11 d28_22 ?_
  refine own_iloadN (q := 24) A11 d28_23 rfl ?_
  refine own_static (q := 27) (W := 4) (argsL := [(.int ((16 : Int32) - (0 : Int32))), (.int ((6 : Int32) - (0 : Int32)))]) (rest := [(.int (0 : Int32)), (.ref a7), (.int (0 : Int32)), (.ref va)]) A11 (H.k 159 rfl) (H.k 160 rfl) (H.k 161 rfl) (H.k 162 rfl) (by decide) (own_pay (rm_min6  A11.old H ) (H.k 162 rfl) (H.k 161 rfl) (by decide) (by decide)) own_nW (Nat.le_of_eq rfl) own_pd21 rfl rfl rfl d28_24 (by decide) (by decide) ?_
  rintro v18 T19 h20 A21 ⟨rfl, rfl⟩
  show own_Run p e below Q m T19 27 #[.val (.ref va), .val (.int (0 : Int32)), .val (.int (6 : Int32)), .val (.int ((6 : Int32) - (0 : Int32))), .val (.ref a7)] [(.int (6 : Int32)), (.int (0 : Int32)), (.ref a7), (.int (0 : Int32)), (.ref va)]
  refine own_acopy (q := 30) (W := 0) A21 (H.k 163 rfl) (H.k 117 rfl) (H.k 115 rfl) (H.k 116 rfl) (us := [(.int b0), (.int b1), (.int b2), (.int b3), (.int b4), (.int b5)]) f16 f17 rfl (by decide) (by decide) (by decide) (by decide) (by decide) rfl (by decide) g10 (Or.inr (Or.inl rfl)) rfl d28_27 (by decide) (Nat.le_of_eq rfl) (by decide) ?_
  intro T22 h23 A24 K25 V26
  have K27 := K15.trans K25 (allS (Or.inr (Nat.le_trans (Keep.refl h0 []).1 (Nat.le_of_eq g9))) all0)
  refine own_aload (q := 32) A24 d28_30 rfl rfl ?_
  exact own_retA A24 hQ rfl rfl rfl d28_32 ⟨a7, _, rfl, g10, (Nat.le_trans (Keep.refl h0 []).1 (Nat.le_of_eq g9)), K27, V26⟩
theorem rm_cor6 (va : Addr) (kv : ClassId) (b0 b1 b2 b3 b4 b5 : Int32) (rs : List Value) (O0 : Old Z n0 h0) (H : own_H Z a0 zc fm) (Kv : Arv Z h0 va kv .byte 16 ([.int b0, .int b1, .int b2, .int b3, .int b4, .int b5] ++ rs) (.int 0)) :
  own_Met false l Z n0 [] [] ⟨"java/util/Arrays", "copyOfRange", "([BII)[B"⟩ jdk_65_method_132_code 3 (some (.array .byte)) [] (own_R 2 1 6 34) #[(.ref va), (.int (0 : Int32)), (.int (6 : Int32))] h0 (fun v h => ∃ (t : Addr) (kt : ClassId), v = some (.ref t) ∧ n0 ≤ t ∧ h0.size ≤ t ∧ Keep h0 h [] ∧ Arv Z h t kt .byte 6 [(.int b0), (.int b1), (.int b2), (.int b3), (.int b4), (.int b5)] (.int 0)) := by
  refine own_ent (a0 := a0) (nm := "copyOfRange") (Ls := #[.val (.ref va), .val (.int (0 : Int32)), .val (.int (6 : Int32))]) own_pn3 O0 EW.nil ?_
  intro p e _ m _ below _ _ T0 Q hQ A0
  refine own_iloadN (q := 1) A0 d27_0 rfl ?_
  refine own_ifcF (q := 4) A0 d27_1 (show (0 : Int32) = (0 : Int32) from rfl) ?_
  refine own_iloadN (q := 5) A0 d27_4 rfl ?_
  refine own_aloadN (q := 6) A0 d27_5 rfl rfl ?_
  refine own_arrlenv (q := 7) A0 Kv d27_6 ?_
  refine own_icmpF (q := 10) A0 d27_7 (show ¬ (6 : Int32) = (16 : Int32) from by decide) ?_
  refine own_aloadN (q := 11) A0 d27_10 rfl rfl ?_
  refine own_iloadN (q := 12) A0 d27_11 rfl ?_
  refine own_iloadN (q := 13) A0 d27_12 rfl ?_
  refine own_static (q := 16) (W := 0) (argsL := [(.ref va), (.int (0 : Int32)), (.int (6 : Int32))]) (rest := []) A0 (H.k 153 rfl) (H.k 154 rfl) (H.k 151 rfl) (H.k 155 rfl) (by decide) (own_pay (rm_crb6 va kv b0 b1 b2 b3 b4 b5 rs A0.old H Kv) (H.k 155 rfl) (H.k 151 rfl) (by decide) (by decide)) own_nW (Nat.le_of_eq rfl) own_pd19 rfl rfl rfl d27_13 (by decide) (by decide) ?_
  rintro v4 T5 h6 A7 ⟨t1, k2, rfl, q3⟩
  show own_Run p e below Q m T5 16 #[.val (.ref va), .val (.int (0 : Int32)), .val (.int (6 : Int32))] [(.ref t1)]
  exact own_retA A7 hQ rfl rfl rfl d27_16 ⟨t1, k2, rfl, q3⟩
theorem rm_iab6 (a : Addr) (sb va : Addr) (kv : ClassId) (b0 b1 b2 b3 b4 b5 : Int32) (rs : List Value) (O0 : Old Z n0 h0) (H : own_H Z a0 zc fm) (Ea : Exa Z h0 a "java/lang/String") (Va : Fld Z h0 a "java/lang/String" "value" "[B" .null) (Ca : Fld Z h0 a "java/lang/String" "coder" "B" (.int 0)) (ga : n0 ≤ a) (nab : a ≠ sb) (nav : a ≠ va) (Eb : Exa Z h0 sb "java/lang/StringBuilder") (Fv : Fld Z h0 sb "java/lang/AbstractStringBuilder" "value" "[B" (.ref va)) (Fc : Fld Z h0 sb "java/lang/AbstractStringBuilder" "coder" "B" (.int 0)) (Fn : Fld Z h0 sb "java/lang/AbstractStringBuilder" "count" "I" (.int 6)) (Kv : Arv Z h0 va kv .byte 16 ([.int b0, .int b1, .int b2, .int b3, .int b4, .int b5] ++ rs) (.int 0)) (gb : n0 ≤ sb) (gv : n0 ≤ va) :
  own_Met false l Z n0 [] [] ⟨"java/lang/String", "<init>", "(Ljava/lang/AbstractStringBuilder;Ljava/lang/Void;)V"⟩ jdk_42_method_150_code 5 none [] (own_R 3 1 6 49) #[(.ref a), (.ref sb), .null] h0 (fun v h => v = none ∧ Keep h0 h [a] ∧ ∃ (t : Addr) (kt : ClassId), Exa Z h a "java/lang/String" ∧ Fld Z h a "java/lang/String" "coder" "B" (.int 0) ∧ Fld Z h a "java/lang/String" "value" "[B" (.ref t) ∧ Arv Z h t kt .byte 6 [(.int b0), (.int b1), (.int b2), (.int b3), (.int b4), (.int b5)] (.int 0)) := by
  refine own_ent (a0 := a0) (nm := "<init>") (Ls := #[.val (.ref a), .val (.ref sb), .val .null, .unset, .unset]) own_pn0 O0 EW.nil ?_
  intro p e _ m _ below _ _ T0 Q hQ A0
  refine own_aloadN (q := 1) A0 d22_0 rfl rfl ?_
  refine own_initO (q := 4) (W := 0) A0 (H.k 15 rfl) (H.k 16 rfl) (H.k 17 rfl) d22_1 rfl (by decide) (Nat.le_of_eq rfl) (by decide) ?_
  intro T1 A2
  refine own_aloadN (q := 5) A2 d22_4 rfl rfl ?_
  refine own_virtual (q := 8) (W := 0) (argsL := []) (rest := []) A2 (H.k 131 rfl) (H.k 132 rfl) (H.k 134 rfl) (H.k 133 rfl) (by decide) (own_pay (rm_gv sb va kv (6 : Int32) _ A2.old H Eb Fv Fc Fn Kv gb gv) (H.k 135 rfl) (H.k 63 rfl) (by decide) (by decide)) own_nW (Nat.le_of_eq rfl) Eb own_pd17 rfl rfl rfl d22_5 (by decide) (by decide) ?_
  rintro v3 T4 h5 A6 ⟨rfl, rfl⟩
  show own_Run p e below Q m T4 8 #[.val (.ref a), .val (.ref sb), .val .null, .unset, .unset] [(.ref va)]
  refine own_astoreN (q := 9) (L' := #[.val (.ref a), .val (.ref sb), .val .null, .val (.ref va), .unset]) A6 d22_8 rfl rfl ?_
  refine own_aloadN (q := 10) A6 d22_9 rfl rfl ?_
  refine own_virtualUp (q := 13) (W := 0) (argsL := []) (rest := []) A6 (H.k 136 rfl) (own_same (H.k 138 rfl) (H.k 133 rfl) (H.k 134 rfl) rfl (by decide)) (H.k 137 rfl) (by decide) (H.k 139 rfl) (H.k 140 rfl) (own_pay (rm_sln sb va kv (6 : Int32) _ A6.old H Eb Fv Fc Fn Kv gb gv) (H.k 141 rfl) (H.k 55 rfl) (by decide) (by decide)) own_nW (Nat.le_of_eq rfl) Eb own_pd10 rfl rfl rfl d22_10 (by decide) (by decide) ?_
  rintro v7 T8 h9 A10 ⟨rfl, rfl⟩
  show own_Run p e below Q m T8 13 #[.val (.ref a), .val (.ref sb), .val .null, .val (.ref va), .unset] [(.int (6 : Int32))]
  refine own_istore (q := 15) (L' := #[.val (.ref a), .val (.ref sb), .val .null, .val (.ref va), .val (.int (6 : Int32))]) A10 d22_13 rfl ?_
  refine own_aloadN (q := 16) A10 d22_15 rfl rfl ?_
  refine own_virtual (q := 19) (W := 0) (argsL := []) (rest := []) A10 (H.k 144 rfl) (H.k 145 rfl) (H.k 147 rfl) (H.k 146 rfl) (by decide) (own_pay (rm_isl sb va kv (6 : Int32) _ A10.old H Eb Fv Fc Fn Kv gb gv) (H.k 148 rfl) (H.k 63 rfl) (by decide) (by decide)) own_nW (Nat.le_of_eq rfl) Eb own_pd18 rfl rfl rfl d22_16 (by decide) (by decide) ?_
  rintro v11 T12 h13 A14 ⟨rfl, rfl⟩
  show own_Run p e below Q m T12 19 #[.val (.ref a), .val (.ref sb), .val .null, .val (.ref va), .val (.int (6 : Int32))] [(.int (1 : Int32))]
  refine own_ifcF (q := 22) A14 d22_19 (show ¬ (1 : Int32) = (0 : Int32) from by decide) ?_
  refine own_aloadN (q := 23) A14 d22_22 rfl rfl ?_
  refine own_iconst (q := 24) A14 (0 : Int32) d22_23 rfl ?_
  refine own_putF (host := "") (q := 27) A14 (Or.inl (H.k 30 rfl)) Via.refl Ca Ea (Or.inr ⟨(H.k 31 rfl), rfl, rfl⟩) (H.k 5 rfl) (ty := .byte) (by decide) rfl rfl ga (Or.inr (Or.inl rfl)) d22_24 ?_
  intro T15 h16 A17 W18
  have K19 := (Keep.refl h0 [a]).wr W18 (Or.inl (by simp))
  have f20 := Eb.wr W18
  have f21 := Fv.other W18 (Or.inl (Ne.symm nab))
  have f22 := Fc.other W18 (Or.inl (Ne.symm nab))
  have f23 := Fn.other W18 (Or.inl (Ne.symm nab))
  have f24 := Kv.other W18 (Ne.symm nav)
  have f25 := Ea.wr W18
  have f26 := Va.other W18 (Or.inr (slot_ne (Or.inr (H.k 33 rfl)) (Or.inr (H.k 31 rfl)) (by decide) (by decide : parseFieldDescriptor "[B" = some (.array .byte)) (by decide : parseFieldDescriptor "B" = some .byte)))
  have f27 := Ca.same W18
  refine own_aloadN (q := 28) A17 d22_27 rfl rfl ?_
  refine own_aloadN (q := 29) A17 d22_28 rfl rfl ?_
  refine own_iconst (q := 30) A17 (0 : Int32) d22_29 rfl ?_
  refine own_iload (q := 32) A17 d22_30 rfl ?_
  refine own_static (q := 35) (W := 1) (argsL := [(.ref va), (.int (0 : Int32)), (.int (6 : Int32))]) (rest := [(.ref a)]) A17 (H.k 149 rfl) (H.k 150 rfl) (H.k 151 rfl) (H.k 152 rfl) (by decide) (own_pay (rm_cor6 va kv b0 b1 b2 b3 b4 b5 rs A17.old H f24) (H.k 152 rfl) (H.k 151 rfl) (by decide) (by decide)) own_nW (Nat.le_of_eq rfl) own_pd19 rfl rfl rfl d22_32 (by decide) (by decide) ?_
  rintro v34 T35 h36 A37 ⟨t28, k29, rfl, g30, g31, K32, V33⟩
  show own_Run p e below Q m T35 35 #[.val (.ref a), .val (.ref sb), .val .null, .val (.ref va), .val (.int (6 : Int32))] [(.ref t28), (.ref a)]
  have z38 : a ≠ t28 := Nat.ne_of_lt (Nat.lt_of_lt_of_le f25.lt g31)
  have f39 := f25.keep K32
  have f40 := f26.keep K32 nin0
  have f41 := f27.keep K32 nin0
  have K42 := K19.trans K32 all0
  refine own_putF (host := "") (q := 38) A37 (Or.inl (H.k 32 rfl)) Via.refl f40 f39 (Or.inr ⟨(H.k 33 rfl), rfl, rfl⟩) (H.k 5 rfl) (ty := (.array .byte)) (by decide) rfl rfl ga (Or.inr (Or.inl rfl)) d22_35 ?_
  intro T43 h44 A45 W46
  have K47 := K42.wr W46 (Or.inl (by simp))
  have f48 := f39.wr W46
  have f49 := f40.same W46
  have f50 := f41.other W46 (Or.inr (slot_ne (Or.inr (H.k 31 rfl)) (Or.inr (H.k 33 rfl)) (by decide) (by decide : parseFieldDescriptor "B" = some .byte) (by decide : parseFieldDescriptor "[B" = some (.array .byte))))
  have f51 := V33.other W46 (Ne.symm z38)
  refine own_goto (q := 97) A45 d22_38 ?_
  exact own_ret0 A45 hQ d22_97 ⟨rfl, K47, t28, k29, f48, f50, f49, f51⟩
theorem rm_isb6 (a : Addr) (sb va : Addr) (kv : ClassId) (b0 b1 b2 b3 b4 b5 : Int32) (rs : List Value) (O0 : Old Z n0 h0) (H : own_H Z a0 zc fm) (Ea : Exa Z h0 a "java/lang/String") (Va : Fld Z h0 a "java/lang/String" "value" "[B" .null) (Ca : Fld Z h0 a "java/lang/String" "coder" "B" (.int 0)) (ga : n0 ≤ a) (nab : a ≠ sb) (nav : a ≠ va) (Eb : Exa Z h0 sb "java/lang/StringBuilder") (Fv : Fld Z h0 sb "java/lang/AbstractStringBuilder" "value" "[B" (.ref va)) (Fc : Fld Z h0 sb "java/lang/AbstractStringBuilder" "coder" "B" (.int 0)) (Fn : Fld Z h0 sb "java/lang/AbstractStringBuilder" "count" "I" (.int 6)) (Kv : Arv Z h0 va kv .byte 16 ([.int b0, .int b1, .int b2, .int b3, .int b4, .int b5] ++ rs) (.int 0)) (gb : n0 ≤ sb) (gv : n0 ≤ va) :
  own_Met false l Z n0 [] [] ⟨"java/lang/String", "<init>", "(Ljava/lang/StringBuilder;)V"⟩ jdk_42_method_53_code 2 none [] (own_R 4 1 6 65) #[(.ref a), (.ref sb)] h0 (fun v h => v = none ∧ Keep h0 h [a] ∧ ∃ (t : Addr) (kt : ClassId), Exa Z h a "java/lang/String" ∧ Fld Z h a "java/lang/String" "coder" "B" (.int 0) ∧ Fld Z h a "java/lang/String" "value" "[B" (.ref t) ∧ Arv Z h t kt .byte 6 [(.int b0), (.int b1), (.int b2), (.int b3), (.int b4), (.int b5)] (.int 0)) := by
  refine own_ent (a0 := a0) (nm := "<init>") (Ls := #[.val (.ref a), .val (.ref sb)]) own_pn0 O0 EW.nil ?_
  intro p e _ m _ below _ _ T0 Q hQ A0
  refine own_aloadN (q := 1) A0 d21_0 rfl rfl ?_
  refine own_aloadN (q := 2) A0 d21_1 rfl rfl ?_
  refine own_aconstNull (q := 3) A0 d21_2 ?_
  refine own_special (q := 6) (W := 0) (argsL := [(.ref sb), .null]) (rest := []) A0 rfl (H.k 128 rfl) (H.k 129 rfl) (H.k 130 rfl) (by decide) (own_pay (rm_iab6 a sb va kv b0 b1 b2 b3 b4 b5 rs A0.old H Ea Va Ca ga nab nav Eb Fv Fc Fn Kv gb gv) (H.k 130 rfl) (H.k 6 rfl) (by decide) (by decide)) own_nW (Nat.le_of_eq rfl) own_pd16 rfl rfl rfl d21_3 (by decide) (by decide) ?_
  rintro v2 T3 h4 A5 ⟨rfl, q1⟩
  show own_Run p e below Q m T3 6 #[.val (.ref a), .val (.ref sb)] []
  exact own_ret0 A5 hQ d21_6 ⟨rfl, q1⟩
theorem rm_tos6 (sb va : Addr) (kv : ClassId) (b0 b1 b2 b3 b4 b5 : Int32) (rs : List Value) (O0 : Old Z n0 h0) (H : own_H Z a0 zc fm) (Eb : Exa Z h0 sb "java/lang/StringBuilder") (Fv : Fld Z h0 sb "java/lang/AbstractStringBuilder" "value" "[B" (.ref va)) (Fc : Fld Z h0 sb "java/lang/AbstractStringBuilder" "coder" "B" (.int 0)) (Fn : Fld Z h0 sb "java/lang/AbstractStringBuilder" "count" "I" (.int 6)) (Kv : Arv Z h0 va kv .byte 16 ([.int b0, .int b1, .int b2, .int b3, .int b4, .int b5] ++ rs) (.int 0)) (gb : n0 ≤ sb) (gv : n0 ≤ va) :
  own_Met false l Z n0 [] [] ⟨"java/lang/StringBuilder", "toString", "()Ljava/lang/String;"⟩ jdk_67_method_42_code 1 (some (.object "java/lang/String")) [] (own_R 5 2 10 79) #[(.ref sb)] h0 (fun v h => ∃ (a t : Addr) (kt : ClassId), v = some (.ref a) ∧ Keep h0 h [] ∧ Exa Z h a "java/lang/String" ∧ Fld Z h a "java/lang/String" "coder" "B" (.int 0) ∧ Fld Z h a "java/lang/String" "value" "[B" (.ref t) ∧ Arv Z h t kt .byte 6 [(.int b0), (.int b1), (.int b2), (.int b3), (.int b4), (.int b5)] (.int 0)) := by
  refine own_ent (a0 := a0) (nm := "toString") (Ls := #[.val (.ref sb)]) own_pn2 O0 EW.nil ?_
  intro p e _ m _ below _ _ T0 Q hQ A0
  refine own_newO (q := 3) A0 (H.k 124 rfl) (H.k 5 rfl) (H.k 6 rfl) d20_0 (by decide) (by decide) ?_
  intro T1 h2 a3 g4 g5 A6 E7 X8 D9
  have z10 : sb ≠ a3 := Nat.ne_of_lt (Nat.lt_of_lt_of_le Eb.lt (Nat.le_of_eq g4))
  have z11 : va ≠ a3 := Nat.ne_of_lt (Nat.lt_of_lt_of_le Kv.lt (Nat.le_of_eq g4))
  have K12 := (Keep.refl h0 []).ext E7
  have f13 := Eb.ext E7
  have f14 := Fv.ext E7
  have f15 := Fc.ext E7
  have f16 := Fn.ext E7
  have f17 := Kv.ext E7
  have f18 : Fld Z h2 a3 "java/lang/String" "value" "[B" .null := D9 (Or.inr (H.k 33 rfl)) (ty := (.array .byte)) (by decide)
  have f19 : Fld Z h2 a3 "java/lang/String" "coder" "B" (.int (0 : Int32)) := D9 (Or.inr (H.k 31 rfl)) (ty := .byte) (by decide)
  refine own_dup (q := 4) A6 d20_3 rfl ?_
  refine own_aloadN (q := 5) A6 d20_4 rfl rfl ?_
  refine own_special (q := 8) (W := 1) (argsL := [(.ref sb)]) (rest := [(.ref a3)]) A6 rfl (H.k 125 rfl) (H.k 126 rfl) (H.k 127 rfl) (by decide) (own_pay (rm_isb6 a3 sb va kv b0 b1 b2 b3 b4 b5 rs A6.old H X8 f18 f19 g5 (Ne.symm z10) (Ne.symm z11) f13 f14 f15 f16 f17 gb gv) (H.k 127 rfl) (H.k 6 rfl) (by decide) (by decide)) own_nW (Nat.le_of_eq rfl) own_pd15 rfl rfl rfl d20_5 (by decide) (by decide) ?_
  rintro v24 T25 h26 A27 ⟨rfl, K20, t21, k22, q23⟩
  show own_Run p e below Q m T25 8 #[.val (.ref sb)] [(.ref a3)]
  have K28 := K12.trans K20 (allS (Or.inr (Nat.le_trans (Keep.refl h0 []).1 (Nat.le_of_eq g4))) all0)
  exact own_retA A27 hQ rfl rfl rfl d20_8 ⟨a3, t21, k22, rfl, K28, q23⟩
theorem d3_0 : decode jdk_42_method_149_code 0 = .ok (.aload_n 0, 1) := by decide +kernel
theorem d3_1 : decode jdk_42_method_149_code 1 = .ok (.invokespecial 1, 3) := by decide +kernel
theorem d3_4 : decode jdk_42_method_149_code 4 = .ok (.iload_n 3, 1) := by decide +kernel
theorem d3_5 : decode jdk_42_method_149_code 5 = .ok (.ifCond .ne 22, 3) := by decide +kernel
theorem d3_8 : decode jdk_42_method_149_code 8 = .ok (.aload_n 0, 1) := by decide +kernel
theorem d3_9 : decode jdk_42_method_149_code 9 = .ok (.ldc 7, 2) := by decide +kernel
theorem d3_11 : decode jdk_42_method_149_code 11 = .ok (.getfield 9, 3) := by decide +kernel
theorem d3_14 : decode jdk_42_method_149_code 14 = .ok (.putfield 9, 3) := by decide +kernel
theorem d3_17 : decode jdk_42_method_149_code 17 = .ok (.aload_n 0, 1) := by decide +kernel
theorem d3_18 : decode jdk_42_method_149_code 18 = .ok (.ldc 7, 2) := by decide +kernel
theorem d3_20 : decode jdk_42_method_149_code 20 = .ok (.getfield 15, 3) := by decide +kernel
theorem d3_23 : decode jdk_42_method_149_code 23 = .ok (.putfield 15, 3) := by decide +kernel
theorem d3_26 : decode jdk_42_method_149_code 26 = .ok (.return_, 1) := by decide +kernel
theorem rm_ini4 (a b : Addr) (kb : ClassId) (O0 : Old Z n0 h0) (hEL : EW Z a0 consts_1) (H : own_H Z a0 zc fm) (Ea : Exa Z h0 a "java/lang/String") (Va : Fld Z h0 a "java/lang/String" "value" "[B" .null) (Ca : Fld Z h0 a "java/lang/String" "coder" "B" (.int 0)) (Kb : Arv Z h0 b kb .char 0 [] (.int 0)) (ga : n0 ≤ a):
  own_Met true l Z n0 consts_1 [a] ⟨"java/lang/String", "<init>", "([CIILjava/lang/Void;)V"⟩ jdk_42_method_149_code 6 none [] (own_R 1 4 8 12) #[(.ref a), (.ref b), (.int (0 : Int32)), (.int (0 : Int32)), .null] h0 (fun v h => v = none ∧ Keep h0 h [a] ∧ ∃ (t : Addr) (k : ClassId), Exa Z h a "java/lang/String" ∧ Fld Z h a "java/lang/String" "coder" "B" (.int 0) ∧ Fld Z h a "java/lang/String" "value" "[B" (.ref t) ∧ Arv Z h t k .byte 0 [] (.int 0)) := by
  refine own_ent (a0 := a0) (nm := "<init>") (Ls := #[.val (.ref a), .val (.ref b), .val (.int (0 : Int32)), .val (.int (0 : Int32)), .val .null, .unset]) own_pn0 O0 hEL ?_
  intro p e _ m _ below _ _ T0 Q hQ A0
  refine own_aloadN (q := 1) A0 d3_0 rfl rfl ?_
  refine own_initO (q := 4) (W := 0) A0 (H.k 15 rfl) (H.k 16 rfl) (H.k 17 rfl) d3_1 rfl (by decide) (Nat.le_of_eq rfl) (by decide) ?_
  intro T1 A2
  refine own_iloadN (q := 5) A2 d3_4 rfl ?_
  refine own_ifcF (q := 8) A2 d3_5 (show (0 : Int32) = (0 : Int32) from rfl) ?_
  refine own_aloadN (q := 9) A2 d3_8 rfl rfl ?_
  refine own_ldcR (q := 11) (n := 0) (z := 0) (vs := []) A2 (H.k 34 rfl) (own_satoms H.w) (by decide) ⟨by decide +kernel, by decide +kernel⟩ (by decide) (by decide) d3_9 (by decide) (by decide) (by decide) (by decide) ?_
  intro a3 b4 k5 T6 h7 A8 E9 X10 F11 F12 V13 N14
  have K15 := (Keep.refl h0 [a]).ext E9
  have f16 := Ea.ext E9
  have f17 := Va.ext E9
  have f18 := Ca.ext E9
  refine own_getF (host := "") (q := 14) A8 (Or.inl (H.k 32 rfl)) Via.refl F12 d3_11 ?_
  intro T19 A20
  refine own_putF (host := "") (q := 17) A20 (Or.inl (H.k 32 rfl)) Via.refl f17 f16 (Or.inr ⟨(H.k 33 rfl), rfl, rfl⟩) (H.k 5 rfl) (ty := (.array .byte)) (by decide) rfl rfl ga (Or.inl (by simp)) d3_14 ?_
  intro T21 h22 A23 W24
  have K25 := K15.wr W24 (Or.inl (by simp))
  have f26 := f16.wr W24
  have f27 := f17.same W24
  have f28 := f18.other W24 (Or.inr (slot_ne (Or.inr (H.k 31 rfl)) (Or.inr (H.k 33 rfl)) (by decide) (by decide : parseFieldDescriptor "B" = some .byte) (by decide : parseFieldDescriptor "[B" = some (.array .byte))))
  have f29 := X10.wr W24
  have f30 := F11.other W24 (Or.inl (Ne.symm (N14 a (by simp)).1))
  have f31 := F12.other W24 (Or.inl (Ne.symm (N14 a (by simp)).1))
  have f32 := V13.other W24 (Ne.symm (N14 a (by simp)).2)
  refine own_aloadN (q := 18) A23 d3_17 rfl rfl ?_
  refine own_ldcR (q := 20) (n := 0) (z := 0) (vs := []) A23 (H.k 34 rfl) (own_satoms H.w) (by decide) ⟨by decide +kernel, by decide +kernel⟩ (by decide) (by decide) d3_18 (by decide) (by decide) (by decide) (by decide) ?_
  intro a33 b34 k35 T36 h37 A38 E39 X40 F41 F42 V43 N44
  have K45 := K25.ext E39
  have f46 := f26.ext E39
  have f47 := f27.ext E39
  have f48 := f28.ext E39
  have f49 := f29.ext E39
  have f50 := f30.ext E39
  have f51 := f31.ext E39
  have f52 := f32.ext E39
  refine own_getF (host := "") (q := 23) A38 (Or.inl (H.k 30 rfl)) Via.refl F41 d3_20 ?_
  intro T53 A54
  refine own_putF (host := "") (q := 26) A54 (Or.inl (H.k 30 rfl)) Via.refl f48 f46 (Or.inr ⟨(H.k 31 rfl), rfl, rfl⟩) (H.k 5 rfl) (ty := .byte) (by decide) rfl rfl ga (Or.inl (by simp)) d3_23 ?_
  intro T55 h56 A57 W58
  have K59 := K45.wr W58 (Or.inl (by simp))
  have f60 := f46.wr W58
  have f61 := f47.other W58 (Or.inr (slot_ne (Or.inr (H.k 33 rfl)) (Or.inr (H.k 31 rfl)) (by decide) (by decide : parseFieldDescriptor "[B" = some (.array .byte)) (by decide : parseFieldDescriptor "B" = some .byte)))
  have f62 := f48.same W58
  have f63 := f49.wr W58
  have f64 := f50.other W58 (Or.inl (Ne.symm (N14 a (by simp)).1))
  have f65 := f51.other W58 (Or.inl (Ne.symm (N14 a (by simp)).1))
  have f66 := f52.other W58 (Ne.symm (N14 a (by simp)).2)
  have f67 := X40.wr W58
  have f68 := F41.other W58 (Or.inl (Ne.symm (N44 a (by simp)).1))
  have f69 := F42.other W58 (Or.inl (Ne.symm (N44 a (by simp)).1))
  have f70 := V43.other W58 (Ne.symm (N44 a (by simp)).2)
  exact own_ret0 A57 hQ d3_26 ⟨rfl, K59, b4, k5, f60, f62, f61, f66⟩
theorem d2_0 : decode jdk_42_method_3_code 0 = .ok (.aload_n 0, 1) := by decide +kernel
theorem d2_1 : decode jdk_42_method_3_code 1 = .ok (.aload_n 1, 1) := by decide +kernel
theorem d2_2 : decode jdk_42_method_3_code 2 = .ok (.iconst 0, 1) := by decide +kernel
theorem d2_3 : decode jdk_42_method_3_code 3 = .ok (.aload_n 1, 1) := by decide +kernel
theorem d2_4 : decode jdk_42_method_3_code 4 = .ok (.arraylength, 1) := by decide +kernel
theorem d2_5 : decode jdk_42_method_3_code 5 = .ok (.aconst_null, 1) := by decide +kernel
theorem d2_6 : decode jdk_42_method_3_code 6 = .ok (.invokespecial 27, 3) := by decide +kernel
theorem d2_9 : decode jdk_42_method_3_code 9 = .ok (.return_, 1) := by decide +kernel
theorem rm_ini (a b : Addr) (kb : ClassId) (O0 : Old Z n0 h0) (hEL : EW Z a0 consts_1) (H : own_H Z a0 zc fm) (Ea : Exa Z h0 a "java/lang/String") (Va : Fld Z h0 a "java/lang/String" "value" "[B" .null) (Ca : Fld Z h0 a "java/lang/String" "coder" "B" (.int 0)) (Kb : Arv Z h0 b kb .char 0 [] (.int 0)) (ga : n0 ≤ a):
  own_Met true l Z n0 consts_1 [a] ⟨"java/lang/String", "<init>", "([C)V"⟩ jdk_42_method_3_code 2 none [] (own_R 2 4 8 29) #[(.ref a), (.ref b)] h0 (fun v h => v = none ∧ Keep h0 h [a] ∧ ∃ (t : Addr) (k : ClassId), Exa Z h a "java/lang/String" ∧ Fld Z h a "java/lang/String" "coder" "B" (.int 0) ∧ Fld Z h a "java/lang/String" "value" "[B" (.ref t) ∧ Arv Z h t k .byte 0 [] (.int 0)) := by
  refine own_ent (a0 := a0) (nm := "<init>") (Ls := #[.val (.ref a), .val (.ref b)]) own_pn0 O0 hEL ?_
  intro p e _ m _ below _ _ T0 Q hQ A0
  refine own_aloadN (q := 1) A0 d2_0 rfl rfl ?_
  refine own_aloadN (q := 2) A0 d2_1 rfl rfl ?_
  refine own_iconst (q := 3) A0 (0 : Int32) d2_2 rfl ?_
  refine own_aloadN (q := 4) A0 d2_3 rfl rfl ?_
  refine own_arrlenv (q := 5) A0 Kb d2_4 ?_
  refine own_aconstNull (q := 6) A0 d2_5 ?_
  refine own_specialW (q := 9) (W := 0) (argsL := [(.ref b), (.int (0 : Int32)), (.int (0 : Int32)), .null]) (rest := []) A0 rfl (H.k 11 rfl) (H.k 12 rfl) (H.k 14 rfl) (by decide) (own_payW (rm_ini4 a b kb A0.old hEL H Ea Va Ca Kb ga) (H.k 14 rfl) (H.k 6 rfl) (by decide) (by decide)) (by simp) (Nat.le_of_eq rfl) own_pd3 rfl rfl rfl d2_6 (by decide) (by decide) ?_
  rintro v2 T3 h4 A5 ⟨rfl, q1⟩
  show own_Run p e below Q m T3 9 #[.val (.ref a), .val (.ref b)] []
  exact own_ret0 A5 hQ d2_9 ⟨rfl, q1⟩
theorem d1_0 : decode method_3_code 0 = .ok (.iload_n 0, 1) := by decide +kernel
theorem d1_1 : decode method_3_code 1 = .ok (.ifCond .ne 14, 3) := by decide +kernel
theorem d1_4 : decode method_3_code 4 = .ok (.new 23, 3) := by decide +kernel
theorem d1_7 : decode method_3_code 7 = .ok (.dup, 1) := by decide +kernel
theorem d1_8 : decode method_3_code 8 = .ok (.iconst 0, 1) := by decide +kernel
theorem d1_9 : decode method_3_code 9 = .ok (.newarray .char, 2) := by decide +kernel
theorem d1_11 : decode method_3_code 11 = .ok (.invokespecial 32, 3) := by decide +kernel
theorem d1_14 : decode method_3_code 14 = .ok (.areturn, 1) := by decide +kernel
theorem d1_15 : decode method_3_code 15 = .ok (.iload_n 0, 1) := by decide +kernel
theorem d1_16 : decode method_3_code 16 = .ok (.iconst 1, 1) := by decide +kernel
theorem d1_17 : decode method_3_code 17 = .ok (.if_icmp .ne 18, 3) := by decide +kernel
theorem d1_20 : decode method_3_code 20 = .ok (.new 23, 3) := by decide +kernel
theorem d1_23 : decode method_3_code 23 = .ok (.dup, 1) := by decide +kernel
theorem d1_24 : decode method_3_code 24 = .ok (.iconst 1, 1) := by decide +kernel
theorem d1_25 : decode method_3_code 25 = .ok (.newarray .char, 2) := by decide +kernel
theorem d1_27 : decode method_3_code 27 = .ok (.dup, 1) := by decide +kernel
theorem d1_28 : decode method_3_code 28 = .ok (.iconst 0, 1) := by decide +kernel
theorem d1_29 : decode method_3_code 29 = .ok (.iload_n 1, 1) := by decide +kernel
theorem d1_30 : decode method_3_code 30 = .ok (.castore, 1) := by decide +kernel
theorem d1_31 : decode method_3_code 31 = .ok (.invokespecial 32, 3) := by decide +kernel
theorem d1_34 : decode method_3_code 34 = .ok (.areturn, 1) := by decide +kernel
theorem d1_35 : decode method_3_code 35 = .ok (.new 23, 3) := by decide +kernel
theorem d1_38 : decode method_3_code 38 = .ok (.dup, 1) := by decide +kernel
theorem d1_39 : decode method_3_code 39 = .ok (.iconst 2, 1) := by decide +kernel
theorem d1_40 : decode method_3_code 40 = .ok (.newarray .char, 2) := by decide +kernel
theorem d1_42 : decode method_3_code 42 = .ok (.dup, 1) := by decide +kernel
theorem d1_43 : decode method_3_code 43 = .ok (.iconst 0, 1) := by decide +kernel
theorem d1_44 : decode method_3_code 44 = .ok (.iload_n 1, 1) := by decide +kernel
theorem d1_45 : decode method_3_code 45 = .ok (.castore, 1) := by decide +kernel
theorem d1_46 : decode method_3_code 46 = .ok (.dup, 1) := by decide +kernel
theorem d1_47 : decode method_3_code 47 = .ok (.iconst 1, 1) := by decide +kernel
theorem d1_48 : decode method_3_code 48 = .ok (.iload_n 2, 1) := by decide +kernel
theorem d1_49 : decode method_3_code 49 = .ok (.castore, 1) := by decide +kernel
theorem d1_50 : decode method_3_code 50 = .ok (.invokespecial 32, 3) := by decide +kernel
theorem d1_53 : decode method_3_code 53 = .ok (.areturn, 1) := by decide +kernel
theorem own_pn4 : plainName "com/example/hifadhi/hifadhi/project/NotAnalysedMessagePinLaw" = true := by first | (simp [plainName, overriddenIn]; done) | decide +kernel
theorem rm_mk0 (c1 c2 : Int32) (O0 : Old Z n0 h0) (hEL : EW Z a0 consts_1) (H : own_H Z a0 zc fm)  (hc10 : ¬ c1 < 0) (hc11 : ¬ (255 : Int32) < c1) (hnc1 : nar .char c1 = c1) (hc20 : ¬ c2 < 0) (hc21 : ¬ (255 : Int32) < c2) (hnc2 : nar .char c2 = c2):
  own_Met true l Z n0 consts_1 [] ⟨"com/example/hifadhi/hifadhi/project/NotAnalysedMessagePinLaw", "mk", "(ICC)Ljava/lang/String;"⟩ method_3_code 3 (some (.object "java/lang/String")) [] (own_R 3 6 12 43) #[(.int (0 : Int32)), (.int c1), (.int c2)] h0 (fun v h => ∃ (b t : Addr) (kt : ClassId), v = some (.ref b) ∧ Keep h0 h [] ∧ Exa Z h b "java/lang/String" ∧ Fld Z h b "java/lang/String" "coder" "B" (.int 0) ∧ Fld Z h b "java/lang/String" "value" "[B" (.ref t) ∧ Arv Z h t kt .byte 0 [] (.int 0)) := by
  refine own_ent (a0 := a0) (nm := "mk") (Ls := #[.val (.int (0 : Int32)), .val (.int c1), .val (.int c2)]) own_pn4 O0 hEL ?_
  intro p e _ m _ below _ _ T0 Q hQ A0
  refine own_iloadN (q := 1) A0 d1_0 rfl ?_
  refine own_ifcF (q := 4) A0 d1_1 (show (0 : Int32) = (0 : Int32) from rfl) ?_
  refine own_newO (q := 7) A0 (H.k 4 rfl) (H.k 5 rfl) (H.k 6 rfl) d1_4 (by decide) (by decide) ?_
  intro T1 h2 a3 g4 g5 A6 E7 X8 D9
  have K10 := (Keep.refl h0 []).ext E7
  have f11 : Fld Z h2 a3 "java/lang/String" "value" "[B" .null := D9 (Or.inr (H.k 33 rfl)) (ty := (.array .byte)) (by decide)
  have f12 : Fld Z h2 a3 "java/lang/String" "coder" "B" (.int (0 : Int32)) := D9 (Or.inr (H.k 31 rfl)) (ty := .byte) (by decide)
  refine own_dup (q := 8) A6 d1_7 rfl ?_
  refine own_iconst (q := 9) A6 (0 : Int32) d1_8 rfl ?_
  refine own_newPv (q := 11) (ty := .char) (dv := .int 0) A6 rfl rfl (H.k 7 rfl) d1_9 0 (by decide) (by decide) (by decide) (by decide) (by decide) ?_
  intro T13 h14 a15 k16 g17 g18 A19 E20 X21
  have z22 : a3 ≠ a15 := Nat.ne_of_lt (Nat.lt_of_lt_of_le X8.lt (Nat.le_of_eq g17))
  have K23 := K10.ext E20
  have f24 := X8.ext E20
  have f25 := f11.ext E20
  have f26 := f12.ext E20
  have f27 : Arv Z h14 a15 k16 .char (0 : Int32) [] (.int 0) := X21
  refine own_specialW (q := 14) (W := 1) (argsL := [(.ref a15)]) (rest := [(.ref a3)]) A19 rfl (H.k 8 rfl) (H.k 9 rfl) (H.k 10 rfl) (by decide) (own_payW (rm_ini a3 a15 k16 A19.old hEL H f24 f25 f26 f27 g5) (H.k 10 rfl) (H.k 6 rfl) (by decide) (by decide)) (by simp) (Nat.le_of_eq rfl) own_pd2 rfl rfl rfl d1_11 (by decide) (by decide) ?_
  rintro v37 T38 h39 A40 ⟨rfl, K28, t31, k32, E29, C30, V35, K36⟩
  show own_Run p e below Q m T38 14 #[.val (.int (0 : Int32)), .val (.int c1), .val (.int c2)] [(.ref a3)]
  have K41 := K23.trans K28 (allS (Or.inr (Nat.le_trans (Keep.refl h0 []).1 (Nat.le_of_eq g4))) all0)
  exact own_retA A40 hQ rfl rfl rfl d1_14 ⟨a3, t31, k32, rfl, K41, E29, C30, V35, K36⟩
theorem rm_mk1 (c1 c2 : Int32) (O0 : Old Z n0 h0) (H : own_H Z a0 zc fm)  (hc10 : ¬ c1 < 0) (hc11 : ¬ (255 : Int32) < c1) (hnc1 : nar .char c1 = c1) (hc20 : ¬ c2 < 0) (hc21 : ¬ (255 : Int32) < c2) (hnc2 : nar .char c2 = c2):
  own_Met false l Z n0 [] [] ⟨"com/example/hifadhi/hifadhi/project/NotAnalysedMessagePinLaw", "mk", "(ICC)Ljava/lang/String;"⟩ method_3_code 3 (some (.object "java/lang/String")) [] (own_R 4 3 6 66) #[(.int (1 : Int32)), (.int c1), (.int c2)] h0 (fun v h => ∃ (b t : Addr) (kt : ClassId), v = some (.ref b) ∧ Keep h0 h [] ∧ Exa Z h b "java/lang/String" ∧ Fld Z h b "java/lang/String" "coder" "B" (.int 0) ∧ Fld Z h b "java/lang/String" "value" "[B" (.ref t) ∧ Arv Z h t kt .byte 1 [(.int c1.toInt8.toInt32)] (.int 0)) := by
  refine own_ent (a0 := a0) (nm := "mk") (Ls := #[.val (.int (1 : Int32)), .val (.int c1), .val (.int c2)]) own_pn4 O0 EW.nil ?_
  intro p e _ m _ below _ _ T0 Q hQ A0
  refine own_iloadN (q := 1) A0 d1_0 rfl ?_
  refine own_ifcT (q := 15) A0 d1_1 (show ¬ (1 : Int32) = (0 : Int32) from by decide) ?_
  refine own_iloadN (q := 16) A0 d1_15 rfl ?_
  refine own_iconst (q := 17) A0 (1 : Int32) d1_16 rfl ?_
  refine own_icmpF (q := 20) A0 d1_17 (show (1 : Int32) = (1 : Int32) from rfl) ?_
  refine own_newO (q := 23) A0 (H.k 4 rfl) (H.k 5 rfl) (H.k 6 rfl) d1_20 (by decide) (by decide) ?_
  intro T1 h2 a3 g4 g5 A6 E7 X8 D9
  have K10 := (Keep.refl h0 []).ext E7
  have f11 : Fld Z h2 a3 "java/lang/String" "value" "[B" .null := D9 (Or.inr (H.k 33 rfl)) (ty := (.array .byte)) (by decide)
  have f12 : Fld Z h2 a3 "java/lang/String" "coder" "B" (.int (0 : Int32)) := D9 (Or.inr (H.k 31 rfl)) (ty := .byte) (by decide)
  refine own_dup (q := 24) A6 d1_23 rfl ?_
  refine own_iconst (q := 25) A6 (1 : Int32) d1_24 rfl ?_
  refine own_newPv (q := 27) (ty := .char) (dv := .int 0) A6 rfl rfl (H.k 7 rfl) d1_25 1 (by decide) (by decide) (by decide) (by decide) (by decide) ?_
  intro T13 h14 a15 k16 g17 g18 A19 E20 X21
  have z22 : a3 ≠ a15 := Nat.ne_of_lt (Nat.lt_of_lt_of_le X8.lt (Nat.le_of_eq g17))
  have K23 := K10.ext E20
  have f24 := X8.ext E20
  have f25 := f11.ext E20
  have f26 := f12.ext E20
  have f27 : Arv Z h14 a15 k16 .char (1 : Int32) [(.int (0 : Int32))] (.int 0) := X21
  refine own_dup (q := 28) A19 d1_27 rfl ?_
  refine own_iconst (q := 29) A19 (0 : Int32) d1_28 rfl ?_
  refine own_iloadN (q := 30) A19 d1_29 rfl ?_
  refine own_stCv (q := 31) A19 f27 0 (by decide) (by decide) (by decide) (Nat.le_of_ble_eq_true rfl) g18 (Or.inr (Or.inr (Or.inr (by obtain ⟨c, q, _⟩ := f27; exact ⟨c, _, q, by decide⟩)))) d1_30 ?_
  intro T28 h29 sl30 A31 W32 X33
  have K34 := K23.wr W32 (Or.inr (Nat.le_trans K10.1 (Nat.le_of_eq g17)))
  have f35 := f24.wr W32
  have f36 := f25.other W32 (Or.inl z22)
  have f37 := f26.other W32 (Or.inl z22)
  have f38 : Arv Z h29 a15 k16 .char (1 : Int32) [(.int (nar .char c1))] (.int 0) := X33
  have f39 : Arv Z h29 a15 k16 .char (1 : Int32) [(.int c1)] (.int 0) := by
    have q := f38
    rw [hnc1] at q
    exact q
  refine own_special (q := 34) (W := 1) (argsL := [(.ref a15)]) (rest := [(.ref a3)]) A31 rfl (H.k 8 rfl) (H.k 9 rfl) (H.k 10 rfl) (by decide) (own_payV (cs := [c1]) (bs := _) (n := 1) (N := 1) (kI := 4) (own_wV H.w) (H.k 5 rfl) A31.old g5 f35 f36 f37 f39 H.SC H.hz rfl rfl (by decide) (by decide) (own_fc ⟨hc10, hc11⟩ (fun _ z => nomatch z)) rfl (by decide) (by decide)) (by simp) (Nat.le_of_eq rfl) own_pd2 rfl rfl rfl d1_31 (by decide) (by decide) ?_
  rintro v49 T50 h51 A52 ⟨rfl, K40, E41, C42, t43, k44, g45, g46, V47, K48⟩
  show own_Run p e below Q m T50 34 #[.val (.int (1 : Int32)), .val (.int c1), .val (.int c2)] [(.ref a3)]
  have K53 := K34.trans K40 (allS (Or.inr (Nat.le_trans (Keep.refl h0 []).1 (Nat.le_of_eq g4))) all0)
  exact own_retA A52 hQ rfl rfl rfl d1_34 ⟨a3, t43, k44, rfl, K53, E41, C42, V47, K48⟩
theorem rm_mk2 (c1 c2 : Int32) (O0 : Old Z n0 h0) (H : own_H Z a0 zc fm)  (hc10 : ¬ c1 < 0) (hc11 : ¬ (255 : Int32) < c1) (hnc1 : nar .char c1 = c1) (hc20 : ¬ c2 < 0) (hc21 : ¬ (255 : Int32) < c2) (hnc2 : nar .char c2 = c2):
  own_Met false l Z n0 [] [] ⟨"com/example/hifadhi/hifadhi/project/NotAnalysedMessagePinLaw", "mk", "(ICC)Ljava/lang/String;"⟩ method_3_code 3 (some (.object "java/lang/String")) [] (own_R 4 3 8 66) #[(.int (2 : Int32)), (.int c1), (.int c2)] h0 (fun v h => ∃ (b t : Addr) (kt : ClassId), v = some (.ref b) ∧ Keep h0 h [] ∧ Exa Z h b "java/lang/String" ∧ Fld Z h b "java/lang/String" "coder" "B" (.int 0) ∧ Fld Z h b "java/lang/String" "value" "[B" (.ref t) ∧ Arv Z h t kt .byte 2 [(.int c1.toInt8.toInt32), (.int c2.toInt8.toInt32)] (.int 0)) := by
  refine own_ent (a0 := a0) (nm := "mk") (Ls := #[.val (.int (2 : Int32)), .val (.int c1), .val (.int c2)]) own_pn4 O0 EW.nil ?_
  intro p e _ m _ below _ _ T0 Q hQ A0
  refine own_iloadN (q := 1) A0 d1_0 rfl ?_
  refine own_ifcT (q := 15) A0 d1_1 (show ¬ (2 : Int32) = (0 : Int32) from by decide) ?_
  refine own_iloadN (q := 16) A0 d1_15 rfl ?_
  refine own_iconst (q := 17) A0 (1 : Int32) d1_16 rfl ?_
  refine own_icmpT (q := 35) A0 d1_17 (show ¬ (2 : Int32) = (1 : Int32) from by decide) ?_
  refine own_newO (q := 38) A0 (H.k 4 rfl) (H.k 5 rfl) (H.k 6 rfl) d1_35 (by decide) (by decide) ?_
  intro T1 h2 a3 g4 g5 A6 E7 X8 D9
  have K10 := (Keep.refl h0 []).ext E7
  have f11 : Fld Z h2 a3 "java/lang/String" "value" "[B" .null := D9 (Or.inr (H.k 33 rfl)) (ty := (.array .byte)) (by decide)
  have f12 : Fld Z h2 a3 "java/lang/String" "coder" "B" (.int (0 : Int32)) := D9 (Or.inr (H.k 31 rfl)) (ty := .byte) (by decide)
  refine own_dup (q := 39) A6 d1_38 rfl ?_
  refine own_iconst (q := 40) A6 (2 : Int32) d1_39 rfl ?_
  refine own_newPv (q := 42) (ty := .char) (dv := .int 0) A6 rfl rfl (H.k 7 rfl) d1_40 2 (by decide) (by decide) (by decide) (by decide) (by decide) ?_
  intro T13 h14 a15 k16 g17 g18 A19 E20 X21
  have z22 : a3 ≠ a15 := Nat.ne_of_lt (Nat.lt_of_lt_of_le X8.lt (Nat.le_of_eq g17))
  have K23 := K10.ext E20
  have f24 := X8.ext E20
  have f25 := f11.ext E20
  have f26 := f12.ext E20
  have f27 : Arv Z h14 a15 k16 .char (2 : Int32) [(.int (0 : Int32)), (.int (0 : Int32))] (.int 0) := X21
  refine own_dup (q := 43) A19 d1_42 rfl ?_
  refine own_iconst (q := 44) A19 (0 : Int32) d1_43 rfl ?_
  refine own_iloadN (q := 45) A19 d1_44 rfl ?_
  refine own_stCv (q := 46) A19 f27 0 (by decide) (by decide) (by decide) (Nat.le_of_ble_eq_true rfl) g18 (Or.inr (Or.inr (Or.inr (by obtain ⟨c, q, _⟩ := f27; exact ⟨c, _, q, by decide⟩)))) d1_45 ?_
  intro T28 h29 sl30 A31 W32 X33
  have K34 := K23.wr W32 (Or.inr (Nat.le_trans K10.1 (Nat.le_of_eq g17)))
  have f35 := f24.wr W32
  have f36 := f25.other W32 (Or.inl z22)
  have f37 := f26.other W32 (Or.inl z22)
  have f38 : Arv Z h29 a15 k16 .char (2 : Int32) [(.int (nar .char c1)), (.int (0 : Int32))] (.int 0) := X33
  have f39 : Arv Z h29 a15 k16 .char (2 : Int32) [(.int c1), (.int (0 : Int32))] (.int 0) := by
    have q := f38
    rw [hnc1] at q
    exact q
  refine own_dup (q := 47) A31 d1_46 rfl ?_
  refine own_iconst (q := 48) A31 (1 : Int32) d1_47 rfl ?_
  refine own_iloadN (q := 49) A31 d1_48 rfl ?_
  refine own_stCv (q := 50) A31 f39 1 (by decide) (by decide) (by decide) (Nat.le_of_ble_eq_true rfl) g18 (Or.inr (Or.inr (Or.inr (by obtain ⟨c, q, _⟩ := f39; exact ⟨c, _, q, by decide⟩)))) d1_49 ?_
  intro T40 h41 sl42 A43 W44 X45
  have K46 := K34.wr W44 (Or.inr (Nat.le_trans K10.1 (Nat.le_of_eq g17)))
  have f47 := f35.wr W44
  have f48 := f36.other W44 (Or.inl z22)
  have f49 := f37.other W44 (Or.inl z22)
  have f50 : Arv Z h41 a15 k16 .char (2 : Int32) [(.int c1), (.int (nar .char c2))] (.int 0) := X45
  have f51 : Arv Z h41 a15 k16 .char (2 : Int32) [(.int c1), (.int c2)] (.int 0) := by
    have q := f50
    rw [hnc2] at q
    exact q
  refine own_special (q := 53) (W := 1) (argsL := [(.ref a15)]) (rest := [(.ref a3)]) A43 rfl (H.k 8 rfl) (H.k 9 rfl) (H.k 10 rfl) (by decide) (own_payV (cs := [c1, c2]) (bs := _) (n := 2) (N := 2) (kI := 4) (own_wV H.w) (H.k 5 rfl) A43.old g5 f47 f48 f49 f51 H.SC H.hz rfl rfl (by decide) (by decide) (own_fc ⟨hc10, hc11⟩ (own_fc ⟨hc20, hc21⟩ (fun _ z => nomatch z))) rfl (by decide) (by decide)) (by simp) (Nat.le_of_eq rfl) own_pd2 rfl rfl rfl d1_50 (by decide) (by decide) ?_
  rintro v61 T62 h63 A64 ⟨rfl, K52, E53, C54, t55, k56, g57, g58, V59, K60⟩
  show own_Run p e below Q m T62 53 #[.val (.int (2 : Int32)), .val (.int c1), .val (.int c2)] [(.ref a3)]
  have K65 := K46.trans K52 (allS (Or.inr (Nat.le_trans (Keep.refl h0 []).1 (Nat.le_of_eq g4))) all0)
  exact own_retA A64 hQ rfl rfl rfl d1_53 ⟨a3, t55, k56, rfl, K65, E53, C54, V59, K60⟩
theorem d8_0 : decode prog_33_method_1_code 0 = .ok (.aload_n 0, 1) := by decide +kernel
theorem d8_1 : decode prog_33_method_1_code 1 = .ok (.invokespecial 1, 3) := by decide +kernel
theorem d8_4 : decode prog_33_method_1_code 4 = .ok (.aload_n 0, 1) := by decide +kernel
theorem d8_5 : decode prog_33_method_1_code 5 = .ok (.aload_n 1, 1) := by decide +kernel
theorem d8_6 : decode prog_33_method_1_code 6 = .ok (.putfield 7, 3) := by decide +kernel
theorem d8_9 : decode prog_33_method_1_code 9 = .ok (.aload_n 0, 1) := by decide +kernel
theorem d8_10 : decode prog_33_method_1_code 10 = .ok (.aload_n 2, 1) := by decide +kernel
theorem d8_11 : decode prog_33_method_1_code 11 = .ok (.putfield 13, 3) := by decide +kernel
theorem d8_14 : decode prog_33_method_1_code 14 = .ok (.return_, 1) := by decide +kernel
theorem own_pn5 : plainName "com/example/hifadhi/hifadhi/project/NotAnalysed" = true := by first | (simp [plainName, overriddenIn]; done) | decide +kernel
theorem rm_nai (a x1 x2 : Addr) (O0 : Old Z n0 h0) (H : own_H Z a0 zc fm) (Ea : Exa Z h0 a "com/example/hifadhi/hifadhi/project/NotAnalysed") (F0 : Fld Z h0 a "com/example/hifadhi/hifadhi/project/NotAnalysed" "what" "Ljava/lang/String;" .null) (F1 : Fld Z h0 a "com/example/hifadhi/hifadhi/project/NotAnalysed" "reason" "Ljava/lang/String;" .null) (ga : n0 ≤ a):
  own_Met false l Z n0 [] [] ⟨"com/example/hifadhi/hifadhi/project/NotAnalysed", "<init>", "(Ljava/lang/String;Ljava/lang/String;)V"⟩ prog_33_method_1_code 3 none [] (own_R 1 0 0 12) #[(.ref a), (.ref x1), (.ref x2)] h0 (fun v h => v = none ∧ Keep h0 h [a] ∧ Exa Z h a "com/example/hifadhi/hifadhi/project/NotAnalysed" ∧ Fld Z h a "com/example/hifadhi/hifadhi/project/NotAnalysed" "what" "Ljava/lang/String;" (.ref x1) ∧ Fld Z h a "com/example/hifadhi/hifadhi/project/NotAnalysed" "reason" "Ljava/lang/String;" (.ref x2)) := by
  refine own_ent (a0 := a0) (nm := "<init>") (Ls := #[.val (.ref a), .val (.ref x1), .val (.ref x2)]) own_pn5 O0 EW.nil ?_
  intro p e _ m _ below _ _ T0 Q hQ A0
  refine own_aloadN (q := 1) A0 d8_0 rfl rfl ?_
  refine own_initO (q := 4) (W := 0) A0 (H.k 43 rfl) (H.k 16 rfl) (H.k 17 rfl) d8_1 rfl (by decide) (Nat.le_of_eq rfl) (by decide) ?_
  intro T1 A2
  refine own_aloadN (q := 5) A2 d8_4 rfl rfl ?_
  refine own_aloadN (q := 6) A2 d8_5 rfl rfl ?_
  refine own_putF (host := "") (q := 9) A2 (Or.inl (H.k 44 rfl)) Via.refl F0 Ea (Or.inr ⟨(H.k 45 rfl), rfl, rfl⟩) (H.k 38 rfl) (ty := (.object "java/lang/String")) (by decide) rfl rfl ga (Or.inr (Or.inl rfl)) d8_6 ?_
  intro T3 h4 A5 W6
  have K7 := (Keep.refl h0 [a]).wr W6 (Or.inl (by simp))
  have f8 := Ea.wr W6
  have f9 := F0.same W6
  have f10 := F1.other W6 (Or.inr (slot_ne (Or.inr (H.k 47 rfl)) (Or.inr (H.k 45 rfl)) (by decide) (by decide : parseFieldDescriptor "Ljava/lang/String;" = some (.object "java/lang/String")) (by decide : parseFieldDescriptor "Ljava/lang/String;" = some (.object "java/lang/String"))))
  refine own_aloadN (q := 10) A5 d8_9 rfl rfl ?_
  refine own_aloadN (q := 11) A5 d8_10 rfl rfl ?_
  refine own_putF (host := "") (q := 14) A5 (Or.inl (H.k 46 rfl)) Via.refl f10 f8 (Or.inr ⟨(H.k 47 rfl), rfl, rfl⟩) (H.k 38 rfl) (ty := (.object "java/lang/String")) (by decide) rfl rfl ga (Or.inr (Or.inl rfl)) d8_11 ?_
  intro T11 h12 A13 W14
  have K15 := K7.wr W14 (Or.inl (by simp))
  have f16 := f8.wr W14
  have f17 := f9.other W14 (Or.inr (slot_ne (Or.inr (H.k 45 rfl)) (Or.inr (H.k 47 rfl)) (by decide) (by decide : parseFieldDescriptor "Ljava/lang/String;" = some (.object "java/lang/String")) (by decide : parseFieldDescriptor "Ljava/lang/String;" = some (.object "java/lang/String"))))
  have f18 := f10.same W14
  exact own_ret0 A13 hQ d8_14 ⟨rfl, K15, f16, f17, f18⟩
theorem d9_0 : decode prog_33_method_4_code 0 = .ok (.new 16, 3) := by decide +kernel
theorem d9_3 : decode prog_33_method_4_code 3 = .ok (.dup, 1) := by decide +kernel
theorem d9_4 : decode prog_33_method_4_code 4 = .ok (.invokespecial 18, 3) := by decide +kernel
theorem d9_7 : decode prog_33_method_4_code 7 = .ok (.aload_n 0, 1) := by decide +kernel
theorem d9_8 : decode prog_33_method_4_code 8 = .ok (.getfield 7, 3) := by decide +kernel
theorem d9_11 : decode prog_33_method_4_code 11 = .ok (.invokevirtual 19, 3) := by decide +kernel
theorem d9_14 : decode prog_33_method_4_code 14 = .ok (.ldc 23, 2) := by decide +kernel
theorem d9_16 : decode prog_33_method_4_code 16 = .ok (.invokevirtual 19, 3) := by decide +kernel
theorem d9_19 : decode prog_33_method_4_code 19 = .ok (.aload_n 0, 1) := by decide +kernel
theorem d9_20 : decode prog_33_method_4_code 20 = .ok (.getfield 13, 3) := by decide +kernel
theorem d9_23 : decode prog_33_method_4_code 23 = .ok (.invokevirtual 19, 3) := by decide +kernel
theorem d9_26 : decode prog_33_method_4_code 26 = .ok (.invokevirtual 25, 3) := by decide +kernel
theorem d9_29 : decode prog_33_method_4_code 29 = .ok (.areturn, 1) := by decide +kernel
theorem rm_msg00 (o x1 t1 x2 t2 : Addr) (k1 k2 : ClassId) (O0 : Old Z n0 h0) (hEL : EW Z a0 consts_1) (H : own_H Z a0 zc fm) (Eo : Exa Z h0 o "com/example/hifadhi/hifadhi/project/NotAnalysed") (Fw : Fld Z h0 o "com/example/hifadhi/hifadhi/project/NotAnalysed" "what" "Ljava/lang/String;" (.ref x1)) (Fr_ : Fld Z h0 o "com/example/hifadhi/hifadhi/project/NotAnalysed" "reason" "Ljava/lang/String;" (.ref x2)) (E1 : Exa Z h0 x1 "java/lang/String") (C1 : Fld Z h0 x1 "java/lang/String" "coder" "B" (.int 0)) (V1 : Fld Z h0 x1 "java/lang/String" "value" "[B" (.ref t1)) (K1 : Arv Z h0 t1 k1 .byte 0 [] (.int 0)) (E2 : Exa Z h0 x2 "java/lang/String") (C2 : Fld Z h0 x2 "java/lang/String" "coder" "B" (.int 0)) (V2 : Fld Z h0 x2 "java/lang/String" "value" "[B" (.ref t2)) (K2 : Arv Z h0 t2 k2 .byte 0 [] (.int 0)) :
  own_Met true l Z n0 consts_1 [] ⟨"com/example/hifadhi/hifadhi/project/NotAnalysed", "message", "()Ljava/lang/String;"⟩ prog_33_method_4_code 1 (some (.object "java/lang/String")) [] (own_R 6 6 38 91) #[(.ref o)] h0 (fun v h => ∃ (b t : Addr) (kt : ClassId), v = some (.ref b) ∧ Exa Z h b "java/lang/String" ∧ Fld Z h b "java/lang/String" "coder" "B" (.int 0) ∧ Fld Z h b "java/lang/String" "value" "[B" (.ref t) ∧ Arv Z h t kt .byte 2 [(.int (58 : Int32)), (.int (32 : Int32))] (.int 0)) := by
  refine own_ent (a0 := a0) (nm := "message") (Ls := #[.val (.ref o)]) own_pn5 O0 hEL ?_
  intro p e _ m _ below _ _ T0 Q hQ A0
  refine own_newO (q := 3) A0 (H.k 53 rfl) (H.k 54 rfl) (H.k 55 rfl) d9_0 (by decide) (by decide) ?_
  intro T1 h2 a3 g4 g5 A6 E7 X8 D9
  have z10 : o ≠ a3 := Nat.ne_of_lt (Nat.lt_of_lt_of_le Eo.lt (Nat.le_of_eq g4))
  have z11 : x1 ≠ a3 := Nat.ne_of_lt (Nat.lt_of_lt_of_le E1.lt (Nat.le_of_eq g4))
  have z12 : t1 ≠ a3 := Nat.ne_of_lt (Nat.lt_of_lt_of_le K1.lt (Nat.le_of_eq g4))
  have z13 : x2 ≠ a3 := Nat.ne_of_lt (Nat.lt_of_lt_of_le E2.lt (Nat.le_of_eq g4))
  have z14 : t2 ≠ a3 := Nat.ne_of_lt (Nat.lt_of_lt_of_le K2.lt (Nat.le_of_eq g4))
  have f15 := Eo.ext E7
  have f16 := Fw.ext E7
  have f17 := Fr_.ext E7
  have f18 := E1.ext E7
  have f19 := C1.ext E7
  have f20 := V1.ext E7
  have f21 := K1.ext E7
  have f22 := E2.ext E7
  have f23 := C2.ext E7
  have f24 := V2.ext E7
  have f25 := K2.ext E7
  have f26 : Fld Z h2 a3 "java/lang/AbstractStringBuilder" "value" "[B" .null := D9 (Or.inl (H.k 68 rfl)) (ty := (.array .byte)) (by decide)
  have f27 : Fld Z h2 a3 "java/lang/AbstractStringBuilder" "coder" "B" (.int (0 : Int32)) := D9 (Or.inl (H.k 70 rfl)) (ty := .byte) (by decide)
  have f28 : Fld Z h2 a3 "java/lang/AbstractStringBuilder" "count" "I" (.int (0 : Int32)) := D9 (Or.inl (H.k 92 rfl)) (ty := .int) (by decide)
  refine own_dup (q := 4) A6 d9_3 rfl ?_
  refine own_specialN (q := 7) (W := 1) (argsL := []) (rest := [(.ref a3)]) A6 rfl (H.k 56 rfl) (H.k 57 rfl) (H.k 58 rfl) (by decide) (own_payN (rm_sbi a3 A6.old H X8 f26 f27 f28 g5) (fun _ _ q => q.2.1) (H.k 58 rfl) (H.k 55 rfl) (by decide) (by decide)) (by simp) (fun _ _ q => q.2.1) (Nat.le_of_eq rfl) own_pd6 rfl rfl rfl d9_4 (by decide) (by decide) ?_
  rintro v39 T40 h41 A42 ⟨rfl, K29, E30, F31, F32, va33, k34, g35, g36, F37, V38⟩
  show own_Run p e below Q m T40 7 #[.val (.ref o)] [(.ref a3)]
  have A43 := A42 [va33] (fun yy hy => by obtain rfl := List.mem_singleton.mp hy; exact ⟨g36, V38.lt⟩)
  have z44 : o ≠ va33 := Nat.ne_of_lt (Nat.lt_of_lt_of_le f15.lt g36)
  have z45 : x1 ≠ va33 := Nat.ne_of_lt (Nat.lt_of_lt_of_le f18.lt g36)
  have z46 : t1 ≠ va33 := Nat.ne_of_lt (Nat.lt_of_lt_of_le f21.lt g36)
  have z47 : x2 ≠ va33 := Nat.ne_of_lt (Nat.lt_of_lt_of_le f22.lt g36)
  have z48 : t2 ≠ va33 := Nat.ne_of_lt (Nat.lt_of_lt_of_le f25.lt g36)
  have z49 : a3 ≠ va33 := Nat.ne_of_lt (Nat.lt_of_lt_of_le X8.lt g36)
  have f50 := f15.keep K29
  have f51 := f16.keep K29 (ninS z10 nin0)
  have f52 := f17.keep K29 (ninS z10 nin0)
  have f53 := f18.keep K29
  have f54 := f19.keep K29 (ninS z11 nin0)
  have f55 := f20.keep K29 (ninS z11 nin0)
  have f56 := f21.keep K29 (ninS z12 nin0)
  have f57 := f22.keep K29
  have f58 := f23.keep K29 (ninS z13 nin0)
  have f59 := f24.keep K29 (ninS z13 nin0)
  have f60 := f25.keep K29 (ninS z14 nin0)
  refine own_aloadN (q := 8) A43 d9_7 rfl rfl ?_
  refine own_getF (host := "") (q := 11) A43 (Or.inl (H.k 44 rfl)) Via.refl f51 d9_8 ?_
  intro T61 A62
  refine own_virtual (q := 14) (W := 0) (argsL := [(.ref x1)]) (rest := []) A62 (H.k 71 rfl) (H.k 72 rfl) (H.k 74 rfl) (H.k 73 rfl) (by decide) (own_payN (rm_sap a3 va33 k34 0 [(.int (0 : Int32)), (.int (0 : Int32)), (.int (0 : Int32)), (.int (0 : Int32)), (.int (0 : Int32)), (.int (0 : Int32)), (.int (0 : Int32)), (.int (0 : Int32)), (.int (0 : Int32)), (.int (0 : Int32)), (.int (0 : Int32)), (.int (0 : Int32)), (.int (0 : Int32)), (.int (0 : Int32)), (.int (0 : Int32)), (.int (0 : Int32))] x1 t1 k1 0 [] A62.old H E30 F37 F31 F32 V38 g5 g35 f53 f55 f54 f56 (own_apf_mk (by decide) (by decide) (by decide) (by decide) (by decide) (Nat.le_of_ble_eq_true rfl) rfl (by decide)) z49 z11 z12 z45 z46) (fun _ _ q => q.2.1) (H.k 75 rfl) (H.k 55 rfl) (by decide) (by decide)) (by simp) (Nat.le_of_eq rfl) E30 own_pd8 rfl rfl rfl d9_11 (by decide) (by decide) ?_
  rintro v69 T70 h71 A72 ⟨rfl, K63, E64, F65, F66, F67, V68⟩
  show own_Run p e below Q m T70 14 #[.val (.ref o)] [(.ref a3)]
  have F73 : Fld Z h71 a3 "java/lang/AbstractStringBuilder" "count" "I" (.int 0) := by
    have q := F67
    rw [show ((0 : Int32) + (0 : Int32)) = 0 from by decide] at q
    exact q
  have V74 : Arv Z h71 va33 k34 .byte 16 [(.int (0 : Int32)), (.int (0 : Int32)), (.int (0 : Int32)), (.int (0 : Int32)), (.int (0 : Int32)), (.int (0 : Int32)), (.int (0 : Int32)), (.int (0 : Int32)), (.int (0 : Int32)), (.int (0 : Int32)), (.int (0 : Int32)), (.int (0 : Int32)), (.int (0 : Int32)), (.int (0 : Int32)), (.int (0 : Int32)), (.int (0 : Int32))] (.int 0) := V68
  have f75 := f50.keep K63
  have f76 := f51.keep K63 (ninS z10 (ninS z44 nin0))
  have f77 := f52.keep K63 (ninS z10 (ninS z44 nin0))
  have f78 := f57.keep K63
  have f79 := f58.keep K63 (ninS z13 (ninS z47 nin0))
  have f80 := f59.keep K63 (ninS z13 (ninS z47 nin0))
  have f81 := f60.keep K63 (ninS z14 (ninS z48 nin0))
  refine own_ldcR (q := 16) (n := 8) (z := 2) (vs := [(.int (58 : Int32)), (.int (32 : Int32))]) A72 (H.k 118 rfl) (own_satoms H.w) (by decide) ⟨by decide +kernel, by decide +kernel⟩ (by decide) (by decide) d9_14 (by decide) (by decide) (by decide) (by decide) ?_
  intro a82 b83 k84 T85 h86 A87 E88 X89 F90 F91 V92 N93
  have f94 := f75.ext E88
  have f95 := f76.ext E88
  have f96 := f77.ext E88
  have f97 := f78.ext E88
  have f98 := f79.ext E88
  have f99 := f80.ext E88
  have f100 := f81.ext E88
  have f101 := E64.ext E88
  have f102 := F65.ext E88
  have f103 := F66.ext E88
  have f104 := F73.ext E88
  have f105 := V74.ext E88
  refine own_virtual (q := 19) (W := 0) (argsL := [(.ref a82)]) (rest := []) A87 (H.k 71 rfl) (H.k 72 rfl) (H.k 74 rfl) (H.k 73 rfl) (by decide) (own_payN (rm_sap a3 va33 k34 0 [(.int (0 : Int32)), (.int (0 : Int32)), (.int (0 : Int32)), (.int (0 : Int32)), (.int (0 : Int32)), (.int (0 : Int32)), (.int (0 : Int32)), (.int (0 : Int32)), (.int (0 : Int32)), (.int (0 : Int32)), (.int (0 : Int32)), (.int (0 : Int32)), (.int (0 : Int32)), (.int (0 : Int32)), (.int (0 : Int32)), (.int (0 : Int32))] a82 b83 k84 2 [(.int (58 : Int32)), (.int (32 : Int32))] A87.old H f101 f102 f103 f104 f105 g5 g35 X89 F91 F90 V92 (own_apf_mk (by decide) (by decide) (by decide) (by decide) (by decide) (Nat.le_of_ble_eq_true rfl) rfl (by decide)) z49 (Ne.symm (N93 a3 (by simp)).1) (Ne.symm (N93 a3 (by simp)).2) (Ne.symm (N93 va33 (by simp)).1) (Ne.symm (N93 va33 (by simp)).2)) (fun _ _ q => q.2.1) (H.k 75 rfl) (H.k 55 rfl) (by decide) (by decide)) (by simp) (Nat.le_of_eq rfl) f101 own_pd8 rfl rfl rfl d9_16 (by decide) (by decide) ?_
  rintro v112 T113 h114 A115 ⟨rfl, K106, E107, F108, F109, F110, V111⟩
  show own_Run p e below Q m T113 19 #[.val (.ref o)] [(.ref a3)]
  have F116 : Fld Z h114 a3 "java/lang/AbstractStringBuilder" "count" "I" (.int 2) := by
    have q := F110
    rw [show ((0 : Int32) + (2 : Int32)) = 2 from by decide] at q
    exact q
  have V117 : Arv Z h114 va33 k34 .byte 16 [(.int (58 : Int32)), (.int (32 : Int32)), (.int (0 : Int32)), (.int (0 : Int32)), (.int (0 : Int32)), (.int (0 : Int32)), (.int (0 : Int32)), (.int (0 : Int32)), (.int (0 : Int32)), (.int (0 : Int32)), (.int (0 : Int32)), (.int (0 : Int32)), (.int (0 : Int32)), (.int (0 : Int32)), (.int (0 : Int32)), (.int (0 : Int32))] (.int 0) := V111
  have f118 := f94.keep K106
  have f119 := f95.keep K106 (ninS z10 (ninS z44 nin0))
  have f120 := f96.keep K106 (ninS z10 (ninS z44 nin0))
  have f121 := f97.keep K106
  have f122 := f98.keep K106 (ninS z13 (ninS z47 nin0))
  have f123 := f99.keep K106 (ninS z13 (ninS z47 nin0))
  have f124 := f100.keep K106 (ninS z14 (ninS z48 nin0))
  refine own_aloadN (q := 20) A115 d9_19 rfl rfl ?_
  refine own_getF (host := "") (q := 23) A115 (Or.inl (H.k 46 rfl)) Via.refl f120 d9_20 ?_
  intro T125 A126
  refine own_virtual (q := 26) (W := 0) (argsL := [(.ref x2)]) (rest := []) A126 (H.k 71 rfl) (H.k 72 rfl) (H.k 74 rfl) (H.k 73 rfl) (by decide) (own_payN (rm_sap a3 va33 k34 2 [(.int (58 : Int32)), (.int (32 : Int32)), (.int (0 : Int32)), (.int (0 : Int32)), (.int (0 : Int32)), (.int (0 : Int32)), (.int (0 : Int32)), (.int (0 : Int32)), (.int (0 : Int32)), (.int (0 : Int32)), (.int (0 : Int32)), (.int (0 : Int32)), (.int (0 : Int32)), (.int (0 : Int32)), (.int (0 : Int32)), (.int (0 : Int32))] x2 t2 k2 0 [] A126.old H E107 F108 F109 F116 V117 g5 g35 f121 f123 f122 f124 (own_apf_mk (by decide) (by decide) (by decide) (by decide) (by decide) (Nat.le_of_ble_eq_true rfl) rfl (by decide)) z49 z13 z14 z47 z48) (fun _ _ q => q.2.1) (H.k 75 rfl) (H.k 55 rfl) (by decide) (by decide)) (by simp) (Nat.le_of_eq rfl) E107 own_pd8 rfl rfl rfl d9_23 (by decide) (by decide) ?_
  rintro v133 T134 h135 A136 ⟨rfl, K127, E128, F129, F130, F131, V132⟩
  show own_Run p e below Q m T134 26 #[.val (.ref o)] [(.ref a3)]
  have F137 : Fld Z h135 a3 "java/lang/AbstractStringBuilder" "count" "I" (.int 2) := by
    have q := F131
    rw [show ((2 : Int32) + (0 : Int32)) = 2 from by decide] at q
    exact q
  have V138 : Arv Z h135 va33 k34 .byte 16 [(.int (58 : Int32)), (.int (32 : Int32)), (.int (0 : Int32)), (.int (0 : Int32)), (.int (0 : Int32)), (.int (0 : Int32)), (.int (0 : Int32)), (.int (0 : Int32)), (.int (0 : Int32)), (.int (0 : Int32)), (.int (0 : Int32)), (.int (0 : Int32)), (.int (0 : Int32)), (.int (0 : Int32)), (.int (0 : Int32)), (.int (0 : Int32))] (.int 0) := V132
  have f139 := f118.keep K127
  have f140 := f119.keep K127 (ninS z10 (ninS z44 nin0))
  have f141 := f120.keep K127 (ninS z10 (ninS z44 nin0))
  refine own_virtual (q := 29) (W := 0) (argsL := []) (rest := []) A136 (H.k 119 rfl) (H.k 120 rfl) (H.k 122 rfl) (H.k 121 rfl) (by decide) (own_payN (rm_tos2 a3 va33 k34 (58 : Int32) (32 : Int32) [(.int (0 : Int32)), (.int (0 : Int32)), (.int (0 : Int32)), (.int (0 : Int32)), (.int (0 : Int32)), (.int (0 : Int32)), (.int (0 : Int32)), (.int (0 : Int32)), (.int (0 : Int32)), (.int (0 : Int32)), (.int (0 : Int32)), (.int (0 : Int32)), (.int (0 : Int32)), (.int (0 : Int32))] A136.old H E128 F129 F130 F137 V138 g5 g35) (fun _ _ ⟨_, _, _, _, q, _⟩ => q) (H.k 123 rfl) (H.k 55 rfl) (by decide) (by decide)) own_nW (Nat.le_of_eq rfl) E128 own_pd5 rfl rfl rfl d9_26 (by decide) (by decide) ?_
  rintro v146 T147 h148 A149 ⟨a142, t143, k144, rfl, -, q145⟩
  show own_Run p e below Q m T147 29 #[.val (.ref o)] [(.ref a142)]
  exact own_retA A149 hQ rfl rfl rfl d9_29 ⟨a142, t143, k144, rfl, q145⟩
theorem rm_msg01 (o x1 t1 x2 t2 : Addr) (k1 k2 : ClassId) (r0 : Int32) (O0 : Old Z n0 h0) (hEL : EW Z a0 consts_1) (H : own_H Z a0 zc fm) (Eo : Exa Z h0 o "com/example/hifadhi/hifadhi/project/NotAnalysed") (Fw : Fld Z h0 o "com/example/hifadhi/hifadhi/project/NotAnalysed" "what" "Ljava/lang/String;" (.ref x1)) (Fr_ : Fld Z h0 o "com/example/hifadhi/hifadhi/project/NotAnalysed" "reason" "Ljava/lang/String;" (.ref x2)) (E1 : Exa Z h0 x1 "java/lang/String") (C1 : Fld Z h0 x1 "java/lang/String" "coder" "B" (.int 0)) (V1 : Fld Z h0 x1 "java/lang/String" "value" "[B" (.ref t1)) (K1 : Arv Z h0 t1 k1 .byte 0 [] (.int 0)) (E2 : Exa Z h0 x2 "java/lang/String") (C2 : Fld Z h0 x2 "java/lang/String" "coder" "B" (.int 0)) (V2 : Fld Z h0 x2 "java/lang/String" "value" "[B" (.ref t2)) (K2 : Arv Z h0 t2 k2 .byte 1 [(.int r0)] (.int 0)) :
  own_Met true l Z n0 consts_1 [] ⟨"com/example/hifadhi/hifadhi/project/NotAnalysed", "message", "()Ljava/lang/String;"⟩ prog_33_method_4_code 1 (some (.object "java/lang/String")) [] (own_R 6 6 39 91) #[(.ref o)] h0 (fun v h => ∃ (b t : Addr) (kt : ClassId), v = some (.ref b) ∧ Exa Z h b "java/lang/String" ∧ Fld Z h b "java/lang/String" "coder" "B" (.int 0) ∧ Fld Z h b "java/lang/String" "value" "[B" (.ref t) ∧ Arv Z h t kt .byte 3 [(.int (58 : Int32)), (.int (32 : Int32)), (.int r0)] (.int 0)) := by
  refine own_ent (a0 := a0) (nm := "message") (Ls := #[.val (.ref o)]) own_pn5 O0 hEL ?_
  intro p e _ m _ below _ _ T0 Q hQ A0
  refine own_newO (q := 3) A0 (H.k 53 rfl) (H.k 54 rfl) (H.k 55 rfl) d9_0 (by decide) (by decide) ?_
  intro T1 h2 a3 g4 g5 A6 E7 X8 D9
  have z10 : o ≠ a3 := Nat.ne_of_lt (Nat.lt_of_lt_of_le Eo.lt (Nat.le_of_eq g4))
  have z11 : x1 ≠ a3 := Nat.ne_of_lt (Nat.lt_of_lt_of_le E1.lt (Nat.le_of_eq g4))
  have z12 : t1 ≠ a3 := Nat.ne_of_lt (Nat.lt_of_lt_of_le K1.lt (Nat.le_of_eq g4))
  have z13 : x2 ≠ a3 := Nat.ne_of_lt (Nat.lt_of_lt_of_le E2.lt (Nat.le_of_eq g4))
  have z14 : t2 ≠ a3 := Nat.ne_of_lt (Nat.lt_of_lt_of_le K2.lt (Nat.le_of_eq g4))
  have f15 := Eo.ext E7
  have f16 := Fw.ext E7
  have f17 := Fr_.ext E7
  have f18 := E1.ext E7
  have f19 := C1.ext E7
  have f20 := V1.ext E7
  have f21 := K1.ext E7
  have f22 := E2.ext E7
  have f23 := C2.ext E7
  have f24 := V2.ext E7
  have f25 := K2.ext E7
  have f26 : Fld Z h2 a3 "java/lang/AbstractStringBuilder" "value" "[B" .null := D9 (Or.inl (H.k 68 rfl)) (ty := (.array .byte)) (by decide)
  have f27 : Fld Z h2 a3 "java/lang/AbstractStringBuilder" "coder" "B" (.int (0 : Int32)) := D9 (Or.inl (H.k 70 rfl)) (ty := .byte) (by decide)
  have f28 : Fld Z h2 a3 "java/lang/AbstractStringBuilder" "count" "I" (.int (0 : Int32)) := D9 (Or.inl (H.k 92 rfl)) (ty := .int) (by decide)
  refine own_dup (q := 4) A6 d9_3 rfl ?_
  refine own_specialN (q := 7) (W := 1) (argsL := []) (rest := [(.ref a3)]) A6 rfl (H.k 56 rfl) (H.k 57 rfl) (H.k 58 rfl) (by decide) (own_payN (rm_sbi a3 A6.old H X8 f26 f27 f28 g5) (fun _ _ q => q.2.1) (H.k 58 rfl) (H.k 55 rfl) (by decide) (by decide)) (by simp) (fun _ _ q => q.2.1) (Nat.le_of_eq rfl) own_pd6 rfl rfl rfl d9_4 (by decide) (by decide) ?_
  rintro v39 T40 h41 A42 ⟨rfl, K29, E30, F31, F32, va33, k34, g35, g36, F37, V38⟩
  show own_Run p e below Q m T40 7 #[.val (.ref o)] [(.ref a3)]
  have A43 := A42 [va33] (fun yy hy => by obtain rfl := List.mem_singleton.mp hy; exact ⟨g36, V38.lt⟩)
  have z44 : o ≠ va33 := Nat.ne_of_lt (Nat.lt_of_lt_of_le f15.lt g36)
  have z45 : x1 ≠ va33 := Nat.ne_of_lt (Nat.lt_of_lt_of_le f18.lt g36)
  have z46 : t1 ≠ va33 := Nat.ne_of_lt (Nat.lt_of_lt_of_le f21.lt g36)
  have z47 : x2 ≠ va33 := Nat.ne_of_lt (Nat.lt_of_lt_of_le f22.lt g36)
  have z48 : t2 ≠ va33 := Nat.ne_of_lt (Nat.lt_of_lt_of_le f25.lt g36)
  have z49 : a3 ≠ va33 := Nat.ne_of_lt (Nat.lt_of_lt_of_le X8.lt g36)
  have f50 := f15.keep K29
  have f51 := f16.keep K29 (ninS z10 nin0)
  have f52 := f17.keep K29 (ninS z10 nin0)
  have f53 := f18.keep K29
  have f54 := f19.keep K29 (ninS z11 nin0)
  have f55 := f20.keep K29 (ninS z11 nin0)
  have f56 := f21.keep K29 (ninS z12 nin0)
  have f57 := f22.keep K29
  have f58 := f23.keep K29 (ninS z13 nin0)
  have f59 := f24.keep K29 (ninS z13 nin0)
  have f60 := f25.keep K29 (ninS z14 nin0)
  refine own_aloadN (q := 8) A43 d9_7 rfl rfl ?_
  refine own_getF (host := "") (q := 11) A43 (Or.inl (H.k 44 rfl)) Via.refl f51 d9_8 ?_
  intro T61 A62
  refine own_virtual (q := 14) (W := 0) (argsL := [(.ref x1)]) (rest := []) A62 (H.k 71 rfl) (H.k 72 rfl) (H.k 74 rfl) (H.k 73 rfl) (by decide) (own_payN (rm_sap a3 va33 k34 0 [(.int (0 : Int32)), (.int (0 : Int32)), (.int (0 : Int32)), (.int (0 : Int32)), (.int (0 : Int32)), (.int (0 : Int32)), (.int (0 : Int32)), (.int (0 : Int32)), (.int (0 : Int32)), (.int (0 : Int32)), (.int (0 : Int32)), (.int (0 : Int32)), (.int (0 : Int32)), (.int (0 : Int32)), (.int (0 : Int32)), (.int (0 : Int32))] x1 t1 k1 0 [] A62.old H E30 F37 F31 F32 V38 g5 g35 f53 f55 f54 f56 (own_apf_mk (by decide) (by decide) (by decide) (by decide) (by decide) (Nat.le_of_ble_eq_true rfl) rfl (by decide)) z49 z11 z12 z45 z46) (fun _ _ q => q.2.1) (H.k 75 rfl) (H.k 55 rfl) (by decide) (by decide)) (by simp) (Nat.le_of_eq rfl) E30 own_pd8 rfl rfl rfl d9_11 (by decide) (by decide) ?_
  rintro v69 T70 h71 A72 ⟨rfl, K63, E64, F65, F66, F67, V68⟩
  show own_Run p e below Q m T70 14 #[.val (.ref o)] [(.ref a3)]
  have F73 : Fld Z h71 a3 "java/lang/AbstractStringBuilder" "count" "I" (.int 0) := by
    have q := F67
    rw [show ((0 : Int32) + (0 : Int32)) = 0 from by decide] at q
    exact q
  have V74 : Arv Z h71 va33 k34 .byte 16 [(.int (0 : Int32)), (.int (0 : Int32)), (.int (0 : Int32)), (.int (0 : Int32)), (.int (0 : Int32)), (.int (0 : Int32)), (.int (0 : Int32)), (.int (0 : Int32)), (.int (0 : Int32)), (.int (0 : Int32)), (.int (0 : Int32)), (.int (0 : Int32)), (.int (0 : Int32)), (.int (0 : Int32)), (.int (0 : Int32)), (.int (0 : Int32))] (.int 0) := V68
  have f75 := f50.keep K63
  have f76 := f51.keep K63 (ninS z10 (ninS z44 nin0))
  have f77 := f52.keep K63 (ninS z10 (ninS z44 nin0))
  have f78 := f57.keep K63
  have f79 := f58.keep K63 (ninS z13 (ninS z47 nin0))
  have f80 := f59.keep K63 (ninS z13 (ninS z47 nin0))
  have f81 := f60.keep K63 (ninS z14 (ninS z48 nin0))
  refine own_ldcR (q := 16) (n := 8) (z := 2) (vs := [(.int (58 : Int32)), (.int (32 : Int32))]) A72 (H.k 118 rfl) (own_satoms H.w) (by decide) ⟨by decide +kernel, by decide +kernel⟩ (by decide) (by decide) d9_14 (by decide) (by decide) (by decide) (by decide) ?_
  intro a82 b83 k84 T85 h86 A87 E88 X89 F90 F91 V92 N93
  have f94 := f75.ext E88
  have f95 := f76.ext E88
  have f96 := f77.ext E88
  have f97 := f78.ext E88
  have f98 := f79.ext E88
  have f99 := f80.ext E88
  have f100 := f81.ext E88
  have f101 := E64.ext E88
  have f102 := F65.ext E88
  have f103 := F66.ext E88
  have f104 := F73.ext E88
  have f105 := V74.ext E88
  refine own_virtual (q := 19) (W := 0) (argsL := [(.ref a82)]) (rest := []) A87 (H.k 71 rfl) (H.k 72 rfl) (H.k 74 rfl) (H.k 73 rfl) (by decide) (own_payN (rm_sap a3 va33 k34 0 [(.int (0 : Int32)), (.int (0 : Int32)), (.int (0 : Int32)), (.int (0 : Int32)), (.int (0 : Int32)), (.int (0 : Int32)), (.int (0 : Int32)), (.int (0 : Int32)), (.int (0 : Int32)), (.int (0 : Int32)), (.int (0 : Int32)), (.int (0 : Int32)), (.int (0 : Int32)), (.int (0 : Int32)), (.int (0 : Int32)), (.int (0 : Int32))] a82 b83 k84 2 [(.int (58 : Int32)), (.int (32 : Int32))] A87.old H f101 f102 f103 f104 f105 g5 g35 X89 F91 F90 V92 (own_apf_mk (by decide) (by decide) (by decide) (by decide) (by decide) (Nat.le_of_ble_eq_true rfl) rfl (by decide)) z49 (Ne.symm (N93 a3 (by simp)).1) (Ne.symm (N93 a3 (by simp)).2) (Ne.symm (N93 va33 (by simp)).1) (Ne.symm (N93 va33 (by simp)).2)) (fun _ _ q => q.2.1) (H.k 75 rfl) (H.k 55 rfl) (by decide) (by decide)) (by simp) (Nat.le_of_eq rfl) f101 own_pd8 rfl rfl rfl d9_16 (by decide) (by decide) ?_
  rintro v112 T113 h114 A115 ⟨rfl, K106, E107, F108, F109, F110, V111⟩
  show own_Run p e below Q m T113 19 #[.val (.ref o)] [(.ref a3)]
  have F116 : Fld Z h114 a3 "java/lang/AbstractStringBuilder" "count" "I" (.int 2) := by
    have q := F110
    rw [show ((0 : Int32) + (2 : Int32)) = 2 from by decide] at q
    exact q
  have V117 : Arv Z h114 va33 k34 .byte 16 [(.int (58 : Int32)), (.int (32 : Int32)), (.int (0 : Int32)), (.int (0 : Int32)), (.int (0 : Int32)), (.int (0 : Int32)), (.int (0 : Int32)), (.int (0 : Int32)), (.int (0 : Int32)), (.int (0 : Int32)), (.int (0 : Int32)), (.int (0 : Int32)), (.int (0 : Int32)), (.int (0 : Int32)), (.int (0 : Int32)), (.int (0 : Int32))] (.int 0) := V111
  have f118 := f94.keep K106
  have f119 := f95.keep K106 (ninS z10 (ninS z44 nin0))
  have f120 := f96.keep K106 (ninS z10 (ninS z44 nin0))
  have f121 := f97.keep K106
  have f122 := f98.keep K106 (ninS z13 (ninS z47 nin0))
  have f123 := f99.keep K106 (ninS z13 (ninS z47 nin0))
  have f124 := f100.keep K106 (ninS z14 (ninS z48 nin0))
  refine own_aloadN (q := 20) A115 d9_19 rfl rfl ?_
  refine own_getF (host := "") (q := 23) A115 (Or.inl (H.k 46 rfl)) Via.refl f120 d9_20 ?_
  intro T125 A126
  refine own_virtual (q := 26) (W := 0) (argsL := [(.ref x2)]) (rest := []) A126 (H.k 71 rfl) (H.k 72 rfl) (H.k 74 rfl) (H.k 73 rfl) (by decide) (own_payN (rm_sap a3 va33 k34 2 [(.int (58 : Int32)), (.int (32 : Int32)), (.int (0 : Int32)), (.int (0 : Int32)), (.int (0 : Int32)), (.int (0 : Int32)), (.int (0 : Int32)), (.int (0 : Int32)), (.int (0 : Int32)), (.int (0 : Int32)), (.int (0 : Int32)), (.int (0 : Int32)), (.int (0 : Int32)), (.int (0 : Int32)), (.int (0 : Int32)), (.int (0 : Int32))] x2 t2 k2 1 [(.int r0)] A126.old H E107 F108 F109 F116 V117 g5 g35 f121 f123 f122 f124 (own_apf_mk (by decide) (by decide) (by decide) (by decide) (by decide) (Nat.le_of_ble_eq_true rfl) rfl (by decide)) z49 z13 z14 z47 z48) (fun _ _ q => q.2.1) (H.k 75 rfl) (H.k 55 rfl) (by decide) (by decide)) (by simp) (Nat.le_of_eq rfl) E107 own_pd8 rfl rfl rfl d9_23 (by decide) (by decide) ?_
  rintro v133 T134 h135 A136 ⟨rfl, K127, E128, F129, F130, F131, V132⟩
  show own_Run p e below Q m T134 26 #[.val (.ref o)] [(.ref a3)]
  have F137 : Fld Z h135 a3 "java/lang/AbstractStringBuilder" "count" "I" (.int 3) := by
    have q := F131
    rw [show ((2 : Int32) + (1 : Int32)) = 3 from by decide] at q
    exact q
  have V138 : Arv Z h135 va33 k34 .byte 16 [(.int (58 : Int32)), (.int (32 : Int32)), (.int r0), (.int (0 : Int32)), (.int (0 : Int32)), (.int (0 : Int32)), (.int (0 : Int32)), (.int (0 : Int32)), (.int (0 : Int32)), (.int (0 : Int32)), (.int (0 : Int32)), (.int (0 : Int32)), (.int (0 : Int32)), (.int (0 : Int32)), (.int (0 : Int32)), (.int (0 : Int32))] (.int 0) := V132
  have f139 := f118.keep K127
  have f140 := f119.keep K127 (ninS z10 (ninS z44 nin0))
  have f141 := f120.keep K127 (ninS z10 (ninS z44 nin0))
  refine own_virtual (q := 29) (W := 0) (argsL := []) (rest := []) A136 (H.k 119 rfl) (H.k 120 rfl) (H.k 122 rfl) (H.k 121 rfl) (by decide) (own_payN (rm_tos3 a3 va33 k34 (58 : Int32) (32 : Int32) r0 [(.int (0 : Int32)), (.int (0 : Int32)), (.int (0 : Int32)), (.int (0 : Int32)), (.int (0 : Int32)), (.int (0 : Int32)), (.int (0 : Int32)), (.int (0 : Int32)), (.int (0 : Int32)), (.int (0 : Int32)), (.int (0 : Int32)), (.int (0 : Int32)), (.int (0 : Int32))] A136.old H E128 F129 F130 F137 V138 g5 g35) (fun _ _ ⟨_, _, _, _, q, _⟩ => q) (H.k 123 rfl) (H.k 55 rfl) (by decide) (by decide)) own_nW (Nat.le_of_eq rfl) E128 own_pd5 rfl rfl rfl d9_26 (by decide) (by decide) ?_
  rintro v146 T147 h148 A149 ⟨a142, t143, k144, rfl, -, q145⟩
  show own_Run p e below Q m T147 29 #[.val (.ref o)] [(.ref a142)]
  exact own_retA A149 hQ rfl rfl rfl d9_29 ⟨a142, t143, k144, rfl, q145⟩
theorem rm_msg02 (o x1 t1 x2 t2 : Addr) (k1 k2 : ClassId) (r0 r1 : Int32) (O0 : Old Z n0 h0) (hEL : EW Z a0 consts_1) (H : own_H Z a0 zc fm) (Eo : Exa Z h0 o "com/example/hifadhi/hifadhi/project/NotAnalysed") (Fw : Fld Z h0 o "com/example/hifadhi/hifadhi/project/NotAnalysed" "what" "Ljava/lang/String;" (.ref x1)) (Fr_ : Fld Z h0 o "com/example/hifadhi/hifadhi/project/NotAnalysed" "reason" "Ljava/lang/String;" (.ref x2)) (E1 : Exa Z h0 x1 "java/lang/String") (C1 : Fld Z h0 x1 "java/lang/String" "coder" "B" (.int 0)) (V1 : Fld Z h0 x1 "java/lang/String" "value" "[B" (.ref t1)) (K1 : Arv Z h0 t1 k1 .byte 0 [] (.int 0)) (E2 : Exa Z h0 x2 "java/lang/String") (C2 : Fld Z h0 x2 "java/lang/String" "coder" "B" (.int 0)) (V2 : Fld Z h0 x2 "java/lang/String" "value" "[B" (.ref t2)) (K2 : Arv Z h0 t2 k2 .byte 2 [(.int r0), (.int r1)] (.int 0)) :
  own_Met true l Z n0 consts_1 [] ⟨"com/example/hifadhi/hifadhi/project/NotAnalysed", "message", "()Ljava/lang/String;"⟩ prog_33_method_4_code 1 (some (.object "java/lang/String")) [] (own_R 6 6 40 91) #[(.ref o)] h0 (fun v h => ∃ (b t : Addr) (kt : ClassId), v = some (.ref b) ∧ Exa Z h b "java/lang/String" ∧ Fld Z h b "java/lang/String" "coder" "B" (.int 0) ∧ Fld Z h b "java/lang/String" "value" "[B" (.ref t) ∧ Arv Z h t kt .byte 4 [(.int (58 : Int32)), (.int (32 : Int32)), (.int r0), (.int r1)] (.int 0)) := by
  refine own_ent (a0 := a0) (nm := "message") (Ls := #[.val (.ref o)]) own_pn5 O0 hEL ?_
  intro p e _ m _ below _ _ T0 Q hQ A0
  refine own_newO (q := 3) A0 (H.k 53 rfl) (H.k 54 rfl) (H.k 55 rfl) d9_0 (by decide) (by decide) ?_
  intro T1 h2 a3 g4 g5 A6 E7 X8 D9
  have z10 : o ≠ a3 := Nat.ne_of_lt (Nat.lt_of_lt_of_le Eo.lt (Nat.le_of_eq g4))
  have z11 : x1 ≠ a3 := Nat.ne_of_lt (Nat.lt_of_lt_of_le E1.lt (Nat.le_of_eq g4))
  have z12 : t1 ≠ a3 := Nat.ne_of_lt (Nat.lt_of_lt_of_le K1.lt (Nat.le_of_eq g4))
  have z13 : x2 ≠ a3 := Nat.ne_of_lt (Nat.lt_of_lt_of_le E2.lt (Nat.le_of_eq g4))
  have z14 : t2 ≠ a3 := Nat.ne_of_lt (Nat.lt_of_lt_of_le K2.lt (Nat.le_of_eq g4))
  have f15 := Eo.ext E7
  have f16 := Fw.ext E7
  have f17 := Fr_.ext E7
  have f18 := E1.ext E7
  have f19 := C1.ext E7
  have f20 := V1.ext E7
  have f21 := K1.ext E7
  have f22 := E2.ext E7
  have f23 := C2.ext E7
  have f24 := V2.ext E7
  have f25 := K2.ext E7
  have f26 : Fld Z h2 a3 "java/lang/AbstractStringBuilder" "value" "[B" .null := D9 (Or.inl (H.k 68 rfl)) (ty := (.array .byte)) (by decide)
  have f27 : Fld Z h2 a3 "java/lang/AbstractStringBuilder" "coder" "B" (.int (0 : Int32)) := D9 (Or.inl (H.k 70 rfl)) (ty := .byte) (by decide)
  have f28 : Fld Z h2 a3 "java/lang/AbstractStringBuilder" "count" "I" (.int (0 : Int32)) := D9 (Or.inl (H.k 92 rfl)) (ty := .int) (by decide)
  refine own_dup (q := 4) A6 d9_3 rfl ?_
  refine own_specialN (q := 7) (W := 1) (argsL := []) (rest := [(.ref a3)]) A6 rfl (H.k 56 rfl) (H.k 57 rfl) (H.k 58 rfl) (by decide) (own_payN (rm_sbi a3 A6.old H X8 f26 f27 f28 g5) (fun _ _ q => q.2.1) (H.k 58 rfl) (H.k 55 rfl) (by decide) (by decide)) (by simp) (fun _ _ q => q.2.1) (Nat.le_of_eq rfl) own_pd6 rfl rfl rfl d9_4 (by decide) (by decide) ?_
  rintro v39 T40 h41 A42 ⟨rfl, K29, E30, F31, F32, va33, k34, g35, g36, F37, V38⟩
  show own_Run p e below Q m T40 7 #[.val (.ref o)] [(.ref a3)]
  have A43 := A42 [va33] (fun yy hy => by obtain rfl := List.mem_singleton.mp hy; exact ⟨g36, V38.lt⟩)
  have z44 : o ≠ va33 := Nat.ne_of_lt (Nat.lt_of_lt_of_le f15.lt g36)
  have z45 : x1 ≠ va33 := Nat.ne_of_lt (Nat.lt_of_lt_of_le f18.lt g36)
  have z46 : t1 ≠ va33 := Nat.ne_of_lt (Nat.lt_of_lt_of_le f21.lt g36)
  have z47 : x2 ≠ va33 := Nat.ne_of_lt (Nat.lt_of_lt_of_le f22.lt g36)
  have z48 : t2 ≠ va33 := Nat.ne_of_lt (Nat.lt_of_lt_of_le f25.lt g36)
  have z49 : a3 ≠ va33 := Nat.ne_of_lt (Nat.lt_of_lt_of_le X8.lt g36)
  have f50 := f15.keep K29
  have f51 := f16.keep K29 (ninS z10 nin0)
  have f52 := f17.keep K29 (ninS z10 nin0)
  have f53 := f18.keep K29
  have f54 := f19.keep K29 (ninS z11 nin0)
  have f55 := f20.keep K29 (ninS z11 nin0)
  have f56 := f21.keep K29 (ninS z12 nin0)
  have f57 := f22.keep K29
  have f58 := f23.keep K29 (ninS z13 nin0)
  have f59 := f24.keep K29 (ninS z13 nin0)
  have f60 := f25.keep K29 (ninS z14 nin0)
  refine own_aloadN (q := 8) A43 d9_7 rfl rfl ?_
  refine own_getF (host := "") (q := 11) A43 (Or.inl (H.k 44 rfl)) Via.refl f51 d9_8 ?_
  intro T61 A62
  refine own_virtual (q := 14) (W := 0) (argsL := [(.ref x1)]) (rest := []) A62 (H.k 71 rfl) (H.k 72 rfl) (H.k 74 rfl) (H.k 73 rfl) (by decide) (own_payN (rm_sap a3 va33 k34 0 [(.int (0 : Int32)), (.int (0 : Int32)), (.int (0 : Int32)), (.int (0 : Int32)), (.int (0 : Int32)), (.int (0 : Int32)), (.int (0 : Int32)), (.int (0 : Int32)), (.int (0 : Int32)), (.int (0 : Int32)), (.int (0 : Int32)), (.int (0 : Int32)), (.int (0 : Int32)), (.int (0 : Int32)), (.int (0 : Int32)), (.int (0 : Int32))] x1 t1 k1 0 [] A62.old H E30 F37 F31 F32 V38 g5 g35 f53 f55 f54 f56 (own_apf_mk (by decide) (by decide) (by decide) (by decide) (by decide) (Nat.le_of_ble_eq_true rfl) rfl (by decide)) z49 z11 z12 z45 z46) (fun _ _ q => q.2.1) (H.k 75 rfl) (H.k 55 rfl) (by decide) (by decide)) (by simp) (Nat.le_of_eq rfl) E30 own_pd8 rfl rfl rfl d9_11 (by decide) (by decide) ?_
  rintro v69 T70 h71 A72 ⟨rfl, K63, E64, F65, F66, F67, V68⟩
  show own_Run p e below Q m T70 14 #[.val (.ref o)] [(.ref a3)]
  have F73 : Fld Z h71 a3 "java/lang/AbstractStringBuilder" "count" "I" (.int 0) := by
    have q := F67
    rw [show ((0 : Int32) + (0 : Int32)) = 0 from by decide] at q
    exact q
  have V74 : Arv Z h71 va33 k34 .byte 16 [(.int (0 : Int32)), (.int (0 : Int32)), (.int (0 : Int32)), (.int (0 : Int32)), (.int (0 : Int32)), (.int (0 : Int32)), (.int (0 : Int32)), (.int (0 : Int32)), (.int (0 : Int32)), (.int (0 : Int32)), (.int (0 : Int32)), (.int (0 : Int32)), (.int (0 : Int32)), (.int (0 : Int32)), (.int (0 : Int32)), (.int (0 : Int32))] (.int 0) := V68
  have f75 := f50.keep K63
  have f76 := f51.keep K63 (ninS z10 (ninS z44 nin0))
  have f77 := f52.keep K63 (ninS z10 (ninS z44 nin0))
  have f78 := f57.keep K63
  have f79 := f58.keep K63 (ninS z13 (ninS z47 nin0))
  have f80 := f59.keep K63 (ninS z13 (ninS z47 nin0))
  have f81 := f60.keep K63 (ninS z14 (ninS z48 nin0))
  refine own_ldcR (q := 16) (n := 8) (z := 2) (vs := [(.int (58 : Int32)), (.int (32 : Int32))]) A72 (H.k 118 rfl) (own_satoms H.w) (by decide) ⟨by decide +kernel, by decide +kernel⟩ (by decide) (by decide) d9_14 (by decide) (by decide) (by decide) (by decide) ?_
  intro a82 b83 k84 T85 h86 A87 E88 X89 F90 F91 V92 N93
  have f94 := f75.ext E88
  have f95 := f76.ext E88
  have f96 := f77.ext E88
  have f97 := f78.ext E88
  have f98 := f79.ext E88
  have f99 := f80.ext E88
  have f100 := f81.ext E88
  have f101 := E64.ext E88
  have f102 := F65.ext E88
  have f103 := F66.ext E88
  have f104 := F73.ext E88
  have f105 := V74.ext E88
  refine own_virtual (q := 19) (W := 0) (argsL := [(.ref a82)]) (rest := []) A87 (H.k 71 rfl) (H.k 72 rfl) (H.k 74 rfl) (H.k 73 rfl) (by decide) (own_payN (rm_sap a3 va33 k34 0 [(.int (0 : Int32)), (.int (0 : Int32)), (.int (0 : Int32)), (.int (0 : Int32)), (.int (0 : Int32)), (.int (0 : Int32)), (.int (0 : Int32)), (.int (0 : Int32)), (.int (0 : Int32)), (.int (0 : Int32)), (.int (0 : Int32)), (.int (0 : Int32)), (.int (0 : Int32)), (.int (0 : Int32)), (.int (0 : Int32)), (.int (0 : Int32))] a82 b83 k84 2 [(.int (58 : Int32)), (.int (32 : Int32))] A87.old H f101 f102 f103 f104 f105 g5 g35 X89 F91 F90 V92 (own_apf_mk (by decide) (by decide) (by decide) (by decide) (by decide) (Nat.le_of_ble_eq_true rfl) rfl (by decide)) z49 (Ne.symm (N93 a3 (by simp)).1) (Ne.symm (N93 a3 (by simp)).2) (Ne.symm (N93 va33 (by simp)).1) (Ne.symm (N93 va33 (by simp)).2)) (fun _ _ q => q.2.1) (H.k 75 rfl) (H.k 55 rfl) (by decide) (by decide)) (by simp) (Nat.le_of_eq rfl) f101 own_pd8 rfl rfl rfl d9_16 (by decide) (by decide) ?_
  rintro v112 T113 h114 A115 ⟨rfl, K106, E107, F108, F109, F110, V111⟩
  show own_Run p e below Q m T113 19 #[.val (.ref o)] [(.ref a3)]
  have F116 : Fld Z h114 a3 "java/lang/AbstractStringBuilder" "count" "I" (.int 2) := by
    have q := F110
    rw [show ((0 : Int32) + (2 : Int32)) = 2 from by decide] at q
    exact q
  have V117 : Arv Z h114 va33 k34 .byte 16 [(.int (58 : Int32)), (.int (32 : Int32)), (.int (0 : Int32)), (.int (0 : Int32)), (.int (0 : Int32)), (.int (0 : Int32)), (.int (0 : Int32)), (.int (0 : Int32)), (.int (0 : Int32)), (.int (0 : Int32)), (.int (0 : Int32)), (.int (0 : Int32)), (.int (0 : Int32)), (.int (0 : Int32)), (.int (0 : Int32)), (.int (0 : Int32))] (.int 0) := V111
  have f118 := f94.keep K106
  have f119 := f95.keep K106 (ninS z10 (ninS z44 nin0))
  have f120 := f96.keep K106 (ninS z10 (ninS z44 nin0))
  have f121 := f97.keep K106
  have f122 := f98.keep K106 (ninS z13 (ninS z47 nin0))
  have f123 := f99.keep K106 (ninS z13 (ninS z47 nin0))
  have f124 := f100.keep K106 (ninS z14 (ninS z48 nin0))
  refine own_aloadN (q := 20) A115 d9_19 rfl rfl ?_
  refine own_getF (host := "") (q := 23) A115 (Or.inl (H.k 46 rfl)) Via.refl f120 d9_20 ?_
  intro T125 A126
  refine own_virtual (q := 26) (W := 0) (argsL := [(.ref x2)]) (rest := []) A126 (H.k 71 rfl) (H.k 72 rfl) (H.k 74 rfl) (H.k 73 rfl) (by decide) (own_payN (rm_sap a3 va33 k34 2 [(.int (58 : Int32)), (.int (32 : Int32)), (.int (0 : Int32)), (.int (0 : Int32)), (.int (0 : Int32)), (.int (0 : Int32)), (.int (0 : Int32)), (.int (0 : Int32)), (.int (0 : Int32)), (.int (0 : Int32)), (.int (0 : Int32)), (.int (0 : Int32)), (.int (0 : Int32)), (.int (0 : Int32)), (.int (0 : Int32)), (.int (0 : Int32))] x2 t2 k2 2 [(.int r0), (.int r1)] A126.old H E107 F108 F109 F116 V117 g5 g35 f121 f123 f122 f124 (own_apf_mk (by decide) (by decide) (by decide) (by decide) (by decide) (Nat.le_of_ble_eq_true rfl) rfl (by decide)) z49 z13 z14 z47 z48) (fun _ _ q => q.2.1) (H.k 75 rfl) (H.k 55 rfl) (by decide) (by decide)) (by simp) (Nat.le_of_eq rfl) E107 own_pd8 rfl rfl rfl d9_23 (by decide) (by decide) ?_
  rintro v133 T134 h135 A136 ⟨rfl, K127, E128, F129, F130, F131, V132⟩
  show own_Run p e below Q m T134 26 #[.val (.ref o)] [(.ref a3)]
  have F137 : Fld Z h135 a3 "java/lang/AbstractStringBuilder" "count" "I" (.int 4) := by
    have q := F131
    rw [show ((2 : Int32) + (2 : Int32)) = 4 from by decide] at q
    exact q
  have V138 : Arv Z h135 va33 k34 .byte 16 [(.int (58 : Int32)), (.int (32 : Int32)), (.int r0), (.int r1), (.int (0 : Int32)), (.int (0 : Int32)), (.int (0 : Int32)), (.int (0 : Int32)), (.int (0 : Int32)), (.int (0 : Int32)), (.int (0 : Int32)), (.int (0 : Int32)), (.int (0 : Int32)), (.int (0 : Int32)), (.int (0 : Int32)), (.int (0 : Int32))] (.int 0) := V132
  have f139 := f118.keep K127
  have f140 := f119.keep K127 (ninS z10 (ninS z44 nin0))
  have f141 := f120.keep K127 (ninS z10 (ninS z44 nin0))
  refine own_virtual (q := 29) (W := 0) (argsL := []) (rest := []) A136 (H.k 119 rfl) (H.k 120 rfl) (H.k 122 rfl) (H.k 121 rfl) (by decide) (own_payN (rm_tos4 a3 va33 k34 (58 : Int32) (32 : Int32) r0 r1 [(.int (0 : Int32)), (.int (0 : Int32)), (.int (0 : Int32)), (.int (0 : Int32)), (.int (0 : Int32)), (.int (0 : Int32)), (.int (0 : Int32)), (.int (0 : Int32)), (.int (0 : Int32)), (.int (0 : Int32)), (.int (0 : Int32)), (.int (0 : Int32))] A136.old H E128 F129 F130 F137 V138 g5 g35) (fun _ _ ⟨_, _, _, _, q, _⟩ => q) (H.k 123 rfl) (H.k 55 rfl) (by decide) (by decide)) own_nW (Nat.le_of_eq rfl) E128 own_pd5 rfl rfl rfl d9_26 (by decide) (by decide) ?_
  rintro v146 T147 h148 A149 ⟨a142, t143, k144, rfl, -, q145⟩
  show own_Run p e below Q m T147 29 #[.val (.ref o)] [(.ref a142)]
  exact own_retA A149 hQ rfl rfl rfl d9_29 ⟨a142, t143, k144, rfl, q145⟩
theorem rm_msg10 (o x1 t1 x2 t2 : Addr) (k1 k2 : ClassId) (p0 : Int32) (O0 : Old Z n0 h0) (hEL : EW Z a0 consts_1) (H : own_H Z a0 zc fm) (Eo : Exa Z h0 o "com/example/hifadhi/hifadhi/project/NotAnalysed") (Fw : Fld Z h0 o "com/example/hifadhi/hifadhi/project/NotAnalysed" "what" "Ljava/lang/String;" (.ref x1)) (Fr_ : Fld Z h0 o "com/example/hifadhi/hifadhi/project/NotAnalysed" "reason" "Ljava/lang/String;" (.ref x2)) (E1 : Exa Z h0 x1 "java/lang/String") (C1 : Fld Z h0 x1 "java/lang/String" "coder" "B" (.int 0)) (V1 : Fld Z h0 x1 "java/lang/String" "value" "[B" (.ref t1)) (K1 : Arv Z h0 t1 k1 .byte 1 [(.int p0)] (.int 0)) (E2 : Exa Z h0 x2 "java/lang/String") (C2 : Fld Z h0 x2 "java/lang/String" "coder" "B" (.int 0)) (V2 : Fld Z h0 x2 "java/lang/String" "value" "[B" (.ref t2)) (K2 : Arv Z h0 t2 k2 .byte 0 [] (.int 0)) :
  own_Met true l Z n0 consts_1 [] ⟨"com/example/hifadhi/hifadhi/project/NotAnalysed", "message", "()Ljava/lang/String;"⟩ prog_33_method_4_code 1 (some (.object "java/lang/String")) [] (own_R 6 6 39 91) #[(.ref o)] h0 (fun v h => ∃ (b t : Addr) (kt : ClassId), v = some (.ref b) ∧ Exa Z h b "java/lang/String" ∧ Fld Z h b "java/lang/String" "coder" "B" (.int 0) ∧ Fld Z h b "java/lang/String" "value" "[B" (.ref t) ∧ Arv Z h t kt .byte 3 [(.int p0), (.int (58 : Int32)), (.int (32 : Int32))] (.int 0)) := by
  refine own_ent (a0 := a0) (nm := "message") (Ls := #[.val (.ref o)]) own_pn5 O0 hEL ?_
  intro p e _ m _ below _ _ T0 Q hQ A0
  refine own_newO (q := 3) A0 (H.k 53 rfl) (H.k 54 rfl) (H.k 55 rfl) d9_0 (by decide) (by decide) ?_
  intro T1 h2 a3 g4 g5 A6 E7 X8 D9
  have z10 : o ≠ a3 := Nat.ne_of_lt (Nat.lt_of_lt_of_le Eo.lt (Nat.le_of_eq g4))
  have z11 : x1 ≠ a3 := Nat.ne_of_lt (Nat.lt_of_lt_of_le E1.lt (Nat.le_of_eq g4))
  have z12 : t1 ≠ a3 := Nat.ne_of_lt (Nat.lt_of_lt_of_le K1.lt (Nat.le_of_eq g4))
  have z13 : x2 ≠ a3 := Nat.ne_of_lt (Nat.lt_of_lt_of_le E2.lt (Nat.le_of_eq g4))
  have z14 : t2 ≠ a3 := Nat.ne_of_lt (Nat.lt_of_lt_of_le K2.lt (Nat.le_of_eq g4))
  have f15 := Eo.ext E7
  have f16 := Fw.ext E7
  have f17 := Fr_.ext E7
  have f18 := E1.ext E7
  have f19 := C1.ext E7
  have f20 := V1.ext E7
  have f21 := K1.ext E7
  have f22 := E2.ext E7
  have f23 := C2.ext E7
  have f24 := V2.ext E7
  have f25 := K2.ext E7
  have f26 : Fld Z h2 a3 "java/lang/AbstractStringBuilder" "value" "[B" .null := D9 (Or.inl (H.k 68 rfl)) (ty := (.array .byte)) (by decide)
  have f27 : Fld Z h2 a3 "java/lang/AbstractStringBuilder" "coder" "B" (.int (0 : Int32)) := D9 (Or.inl (H.k 70 rfl)) (ty := .byte) (by decide)
  have f28 : Fld Z h2 a3 "java/lang/AbstractStringBuilder" "count" "I" (.int (0 : Int32)) := D9 (Or.inl (H.k 92 rfl)) (ty := .int) (by decide)
  refine own_dup (q := 4) A6 d9_3 rfl ?_
  refine own_specialN (q := 7) (W := 1) (argsL := []) (rest := [(.ref a3)]) A6 rfl (H.k 56 rfl) (H.k 57 rfl) (H.k 58 rfl) (by decide) (own_payN (rm_sbi a3 A6.old H X8 f26 f27 f28 g5) (fun _ _ q => q.2.1) (H.k 58 rfl) (H.k 55 rfl) (by decide) (by decide)) (by simp) (fun _ _ q => q.2.1) (Nat.le_of_eq rfl) own_pd6 rfl rfl rfl d9_4 (by decide) (by decide) ?_
  rintro v39 T40 h41 A42 ⟨rfl, K29, E30, F31, F32, va33, k34, g35, g36, F37, V38⟩
  show own_Run p e below Q m T40 7 #[.val (.ref o)] [(.ref a3)]
  have A43 := A42 [va33] (fun yy hy => by obtain rfl := List.mem_singleton.mp hy; exact ⟨g36, V38.lt⟩)
  have z44 : o ≠ va33 := Nat.ne_of_lt (Nat.lt_of_lt_of_le f15.lt g36)
  have z45 : x1 ≠ va33 := Nat.ne_of_lt (Nat.lt_of_lt_of_le f18.lt g36)
  have z46 : t1 ≠ va33 := Nat.ne_of_lt (Nat.lt_of_lt_of_le f21.lt g36)
  have z47 : x2 ≠ va33 := Nat.ne_of_lt (Nat.lt_of_lt_of_le f22.lt g36)
  have z48 : t2 ≠ va33 := Nat.ne_of_lt (Nat.lt_of_lt_of_le f25.lt g36)
  have z49 : a3 ≠ va33 := Nat.ne_of_lt (Nat.lt_of_lt_of_le X8.lt g36)
  have f50 := f15.keep K29
  have f51 := f16.keep K29 (ninS z10 nin0)
  have f52 := f17.keep K29 (ninS z10 nin0)
  have f53 := f18.keep K29
  have f54 := f19.keep K29 (ninS z11 nin0)
  have f55 := f20.keep K29 (ninS z11 nin0)
  have f56 := f21.keep K29 (ninS z12 nin0)
  have f57 := f22.keep K29
  have f58 := f23.keep K29 (ninS z13 nin0)
  have f59 := f24.keep K29 (ninS z13 nin0)
  have f60 := f25.keep K29 (ninS z14 nin0)
  refine own_aloadN (q := 8) A43 d9_7 rfl rfl ?_
  refine own_getF (host := "") (q := 11) A43 (Or.inl (H.k 44 rfl)) Via.refl f51 d9_8 ?_
  intro T61 A62
  refine own_virtual (q := 14) (W := 0) (argsL := [(.ref x1)]) (rest := []) A62 (H.k 71 rfl) (H.k 72 rfl) (H.k 74 rfl) (H.k 73 rfl) (by decide) (own_payN (rm_sap a3 va33 k34 0 [(.int (0 : Int32)), (.int (0 : Int32)), (.int (0 : Int32)), (.int (0 : Int32)), (.int (0 : Int32)), (.int (0 : Int32)), (.int (0 : Int32)), (.int (0 : Int32)), (.int (0 : Int32)), (.int (0 : Int32)), (.int (0 : Int32)), (.int (0 : Int32)), (.int (0 : Int32)), (.int (0 : Int32)), (.int (0 : Int32)), (.int (0 : Int32))] x1 t1 k1 1 [(.int p0)] A62.old H E30 F37 F31 F32 V38 g5 g35 f53 f55 f54 f56 (own_apf_mk (by decide) (by decide) (by decide) (by decide) (by decide) (Nat.le_of_ble_eq_true rfl) rfl (by decide)) z49 z11 z12 z45 z46) (fun _ _ q => q.2.1) (H.k 75 rfl) (H.k 55 rfl) (by decide) (by decide)) (by simp) (Nat.le_of_eq rfl) E30 own_pd8 rfl rfl rfl d9_11 (by decide) (by decide) ?_
  rintro v69 T70 h71 A72 ⟨rfl, K63, E64, F65, F66, F67, V68⟩
  show own_Run p e below Q m T70 14 #[.val (.ref o)] [(.ref a3)]
  have F73 : Fld Z h71 a3 "java/lang/AbstractStringBuilder" "count" "I" (.int 1) := by
    have q := F67
    rw [show ((0 : Int32) + (1 : Int32)) = 1 from by decide] at q
    exact q
  have V74 : Arv Z h71 va33 k34 .byte 16 [(.int p0), (.int (0 : Int32)), (.int (0 : Int32)), (.int (0 : Int32)), (.int (0 : Int32)), (.int (0 : Int32)), (.int (0 : Int32)), (.int (0 : Int32)), (.int (0 : Int32)), (.int (0 : Int32)), (.int (0 : Int32)), (.int (0 : Int32)), (.int (0 : Int32)), (.int (0 : Int32)), (.int (0 : Int32)), (.int (0 : Int32))] (.int 0) := V68
  have f75 := f50.keep K63
  have f76 := f51.keep K63 (ninS z10 (ninS z44 nin0))
  have f77 := f52.keep K63 (ninS z10 (ninS z44 nin0))
  have f78 := f57.keep K63
  have f79 := f58.keep K63 (ninS z13 (ninS z47 nin0))
  have f80 := f59.keep K63 (ninS z13 (ninS z47 nin0))
  have f81 := f60.keep K63 (ninS z14 (ninS z48 nin0))
  refine own_ldcR (q := 16) (n := 8) (z := 2) (vs := [(.int (58 : Int32)), (.int (32 : Int32))]) A72 (H.k 118 rfl) (own_satoms H.w) (by decide) ⟨by decide +kernel, by decide +kernel⟩ (by decide) (by decide) d9_14 (by decide) (by decide) (by decide) (by decide) ?_
  intro a82 b83 k84 T85 h86 A87 E88 X89 F90 F91 V92 N93
  have f94 := f75.ext E88
  have f95 := f76.ext E88
  have f96 := f77.ext E88
  have f97 := f78.ext E88
  have f98 := f79.ext E88
  have f99 := f80.ext E88
  have f100 := f81.ext E88
  have f101 := E64.ext E88
  have f102 := F65.ext E88
  have f103 := F66.ext E88
  have f104 := F73.ext E88
  have f105 := V74.ext E88
  refine own_virtual (q := 19) (W := 0) (argsL := [(.ref a82)]) (rest := []) A87 (H.k 71 rfl) (H.k 72 rfl) (H.k 74 rfl) (H.k 73 rfl) (by decide) (own_payN (rm_sap a3 va33 k34 1 [(.int p0), (.int (0 : Int32)), (.int (0 : Int32)), (.int (0 : Int32)), (.int (0 : Int32)), (.int (0 : Int32)), (.int (0 : Int32)), (.int (0 : Int32)), (.int (0 : Int32)), (.int (0 : Int32)), (.int (0 : Int32)), (.int (0 : Int32)), (.int (0 : Int32)), (.int (0 : Int32)), (.int (0 : Int32)), (.int (0 : Int32))] a82 b83 k84 2 [(.int (58 : Int32)), (.int (32 : Int32))] A87.old H f101 f102 f103 f104 f105 g5 g35 X89 F91 F90 V92 (own_apf_mk (by decide) (by decide) (by decide) (by decide) (by decide) (Nat.le_of_ble_eq_true rfl) rfl (by decide)) z49 (Ne.symm (N93 a3 (by simp)).1) (Ne.symm (N93 a3 (by simp)).2) (Ne.symm (N93 va33 (by simp)).1) (Ne.symm (N93 va33 (by simp)).2)) (fun _ _ q => q.2.1) (H.k 75 rfl) (H.k 55 rfl) (by decide) (by decide)) (by simp) (Nat.le_of_eq rfl) f101 own_pd8 rfl rfl rfl d9_16 (by decide) (by decide) ?_
  rintro v112 T113 h114 A115 ⟨rfl, K106, E107, F108, F109, F110, V111⟩
  show own_Run p e below Q m T113 19 #[.val (.ref o)] [(.ref a3)]
  have F116 : Fld Z h114 a3 "java/lang/AbstractStringBuilder" "count" "I" (.int 3) := by
    have q := F110
    rw [show ((1 : Int32) + (2 : Int32)) = 3 from by decide] at q
    exact q
  have V117 : Arv Z h114 va33 k34 .byte 16 [(.int p0), (.int (58 : Int32)), (.int (32 : Int32)), (.int (0 : Int32)), (.int (0 : Int32)), (.int (0 : Int32)), (.int (0 : Int32)), (.int (0 : Int32)), (.int (0 : Int32)), (.int (0 : Int32)), (.int (0 : Int32)), (.int (0 : Int32)), (.int (0 : Int32)), (.int (0 : Int32)), (.int (0 : Int32)), (.int (0 : Int32))] (.int 0) := V111
  have f118 := f94.keep K106
  have f119 := f95.keep K106 (ninS z10 (ninS z44 nin0))
  have f120 := f96.keep K106 (ninS z10 (ninS z44 nin0))
  have f121 := f97.keep K106
  have f122 := f98.keep K106 (ninS z13 (ninS z47 nin0))
  have f123 := f99.keep K106 (ninS z13 (ninS z47 nin0))
  have f124 := f100.keep K106 (ninS z14 (ninS z48 nin0))
  refine own_aloadN (q := 20) A115 d9_19 rfl rfl ?_
  refine own_getF (host := "") (q := 23) A115 (Or.inl (H.k 46 rfl)) Via.refl f120 d9_20 ?_
  intro T125 A126
  refine own_virtual (q := 26) (W := 0) (argsL := [(.ref x2)]) (rest := []) A126 (H.k 71 rfl) (H.k 72 rfl) (H.k 74 rfl) (H.k 73 rfl) (by decide) (own_payN (rm_sap a3 va33 k34 3 [(.int p0), (.int (58 : Int32)), (.int (32 : Int32)), (.int (0 : Int32)), (.int (0 : Int32)), (.int (0 : Int32)), (.int (0 : Int32)), (.int (0 : Int32)), (.int (0 : Int32)), (.int (0 : Int32)), (.int (0 : Int32)), (.int (0 : Int32)), (.int (0 : Int32)), (.int (0 : Int32)), (.int (0 : Int32)), (.int (0 : Int32))] x2 t2 k2 0 [] A126.old H E107 F108 F109 F116 V117 g5 g35 f121 f123 f122 f124 (own_apf_mk (by decide) (by decide) (by decide) (by decide) (by decide) (Nat.le_of_ble_eq_true rfl) rfl (by decide)) z49 z13 z14 z47 z48) (fun _ _ q => q.2.1) (H.k 75 rfl) (H.k 55 rfl) (by decide) (by decide)) (by simp) (Nat.le_of_eq rfl) E107 own_pd8 rfl rfl rfl d9_23 (by decide) (by decide) ?_
  rintro v133 T134 h135 A136 ⟨rfl, K127, E128, F129, F130, F131, V132⟩
  show own_Run p e below Q m T134 26 #[.val (.ref o)] [(.ref a3)]
  have F137 : Fld Z h135 a3 "java/lang/AbstractStringBuilder" "count" "I" (.int 3) := by
    have q := F131
    rw [show ((3 : Int32) + (0 : Int32)) = 3 from by decide] at q
    exact q
  have V138 : Arv Z h135 va33 k34 .byte 16 [(.int p0), (.int (58 : Int32)), (.int (32 : Int32)), (.int (0 : Int32)), (.int (0 : Int32)), (.int (0 : Int32)), (.int (0 : Int32)), (.int (0 : Int32)), (.int (0 : Int32)), (.int (0 : Int32)), (.int (0 : Int32)), (.int (0 : Int32)), (.int (0 : Int32)), (.int (0 : Int32)), (.int (0 : Int32)), (.int (0 : Int32))] (.int 0) := V132
  have f139 := f118.keep K127
  have f140 := f119.keep K127 (ninS z10 (ninS z44 nin0))
  have f141 := f120.keep K127 (ninS z10 (ninS z44 nin0))
  refine own_virtual (q := 29) (W := 0) (argsL := []) (rest := []) A136 (H.k 119 rfl) (H.k 120 rfl) (H.k 122 rfl) (H.k 121 rfl) (by decide) (own_payN (rm_tos3 a3 va33 k34 p0 (58 : Int32) (32 : Int32) [(.int (0 : Int32)), (.int (0 : Int32)), (.int (0 : Int32)), (.int (0 : Int32)), (.int (0 : Int32)), (.int (0 : Int32)), (.int (0 : Int32)), (.int (0 : Int32)), (.int (0 : Int32)), (.int (0 : Int32)), (.int (0 : Int32)), (.int (0 : Int32)), (.int (0 : Int32))] A136.old H E128 F129 F130 F137 V138 g5 g35) (fun _ _ ⟨_, _, _, _, q, _⟩ => q) (H.k 123 rfl) (H.k 55 rfl) (by decide) (by decide)) own_nW (Nat.le_of_eq rfl) E128 own_pd5 rfl rfl rfl d9_26 (by decide) (by decide) ?_
  rintro v146 T147 h148 A149 ⟨a142, t143, k144, rfl, -, q145⟩
  show own_Run p e below Q m T147 29 #[.val (.ref o)] [(.ref a142)]
  exact own_retA A149 hQ rfl rfl rfl d9_29 ⟨a142, t143, k144, rfl, q145⟩
theorem rm_msg11 (o x1 t1 x2 t2 : Addr) (k1 k2 : ClassId) (p0 r0 : Int32) (O0 : Old Z n0 h0) (hEL : EW Z a0 consts_1) (H : own_H Z a0 zc fm) (Eo : Exa Z h0 o "com/example/hifadhi/hifadhi/project/NotAnalysed") (Fw : Fld Z h0 o "com/example/hifadhi/hifadhi/project/NotAnalysed" "what" "Ljava/lang/String;" (.ref x1)) (Fr_ : Fld Z h0 o "com/example/hifadhi/hifadhi/project/NotAnalysed" "reason" "Ljava/lang/String;" (.ref x2)) (E1 : Exa Z h0 x1 "java/lang/String") (C1 : Fld Z h0 x1 "java/lang/String" "coder" "B" (.int 0)) (V1 : Fld Z h0 x1 "java/lang/String" "value" "[B" (.ref t1)) (K1 : Arv Z h0 t1 k1 .byte 1 [(.int p0)] (.int 0)) (E2 : Exa Z h0 x2 "java/lang/String") (C2 : Fld Z h0 x2 "java/lang/String" "coder" "B" (.int 0)) (V2 : Fld Z h0 x2 "java/lang/String" "value" "[B" (.ref t2)) (K2 : Arv Z h0 t2 k2 .byte 1 [(.int r0)] (.int 0)) :
  own_Met true l Z n0 consts_1 [] ⟨"com/example/hifadhi/hifadhi/project/NotAnalysed", "message", "()Ljava/lang/String;"⟩ prog_33_method_4_code 1 (some (.object "java/lang/String")) [] (own_R 6 6 40 91) #[(.ref o)] h0 (fun v h => ∃ (b t : Addr) (kt : ClassId), v = some (.ref b) ∧ Exa Z h b "java/lang/String" ∧ Fld Z h b "java/lang/String" "coder" "B" (.int 0) ∧ Fld Z h b "java/lang/String" "value" "[B" (.ref t) ∧ Arv Z h t kt .byte 4 [(.int p0), (.int (58 : Int32)), (.int (32 : Int32)), (.int r0)] (.int 0)) := by
  refine own_ent (a0 := a0) (nm := "message") (Ls := #[.val (.ref o)]) own_pn5 O0 hEL ?_
  intro p e _ m _ below _ _ T0 Q hQ A0
  refine own_newO (q := 3) A0 (H.k 53 rfl) (H.k 54 rfl) (H.k 55 rfl) d9_0 (by decide) (by decide) ?_
  intro T1 h2 a3 g4 g5 A6 E7 X8 D9
  have z10 : o ≠ a3 := Nat.ne_of_lt (Nat.lt_of_lt_of_le Eo.lt (Nat.le_of_eq g4))
  have z11 : x1 ≠ a3 := Nat.ne_of_lt (Nat.lt_of_lt_of_le E1.lt (Nat.le_of_eq g4))
  have z12 : t1 ≠ a3 := Nat.ne_of_lt (Nat.lt_of_lt_of_le K1.lt (Nat.le_of_eq g4))
  have z13 : x2 ≠ a3 := Nat.ne_of_lt (Nat.lt_of_lt_of_le E2.lt (Nat.le_of_eq g4))
  have z14 : t2 ≠ a3 := Nat.ne_of_lt (Nat.lt_of_lt_of_le K2.lt (Nat.le_of_eq g4))
  have f15 := Eo.ext E7
  have f16 := Fw.ext E7
  have f17 := Fr_.ext E7
  have f18 := E1.ext E7
  have f19 := C1.ext E7
  have f20 := V1.ext E7
  have f21 := K1.ext E7
  have f22 := E2.ext E7
  have f23 := C2.ext E7
  have f24 := V2.ext E7
  have f25 := K2.ext E7
  have f26 : Fld Z h2 a3 "java/lang/AbstractStringBuilder" "value" "[B" .null := D9 (Or.inl (H.k 68 rfl)) (ty := (.array .byte)) (by decide)
  have f27 : Fld Z h2 a3 "java/lang/AbstractStringBuilder" "coder" "B" (.int (0 : Int32)) := D9 (Or.inl (H.k 70 rfl)) (ty := .byte) (by decide)
  have f28 : Fld Z h2 a3 "java/lang/AbstractStringBuilder" "count" "I" (.int (0 : Int32)) := D9 (Or.inl (H.k 92 rfl)) (ty := .int) (by decide)
  refine own_dup (q := 4) A6 d9_3 rfl ?_
  refine own_specialN (q := 7) (W := 1) (argsL := []) (rest := [(.ref a3)]) A6 rfl (H.k 56 rfl) (H.k 57 rfl) (H.k 58 rfl) (by decide) (own_payN (rm_sbi a3 A6.old H X8 f26 f27 f28 g5) (fun _ _ q => q.2.1) (H.k 58 rfl) (H.k 55 rfl) (by decide) (by decide)) (by simp) (fun _ _ q => q.2.1) (Nat.le_of_eq rfl) own_pd6 rfl rfl rfl d9_4 (by decide) (by decide) ?_
  rintro v39 T40 h41 A42 ⟨rfl, K29, E30, F31, F32, va33, k34, g35, g36, F37, V38⟩
  show own_Run p e below Q m T40 7 #[.val (.ref o)] [(.ref a3)]
  have A43 := A42 [va33] (fun yy hy => by obtain rfl := List.mem_singleton.mp hy; exact ⟨g36, V38.lt⟩)
  have z44 : o ≠ va33 := Nat.ne_of_lt (Nat.lt_of_lt_of_le f15.lt g36)
  have z45 : x1 ≠ va33 := Nat.ne_of_lt (Nat.lt_of_lt_of_le f18.lt g36)
  have z46 : t1 ≠ va33 := Nat.ne_of_lt (Nat.lt_of_lt_of_le f21.lt g36)
  have z47 : x2 ≠ va33 := Nat.ne_of_lt (Nat.lt_of_lt_of_le f22.lt g36)
  have z48 : t2 ≠ va33 := Nat.ne_of_lt (Nat.lt_of_lt_of_le f25.lt g36)
  have z49 : a3 ≠ va33 := Nat.ne_of_lt (Nat.lt_of_lt_of_le X8.lt g36)
  have f50 := f15.keep K29
  have f51 := f16.keep K29 (ninS z10 nin0)
  have f52 := f17.keep K29 (ninS z10 nin0)
  have f53 := f18.keep K29
  have f54 := f19.keep K29 (ninS z11 nin0)
  have f55 := f20.keep K29 (ninS z11 nin0)
  have f56 := f21.keep K29 (ninS z12 nin0)
  have f57 := f22.keep K29
  have f58 := f23.keep K29 (ninS z13 nin0)
  have f59 := f24.keep K29 (ninS z13 nin0)
  have f60 := f25.keep K29 (ninS z14 nin0)
  refine own_aloadN (q := 8) A43 d9_7 rfl rfl ?_
  refine own_getF (host := "") (q := 11) A43 (Or.inl (H.k 44 rfl)) Via.refl f51 d9_8 ?_
  intro T61 A62
  refine own_virtual (q := 14) (W := 0) (argsL := [(.ref x1)]) (rest := []) A62 (H.k 71 rfl) (H.k 72 rfl) (H.k 74 rfl) (H.k 73 rfl) (by decide) (own_payN (rm_sap a3 va33 k34 0 [(.int (0 : Int32)), (.int (0 : Int32)), (.int (0 : Int32)), (.int (0 : Int32)), (.int (0 : Int32)), (.int (0 : Int32)), (.int (0 : Int32)), (.int (0 : Int32)), (.int (0 : Int32)), (.int (0 : Int32)), (.int (0 : Int32)), (.int (0 : Int32)), (.int (0 : Int32)), (.int (0 : Int32)), (.int (0 : Int32)), (.int (0 : Int32))] x1 t1 k1 1 [(.int p0)] A62.old H E30 F37 F31 F32 V38 g5 g35 f53 f55 f54 f56 (own_apf_mk (by decide) (by decide) (by decide) (by decide) (by decide) (Nat.le_of_ble_eq_true rfl) rfl (by decide)) z49 z11 z12 z45 z46) (fun _ _ q => q.2.1) (H.k 75 rfl) (H.k 55 rfl) (by decide) (by decide)) (by simp) (Nat.le_of_eq rfl) E30 own_pd8 rfl rfl rfl d9_11 (by decide) (by decide) ?_
  rintro v69 T70 h71 A72 ⟨rfl, K63, E64, F65, F66, F67, V68⟩
  show own_Run p e below Q m T70 14 #[.val (.ref o)] [(.ref a3)]
  have F73 : Fld Z h71 a3 "java/lang/AbstractStringBuilder" "count" "I" (.int 1) := by
    have q := F67
    rw [show ((0 : Int32) + (1 : Int32)) = 1 from by decide] at q
    exact q
  have V74 : Arv Z h71 va33 k34 .byte 16 [(.int p0), (.int (0 : Int32)), (.int (0 : Int32)), (.int (0 : Int32)), (.int (0 : Int32)), (.int (0 : Int32)), (.int (0 : Int32)), (.int (0 : Int32)), (.int (0 : Int32)), (.int (0 : Int32)), (.int (0 : Int32)), (.int (0 : Int32)), (.int (0 : Int32)), (.int (0 : Int32)), (.int (0 : Int32)), (.int (0 : Int32))] (.int 0) := V68
  have f75 := f50.keep K63
  have f76 := f51.keep K63 (ninS z10 (ninS z44 nin0))
  have f77 := f52.keep K63 (ninS z10 (ninS z44 nin0))
  have f78 := f57.keep K63
  have f79 := f58.keep K63 (ninS z13 (ninS z47 nin0))
  have f80 := f59.keep K63 (ninS z13 (ninS z47 nin0))
  have f81 := f60.keep K63 (ninS z14 (ninS z48 nin0))
  refine own_ldcR (q := 16) (n := 8) (z := 2) (vs := [(.int (58 : Int32)), (.int (32 : Int32))]) A72 (H.k 118 rfl) (own_satoms H.w) (by decide) ⟨by decide +kernel, by decide +kernel⟩ (by decide) (by decide) d9_14 (by decide) (by decide) (by decide) (by decide) ?_
  intro a82 b83 k84 T85 h86 A87 E88 X89 F90 F91 V92 N93
  have f94 := f75.ext E88
  have f95 := f76.ext E88
  have f96 := f77.ext E88
  have f97 := f78.ext E88
  have f98 := f79.ext E88
  have f99 := f80.ext E88
  have f100 := f81.ext E88
  have f101 := E64.ext E88
  have f102 := F65.ext E88
  have f103 := F66.ext E88
  have f104 := F73.ext E88
  have f105 := V74.ext E88
  refine own_virtual (q := 19) (W := 0) (argsL := [(.ref a82)]) (rest := []) A87 (H.k 71 rfl) (H.k 72 rfl) (H.k 74 rfl) (H.k 73 rfl) (by decide) (own_payN (rm_sap a3 va33 k34 1 [(.int p0), (.int (0 : Int32)), (.int (0 : Int32)), (.int (0 : Int32)), (.int (0 : Int32)), (.int (0 : Int32)), (.int (0 : Int32)), (.int (0 : Int32)), (.int (0 : Int32)), (.int (0 : Int32)), (.int (0 : Int32)), (.int (0 : Int32)), (.int (0 : Int32)), (.int (0 : Int32)), (.int (0 : Int32)), (.int (0 : Int32))] a82 b83 k84 2 [(.int (58 : Int32)), (.int (32 : Int32))] A87.old H f101 f102 f103 f104 f105 g5 g35 X89 F91 F90 V92 (own_apf_mk (by decide) (by decide) (by decide) (by decide) (by decide) (Nat.le_of_ble_eq_true rfl) rfl (by decide)) z49 (Ne.symm (N93 a3 (by simp)).1) (Ne.symm (N93 a3 (by simp)).2) (Ne.symm (N93 va33 (by simp)).1) (Ne.symm (N93 va33 (by simp)).2)) (fun _ _ q => q.2.1) (H.k 75 rfl) (H.k 55 rfl) (by decide) (by decide)) (by simp) (Nat.le_of_eq rfl) f101 own_pd8 rfl rfl rfl d9_16 (by decide) (by decide) ?_
  rintro v112 T113 h114 A115 ⟨rfl, K106, E107, F108, F109, F110, V111⟩
  show own_Run p e below Q m T113 19 #[.val (.ref o)] [(.ref a3)]
  have F116 : Fld Z h114 a3 "java/lang/AbstractStringBuilder" "count" "I" (.int 3) := by
    have q := F110
    rw [show ((1 : Int32) + (2 : Int32)) = 3 from by decide] at q
    exact q
  have V117 : Arv Z h114 va33 k34 .byte 16 [(.int p0), (.int (58 : Int32)), (.int (32 : Int32)), (.int (0 : Int32)), (.int (0 : Int32)), (.int (0 : Int32)), (.int (0 : Int32)), (.int (0 : Int32)), (.int (0 : Int32)), (.int (0 : Int32)), (.int (0 : Int32)), (.int (0 : Int32)), (.int (0 : Int32)), (.int (0 : Int32)), (.int (0 : Int32)), (.int (0 : Int32))] (.int 0) := V111
  have f118 := f94.keep K106
  have f119 := f95.keep K106 (ninS z10 (ninS z44 nin0))
  have f120 := f96.keep K106 (ninS z10 (ninS z44 nin0))
  have f121 := f97.keep K106
  have f122 := f98.keep K106 (ninS z13 (ninS z47 nin0))
  have f123 := f99.keep K106 (ninS z13 (ninS z47 nin0))
  have f124 := f100.keep K106 (ninS z14 (ninS z48 nin0))
  refine own_aloadN (q := 20) A115 d9_19 rfl rfl ?_
  refine own_getF (host := "") (q := 23) A115 (Or.inl (H.k 46 rfl)) Via.refl f120 d9_20 ?_
  intro T125 A126
  refine own_virtual (q := 26) (W := 0) (argsL := [(.ref x2)]) (rest := []) A126 (H.k 71 rfl) (H.k 72 rfl) (H.k 74 rfl) (H.k 73 rfl) (by decide) (own_payN (rm_sap a3 va33 k34 3 [(.int p0), (.int (58 : Int32)), (.int (32 : Int32)), (.int (0 : Int32)), (.int (0 : Int32)), (.int (0 : Int32)), (.int (0 : Int32)), (.int (0 : Int32)), (.int (0 : Int32)), (.int (0 : Int32)), (.int (0 : Int32)), (.int (0 : Int32)), (.int (0 : Int32)), (.int (0 : Int32)), (.int (0 : Int32)), (.int (0 : Int32))] x2 t2 k2 1 [(.int r0)] A126.old H E107 F108 F109 F116 V117 g5 g35 f121 f123 f122 f124 (own_apf_mk (by decide) (by decide) (by decide) (by decide) (by decide) (Nat.le_of_ble_eq_true rfl) rfl (by decide)) z49 z13 z14 z47 z48) (fun _ _ q => q.2.1) (H.k 75 rfl) (H.k 55 rfl) (by decide) (by decide)) (by simp) (Nat.le_of_eq rfl) E107 own_pd8 rfl rfl rfl d9_23 (by decide) (by decide) ?_
  rintro v133 T134 h135 A136 ⟨rfl, K127, E128, F129, F130, F131, V132⟩
  show own_Run p e below Q m T134 26 #[.val (.ref o)] [(.ref a3)]
  have F137 : Fld Z h135 a3 "java/lang/AbstractStringBuilder" "count" "I" (.int 4) := by
    have q := F131
    rw [show ((3 : Int32) + (1 : Int32)) = 4 from by decide] at q
    exact q
  have V138 : Arv Z h135 va33 k34 .byte 16 [(.int p0), (.int (58 : Int32)), (.int (32 : Int32)), (.int r0), (.int (0 : Int32)), (.int (0 : Int32)), (.int (0 : Int32)), (.int (0 : Int32)), (.int (0 : Int32)), (.int (0 : Int32)), (.int (0 : Int32)), (.int (0 : Int32)), (.int (0 : Int32)), (.int (0 : Int32)), (.int (0 : Int32)), (.int (0 : Int32))] (.int 0) := V132
  have f139 := f118.keep K127
  have f140 := f119.keep K127 (ninS z10 (ninS z44 nin0))
  have f141 := f120.keep K127 (ninS z10 (ninS z44 nin0))
  refine own_virtual (q := 29) (W := 0) (argsL := []) (rest := []) A136 (H.k 119 rfl) (H.k 120 rfl) (H.k 122 rfl) (H.k 121 rfl) (by decide) (own_payN (rm_tos4 a3 va33 k34 p0 (58 : Int32) (32 : Int32) r0 [(.int (0 : Int32)), (.int (0 : Int32)), (.int (0 : Int32)), (.int (0 : Int32)), (.int (0 : Int32)), (.int (0 : Int32)), (.int (0 : Int32)), (.int (0 : Int32)), (.int (0 : Int32)), (.int (0 : Int32)), (.int (0 : Int32)), (.int (0 : Int32))] A136.old H E128 F129 F130 F137 V138 g5 g35) (fun _ _ ⟨_, _, _, _, q, _⟩ => q) (H.k 123 rfl) (H.k 55 rfl) (by decide) (by decide)) own_nW (Nat.le_of_eq rfl) E128 own_pd5 rfl rfl rfl d9_26 (by decide) (by decide) ?_
  rintro v146 T147 h148 A149 ⟨a142, t143, k144, rfl, -, q145⟩
  show own_Run p e below Q m T147 29 #[.val (.ref o)] [(.ref a142)]
  exact own_retA A149 hQ rfl rfl rfl d9_29 ⟨a142, t143, k144, rfl, q145⟩
theorem rm_msg12 (o x1 t1 x2 t2 : Addr) (k1 k2 : ClassId) (p0 r0 r1 : Int32) (O0 : Old Z n0 h0) (hEL : EW Z a0 consts_1) (H : own_H Z a0 zc fm) (Eo : Exa Z h0 o "com/example/hifadhi/hifadhi/project/NotAnalysed") (Fw : Fld Z h0 o "com/example/hifadhi/hifadhi/project/NotAnalysed" "what" "Ljava/lang/String;" (.ref x1)) (Fr_ : Fld Z h0 o "com/example/hifadhi/hifadhi/project/NotAnalysed" "reason" "Ljava/lang/String;" (.ref x2)) (E1 : Exa Z h0 x1 "java/lang/String") (C1 : Fld Z h0 x1 "java/lang/String" "coder" "B" (.int 0)) (V1 : Fld Z h0 x1 "java/lang/String" "value" "[B" (.ref t1)) (K1 : Arv Z h0 t1 k1 .byte 1 [(.int p0)] (.int 0)) (E2 : Exa Z h0 x2 "java/lang/String") (C2 : Fld Z h0 x2 "java/lang/String" "coder" "B" (.int 0)) (V2 : Fld Z h0 x2 "java/lang/String" "value" "[B" (.ref t2)) (K2 : Arv Z h0 t2 k2 .byte 2 [(.int r0), (.int r1)] (.int 0)) :
  own_Met true l Z n0 consts_1 [] ⟨"com/example/hifadhi/hifadhi/project/NotAnalysed", "message", "()Ljava/lang/String;"⟩ prog_33_method_4_code 1 (some (.object "java/lang/String")) [] (own_R 6 6 41 91) #[(.ref o)] h0 (fun v h => ∃ (b t : Addr) (kt : ClassId), v = some (.ref b) ∧ Exa Z h b "java/lang/String" ∧ Fld Z h b "java/lang/String" "coder" "B" (.int 0) ∧ Fld Z h b "java/lang/String" "value" "[B" (.ref t) ∧ Arv Z h t kt .byte 5 [(.int p0), (.int (58 : Int32)), (.int (32 : Int32)), (.int r0), (.int r1)] (.int 0)) := by
  refine own_ent (a0 := a0) (nm := "message") (Ls := #[.val (.ref o)]) own_pn5 O0 hEL ?_
  intro p e _ m _ below _ _ T0 Q hQ A0
  refine own_newO (q := 3) A0 (H.k 53 rfl) (H.k 54 rfl) (H.k 55 rfl) d9_0 (by decide) (by decide) ?_
  intro T1 h2 a3 g4 g5 A6 E7 X8 D9
  have z10 : o ≠ a3 := Nat.ne_of_lt (Nat.lt_of_lt_of_le Eo.lt (Nat.le_of_eq g4))
  have z11 : x1 ≠ a3 := Nat.ne_of_lt (Nat.lt_of_lt_of_le E1.lt (Nat.le_of_eq g4))
  have z12 : t1 ≠ a3 := Nat.ne_of_lt (Nat.lt_of_lt_of_le K1.lt (Nat.le_of_eq g4))
  have z13 : x2 ≠ a3 := Nat.ne_of_lt (Nat.lt_of_lt_of_le E2.lt (Nat.le_of_eq g4))
  have z14 : t2 ≠ a3 := Nat.ne_of_lt (Nat.lt_of_lt_of_le K2.lt (Nat.le_of_eq g4))
  have f15 := Eo.ext E7
  have f16 := Fw.ext E7
  have f17 := Fr_.ext E7
  have f18 := E1.ext E7
  have f19 := C1.ext E7
  have f20 := V1.ext E7
  have f21 := K1.ext E7
  have f22 := E2.ext E7
  have f23 := C2.ext E7
  have f24 := V2.ext E7
  have f25 := K2.ext E7
  have f26 : Fld Z h2 a3 "java/lang/AbstractStringBuilder" "value" "[B" .null := D9 (Or.inl (H.k 68 rfl)) (ty := (.array .byte)) (by decide)
  have f27 : Fld Z h2 a3 "java/lang/AbstractStringBuilder" "coder" "B" (.int (0 : Int32)) := D9 (Or.inl (H.k 70 rfl)) (ty := .byte) (by decide)
  have f28 : Fld Z h2 a3 "java/lang/AbstractStringBuilder" "count" "I" (.int (0 : Int32)) := D9 (Or.inl (H.k 92 rfl)) (ty := .int) (by decide)
  refine own_dup (q := 4) A6 d9_3 rfl ?_
  refine own_specialN (q := 7) (W := 1) (argsL := []) (rest := [(.ref a3)]) A6 rfl (H.k 56 rfl) (H.k 57 rfl) (H.k 58 rfl) (by decide) (own_payN (rm_sbi a3 A6.old H X8 f26 f27 f28 g5) (fun _ _ q => q.2.1) (H.k 58 rfl) (H.k 55 rfl) (by decide) (by decide)) (by simp) (fun _ _ q => q.2.1) (Nat.le_of_eq rfl) own_pd6 rfl rfl rfl d9_4 (by decide) (by decide) ?_
  rintro v39 T40 h41 A42 ⟨rfl, K29, E30, F31, F32, va33, k34, g35, g36, F37, V38⟩
  show own_Run p e below Q m T40 7 #[.val (.ref o)] [(.ref a3)]
  have A43 := A42 [va33] (fun yy hy => by obtain rfl := List.mem_singleton.mp hy; exact ⟨g36, V38.lt⟩)
  have z44 : o ≠ va33 := Nat.ne_of_lt (Nat.lt_of_lt_of_le f15.lt g36)
  have z45 : x1 ≠ va33 := Nat.ne_of_lt (Nat.lt_of_lt_of_le f18.lt g36)
  have z46 : t1 ≠ va33 := Nat.ne_of_lt (Nat.lt_of_lt_of_le f21.lt g36)
  have z47 : x2 ≠ va33 := Nat.ne_of_lt (Nat.lt_of_lt_of_le f22.lt g36)
  have z48 : t2 ≠ va33 := Nat.ne_of_lt (Nat.lt_of_lt_of_le f25.lt g36)
  have z49 : a3 ≠ va33 := Nat.ne_of_lt (Nat.lt_of_lt_of_le X8.lt g36)
  have f50 := f15.keep K29
  have f51 := f16.keep K29 (ninS z10 nin0)
  have f52 := f17.keep K29 (ninS z10 nin0)
  have f53 := f18.keep K29
  have f54 := f19.keep K29 (ninS z11 nin0)
  have f55 := f20.keep K29 (ninS z11 nin0)
  have f56 := f21.keep K29 (ninS z12 nin0)
  have f57 := f22.keep K29
  have f58 := f23.keep K29 (ninS z13 nin0)
  have f59 := f24.keep K29 (ninS z13 nin0)
  have f60 := f25.keep K29 (ninS z14 nin0)
  refine own_aloadN (q := 8) A43 d9_7 rfl rfl ?_
  refine own_getF (host := "") (q := 11) A43 (Or.inl (H.k 44 rfl)) Via.refl f51 d9_8 ?_
  intro T61 A62
  refine own_virtual (q := 14) (W := 0) (argsL := [(.ref x1)]) (rest := []) A62 (H.k 71 rfl) (H.k 72 rfl) (H.k 74 rfl) (H.k 73 rfl) (by decide) (own_payN (rm_sap a3 va33 k34 0 [(.int (0 : Int32)), (.int (0 : Int32)), (.int (0 : Int32)), (.int (0 : Int32)), (.int (0 : Int32)), (.int (0 : Int32)), (.int (0 : Int32)), (.int (0 : Int32)), (.int (0 : Int32)), (.int (0 : Int32)), (.int (0 : Int32)), (.int (0 : Int32)), (.int (0 : Int32)), (.int (0 : Int32)), (.int (0 : Int32)), (.int (0 : Int32))] x1 t1 k1 1 [(.int p0)] A62.old H E30 F37 F31 F32 V38 g5 g35 f53 f55 f54 f56 (own_apf_mk (by decide) (by decide) (by decide) (by decide) (by decide) (Nat.le_of_ble_eq_true rfl) rfl (by decide)) z49 z11 z12 z45 z46) (fun _ _ q => q.2.1) (H.k 75 rfl) (H.k 55 rfl) (by decide) (by decide)) (by simp) (Nat.le_of_eq rfl) E30 own_pd8 rfl rfl rfl d9_11 (by decide) (by decide) ?_
  rintro v69 T70 h71 A72 ⟨rfl, K63, E64, F65, F66, F67, V68⟩
  show own_Run p e below Q m T70 14 #[.val (.ref o)] [(.ref a3)]
  have F73 : Fld Z h71 a3 "java/lang/AbstractStringBuilder" "count" "I" (.int 1) := by
    have q := F67
    rw [show ((0 : Int32) + (1 : Int32)) = 1 from by decide] at q
    exact q
  have V74 : Arv Z h71 va33 k34 .byte 16 [(.int p0), (.int (0 : Int32)), (.int (0 : Int32)), (.int (0 : Int32)), (.int (0 : Int32)), (.int (0 : Int32)), (.int (0 : Int32)), (.int (0 : Int32)), (.int (0 : Int32)), (.int (0 : Int32)), (.int (0 : Int32)), (.int (0 : Int32)), (.int (0 : Int32)), (.int (0 : Int32)), (.int (0 : Int32)), (.int (0 : Int32))] (.int 0) := V68
  have f75 := f50.keep K63
  have f76 := f51.keep K63 (ninS z10 (ninS z44 nin0))
  have f77 := f52.keep K63 (ninS z10 (ninS z44 nin0))
  have f78 := f57.keep K63
  have f79 := f58.keep K63 (ninS z13 (ninS z47 nin0))
  have f80 := f59.keep K63 (ninS z13 (ninS z47 nin0))
  have f81 := f60.keep K63 (ninS z14 (ninS z48 nin0))
  refine own_ldcR (q := 16) (n := 8) (z := 2) (vs := [(.int (58 : Int32)), (.int (32 : Int32))]) A72 (H.k 118 rfl) (own_satoms H.w) (by decide) ⟨by decide +kernel, by decide +kernel⟩ (by decide) (by decide) d9_14 (by decide) (by decide) (by decide) (by decide) ?_
  intro a82 b83 k84 T85 h86 A87 E88 X89 F90 F91 V92 N93
  have f94 := f75.ext E88
  have f95 := f76.ext E88
  have f96 := f77.ext E88
  have f97 := f78.ext E88
  have f98 := f79.ext E88
  have f99 := f80.ext E88
  have f100 := f81.ext E88
  have f101 := E64.ext E88
  have f102 := F65.ext E88
  have f103 := F66.ext E88
  have f104 := F73.ext E88
  have f105 := V74.ext E88
  refine own_virtual (q := 19) (W := 0) (argsL := [(.ref a82)]) (rest := []) A87 (H.k 71 rfl) (H.k 72 rfl) (H.k 74 rfl) (H.k 73 rfl) (by decide) (own_payN (rm_sap a3 va33 k34 1 [(.int p0), (.int (0 : Int32)), (.int (0 : Int32)), (.int (0 : Int32)), (.int (0 : Int32)), (.int (0 : Int32)), (.int (0 : Int32)), (.int (0 : Int32)), (.int (0 : Int32)), (.int (0 : Int32)), (.int (0 : Int32)), (.int (0 : Int32)), (.int (0 : Int32)), (.int (0 : Int32)), (.int (0 : Int32)), (.int (0 : Int32))] a82 b83 k84 2 [(.int (58 : Int32)), (.int (32 : Int32))] A87.old H f101 f102 f103 f104 f105 g5 g35 X89 F91 F90 V92 (own_apf_mk (by decide) (by decide) (by decide) (by decide) (by decide) (Nat.le_of_ble_eq_true rfl) rfl (by decide)) z49 (Ne.symm (N93 a3 (by simp)).1) (Ne.symm (N93 a3 (by simp)).2) (Ne.symm (N93 va33 (by simp)).1) (Ne.symm (N93 va33 (by simp)).2)) (fun _ _ q => q.2.1) (H.k 75 rfl) (H.k 55 rfl) (by decide) (by decide)) (by simp) (Nat.le_of_eq rfl) f101 own_pd8 rfl rfl rfl d9_16 (by decide) (by decide) ?_
  rintro v112 T113 h114 A115 ⟨rfl, K106, E107, F108, F109, F110, V111⟩
  show own_Run p e below Q m T113 19 #[.val (.ref o)] [(.ref a3)]
  have F116 : Fld Z h114 a3 "java/lang/AbstractStringBuilder" "count" "I" (.int 3) := by
    have q := F110
    rw [show ((1 : Int32) + (2 : Int32)) = 3 from by decide] at q
    exact q
  have V117 : Arv Z h114 va33 k34 .byte 16 [(.int p0), (.int (58 : Int32)), (.int (32 : Int32)), (.int (0 : Int32)), (.int (0 : Int32)), (.int (0 : Int32)), (.int (0 : Int32)), (.int (0 : Int32)), (.int (0 : Int32)), (.int (0 : Int32)), (.int (0 : Int32)), (.int (0 : Int32)), (.int (0 : Int32)), (.int (0 : Int32)), (.int (0 : Int32)), (.int (0 : Int32))] (.int 0) := V111
  have f118 := f94.keep K106
  have f119 := f95.keep K106 (ninS z10 (ninS z44 nin0))
  have f120 := f96.keep K106 (ninS z10 (ninS z44 nin0))
  have f121 := f97.keep K106
  have f122 := f98.keep K106 (ninS z13 (ninS z47 nin0))
  have f123 := f99.keep K106 (ninS z13 (ninS z47 nin0))
  have f124 := f100.keep K106 (ninS z14 (ninS z48 nin0))
  refine own_aloadN (q := 20) A115 d9_19 rfl rfl ?_
  refine own_getF (host := "") (q := 23) A115 (Or.inl (H.k 46 rfl)) Via.refl f120 d9_20 ?_
  intro T125 A126
  refine own_virtual (q := 26) (W := 0) (argsL := [(.ref x2)]) (rest := []) A126 (H.k 71 rfl) (H.k 72 rfl) (H.k 74 rfl) (H.k 73 rfl) (by decide) (own_payN (rm_sap a3 va33 k34 3 [(.int p0), (.int (58 : Int32)), (.int (32 : Int32)), (.int (0 : Int32)), (.int (0 : Int32)), (.int (0 : Int32)), (.int (0 : Int32)), (.int (0 : Int32)), (.int (0 : Int32)), (.int (0 : Int32)), (.int (0 : Int32)), (.int (0 : Int32)), (.int (0 : Int32)), (.int (0 : Int32)), (.int (0 : Int32)), (.int (0 : Int32))] x2 t2 k2 2 [(.int r0), (.int r1)] A126.old H E107 F108 F109 F116 V117 g5 g35 f121 f123 f122 f124 (own_apf_mk (by decide) (by decide) (by decide) (by decide) (by decide) (Nat.le_of_ble_eq_true rfl) rfl (by decide)) z49 z13 z14 z47 z48) (fun _ _ q => q.2.1) (H.k 75 rfl) (H.k 55 rfl) (by decide) (by decide)) (by simp) (Nat.le_of_eq rfl) E107 own_pd8 rfl rfl rfl d9_23 (by decide) (by decide) ?_
  rintro v133 T134 h135 A136 ⟨rfl, K127, E128, F129, F130, F131, V132⟩
  show own_Run p e below Q m T134 26 #[.val (.ref o)] [(.ref a3)]
  have F137 : Fld Z h135 a3 "java/lang/AbstractStringBuilder" "count" "I" (.int 5) := by
    have q := F131
    rw [show ((3 : Int32) + (2 : Int32)) = 5 from by decide] at q
    exact q
  have V138 : Arv Z h135 va33 k34 .byte 16 [(.int p0), (.int (58 : Int32)), (.int (32 : Int32)), (.int r0), (.int r1), (.int (0 : Int32)), (.int (0 : Int32)), (.int (0 : Int32)), (.int (0 : Int32)), (.int (0 : Int32)), (.int (0 : Int32)), (.int (0 : Int32)), (.int (0 : Int32)), (.int (0 : Int32)), (.int (0 : Int32)), (.int (0 : Int32))] (.int 0) := V132
  have f139 := f118.keep K127
  have f140 := f119.keep K127 (ninS z10 (ninS z44 nin0))
  have f141 := f120.keep K127 (ninS z10 (ninS z44 nin0))
  refine own_virtual (q := 29) (W := 0) (argsL := []) (rest := []) A136 (H.k 119 rfl) (H.k 120 rfl) (H.k 122 rfl) (H.k 121 rfl) (by decide) (own_payN (rm_tos5 a3 va33 k34 p0 (58 : Int32) (32 : Int32) r0 r1 [(.int (0 : Int32)), (.int (0 : Int32)), (.int (0 : Int32)), (.int (0 : Int32)), (.int (0 : Int32)), (.int (0 : Int32)), (.int (0 : Int32)), (.int (0 : Int32)), (.int (0 : Int32)), (.int (0 : Int32)), (.int (0 : Int32))] A136.old H E128 F129 F130 F137 V138 g5 g35) (fun _ _ ⟨_, _, _, _, q, _⟩ => q) (H.k 123 rfl) (H.k 55 rfl) (by decide) (by decide)) own_nW (Nat.le_of_eq rfl) E128 own_pd5 rfl rfl rfl d9_26 (by decide) (by decide) ?_
  rintro v146 T147 h148 A149 ⟨a142, t143, k144, rfl, -, q145⟩
  show own_Run p e below Q m T147 29 #[.val (.ref o)] [(.ref a142)]
  exact own_retA A149 hQ rfl rfl rfl d9_29 ⟨a142, t143, k144, rfl, q145⟩
theorem rm_msg20 (o x1 t1 x2 t2 : Addr) (k1 k2 : ClassId) (p0 p1 : Int32) (O0 : Old Z n0 h0) (hEL : EW Z a0 consts_1) (H : own_H Z a0 zc fm) (Eo : Exa Z h0 o "com/example/hifadhi/hifadhi/project/NotAnalysed") (Fw : Fld Z h0 o "com/example/hifadhi/hifadhi/project/NotAnalysed" "what" "Ljava/lang/String;" (.ref x1)) (Fr_ : Fld Z h0 o "com/example/hifadhi/hifadhi/project/NotAnalysed" "reason" "Ljava/lang/String;" (.ref x2)) (E1 : Exa Z h0 x1 "java/lang/String") (C1 : Fld Z h0 x1 "java/lang/String" "coder" "B" (.int 0)) (V1 : Fld Z h0 x1 "java/lang/String" "value" "[B" (.ref t1)) (K1 : Arv Z h0 t1 k1 .byte 2 [(.int p0), (.int p1)] (.int 0)) (E2 : Exa Z h0 x2 "java/lang/String") (C2 : Fld Z h0 x2 "java/lang/String" "coder" "B" (.int 0)) (V2 : Fld Z h0 x2 "java/lang/String" "value" "[B" (.ref t2)) (K2 : Arv Z h0 t2 k2 .byte 0 [] (.int 0)) :
  own_Met true l Z n0 consts_1 [] ⟨"com/example/hifadhi/hifadhi/project/NotAnalysed", "message", "()Ljava/lang/String;"⟩ prog_33_method_4_code 1 (some (.object "java/lang/String")) [] (own_R 6 6 40 91) #[(.ref o)] h0 (fun v h => ∃ (b t : Addr) (kt : ClassId), v = some (.ref b) ∧ Exa Z h b "java/lang/String" ∧ Fld Z h b "java/lang/String" "coder" "B" (.int 0) ∧ Fld Z h b "java/lang/String" "value" "[B" (.ref t) ∧ Arv Z h t kt .byte 4 [(.int p0), (.int p1), (.int (58 : Int32)), (.int (32 : Int32))] (.int 0)) := by
  refine own_ent (a0 := a0) (nm := "message") (Ls := #[.val (.ref o)]) own_pn5 O0 hEL ?_
  intro p e _ m _ below _ _ T0 Q hQ A0
  refine own_newO (q := 3) A0 (H.k 53 rfl) (H.k 54 rfl) (H.k 55 rfl) d9_0 (by decide) (by decide) ?_
  intro T1 h2 a3 g4 g5 A6 E7 X8 D9
  have z10 : o ≠ a3 := Nat.ne_of_lt (Nat.lt_of_lt_of_le Eo.lt (Nat.le_of_eq g4))
  have z11 : x1 ≠ a3 := Nat.ne_of_lt (Nat.lt_of_lt_of_le E1.lt (Nat.le_of_eq g4))
  have z12 : t1 ≠ a3 := Nat.ne_of_lt (Nat.lt_of_lt_of_le K1.lt (Nat.le_of_eq g4))
  have z13 : x2 ≠ a3 := Nat.ne_of_lt (Nat.lt_of_lt_of_le E2.lt (Nat.le_of_eq g4))
  have z14 : t2 ≠ a3 := Nat.ne_of_lt (Nat.lt_of_lt_of_le K2.lt (Nat.le_of_eq g4))
  have f15 := Eo.ext E7
  have f16 := Fw.ext E7
  have f17 := Fr_.ext E7
  have f18 := E1.ext E7
  have f19 := C1.ext E7
  have f20 := V1.ext E7
  have f21 := K1.ext E7
  have f22 := E2.ext E7
  have f23 := C2.ext E7
  have f24 := V2.ext E7
  have f25 := K2.ext E7
  have f26 : Fld Z h2 a3 "java/lang/AbstractStringBuilder" "value" "[B" .null := D9 (Or.inl (H.k 68 rfl)) (ty := (.array .byte)) (by decide)
  have f27 : Fld Z h2 a3 "java/lang/AbstractStringBuilder" "coder" "B" (.int (0 : Int32)) := D9 (Or.inl (H.k 70 rfl)) (ty := .byte) (by decide)
  have f28 : Fld Z h2 a3 "java/lang/AbstractStringBuilder" "count" "I" (.int (0 : Int32)) := D9 (Or.inl (H.k 92 rfl)) (ty := .int) (by decide)
  refine own_dup (q := 4) A6 d9_3 rfl ?_
  refine own_specialN (q := 7) (W := 1) (argsL := []) (rest := [(.ref a3)]) A6 rfl (H.k 56 rfl) (H.k 57 rfl) (H.k 58 rfl) (by decide) (own_payN (rm_sbi a3 A6.old H X8 f26 f27 f28 g5) (fun _ _ q => q.2.1) (H.k 58 rfl) (H.k 55 rfl) (by decide) (by decide)) (by simp) (fun _ _ q => q.2.1) (Nat.le_of_eq rfl) own_pd6 rfl rfl rfl d9_4 (by decide) (by decide) ?_
  rintro v39 T40 h41 A42 ⟨rfl, K29, E30, F31, F32, va33, k34, g35, g36, F37, V38⟩
  show own_Run p e below Q m T40 7 #[.val (.ref o)] [(.ref a3)]
  have A43 := A42 [va33] (fun yy hy => by obtain rfl := List.mem_singleton.mp hy; exact ⟨g36, V38.lt⟩)
  have z44 : o ≠ va33 := Nat.ne_of_lt (Nat.lt_of_lt_of_le f15.lt g36)
  have z45 : x1 ≠ va33 := Nat.ne_of_lt (Nat.lt_of_lt_of_le f18.lt g36)
  have z46 : t1 ≠ va33 := Nat.ne_of_lt (Nat.lt_of_lt_of_le f21.lt g36)
  have z47 : x2 ≠ va33 := Nat.ne_of_lt (Nat.lt_of_lt_of_le f22.lt g36)
  have z48 : t2 ≠ va33 := Nat.ne_of_lt (Nat.lt_of_lt_of_le f25.lt g36)
  have z49 : a3 ≠ va33 := Nat.ne_of_lt (Nat.lt_of_lt_of_le X8.lt g36)
  have f50 := f15.keep K29
  have f51 := f16.keep K29 (ninS z10 nin0)
  have f52 := f17.keep K29 (ninS z10 nin0)
  have f53 := f18.keep K29
  have f54 := f19.keep K29 (ninS z11 nin0)
  have f55 := f20.keep K29 (ninS z11 nin0)
  have f56 := f21.keep K29 (ninS z12 nin0)
  have f57 := f22.keep K29
  have f58 := f23.keep K29 (ninS z13 nin0)
  have f59 := f24.keep K29 (ninS z13 nin0)
  have f60 := f25.keep K29 (ninS z14 nin0)
  refine own_aloadN (q := 8) A43 d9_7 rfl rfl ?_
  refine own_getF (host := "") (q := 11) A43 (Or.inl (H.k 44 rfl)) Via.refl f51 d9_8 ?_
  intro T61 A62
  refine own_virtual (q := 14) (W := 0) (argsL := [(.ref x1)]) (rest := []) A62 (H.k 71 rfl) (H.k 72 rfl) (H.k 74 rfl) (H.k 73 rfl) (by decide) (own_payN (rm_sap a3 va33 k34 0 [(.int (0 : Int32)), (.int (0 : Int32)), (.int (0 : Int32)), (.int (0 : Int32)), (.int (0 : Int32)), (.int (0 : Int32)), (.int (0 : Int32)), (.int (0 : Int32)), (.int (0 : Int32)), (.int (0 : Int32)), (.int (0 : Int32)), (.int (0 : Int32)), (.int (0 : Int32)), (.int (0 : Int32)), (.int (0 : Int32)), (.int (0 : Int32))] x1 t1 k1 2 [(.int p0), (.int p1)] A62.old H E30 F37 F31 F32 V38 g5 g35 f53 f55 f54 f56 (own_apf_mk (by decide) (by decide) (by decide) (by decide) (by decide) (Nat.le_of_ble_eq_true rfl) rfl (by decide)) z49 z11 z12 z45 z46) (fun _ _ q => q.2.1) (H.k 75 rfl) (H.k 55 rfl) (by decide) (by decide)) (by simp) (Nat.le_of_eq rfl) E30 own_pd8 rfl rfl rfl d9_11 (by decide) (by decide) ?_
  rintro v69 T70 h71 A72 ⟨rfl, K63, E64, F65, F66, F67, V68⟩
  show own_Run p e below Q m T70 14 #[.val (.ref o)] [(.ref a3)]
  have F73 : Fld Z h71 a3 "java/lang/AbstractStringBuilder" "count" "I" (.int 2) := by
    have q := F67
    rw [show ((0 : Int32) + (2 : Int32)) = 2 from by decide] at q
    exact q
  have V74 : Arv Z h71 va33 k34 .byte 16 [(.int p0), (.int p1), (.int (0 : Int32)), (.int (0 : Int32)), (.int (0 : Int32)), (.int (0 : Int32)), (.int (0 : Int32)), (.int (0 : Int32)), (.int (0 : Int32)), (.int (0 : Int32)), (.int (0 : Int32)), (.int (0 : Int32)), (.int (0 : Int32)), (.int (0 : Int32)), (.int (0 : Int32)), (.int (0 : Int32))] (.int 0) := V68
  have f75 := f50.keep K63
  have f76 := f51.keep K63 (ninS z10 (ninS z44 nin0))
  have f77 := f52.keep K63 (ninS z10 (ninS z44 nin0))
  have f78 := f57.keep K63
  have f79 := f58.keep K63 (ninS z13 (ninS z47 nin0))
  have f80 := f59.keep K63 (ninS z13 (ninS z47 nin0))
  have f81 := f60.keep K63 (ninS z14 (ninS z48 nin0))
  refine own_ldcR (q := 16) (n := 8) (z := 2) (vs := [(.int (58 : Int32)), (.int (32 : Int32))]) A72 (H.k 118 rfl) (own_satoms H.w) (by decide) ⟨by decide +kernel, by decide +kernel⟩ (by decide) (by decide) d9_14 (by decide) (by decide) (by decide) (by decide) ?_
  intro a82 b83 k84 T85 h86 A87 E88 X89 F90 F91 V92 N93
  have f94 := f75.ext E88
  have f95 := f76.ext E88
  have f96 := f77.ext E88
  have f97 := f78.ext E88
  have f98 := f79.ext E88
  have f99 := f80.ext E88
  have f100 := f81.ext E88
  have f101 := E64.ext E88
  have f102 := F65.ext E88
  have f103 := F66.ext E88
  have f104 := F73.ext E88
  have f105 := V74.ext E88
  refine own_virtual (q := 19) (W := 0) (argsL := [(.ref a82)]) (rest := []) A87 (H.k 71 rfl) (H.k 72 rfl) (H.k 74 rfl) (H.k 73 rfl) (by decide) (own_payN (rm_sap a3 va33 k34 2 [(.int p0), (.int p1), (.int (0 : Int32)), (.int (0 : Int32)), (.int (0 : Int32)), (.int (0 : Int32)), (.int (0 : Int32)), (.int (0 : Int32)), (.int (0 : Int32)), (.int (0 : Int32)), (.int (0 : Int32)), (.int (0 : Int32)), (.int (0 : Int32)), (.int (0 : Int32)), (.int (0 : Int32)), (.int (0 : Int32))] a82 b83 k84 2 [(.int (58 : Int32)), (.int (32 : Int32))] A87.old H f101 f102 f103 f104 f105 g5 g35 X89 F91 F90 V92 (own_apf_mk (by decide) (by decide) (by decide) (by decide) (by decide) (Nat.le_of_ble_eq_true rfl) rfl (by decide)) z49 (Ne.symm (N93 a3 (by simp)).1) (Ne.symm (N93 a3 (by simp)).2) (Ne.symm (N93 va33 (by simp)).1) (Ne.symm (N93 va33 (by simp)).2)) (fun _ _ q => q.2.1) (H.k 75 rfl) (H.k 55 rfl) (by decide) (by decide)) (by simp) (Nat.le_of_eq rfl) f101 own_pd8 rfl rfl rfl d9_16 (by decide) (by decide) ?_
  rintro v112 T113 h114 A115 ⟨rfl, K106, E107, F108, F109, F110, V111⟩
  show own_Run p e below Q m T113 19 #[.val (.ref o)] [(.ref a3)]
  have F116 : Fld Z h114 a3 "java/lang/AbstractStringBuilder" "count" "I" (.int 4) := by
    have q := F110
    rw [show ((2 : Int32) + (2 : Int32)) = 4 from by decide] at q
    exact q
  have V117 : Arv Z h114 va33 k34 .byte 16 [(.int p0), (.int p1), (.int (58 : Int32)), (.int (32 : Int32)), (.int (0 : Int32)), (.int (0 : Int32)), (.int (0 : Int32)), (.int (0 : Int32)), (.int (0 : Int32)), (.int (0 : Int32)), (.int (0 : Int32)), (.int (0 : Int32)), (.int (0 : Int32)), (.int (0 : Int32)), (.int (0 : Int32)), (.int (0 : Int32))] (.int 0) := V111
  have f118 := f94.keep K106
  have f119 := f95.keep K106 (ninS z10 (ninS z44 nin0))
  have f120 := f96.keep K106 (ninS z10 (ninS z44 nin0))
  have f121 := f97.keep K106
  have f122 := f98.keep K106 (ninS z13 (ninS z47 nin0))
  have f123 := f99.keep K106 (ninS z13 (ninS z47 nin0))
  have f124 := f100.keep K106 (ninS z14 (ninS z48 nin0))
  refine own_aloadN (q := 20) A115 d9_19 rfl rfl ?_
  refine own_getF (host := "") (q := 23) A115 (Or.inl (H.k 46 rfl)) Via.refl f120 d9_20 ?_
  intro T125 A126
  refine own_virtual (q := 26) (W := 0) (argsL := [(.ref x2)]) (rest := []) A126 (H.k 71 rfl) (H.k 72 rfl) (H.k 74 rfl) (H.k 73 rfl) (by decide) (own_payN (rm_sap a3 va33 k34 4 [(.int p0), (.int p1), (.int (58 : Int32)), (.int (32 : Int32)), (.int (0 : Int32)), (.int (0 : Int32)), (.int (0 : Int32)), (.int (0 : Int32)), (.int (0 : Int32)), (.int (0 : Int32)), (.int (0 : Int32)), (.int (0 : Int32)), (.int (0 : Int32)), (.int (0 : Int32)), (.int (0 : Int32)), (.int (0 : Int32))] x2 t2 k2 0 [] A126.old H E107 F108 F109 F116 V117 g5 g35 f121 f123 f122 f124 (own_apf_mk (by decide) (by decide) (by decide) (by decide) (by decide) (Nat.le_of_ble_eq_true rfl) rfl (by decide)) z49 z13 z14 z47 z48) (fun _ _ q => q.2.1) (H.k 75 rfl) (H.k 55 rfl) (by decide) (by decide)) (by simp) (Nat.le_of_eq rfl) E107 own_pd8 rfl rfl rfl d9_23 (by decide) (by decide) ?_
  rintro v133 T134 h135 A136 ⟨rfl, K127, E128, F129, F130, F131, V132⟩
  show own_Run p e below Q m T134 26 #[.val (.ref o)] [(.ref a3)]
  have F137 : Fld Z h135 a3 "java/lang/AbstractStringBuilder" "count" "I" (.int 4) := by
    have q := F131
    rw [show ((4 : Int32) + (0 : Int32)) = 4 from by decide] at q
    exact q
  have V138 : Arv Z h135 va33 k34 .byte 16 [(.int p0), (.int p1), (.int (58 : Int32)), (.int (32 : Int32)), (.int (0 : Int32)), (.int (0 : Int32)), (.int (0 : Int32)), (.int (0 : Int32)), (.int (0 : Int32)), (.int (0 : Int32)), (.int (0 : Int32)), (.int (0 : Int32)), (.int (0 : Int32)), (.int (0 : Int32)), (.int (0 : Int32)), (.int (0 : Int32))] (.int 0) := V132
  have f139 := f118.keep K127
  have f140 := f119.keep K127 (ninS z10 (ninS z44 nin0))
  have f141 := f120.keep K127 (ninS z10 (ninS z44 nin0))
  refine own_virtual (q := 29) (W := 0) (argsL := []) (rest := []) A136 (H.k 119 rfl) (H.k 120 rfl) (H.k 122 rfl) (H.k 121 rfl) (by decide) (own_payN (rm_tos4 a3 va33 k34 p0 p1 (58 : Int32) (32 : Int32) [(.int (0 : Int32)), (.int (0 : Int32)), (.int (0 : Int32)), (.int (0 : Int32)), (.int (0 : Int32)), (.int (0 : Int32)), (.int (0 : Int32)), (.int (0 : Int32)), (.int (0 : Int32)), (.int (0 : Int32)), (.int (0 : Int32)), (.int (0 : Int32))] A136.old H E128 F129 F130 F137 V138 g5 g35) (fun _ _ ⟨_, _, _, _, q, _⟩ => q) (H.k 123 rfl) (H.k 55 rfl) (by decide) (by decide)) own_nW (Nat.le_of_eq rfl) E128 own_pd5 rfl rfl rfl d9_26 (by decide) (by decide) ?_
  rintro v146 T147 h148 A149 ⟨a142, t143, k144, rfl, -, q145⟩
  show own_Run p e below Q m T147 29 #[.val (.ref o)] [(.ref a142)]
  exact own_retA A149 hQ rfl rfl rfl d9_29 ⟨a142, t143, k144, rfl, q145⟩
theorem rm_msg21 (o x1 t1 x2 t2 : Addr) (k1 k2 : ClassId) (p0 p1 r0 : Int32) (O0 : Old Z n0 h0) (hEL : EW Z a0 consts_1) (H : own_H Z a0 zc fm) (Eo : Exa Z h0 o "com/example/hifadhi/hifadhi/project/NotAnalysed") (Fw : Fld Z h0 o "com/example/hifadhi/hifadhi/project/NotAnalysed" "what" "Ljava/lang/String;" (.ref x1)) (Fr_ : Fld Z h0 o "com/example/hifadhi/hifadhi/project/NotAnalysed" "reason" "Ljava/lang/String;" (.ref x2)) (E1 : Exa Z h0 x1 "java/lang/String") (C1 : Fld Z h0 x1 "java/lang/String" "coder" "B" (.int 0)) (V1 : Fld Z h0 x1 "java/lang/String" "value" "[B" (.ref t1)) (K1 : Arv Z h0 t1 k1 .byte 2 [(.int p0), (.int p1)] (.int 0)) (E2 : Exa Z h0 x2 "java/lang/String") (C2 : Fld Z h0 x2 "java/lang/String" "coder" "B" (.int 0)) (V2 : Fld Z h0 x2 "java/lang/String" "value" "[B" (.ref t2)) (K2 : Arv Z h0 t2 k2 .byte 1 [(.int r0)] (.int 0)) :
  own_Met true l Z n0 consts_1 [] ⟨"com/example/hifadhi/hifadhi/project/NotAnalysed", "message", "()Ljava/lang/String;"⟩ prog_33_method_4_code 1 (some (.object "java/lang/String")) [] (own_R 6 6 41 91) #[(.ref o)] h0 (fun v h => ∃ (b t : Addr) (kt : ClassId), v = some (.ref b) ∧ Exa Z h b "java/lang/String" ∧ Fld Z h b "java/lang/String" "coder" "B" (.int 0) ∧ Fld Z h b "java/lang/String" "value" "[B" (.ref t) ∧ Arv Z h t kt .byte 5 [(.int p0), (.int p1), (.int (58 : Int32)), (.int (32 : Int32)), (.int r0)] (.int 0)) := by
  refine own_ent (a0 := a0) (nm := "message") (Ls := #[.val (.ref o)]) own_pn5 O0 hEL ?_
  intro p e _ m _ below _ _ T0 Q hQ A0
  refine own_newO (q := 3) A0 (H.k 53 rfl) (H.k 54 rfl) (H.k 55 rfl) d9_0 (by decide) (by decide) ?_
  intro T1 h2 a3 g4 g5 A6 E7 X8 D9
  have z10 : o ≠ a3 := Nat.ne_of_lt (Nat.lt_of_lt_of_le Eo.lt (Nat.le_of_eq g4))
  have z11 : x1 ≠ a3 := Nat.ne_of_lt (Nat.lt_of_lt_of_le E1.lt (Nat.le_of_eq g4))
  have z12 : t1 ≠ a3 := Nat.ne_of_lt (Nat.lt_of_lt_of_le K1.lt (Nat.le_of_eq g4))
  have z13 : x2 ≠ a3 := Nat.ne_of_lt (Nat.lt_of_lt_of_le E2.lt (Nat.le_of_eq g4))
  have z14 : t2 ≠ a3 := Nat.ne_of_lt (Nat.lt_of_lt_of_le K2.lt (Nat.le_of_eq g4))
  have f15 := Eo.ext E7
  have f16 := Fw.ext E7
  have f17 := Fr_.ext E7
  have f18 := E1.ext E7
  have f19 := C1.ext E7
  have f20 := V1.ext E7
  have f21 := K1.ext E7
  have f22 := E2.ext E7
  have f23 := C2.ext E7
  have f24 := V2.ext E7
  have f25 := K2.ext E7
  have f26 : Fld Z h2 a3 "java/lang/AbstractStringBuilder" "value" "[B" .null := D9 (Or.inl (H.k 68 rfl)) (ty := (.array .byte)) (by decide)
  have f27 : Fld Z h2 a3 "java/lang/AbstractStringBuilder" "coder" "B" (.int (0 : Int32)) := D9 (Or.inl (H.k 70 rfl)) (ty := .byte) (by decide)
  have f28 : Fld Z h2 a3 "java/lang/AbstractStringBuilder" "count" "I" (.int (0 : Int32)) := D9 (Or.inl (H.k 92 rfl)) (ty := .int) (by decide)
  refine own_dup (q := 4) A6 d9_3 rfl ?_
  refine own_specialN (q := 7) (W := 1) (argsL := []) (rest := [(.ref a3)]) A6 rfl (H.k 56 rfl) (H.k 57 rfl) (H.k 58 rfl) (by decide) (own_payN (rm_sbi a3 A6.old H X8 f26 f27 f28 g5) (fun _ _ q => q.2.1) (H.k 58 rfl) (H.k 55 rfl) (by decide) (by decide)) (by simp) (fun _ _ q => q.2.1) (Nat.le_of_eq rfl) own_pd6 rfl rfl rfl d9_4 (by decide) (by decide) ?_
  rintro v39 T40 h41 A42 ⟨rfl, K29, E30, F31, F32, va33, k34, g35, g36, F37, V38⟩
  show own_Run p e below Q m T40 7 #[.val (.ref o)] [(.ref a3)]
  have A43 := A42 [va33] (fun yy hy => by obtain rfl := List.mem_singleton.mp hy; exact ⟨g36, V38.lt⟩)
  have z44 : o ≠ va33 := Nat.ne_of_lt (Nat.lt_of_lt_of_le f15.lt g36)
  have z45 : x1 ≠ va33 := Nat.ne_of_lt (Nat.lt_of_lt_of_le f18.lt g36)
  have z46 : t1 ≠ va33 := Nat.ne_of_lt (Nat.lt_of_lt_of_le f21.lt g36)
  have z47 : x2 ≠ va33 := Nat.ne_of_lt (Nat.lt_of_lt_of_le f22.lt g36)
  have z48 : t2 ≠ va33 := Nat.ne_of_lt (Nat.lt_of_lt_of_le f25.lt g36)
  have z49 : a3 ≠ va33 := Nat.ne_of_lt (Nat.lt_of_lt_of_le X8.lt g36)
  have f50 := f15.keep K29
  have f51 := f16.keep K29 (ninS z10 nin0)
  have f52 := f17.keep K29 (ninS z10 nin0)
  have f53 := f18.keep K29
  have f54 := f19.keep K29 (ninS z11 nin0)
  have f55 := f20.keep K29 (ninS z11 nin0)
  have f56 := f21.keep K29 (ninS z12 nin0)
  have f57 := f22.keep K29
  have f58 := f23.keep K29 (ninS z13 nin0)
  have f59 := f24.keep K29 (ninS z13 nin0)
  have f60 := f25.keep K29 (ninS z14 nin0)
  refine own_aloadN (q := 8) A43 d9_7 rfl rfl ?_
  refine own_getF (host := "") (q := 11) A43 (Or.inl (H.k 44 rfl)) Via.refl f51 d9_8 ?_
  intro T61 A62
  refine own_virtual (q := 14) (W := 0) (argsL := [(.ref x1)]) (rest := []) A62 (H.k 71 rfl) (H.k 72 rfl) (H.k 74 rfl) (H.k 73 rfl) (by decide) (own_payN (rm_sap a3 va33 k34 0 [(.int (0 : Int32)), (.int (0 : Int32)), (.int (0 : Int32)), (.int (0 : Int32)), (.int (0 : Int32)), (.int (0 : Int32)), (.int (0 : Int32)), (.int (0 : Int32)), (.int (0 : Int32)), (.int (0 : Int32)), (.int (0 : Int32)), (.int (0 : Int32)), (.int (0 : Int32)), (.int (0 : Int32)), (.int (0 : Int32)), (.int (0 : Int32))] x1 t1 k1 2 [(.int p0), (.int p1)] A62.old H E30 F37 F31 F32 V38 g5 g35 f53 f55 f54 f56 (own_apf_mk (by decide) (by decide) (by decide) (by decide) (by decide) (Nat.le_of_ble_eq_true rfl) rfl (by decide)) z49 z11 z12 z45 z46) (fun _ _ q => q.2.1) (H.k 75 rfl) (H.k 55 rfl) (by decide) (by decide)) (by simp) (Nat.le_of_eq rfl) E30 own_pd8 rfl rfl rfl d9_11 (by decide) (by decide) ?_
  rintro v69 T70 h71 A72 ⟨rfl, K63, E64, F65, F66, F67, V68⟩
  show own_Run p e below Q m T70 14 #[.val (.ref o)] [(.ref a3)]
  have F73 : Fld Z h71 a3 "java/lang/AbstractStringBuilder" "count" "I" (.int 2) := by
    have q := F67
    rw [show ((0 : Int32) + (2 : Int32)) = 2 from by decide] at q
    exact q
  have V74 : Arv Z h71 va33 k34 .byte 16 [(.int p0), (.int p1), (.int (0 : Int32)), (.int (0 : Int32)), (.int (0 : Int32)), (.int (0 : Int32)), (.int (0 : Int32)), (.int (0 : Int32)), (.int (0 : Int32)), (.int (0 : Int32)), (.int (0 : Int32)), (.int (0 : Int32)), (.int (0 : Int32)), (.int (0 : Int32)), (.int (0 : Int32)), (.int (0 : Int32))] (.int 0) := V68
  have f75 := f50.keep K63
  have f76 := f51.keep K63 (ninS z10 (ninS z44 nin0))
  have f77 := f52.keep K63 (ninS z10 (ninS z44 nin0))
  have f78 := f57.keep K63
  have f79 := f58.keep K63 (ninS z13 (ninS z47 nin0))
  have f80 := f59.keep K63 (ninS z13 (ninS z47 nin0))
  have f81 := f60.keep K63 (ninS z14 (ninS z48 nin0))
  refine own_ldcR (q := 16) (n := 8) (z := 2) (vs := [(.int (58 : Int32)), (.int (32 : Int32))]) A72 (H.k 118 rfl) (own_satoms H.w) (by decide) ⟨by decide +kernel, by decide +kernel⟩ (by decide) (by decide) d9_14 (by decide) (by decide) (by decide) (by decide) ?_
  intro a82 b83 k84 T85 h86 A87 E88 X89 F90 F91 V92 N93
  have f94 := f75.ext E88
  have f95 := f76.ext E88
  have f96 := f77.ext E88
  have f97 := f78.ext E88
  have f98 := f79.ext E88
  have f99 := f80.ext E88
  have f100 := f81.ext E88
  have f101 := E64.ext E88
  have f102 := F65.ext E88
  have f103 := F66.ext E88
  have f104 := F73.ext E88
  have f105 := V74.ext E88
  refine own_virtual (q := 19) (W := 0) (argsL := [(.ref a82)]) (rest := []) A87 (H.k 71 rfl) (H.k 72 rfl) (H.k 74 rfl) (H.k 73 rfl) (by decide) (own_payN (rm_sap a3 va33 k34 2 [(.int p0), (.int p1), (.int (0 : Int32)), (.int (0 : Int32)), (.int (0 : Int32)), (.int (0 : Int32)), (.int (0 : Int32)), (.int (0 : Int32)), (.int (0 : Int32)), (.int (0 : Int32)), (.int (0 : Int32)), (.int (0 : Int32)), (.int (0 : Int32)), (.int (0 : Int32)), (.int (0 : Int32)), (.int (0 : Int32))] a82 b83 k84 2 [(.int (58 : Int32)), (.int (32 : Int32))] A87.old H f101 f102 f103 f104 f105 g5 g35 X89 F91 F90 V92 (own_apf_mk (by decide) (by decide) (by decide) (by decide) (by decide) (Nat.le_of_ble_eq_true rfl) rfl (by decide)) z49 (Ne.symm (N93 a3 (by simp)).1) (Ne.symm (N93 a3 (by simp)).2) (Ne.symm (N93 va33 (by simp)).1) (Ne.symm (N93 va33 (by simp)).2)) (fun _ _ q => q.2.1) (H.k 75 rfl) (H.k 55 rfl) (by decide) (by decide)) (by simp) (Nat.le_of_eq rfl) f101 own_pd8 rfl rfl rfl d9_16 (by decide) (by decide) ?_
  rintro v112 T113 h114 A115 ⟨rfl, K106, E107, F108, F109, F110, V111⟩
  show own_Run p e below Q m T113 19 #[.val (.ref o)] [(.ref a3)]
  have F116 : Fld Z h114 a3 "java/lang/AbstractStringBuilder" "count" "I" (.int 4) := by
    have q := F110
    rw [show ((2 : Int32) + (2 : Int32)) = 4 from by decide] at q
    exact q
  have V117 : Arv Z h114 va33 k34 .byte 16 [(.int p0), (.int p1), (.int (58 : Int32)), (.int (32 : Int32)), (.int (0 : Int32)), (.int (0 : Int32)), (.int (0 : Int32)), (.int (0 : Int32)), (.int (0 : Int32)), (.int (0 : Int32)), (.int (0 : Int32)), (.int (0 : Int32)), (.int (0 : Int32)), (.int (0 : Int32)), (.int (0 : Int32)), (.int (0 : Int32))] (.int 0) := V111
  have f118 := f94.keep K106
  have f119 := f95.keep K106 (ninS z10 (ninS z44 nin0))
  have f120 := f96.keep K106 (ninS z10 (ninS z44 nin0))
  have f121 := f97.keep K106
  have f122 := f98.keep K106 (ninS z13 (ninS z47 nin0))
  have f123 := f99.keep K106 (ninS z13 (ninS z47 nin0))
  have f124 := f100.keep K106 (ninS z14 (ninS z48 nin0))
  refine own_aloadN (q := 20) A115 d9_19 rfl rfl ?_
  refine own_getF (host := "") (q := 23) A115 (Or.inl (H.k 46 rfl)) Via.refl f120 d9_20 ?_
  intro T125 A126
  refine own_virtual (q := 26) (W := 0) (argsL := [(.ref x2)]) (rest := []) A126 (H.k 71 rfl) (H.k 72 rfl) (H.k 74 rfl) (H.k 73 rfl) (by decide) (own_payN (rm_sap a3 va33 k34 4 [(.int p0), (.int p1), (.int (58 : Int32)), (.int (32 : Int32)), (.int (0 : Int32)), (.int (0 : Int32)), (.int (0 : Int32)), (.int (0 : Int32)), (.int (0 : Int32)), (.int (0 : Int32)), (.int (0 : Int32)), (.int (0 : Int32)), (.int (0 : Int32)), (.int (0 : Int32)), (.int (0 : Int32)), (.int (0 : Int32))] x2 t2 k2 1 [(.int r0)] A126.old H E107 F108 F109 F116 V117 g5 g35 f121 f123 f122 f124 (own_apf_mk (by decide) (by decide) (by decide) (by decide) (by decide) (Nat.le_of_ble_eq_true rfl) rfl (by decide)) z49 z13 z14 z47 z48) (fun _ _ q => q.2.1) (H.k 75 rfl) (H.k 55 rfl) (by decide) (by decide)) (by simp) (Nat.le_of_eq rfl) E107 own_pd8 rfl rfl rfl d9_23 (by decide) (by decide) ?_
  rintro v133 T134 h135 A136 ⟨rfl, K127, E128, F129, F130, F131, V132⟩
  show own_Run p e below Q m T134 26 #[.val (.ref o)] [(.ref a3)]
  have F137 : Fld Z h135 a3 "java/lang/AbstractStringBuilder" "count" "I" (.int 5) := by
    have q := F131
    rw [show ((4 : Int32) + (1 : Int32)) = 5 from by decide] at q
    exact q
  have V138 : Arv Z h135 va33 k34 .byte 16 [(.int p0), (.int p1), (.int (58 : Int32)), (.int (32 : Int32)), (.int r0), (.int (0 : Int32)), (.int (0 : Int32)), (.int (0 : Int32)), (.int (0 : Int32)), (.int (0 : Int32)), (.int (0 : Int32)), (.int (0 : Int32)), (.int (0 : Int32)), (.int (0 : Int32)), (.int (0 : Int32)), (.int (0 : Int32))] (.int 0) := V132
  have f139 := f118.keep K127
  have f140 := f119.keep K127 (ninS z10 (ninS z44 nin0))
  have f141 := f120.keep K127 (ninS z10 (ninS z44 nin0))
  refine own_virtual (q := 29) (W := 0) (argsL := []) (rest := []) A136 (H.k 119 rfl) (H.k 120 rfl) (H.k 122 rfl) (H.k 121 rfl) (by decide) (own_payN (rm_tos5 a3 va33 k34 p0 p1 (58 : Int32) (32 : Int32) r0 [(.int (0 : Int32)), (.int (0 : Int32)), (.int (0 : Int32)), (.int (0 : Int32)), (.int (0 : Int32)), (.int (0 : Int32)), (.int (0 : Int32)), (.int (0 : Int32)), (.int (0 : Int32)), (.int (0 : Int32)), (.int (0 : Int32))] A136.old H E128 F129 F130 F137 V138 g5 g35) (fun _ _ ⟨_, _, _, _, q, _⟩ => q) (H.k 123 rfl) (H.k 55 rfl) (by decide) (by decide)) own_nW (Nat.le_of_eq rfl) E128 own_pd5 rfl rfl rfl d9_26 (by decide) (by decide) ?_
  rintro v146 T147 h148 A149 ⟨a142, t143, k144, rfl, -, q145⟩
  show own_Run p e below Q m T147 29 #[.val (.ref o)] [(.ref a142)]
  exact own_retA A149 hQ rfl rfl rfl d9_29 ⟨a142, t143, k144, rfl, q145⟩
theorem rm_msg22 (o x1 t1 x2 t2 : Addr) (k1 k2 : ClassId) (p0 p1 r0 r1 : Int32) (O0 : Old Z n0 h0) (hEL : EW Z a0 consts_1) (H : own_H Z a0 zc fm) (Eo : Exa Z h0 o "com/example/hifadhi/hifadhi/project/NotAnalysed") (Fw : Fld Z h0 o "com/example/hifadhi/hifadhi/project/NotAnalysed" "what" "Ljava/lang/String;" (.ref x1)) (Fr_ : Fld Z h0 o "com/example/hifadhi/hifadhi/project/NotAnalysed" "reason" "Ljava/lang/String;" (.ref x2)) (E1 : Exa Z h0 x1 "java/lang/String") (C1 : Fld Z h0 x1 "java/lang/String" "coder" "B" (.int 0)) (V1 : Fld Z h0 x1 "java/lang/String" "value" "[B" (.ref t1)) (K1 : Arv Z h0 t1 k1 .byte 2 [(.int p0), (.int p1)] (.int 0)) (E2 : Exa Z h0 x2 "java/lang/String") (C2 : Fld Z h0 x2 "java/lang/String" "coder" "B" (.int 0)) (V2 : Fld Z h0 x2 "java/lang/String" "value" "[B" (.ref t2)) (K2 : Arv Z h0 t2 k2 .byte 2 [(.int r0), (.int r1)] (.int 0)) :
  own_Met true l Z n0 consts_1 [] ⟨"com/example/hifadhi/hifadhi/project/NotAnalysed", "message", "()Ljava/lang/String;"⟩ prog_33_method_4_code 1 (some (.object "java/lang/String")) [] (own_R 6 6 42 91) #[(.ref o)] h0 (fun v h => ∃ (b t : Addr) (kt : ClassId), v = some (.ref b) ∧ Exa Z h b "java/lang/String" ∧ Fld Z h b "java/lang/String" "coder" "B" (.int 0) ∧ Fld Z h b "java/lang/String" "value" "[B" (.ref t) ∧ Arv Z h t kt .byte 6 [(.int p0), (.int p1), (.int (58 : Int32)), (.int (32 : Int32)), (.int r0), (.int r1)] (.int 0)) := by
  refine own_ent (a0 := a0) (nm := "message") (Ls := #[.val (.ref o)]) own_pn5 O0 hEL ?_
  intro p e _ m _ below _ _ T0 Q hQ A0
  refine own_newO (q := 3) A0 (H.k 53 rfl) (H.k 54 rfl) (H.k 55 rfl) d9_0 (by decide) (by decide) ?_
  intro T1 h2 a3 g4 g5 A6 E7 X8 D9
  have z10 : o ≠ a3 := Nat.ne_of_lt (Nat.lt_of_lt_of_le Eo.lt (Nat.le_of_eq g4))
  have z11 : x1 ≠ a3 := Nat.ne_of_lt (Nat.lt_of_lt_of_le E1.lt (Nat.le_of_eq g4))
  have z12 : t1 ≠ a3 := Nat.ne_of_lt (Nat.lt_of_lt_of_le K1.lt (Nat.le_of_eq g4))
  have z13 : x2 ≠ a3 := Nat.ne_of_lt (Nat.lt_of_lt_of_le E2.lt (Nat.le_of_eq g4))
  have z14 : t2 ≠ a3 := Nat.ne_of_lt (Nat.lt_of_lt_of_le K2.lt (Nat.le_of_eq g4))
  have f15 := Eo.ext E7
  have f16 := Fw.ext E7
  have f17 := Fr_.ext E7
  have f18 := E1.ext E7
  have f19 := C1.ext E7
  have f20 := V1.ext E7
  have f21 := K1.ext E7
  have f22 := E2.ext E7
  have f23 := C2.ext E7
  have f24 := V2.ext E7
  have f25 := K2.ext E7
  have f26 : Fld Z h2 a3 "java/lang/AbstractStringBuilder" "value" "[B" .null := D9 (Or.inl (H.k 68 rfl)) (ty := (.array .byte)) (by decide)
  have f27 : Fld Z h2 a3 "java/lang/AbstractStringBuilder" "coder" "B" (.int (0 : Int32)) := D9 (Or.inl (H.k 70 rfl)) (ty := .byte) (by decide)
  have f28 : Fld Z h2 a3 "java/lang/AbstractStringBuilder" "count" "I" (.int (0 : Int32)) := D9 (Or.inl (H.k 92 rfl)) (ty := .int) (by decide)
  refine own_dup (q := 4) A6 d9_3 rfl ?_
  refine own_specialN (q := 7) (W := 1) (argsL := []) (rest := [(.ref a3)]) A6 rfl (H.k 56 rfl) (H.k 57 rfl) (H.k 58 rfl) (by decide) (own_payN (rm_sbi a3 A6.old H X8 f26 f27 f28 g5) (fun _ _ q => q.2.1) (H.k 58 rfl) (H.k 55 rfl) (by decide) (by decide)) (by simp) (fun _ _ q => q.2.1) (Nat.le_of_eq rfl) own_pd6 rfl rfl rfl d9_4 (by decide) (by decide) ?_
  rintro v39 T40 h41 A42 ⟨rfl, K29, E30, F31, F32, va33, k34, g35, g36, F37, V38⟩
  show own_Run p e below Q m T40 7 #[.val (.ref o)] [(.ref a3)]
  have A43 := A42 [va33] (fun yy hy => by obtain rfl := List.mem_singleton.mp hy; exact ⟨g36, V38.lt⟩)
  have z44 : o ≠ va33 := Nat.ne_of_lt (Nat.lt_of_lt_of_le f15.lt g36)
  have z45 : x1 ≠ va33 := Nat.ne_of_lt (Nat.lt_of_lt_of_le f18.lt g36)
  have z46 : t1 ≠ va33 := Nat.ne_of_lt (Nat.lt_of_lt_of_le f21.lt g36)
  have z47 : x2 ≠ va33 := Nat.ne_of_lt (Nat.lt_of_lt_of_le f22.lt g36)
  have z48 : t2 ≠ va33 := Nat.ne_of_lt (Nat.lt_of_lt_of_le f25.lt g36)
  have z49 : a3 ≠ va33 := Nat.ne_of_lt (Nat.lt_of_lt_of_le X8.lt g36)
  have f50 := f15.keep K29
  have f51 := f16.keep K29 (ninS z10 nin0)
  have f52 := f17.keep K29 (ninS z10 nin0)
  have f53 := f18.keep K29
  have f54 := f19.keep K29 (ninS z11 nin0)
  have f55 := f20.keep K29 (ninS z11 nin0)
  have f56 := f21.keep K29 (ninS z12 nin0)
  have f57 := f22.keep K29
  have f58 := f23.keep K29 (ninS z13 nin0)
  have f59 := f24.keep K29 (ninS z13 nin0)
  have f60 := f25.keep K29 (ninS z14 nin0)
  refine own_aloadN (q := 8) A43 d9_7 rfl rfl ?_
  refine own_getF (host := "") (q := 11) A43 (Or.inl (H.k 44 rfl)) Via.refl f51 d9_8 ?_
  intro T61 A62
  refine own_virtual (q := 14) (W := 0) (argsL := [(.ref x1)]) (rest := []) A62 (H.k 71 rfl) (H.k 72 rfl) (H.k 74 rfl) (H.k 73 rfl) (by decide) (own_payN (rm_sap a3 va33 k34 0 [(.int (0 : Int32)), (.int (0 : Int32)), (.int (0 : Int32)), (.int (0 : Int32)), (.int (0 : Int32)), (.int (0 : Int32)), (.int (0 : Int32)), (.int (0 : Int32)), (.int (0 : Int32)), (.int (0 : Int32)), (.int (0 : Int32)), (.int (0 : Int32)), (.int (0 : Int32)), (.int (0 : Int32)), (.int (0 : Int32)), (.int (0 : Int32))] x1 t1 k1 2 [(.int p0), (.int p1)] A62.old H E30 F37 F31 F32 V38 g5 g35 f53 f55 f54 f56 (own_apf_mk (by decide) (by decide) (by decide) (by decide) (by decide) (Nat.le_of_ble_eq_true rfl) rfl (by decide)) z49 z11 z12 z45 z46) (fun _ _ q => q.2.1) (H.k 75 rfl) (H.k 55 rfl) (by decide) (by decide)) (by simp) (Nat.le_of_eq rfl) E30 own_pd8 rfl rfl rfl d9_11 (by decide) (by decide) ?_
  rintro v69 T70 h71 A72 ⟨rfl, K63, E64, F65, F66, F67, V68⟩
  show own_Run p e below Q m T70 14 #[.val (.ref o)] [(.ref a3)]
  have F73 : Fld Z h71 a3 "java/lang/AbstractStringBuilder" "count" "I" (.int 2) := by
    have q := F67
    rw [show ((0 : Int32) + (2 : Int32)) = 2 from by decide] at q
    exact q
  have V74 : Arv Z h71 va33 k34 .byte 16 [(.int p0), (.int p1), (.int (0 : Int32)), (.int (0 : Int32)), (.int (0 : Int32)), (.int (0 : Int32)), (.int (0 : Int32)), (.int (0 : Int32)), (.int (0 : Int32)), (.int (0 : Int32)), (.int (0 : Int32)), (.int (0 : Int32)), (.int (0 : Int32)), (.int (0 : Int32)), (.int (0 : Int32)), (.int (0 : Int32))] (.int 0) := V68
  have f75 := f50.keep K63
  have f76 := f51.keep K63 (ninS z10 (ninS z44 nin0))
  have f77 := f52.keep K63 (ninS z10 (ninS z44 nin0))
  have f78 := f57.keep K63
  have f79 := f58.keep K63 (ninS z13 (ninS z47 nin0))
  have f80 := f59.keep K63 (ninS z13 (ninS z47 nin0))
  have f81 := f60.keep K63 (ninS z14 (ninS z48 nin0))
  refine own_ldcR (q := 16) (n := 8) (z := 2) (vs := [(.int (58 : Int32)), (.int (32 : Int32))]) A72 (H.k 118 rfl) (own_satoms H.w) (by decide) ⟨by decide +kernel, by decide +kernel⟩ (by decide) (by decide) d9_14 (by decide) (by decide) (by decide) (by decide) ?_
  intro a82 b83 k84 T85 h86 A87 E88 X89 F90 F91 V92 N93
  have f94 := f75.ext E88
  have f95 := f76.ext E88
  have f96 := f77.ext E88
  have f97 := f78.ext E88
  have f98 := f79.ext E88
  have f99 := f80.ext E88
  have f100 := f81.ext E88
  have f101 := E64.ext E88
  have f102 := F65.ext E88
  have f103 := F66.ext E88
  have f104 := F73.ext E88
  have f105 := V74.ext E88
  refine own_virtual (q := 19) (W := 0) (argsL := [(.ref a82)]) (rest := []) A87 (H.k 71 rfl) (H.k 72 rfl) (H.k 74 rfl) (H.k 73 rfl) (by decide) (own_payN (rm_sap a3 va33 k34 2 [(.int p0), (.int p1), (.int (0 : Int32)), (.int (0 : Int32)), (.int (0 : Int32)), (.int (0 : Int32)), (.int (0 : Int32)), (.int (0 : Int32)), (.int (0 : Int32)), (.int (0 : Int32)), (.int (0 : Int32)), (.int (0 : Int32)), (.int (0 : Int32)), (.int (0 : Int32)), (.int (0 : Int32)), (.int (0 : Int32))] a82 b83 k84 2 [(.int (58 : Int32)), (.int (32 : Int32))] A87.old H f101 f102 f103 f104 f105 g5 g35 X89 F91 F90 V92 (own_apf_mk (by decide) (by decide) (by decide) (by decide) (by decide) (Nat.le_of_ble_eq_true rfl) rfl (by decide)) z49 (Ne.symm (N93 a3 (by simp)).1) (Ne.symm (N93 a3 (by simp)).2) (Ne.symm (N93 va33 (by simp)).1) (Ne.symm (N93 va33 (by simp)).2)) (fun _ _ q => q.2.1) (H.k 75 rfl) (H.k 55 rfl) (by decide) (by decide)) (by simp) (Nat.le_of_eq rfl) f101 own_pd8 rfl rfl rfl d9_16 (by decide) (by decide) ?_
  rintro v112 T113 h114 A115 ⟨rfl, K106, E107, F108, F109, F110, V111⟩
  show own_Run p e below Q m T113 19 #[.val (.ref o)] [(.ref a3)]
  have F116 : Fld Z h114 a3 "java/lang/AbstractStringBuilder" "count" "I" (.int 4) := by
    have q := F110
    rw [show ((2 : Int32) + (2 : Int32)) = 4 from by decide] at q
    exact q
  have V117 : Arv Z h114 va33 k34 .byte 16 [(.int p0), (.int p1), (.int (58 : Int32)), (.int (32 : Int32)), (.int (0 : Int32)), (.int (0 : Int32)), (.int (0 : Int32)), (.int (0 : Int32)), (.int (0 : Int32)), (.int (0 : Int32)), (.int (0 : Int32)), (.int (0 : Int32)), (.int (0 : Int32)), (.int (0 : Int32)), (.int (0 : Int32)), (.int (0 : Int32))] (.int 0) := V111
  have f118 := f94.keep K106
  have f119 := f95.keep K106 (ninS z10 (ninS z44 nin0))
  have f120 := f96.keep K106 (ninS z10 (ninS z44 nin0))
  have f121 := f97.keep K106
  have f122 := f98.keep K106 (ninS z13 (ninS z47 nin0))
  have f123 := f99.keep K106 (ninS z13 (ninS z47 nin0))
  have f124 := f100.keep K106 (ninS z14 (ninS z48 nin0))
  refine own_aloadN (q := 20) A115 d9_19 rfl rfl ?_
  refine own_getF (host := "") (q := 23) A115 (Or.inl (H.k 46 rfl)) Via.refl f120 d9_20 ?_
  intro T125 A126
  refine own_virtual (q := 26) (W := 0) (argsL := [(.ref x2)]) (rest := []) A126 (H.k 71 rfl) (H.k 72 rfl) (H.k 74 rfl) (H.k 73 rfl) (by decide) (own_payN (rm_sap a3 va33 k34 4 [(.int p0), (.int p1), (.int (58 : Int32)), (.int (32 : Int32)), (.int (0 : Int32)), (.int (0 : Int32)), (.int (0 : Int32)), (.int (0 : Int32)), (.int (0 : Int32)), (.int (0 : Int32)), (.int (0 : Int32)), (.int (0 : Int32)), (.int (0 : Int32)), (.int (0 : Int32)), (.int (0 : Int32)), (.int (0 : Int32))] x2 t2 k2 2 [(.int r0), (.int r1)] A126.old H E107 F108 F109 F116 V117 g5 g35 f121 f123 f122 f124 (own_apf_mk (by decide) (by decide) (by decide) (by decide) (by decide) (Nat.le_of_ble_eq_true rfl) rfl (by decide)) z49 z13 z14 z47 z48) (fun _ _ q => q.2.1) (H.k 75 rfl) (H.k 55 rfl) (by decide) (by decide)) (by simp) (Nat.le_of_eq rfl) E107 own_pd8 rfl rfl rfl d9_23 (by decide) (by decide) ?_
  rintro v133 T134 h135 A136 ⟨rfl, K127, E128, F129, F130, F131, V132⟩
  show own_Run p e below Q m T134 26 #[.val (.ref o)] [(.ref a3)]
  have F137 : Fld Z h135 a3 "java/lang/AbstractStringBuilder" "count" "I" (.int 6) := by
    have q := F131
    rw [show ((4 : Int32) + (2 : Int32)) = 6 from by decide] at q
    exact q
  have V138 : Arv Z h135 va33 k34 .byte 16 [(.int p0), (.int p1), (.int (58 : Int32)), (.int (32 : Int32)), (.int r0), (.int r1), (.int (0 : Int32)), (.int (0 : Int32)), (.int (0 : Int32)), (.int (0 : Int32)), (.int (0 : Int32)), (.int (0 : Int32)), (.int (0 : Int32)), (.int (0 : Int32)), (.int (0 : Int32)), (.int (0 : Int32))] (.int 0) := V132
  have f139 := f118.keep K127
  have f140 := f119.keep K127 (ninS z10 (ninS z44 nin0))
  have f141 := f120.keep K127 (ninS z10 (ninS z44 nin0))
  refine own_virtual (q := 29) (W := 0) (argsL := []) (rest := []) A136 (H.k 119 rfl) (H.k 120 rfl) (H.k 122 rfl) (H.k 121 rfl) (by decide) (own_payN (rm_tos6 a3 va33 k34 p0 p1 (58 : Int32) (32 : Int32) r0 r1 [(.int (0 : Int32)), (.int (0 : Int32)), (.int (0 : Int32)), (.int (0 : Int32)), (.int (0 : Int32)), (.int (0 : Int32)), (.int (0 : Int32)), (.int (0 : Int32)), (.int (0 : Int32)), (.int (0 : Int32))] A136.old H E128 F129 F130 F137 V138 g5 g35) (fun _ _ ⟨_, _, _, _, q, _⟩ => q) (H.k 123 rfl) (H.k 55 rfl) (by decide) (by decide)) own_nW (Nat.le_of_eq rfl) E128 own_pd5 rfl rfl rfl d9_26 (by decide) (by decide) ?_
  rintro v146 T147 h148 A149 ⟨a142, t143, k144, rfl, -, q145⟩
  show own_Run p e below Q m T147 29 #[.val (.ref o)] [(.ref a142)]
  exact own_retA A149 hQ rfl rfl rfl d9_29 ⟨a142, t143, k144, rfl, q145⟩
theorem d31_0 : decode method_4_code 0 = .ok (.iload_n 2, 1) := by decide +kernel
theorem d31_1 : decode method_4_code 1 = .ok (.iconst 2, 1) := by decide +kernel
theorem d31_2 : decode method_4_code 2 = .ok (.iadd, 1) := by decide +kernel
theorem d31_3 : decode method_4_code 3 = .ok (.iload 5, 2) := by decide +kernel
theorem d31_5 : decode method_4_code 5 = .ok (.iadd, 1) := by decide +kernel
theorem d31_6 : decode method_4_code 6 = .ok (.istore 8, 2) := by decide +kernel
theorem d31_8 : decode method_4_code 8 = .ok (.iload_n 1, 1) := by decide +kernel
theorem d31_9 : decode method_4_code 9 = .ok (.iload 8, 2) := by decide +kernel
theorem d31_11 : decode method_4_code 11 = .ok (.if_icmp .lt 5, 3) := by decide +kernel
theorem d31_14 : decode method_4_code 14 = .ok (.iconst 1, 1) := by decide +kernel
theorem d31_15 : decode method_4_code 15 = .ok (.ireturn, 1) := by decide +kernel
theorem d31_16 : decode method_4_code 16 = .ok (.iload_n 1, 1) := by decide +kernel
theorem d31_17 : decode method_4_code 17 = .ok (.iload_n 2, 1) := by decide +kernel
theorem d31_18 : decode method_4_code 18 = .ok (.if_icmp .ge 18, 3) := by decide +kernel
theorem d31_21 : decode method_4_code 21 = .ok (.iload_n 1, 1) := by decide +kernel
theorem d31_22 : decode method_4_code 22 = .ok (.ifCond .ne 7, 3) := by decide +kernel
theorem d31_25 : decode method_4_code 25 = .ok (.iload_n 3, 1) := by decide +kernel
theorem d31_26 : decode method_4_code 26 = .ok (.goto 5, 3) := by decide +kernel
theorem d31_29 : decode method_4_code 29 = .ok (.iload 4, 2) := by decide +kernel
theorem d31_31 : decode method_4_code 31 = .ok (.istore 9, 2) := by decide +kernel
theorem d31_33 : decode method_4_code 33 = .ok (.goto 50, 3) := by decide +kernel
theorem d31_36 : decode method_4_code 36 = .ok (.iload_n 1, 1) := by decide +kernel
theorem d31_37 : decode method_4_code 37 = .ok (.iload_n 2, 1) := by decide +kernel
theorem d31_38 : decode method_4_code 38 = .ok (.if_icmp .ne 10, 3) := by decide +kernel
theorem d31_41 : decode method_4_code 41 = .ok (.bipush 58, 2) := by decide +kernel
theorem d31_43 : decode method_4_code 43 = .ok (.istore 9, 2) := by decide +kernel
theorem d31_45 : decode method_4_code 45 = .ok (.goto 38, 3) := by decide +kernel
theorem d31_48 : decode method_4_code 48 = .ok (.iload_n 1, 1) := by decide +kernel
theorem d31_49 : decode method_4_code 49 = .ok (.iload_n 2, 1) := by decide +kernel
theorem d31_50 : decode method_4_code 50 = .ok (.iconst 1, 1) := by decide +kernel
theorem d31_51 : decode method_4_code 51 = .ok (.iadd, 1) := by decide +kernel
theorem d31_52 : decode method_4_code 52 = .ok (.if_icmp .ne 10, 3) := by decide +kernel
theorem d31_55 : decode method_4_code 55 = .ok (.bipush 32, 2) := by decide +kernel
theorem d31_57 : decode method_4_code 57 = .ok (.istore 9, 2) := by decide +kernel
theorem d31_59 : decode method_4_code 59 = .ok (.goto 24, 3) := by decide +kernel
theorem d31_62 : decode method_4_code 62 = .ok (.iload_n 1, 1) := by decide +kernel
theorem d31_63 : decode method_4_code 63 = .ok (.iload_n 2, 1) := by decide +kernel
theorem d31_64 : decode method_4_code 64 = .ok (.isub, 1) := by decide +kernel
theorem d31_65 : decode method_4_code 65 = .ok (.iconst 2, 1) := by decide +kernel
theorem d31_66 : decode method_4_code 66 = .ok (.isub, 1) := by decide +kernel
theorem d31_67 : decode method_4_code 67 = .ok (.istore 10, 2) := by decide +kernel
theorem d31_69 : decode method_4_code 69 = .ok (.iload 10, 2) := by decide +kernel
theorem d31_71 : decode method_4_code 71 = .ok (.ifCond .ne 8, 3) := by decide +kernel
theorem d31_74 : decode method_4_code 74 = .ok (.iload 6, 2) := by decide +kernel
theorem d31_76 : decode method_4_code 76 = .ok (.goto 5, 3) := by decide +kernel
theorem d31_79 : decode method_4_code 79 = .ok (.iload 7, 2) := by decide +kernel
theorem d31_81 : decode method_4_code 81 = .ok (.istore 9, 2) := by decide +kernel
theorem d31_83 : decode method_4_code 83 = .ok (.aload_n 0, 1) := by decide +kernel
theorem d31_84 : decode method_4_code 84 = .ok (.iload_n 1, 1) := by decide +kernel
theorem d31_85 : decode method_4_code 85 = .ok (.invokevirtual 35, 3) := by decide +kernel
theorem d31_88 : decode method_4_code 88 = .ok (.iload 9, 2) := by decide +kernel
theorem d31_90 : decode method_4_code 90 = .ok (.if_icmp .ne 7, 3) := by decide +kernel
theorem d31_93 : decode method_4_code 93 = .ok (.iconst 1, 1) := by decide +kernel
theorem d31_94 : decode method_4_code 94 = .ok (.goto 4, 3) := by decide +kernel
theorem d31_98 : decode method_4_code 98 = .ok (.ireturn, 1) := by decide +kernel
theorem rm_ok0_00 (x t : Addr) (kt : ClassId) (c1 c2 d1 d2 : Int32) (O0 : Old Z n0 h0) (H : own_H Z a0 zc fm) (Ex : Exa Z h0 x "java/lang/String") (Cx : Fld Z h0 x "java/lang/String" "coder" "B" (.int 0)) (Vx : Fld Z h0 x "java/lang/String" "value" "[B" (.ref t)) (Kx : Arv Z h0 t kt .byte 2 [(.int (58 : Int32)), (.int (32 : Int32))] (.int 0))  (hc10 : ¬ c1 < 0) (hc11 : ¬ (255 : Int32) < c1) (hnc1 : nar .char c1 = c1) (hc20 : ¬ c2 < 0) (hc21 : ¬ (255 : Int32) < c2) (hnc2 : nar .char c2 = c2) (hd10 : ¬ d1 < 0) (hd11 : ¬ (255 : Int32) < d1) (hnd1 : nar .char d1 = d1) (hd20 : ¬ d2 < 0) (hd21 : ¬ (255 : Int32) < d2) (hnd2 : nar .char d2 = d2):
  own_Met false l Z n0 [] [] ⟨"com/example/hifadhi/hifadhi/project/NotAnalysedMessagePinLaw", "ok", "(Ljava/lang/String;IICCICC)Z"⟩ method_4_code 11 (some .boolean) [] (own_R 4 0 0 53) #[(.ref x), (.int (0 : Int32)), (.int (0 : Int32)), (.int c1), (.int c2), (.int (0 : Int32)), (.int d1), (.int d2)] h0 (fun v h => v = some (.int 1) ∧ h0 = h) := by
  refine own_ent (a0 := a0) (nm := "ok") (Ls := #[.val (.ref x), .val (.int (0 : Int32)), .val (.int (0 : Int32)), .val (.int c1), .val (.int c2), .val (.int (0 : Int32)), .val (.int d1), .val (.int d2), .unset, .unset, .unset]) own_pn4 O0 EW.nil ?_
  intro p e _ m _ below _ _ T0 Q hQ A0
  refine own_iloadN (q := 1) A0 d31_0 rfl ?_
  refine own_iconst (q := 2) A0 (2 : Int32) d31_1 rfl ?_
  refine own_iadd (q := 3) A0 d31_2 ?_
  refine own_iload (q := 5) A0 d31_3 rfl ?_
  refine own_iadd (q := 6) A0 d31_5 ?_
  refine own_istore (q := 8) (L' := #[.val (.ref x), .val (.int (0 : Int32)), .val (.int (0 : Int32)), .val (.int c1), .val (.int c2), .val (.int (0 : Int32)), .val (.int d1), .val (.int d2), .val (.int (((0 : Int32) + (2 : Int32)) + (0 : Int32))), .unset, .unset]) A0 d31_6 rfl ?_
  refine own_iloadN (q := 9) A0 d31_8 rfl ?_
  refine own_iload (q := 11) A0 d31_9 rfl ?_
  refine own_icmpT (q := 16) A0 d31_11 (show (0 : Int32) < (((0 : Int32) + (2 : Int32)) + (0 : Int32)) from by decide) ?_
  refine own_iloadN (q := 17) A0 d31_16 rfl ?_
  refine own_iloadN (q := 18) A0 d31_17 rfl ?_
  refine own_icmpT (q := 36) A0 d31_18 (show ¬ (0 : Int32) < (0 : Int32) from by decide) ?_
  refine own_iloadN (q := 37) A0 d31_36 rfl ?_
  refine own_iloadN (q := 38) A0 d31_37 rfl ?_
  refine own_icmpF (q := 41) A0 d31_38 (show (0 : Int32) = (0 : Int32) from by decide) ?_
  refine own_bipush (q := 43) A0 (58 : Int32) d31_41 rfl ?_
  refine own_istore (q := 45) (L' := #[.val (.ref x), .val (.int (0 : Int32)), .val (.int (0 : Int32)), .val (.int c1), .val (.int c2), .val (.int (0 : Int32)), .val (.int d1), .val (.int d2), .val (.int (((0 : Int32) + (2 : Int32)) + (0 : Int32))), .val (.int (58 : Int32)), .unset]) A0 d31_43 rfl ?_
  refine own_goto (q := 83) A0 d31_45 ?_
  refine own_aloadN (q := 84) A0 d31_83 rfl rfl ?_
  refine own_iloadN (q := 85) A0 d31_84 rfl ?_
  refine own_virtual (q := 88) (W := 0) (argsL := [(.int (0 : Int32))]) (rest := []) A0 (H.k 168 rfl) (H.k 169 rfl) (H.k 171 rfl) (H.k 170 rfl) (by decide) (own_payCh (cs1 := [(58 : Int32), (32 : Int32)]) (i := 0) (kI := 4) (own_wCh H.w) (H.k 5 rfl) A0.old Ex Vx Cx Kx (own_cod [(58 : Int32), (32 : Int32)] (n := 2) rfl (fun yy hy => ((show ∀ yy ∈ [(58 : Int32), (32 : Int32)], ¬ yy < 0 ∧ ¬ (255 : Int32) < yy from (own_fc (by decide) (own_fc (by decide) (fun _ z => nomatch z)))) yy hy).2) rfl rfl) (own_b16 (own_fc (by decide) (own_fc (by decide) (fun _ z => nomatch z)))) (Nat.le_of_ble_eq_true rfl) H.SC H.hz H.SF H.rf (Nat.le_of_ble_eq_true rfl) rfl (by decide) (by decide)) own_nW (Nat.le_of_eq rfl) Ex own_pd22 rfl rfl rfl d31_85 (by decide) (by decide) ?_
  rintro v1 T2 h3 A4 ⟨rfl, rfl⟩
  show own_Run p e below Q m T2 88 #[.val (.ref x), .val (.int (0 : Int32)), .val (.int (0 : Int32)), .val (.int c1), .val (.int c2), .val (.int (0 : Int32)), .val (.int d1), .val (.int d2), .val (.int (((0 : Int32) + (2 : Int32)) + (0 : Int32))), .val (.int (58 : Int32)), .unset] [(.int (58 : Int32))]
  refine own_iload (q := 90) A4 d31_88 rfl ?_
  refine own_icmpF (q := 93) A4 d31_90 (show (58 : Int32) = (58 : Int32) from rfl) ?_
  refine own_iconst (q := 94) A4 (1 : Int32) d31_93 rfl ?_
  refine own_goto (q := 98) A4 d31_94 ?_
  exact own_retN A4 hQ (t := .boolean) (by simp) d31_98 ⟨rfl, rfl⟩
theorem rm_ok1_00 (x t : Addr) (kt : ClassId) (c1 c2 d1 d2 : Int32) (O0 : Old Z n0 h0) (H : own_H Z a0 zc fm) (Ex : Exa Z h0 x "java/lang/String") (Cx : Fld Z h0 x "java/lang/String" "coder" "B" (.int 0)) (Vx : Fld Z h0 x "java/lang/String" "value" "[B" (.ref t)) (Kx : Arv Z h0 t kt .byte 2 [(.int (58 : Int32)), (.int (32 : Int32))] (.int 0))  (hc10 : ¬ c1 < 0) (hc11 : ¬ (255 : Int32) < c1) (hnc1 : nar .char c1 = c1) (hc20 : ¬ c2 < 0) (hc21 : ¬ (255 : Int32) < c2) (hnc2 : nar .char c2 = c2) (hd10 : ¬ d1 < 0) (hd11 : ¬ (255 : Int32) < d1) (hnd1 : nar .char d1 = d1) (hd20 : ¬ d2 < 0) (hd21 : ¬ (255 : Int32) < d2) (hnd2 : nar .char d2 = d2):
  own_Met false l Z n0 [] [] ⟨"com/example/hifadhi/hifadhi/project/NotAnalysedMessagePinLaw", "ok", "(Ljava/lang/String;IICCICC)Z"⟩ method_4_code 11 (some .boolean) [] (own_R 4 0 0 53) #[(.ref x), (.int (1 : Int32)), (.int (0 : Int32)), (.int c1), (.int c2), (.int (0 : Int32)), (.int d1), (.int d2)] h0 (fun v h => v = some (.int 1) ∧ h0 = h) := by
  refine own_ent (a0 := a0) (nm := "ok") (Ls := #[.val (.ref x), .val (.int (1 : Int32)), .val (.int (0 : Int32)), .val (.int c1), .val (.int c2), .val (.int (0 : Int32)), .val (.int d1), .val (.int d2), .unset, .unset, .unset]) own_pn4 O0 EW.nil ?_
  intro p e _ m _ below _ _ T0 Q hQ A0
  refine own_iloadN (q := 1) A0 d31_0 rfl ?_
  refine own_iconst (q := 2) A0 (2 : Int32) d31_1 rfl ?_
  refine own_iadd (q := 3) A0 d31_2 ?_
  refine own_iload (q := 5) A0 d31_3 rfl ?_
  refine own_iadd (q := 6) A0 d31_5 ?_
  refine own_istore (q := 8) (L' := #[.val (.ref x), .val (.int (1 : Int32)), .val (.int (0 : Int32)), .val (.int c1), .val (.int c2), .val (.int (0 : Int32)), .val (.int d1), .val (.int d2), .val (.int (((0 : Int32) + (2 : Int32)) + (0 : Int32))), .unset, .unset]) A0 d31_6 rfl ?_
  refine own_iloadN (q := 9) A0 d31_8 rfl ?_
  refine own_iload (q := 11) A0 d31_9 rfl ?_
  refine own_icmpT (q := 16) A0 d31_11 (show (1 : Int32) < (((0 : Int32) + (2 : Int32)) + (0 : Int32)) from by decide) ?_
  refine own_iloadN (q := 17) A0 d31_16 rfl ?_
  refine own_iloadN (q := 18) A0 d31_17 rfl ?_
  refine own_icmpT (q := 36) A0 d31_18 (show ¬ (1 : Int32) < (0 : Int32) from by decide) ?_
  refine own_iloadN (q := 37) A0 d31_36 rfl ?_
  refine own_iloadN (q := 38) A0 d31_37 rfl ?_
  refine own_icmpT (q := 48) A0 d31_38 (show ¬ (1 : Int32) = (0 : Int32) from by decide) ?_
  refine own_iloadN (q := 49) A0 d31_48 rfl ?_
  refine own_iloadN (q := 50) A0 d31_49 rfl ?_
  refine own_iconst (q := 51) A0 (1 : Int32) d31_50 rfl ?_
  refine own_iadd (q := 52) A0 d31_51 ?_
  refine own_icmpF (q := 55) A0 d31_52 (show (1 : Int32) = ((0 : Int32) + (1 : Int32)) from by decide) ?_
  refine own_bipush (q := 57) A0 (32 : Int32) d31_55 rfl ?_
  refine own_istore (q := 59) (L' := #[.val (.ref x), .val (.int (1 : Int32)), .val (.int (0 : Int32)), .val (.int c1), .val (.int c2), .val (.int (0 : Int32)), .val (.int d1), .val (.int d2), .val (.int (((0 : Int32) + (2 : Int32)) + (0 : Int32))), .val (.int (32 : Int32)), .unset]) A0 d31_57 rfl ?_
  refine own_goto (q := 83) A0 d31_59 ?_
  refine own_aloadN (q := 84) A0 d31_83 rfl rfl ?_
  refine own_iloadN (q := 85) A0 d31_84 rfl ?_
  refine own_virtual (q := 88) (W := 0) (argsL := [(.int (1 : Int32))]) (rest := []) A0 (H.k 168 rfl) (H.k 169 rfl) (H.k 171 rfl) (H.k 170 rfl) (by decide) (own_payCh (cs1 := [(58 : Int32), (32 : Int32)]) (i := 1) (kI := 4) (own_wCh H.w) (H.k 5 rfl) A0.old Ex Vx Cx Kx (own_cod [(58 : Int32), (32 : Int32)] (n := 2) rfl (fun yy hy => ((show ∀ yy ∈ [(58 : Int32), (32 : Int32)], ¬ yy < 0 ∧ ¬ (255 : Int32) < yy from (own_fc (by decide) (own_fc (by decide) (fun _ z => nomatch z)))) yy hy).2) rfl rfl) (own_b16 (own_fc (by decide) (own_fc (by decide) (fun _ z => nomatch z)))) (Nat.le_of_ble_eq_true rfl) H.SC H.hz H.SF H.rf (Nat.le_of_ble_eq_true rfl) rfl (by decide) (by decide)) own_nW (Nat.le_of_eq rfl) Ex own_pd22 rfl rfl rfl d31_85 (by decide) (by decide) ?_
  rintro v1 T2 h3 A4 ⟨rfl, rfl⟩
  show own_Run p e below Q m T2 88 #[.val (.ref x), .val (.int (1 : Int32)), .val (.int (0 : Int32)), .val (.int c1), .val (.int c2), .val (.int (0 : Int32)), .val (.int d1), .val (.int d2), .val (.int (((0 : Int32) + (2 : Int32)) + (0 : Int32))), .val (.int (32 : Int32)), .unset] [(.int (32 : Int32))]
  refine own_iload (q := 90) A4 d31_88 rfl ?_
  refine own_icmpF (q := 93) A4 d31_90 (show (32 : Int32) = (32 : Int32) from rfl) ?_
  refine own_iconst (q := 94) A4 (1 : Int32) d31_93 rfl ?_
  refine own_goto (q := 98) A4 d31_94 ?_
  exact own_retN A4 hQ (t := .boolean) (by simp) d31_98 ⟨rfl, rfl⟩
theorem rm_ok2_00 (x t : Addr) (kt : ClassId) (c1 c2 d1 d2 : Int32) (O0 : Old Z n0 h0) (H : own_H Z a0 zc fm) (Ex : Exa Z h0 x "java/lang/String") (Cx : Fld Z h0 x "java/lang/String" "coder" "B" (.int 0)) (Vx : Fld Z h0 x "java/lang/String" "value" "[B" (.ref t)) (Kx : Arv Z h0 t kt .byte 2 [(.int (58 : Int32)), (.int (32 : Int32))] (.int 0))  (hc10 : ¬ c1 < 0) (hc11 : ¬ (255 : Int32) < c1) (hnc1 : nar .char c1 = c1) (hc20 : ¬ c2 < 0) (hc21 : ¬ (255 : Int32) < c2) (hnc2 : nar .char c2 = c2) (hd10 : ¬ d1 < 0) (hd11 : ¬ (255 : Int32) < d1) (hnd1 : nar .char d1 = d1) (hd20 : ¬ d2 < 0) (hd21 : ¬ (255 : Int32) < d2) (hnd2 : nar .char d2 = d2):
  own_Met false l Z n0 [] [] ⟨"com/example/hifadhi/hifadhi/project/NotAnalysedMessagePinLaw", "ok", "(Ljava/lang/String;IICCICC)Z"⟩ method_4_code 11 (some .boolean) [] (own_R 4 0 0 53) #[(.ref x), (.int (2 : Int32)), (.int (0 : Int32)), (.int c1), (.int c2), (.int (0 : Int32)), (.int d1), (.int d2)] h0 (fun v h => v = some (.int 1) ∧ h0 = h) := by
  refine own_ent (a0 := a0) (nm := "ok") (Ls := #[.val (.ref x), .val (.int (2 : Int32)), .val (.int (0 : Int32)), .val (.int c1), .val (.int c2), .val (.int (0 : Int32)), .val (.int d1), .val (.int d2), .unset, .unset, .unset]) own_pn4 O0 EW.nil ?_
  intro p e _ m _ below _ _ T0 Q hQ A0
  refine own_iloadN (q := 1) A0 d31_0 rfl ?_
  refine own_iconst (q := 2) A0 (2 : Int32) d31_1 rfl ?_
  refine own_iadd (q := 3) A0 d31_2 ?_
  refine own_iload (q := 5) A0 d31_3 rfl ?_
  refine own_iadd (q := 6) A0 d31_5 ?_
  refine own_istore (q := 8) (L' := #[.val (.ref x), .val (.int (2 : Int32)), .val (.int (0 : Int32)), .val (.int c1), .val (.int c2), .val (.int (0 : Int32)), .val (.int d1), .val (.int d2), .val (.int (((0 : Int32) + (2 : Int32)) + (0 : Int32))), .unset, .unset]) A0 d31_6 rfl ?_
  refine own_iloadN (q := 9) A0 d31_8 rfl ?_
  refine own_iload (q := 11) A0 d31_9 rfl ?_
  refine own_icmpF (q := 14) A0 d31_11 (show ¬ (2 : Int32) < (((0 : Int32) + (2 : Int32)) + (0 : Int32)) from by decide) ?_
  refine own_iconst (q := 15) A0 (1 : Int32) d31_14 rfl ?_
  exact own_retN A0 hQ (t := .boolean) (by simp) d31_15 ⟨rfl, rfl⟩
theorem rm_ok3_00 (x t : Addr) (kt : ClassId) (c1 c2 d1 d2 : Int32) (O0 : Old Z n0 h0) (H : own_H Z a0 zc fm) (Ex : Exa Z h0 x "java/lang/String") (Cx : Fld Z h0 x "java/lang/String" "coder" "B" (.int 0)) (Vx : Fld Z h0 x "java/lang/String" "value" "[B" (.ref t)) (Kx : Arv Z h0 t kt .byte 2 [(.int (58 : Int32)), (.int (32 : Int32))] (.int 0))  (hc10 : ¬ c1 < 0) (hc11 : ¬ (255 : Int32) < c1) (hnc1 : nar .char c1 = c1) (hc20 : ¬ c2 < 0) (hc21 : ¬ (255 : Int32) < c2) (hnc2 : nar .char c2 = c2) (hd10 : ¬ d1 < 0) (hd11 : ¬ (255 : Int32) < d1) (hnd1 : nar .char d1 = d1) (hd20 : ¬ d2 < 0) (hd21 : ¬ (255 : Int32) < d2) (hnd2 : nar .char d2 = d2):
  own_Met false l Z n0 [] [] ⟨"com/example/hifadhi/hifadhi/project/NotAnalysedMessagePinLaw", "ok", "(Ljava/lang/String;IICCICC)Z"⟩ method_4_code 11 (some .boolean) [] (own_R 4 0 0 53) #[(.ref x), (.int (3 : Int32)), (.int (0 : Int32)), (.int c1), (.int c2), (.int (0 : Int32)), (.int d1), (.int d2)] h0 (fun v h => v = some (.int 1) ∧ h0 = h) := by
  refine own_ent (a0 := a0) (nm := "ok") (Ls := #[.val (.ref x), .val (.int (3 : Int32)), .val (.int (0 : Int32)), .val (.int c1), .val (.int c2), .val (.int (0 : Int32)), .val (.int d1), .val (.int d2), .unset, .unset, .unset]) own_pn4 O0 EW.nil ?_
  intro p e _ m _ below _ _ T0 Q hQ A0
  refine own_iloadN (q := 1) A0 d31_0 rfl ?_
  refine own_iconst (q := 2) A0 (2 : Int32) d31_1 rfl ?_
  refine own_iadd (q := 3) A0 d31_2 ?_
  refine own_iload (q := 5) A0 d31_3 rfl ?_
  refine own_iadd (q := 6) A0 d31_5 ?_
  refine own_istore (q := 8) (L' := #[.val (.ref x), .val (.int (3 : Int32)), .val (.int (0 : Int32)), .val (.int c1), .val (.int c2), .val (.int (0 : Int32)), .val (.int d1), .val (.int d2), .val (.int (((0 : Int32) + (2 : Int32)) + (0 : Int32))), .unset, .unset]) A0 d31_6 rfl ?_
  refine own_iloadN (q := 9) A0 d31_8 rfl ?_
  refine own_iload (q := 11) A0 d31_9 rfl ?_
  refine own_icmpF (q := 14) A0 d31_11 (show ¬ (3 : Int32) < (((0 : Int32) + (2 : Int32)) + (0 : Int32)) from by decide) ?_
  refine own_iconst (q := 15) A0 (1 : Int32) d31_14 rfl ?_
  exact own_retN A0 hQ (t := .boolean) (by simp) d31_15 ⟨rfl, rfl⟩
theorem rm_ok4_00 (x t : Addr) (kt : ClassId) (c1 c2 d1 d2 : Int32) (O0 : Old Z n0 h0) (H : own_H Z a0 zc fm) (Ex : Exa Z h0 x "java/lang/String") (Cx : Fld Z h0 x "java/lang/String" "coder" "B" (.int 0)) (Vx : Fld Z h0 x "java/lang/String" "value" "[B" (.ref t)) (Kx : Arv Z h0 t kt .byte 2 [(.int (58 : Int32)), (.int (32 : Int32))] (.int 0))  (hc10 : ¬ c1 < 0) (hc11 : ¬ (255 : Int32) < c1) (hnc1 : nar .char c1 = c1) (hc20 : ¬ c2 < 0) (hc21 : ¬ (255 : Int32) < c2) (hnc2 : nar .char c2 = c2) (hd10 : ¬ d1 < 0) (hd11 : ¬ (255 : Int32) < d1) (hnd1 : nar .char d1 = d1) (hd20 : ¬ d2 < 0) (hd21 : ¬ (255 : Int32) < d2) (hnd2 : nar .char d2 = d2):
  own_Met false l Z n0 [] [] ⟨"com/example/hifadhi/hifadhi/project/NotAnalysedMessagePinLaw", "ok", "(Ljava/lang/String;IICCICC)Z"⟩ method_4_code 11 (some .boolean) [] (own_R 4 0 0 53) #[(.ref x), (.int (4 : Int32)), (.int (0 : Int32)), (.int c1), (.int c2), (.int (0 : Int32)), (.int d1), (.int d2)] h0 (fun v h => v = some (.int 1) ∧ h0 = h) := by
  refine own_ent (a0 := a0) (nm := "ok") (Ls := #[.val (.ref x), .val (.int (4 : Int32)), .val (.int (0 : Int32)), .val (.int c1), .val (.int c2), .val (.int (0 : Int32)), .val (.int d1), .val (.int d2), .unset, .unset, .unset]) own_pn4 O0 EW.nil ?_
  intro p e _ m _ below _ _ T0 Q hQ A0
  refine own_iloadN (q := 1) A0 d31_0 rfl ?_
  refine own_iconst (q := 2) A0 (2 : Int32) d31_1 rfl ?_
  refine own_iadd (q := 3) A0 d31_2 ?_
  refine own_iload (q := 5) A0 d31_3 rfl ?_
  refine own_iadd (q := 6) A0 d31_5 ?_
  refine own_istore (q := 8) (L' := #[.val (.ref x), .val (.int (4 : Int32)), .val (.int (0 : Int32)), .val (.int c1), .val (.int c2), .val (.int (0 : Int32)), .val (.int d1), .val (.int d2), .val (.int (((0 : Int32) + (2 : Int32)) + (0 : Int32))), .unset, .unset]) A0 d31_6 rfl ?_
  refine own_iloadN (q := 9) A0 d31_8 rfl ?_
  refine own_iload (q := 11) A0 d31_9 rfl ?_
  refine own_icmpF (q := 14) A0 d31_11 (show ¬ (4 : Int32) < (((0 : Int32) + (2 : Int32)) + (0 : Int32)) from by decide) ?_
  refine own_iconst (q := 15) A0 (1 : Int32) d31_14 rfl ?_
  exact own_retN A0 hQ (t := .boolean) (by simp) d31_15 ⟨rfl, rfl⟩
theorem rm_ok5_00 (x t : Addr) (kt : ClassId) (c1 c2 d1 d2 : Int32) (O0 : Old Z n0 h0) (H : own_H Z a0 zc fm) (Ex : Exa Z h0 x "java/lang/String") (Cx : Fld Z h0 x "java/lang/String" "coder" "B" (.int 0)) (Vx : Fld Z h0 x "java/lang/String" "value" "[B" (.ref t)) (Kx : Arv Z h0 t kt .byte 2 [(.int (58 : Int32)), (.int (32 : Int32))] (.int 0))  (hc10 : ¬ c1 < 0) (hc11 : ¬ (255 : Int32) < c1) (hnc1 : nar .char c1 = c1) (hc20 : ¬ c2 < 0) (hc21 : ¬ (255 : Int32) < c2) (hnc2 : nar .char c2 = c2) (hd10 : ¬ d1 < 0) (hd11 : ¬ (255 : Int32) < d1) (hnd1 : nar .char d1 = d1) (hd20 : ¬ d2 < 0) (hd21 : ¬ (255 : Int32) < d2) (hnd2 : nar .char d2 = d2):
  own_Met false l Z n0 [] [] ⟨"com/example/hifadhi/hifadhi/project/NotAnalysedMessagePinLaw", "ok", "(Ljava/lang/String;IICCICC)Z"⟩ method_4_code 11 (some .boolean) [] (own_R 4 0 0 53) #[(.ref x), (.int (5 : Int32)), (.int (0 : Int32)), (.int c1), (.int c2), (.int (0 : Int32)), (.int d1), (.int d2)] h0 (fun v h => v = some (.int 1) ∧ h0 = h) := by
  refine own_ent (a0 := a0) (nm := "ok") (Ls := #[.val (.ref x), .val (.int (5 : Int32)), .val (.int (0 : Int32)), .val (.int c1), .val (.int c2), .val (.int (0 : Int32)), .val (.int d1), .val (.int d2), .unset, .unset, .unset]) own_pn4 O0 EW.nil ?_
  intro p e _ m _ below _ _ T0 Q hQ A0
  refine own_iloadN (q := 1) A0 d31_0 rfl ?_
  refine own_iconst (q := 2) A0 (2 : Int32) d31_1 rfl ?_
  refine own_iadd (q := 3) A0 d31_2 ?_
  refine own_iload (q := 5) A0 d31_3 rfl ?_
  refine own_iadd (q := 6) A0 d31_5 ?_
  refine own_istore (q := 8) (L' := #[.val (.ref x), .val (.int (5 : Int32)), .val (.int (0 : Int32)), .val (.int c1), .val (.int c2), .val (.int (0 : Int32)), .val (.int d1), .val (.int d2), .val (.int (((0 : Int32) + (2 : Int32)) + (0 : Int32))), .unset, .unset]) A0 d31_6 rfl ?_
  refine own_iloadN (q := 9) A0 d31_8 rfl ?_
  refine own_iload (q := 11) A0 d31_9 rfl ?_
  refine own_icmpF (q := 14) A0 d31_11 (show ¬ (5 : Int32) < (((0 : Int32) + (2 : Int32)) + (0 : Int32)) from by decide) ?_
  refine own_iconst (q := 15) A0 (1 : Int32) d31_14 rfl ?_
  exact own_retN A0 hQ (t := .boolean) (by simp) d31_15 ⟨rfl, rfl⟩
theorem rm_ok0_01 (x t : Addr) (kt : ClassId) (c1 c2 d1 d2 : Int32) (O0 : Old Z n0 h0) (H : own_H Z a0 zc fm) (Ex : Exa Z h0 x "java/lang/String") (Cx : Fld Z h0 x "java/lang/String" "coder" "B" (.int 0)) (Vx : Fld Z h0 x "java/lang/String" "value" "[B" (.ref t)) (Kx : Arv Z h0 t kt .byte 3 [(.int (58 : Int32)), (.int (32 : Int32)), (.int d1.toInt8.toInt32)] (.int 0))  (hc10 : ¬ c1 < 0) (hc11 : ¬ (255 : Int32) < c1) (hnc1 : nar .char c1 = c1) (hc20 : ¬ c2 < 0) (hc21 : ¬ (255 : Int32) < c2) (hnc2 : nar .char c2 = c2) (hd10 : ¬ d1 < 0) (hd11 : ¬ (255 : Int32) < d1) (hnd1 : nar .char d1 = d1) (hd20 : ¬ d2 < 0) (hd21 : ¬ (255 : Int32) < d2) (hnd2 : nar .char d2 = d2):
  own_Met false l Z n0 [] [] ⟨"com/example/hifadhi/hifadhi/project/NotAnalysedMessagePinLaw", "ok", "(Ljava/lang/String;IICCICC)Z"⟩ method_4_code 11 (some .boolean) [] (own_R 4 0 0 53) #[(.ref x), (.int (0 : Int32)), (.int (0 : Int32)), (.int c1), (.int c2), (.int (1 : Int32)), (.int d1), (.int d2)] h0 (fun v h => v = some (.int 1) ∧ h0 = h) := by
  refine own_ent (a0 := a0) (nm := "ok") (Ls := #[.val (.ref x), .val (.int (0 : Int32)), .val (.int (0 : Int32)), .val (.int c1), .val (.int c2), .val (.int (1 : Int32)), .val (.int d1), .val (.int d2), .unset, .unset, .unset]) own_pn4 O0 EW.nil ?_
  intro p e _ m _ below _ _ T0 Q hQ A0
  refine own_iloadN (q := 1) A0 d31_0 rfl ?_
  refine own_iconst (q := 2) A0 (2 : Int32) d31_1 rfl ?_
  refine own_iadd (q := 3) A0 d31_2 ?_
  refine own_iload (q := 5) A0 d31_3 rfl ?_
  refine own_iadd (q := 6) A0 d31_5 ?_
  refine own_istore (q := 8) (L' := #[.val (.ref x), .val (.int (0 : Int32)), .val (.int (0 : Int32)), .val (.int c1), .val (.int c2), .val (.int (1 : Int32)), .val (.int d1), .val (.int d2), .val (.int (((0 : Int32) + (2 : Int32)) + (1 : Int32))), .unset, .unset]) A0 d31_6 rfl ?_
  refine own_iloadN (q := 9) A0 d31_8 rfl ?_
  refine own_iload (q := 11) A0 d31_9 rfl ?_
  refine own_icmpT (q := 16) A0 d31_11 (show (0 : Int32) < (((0 : Int32) + (2 : Int32)) + (1 : Int32)) from by decide) ?_
  refine own_iloadN (q := 17) A0 d31_16 rfl ?_
  refine own_iloadN (q := 18) A0 d31_17 rfl ?_
  refine own_icmpT (q := 36) A0 d31_18 (show ¬ (0 : Int32) < (0 : Int32) from by decide) ?_
  refine own_iloadN (q := 37) A0 d31_36 rfl ?_
  refine own_iloadN (q := 38) A0 d31_37 rfl ?_
  refine own_icmpF (q := 41) A0 d31_38 (show (0 : Int32) = (0 : Int32) from by decide) ?_
  refine own_bipush (q := 43) A0 (58 : Int32) d31_41 rfl ?_
  refine own_istore (q := 45) (L' := #[.val (.ref x), .val (.int (0 : Int32)), .val (.int (0 : Int32)), .val (.int c1), .val (.int c2), .val (.int (1 : Int32)), .val (.int d1), .val (.int d2), .val (.int (((0 : Int32) + (2 : Int32)) + (1 : Int32))), .val (.int (58 : Int32)), .unset]) A0 d31_43 rfl ?_
  refine own_goto (q := 83) A0 d31_45 ?_
  refine own_aloadN (q := 84) A0 d31_83 rfl rfl ?_
  refine own_iloadN (q := 85) A0 d31_84 rfl ?_
  refine own_virtual (q := 88) (W := 0) (argsL := [(.int (0 : Int32))]) (rest := []) A0 (H.k 168 rfl) (H.k 169 rfl) (H.k 171 rfl) (H.k 170 rfl) (by decide) (own_payCh (cs1 := [(58 : Int32), (32 : Int32), d1]) (i := 0) (kI := 4) (own_wCh H.w) (H.k 5 rfl) A0.old Ex Vx Cx Kx (own_cod [(58 : Int32), (32 : Int32), d1] (n := 3) rfl (fun yy hy => ((show ∀ yy ∈ [(58 : Int32), (32 : Int32), d1], ¬ yy < 0 ∧ ¬ (255 : Int32) < yy from (own_fc (by decide) (own_fc (by decide) (own_fc ⟨hd10, hd11⟩ (fun _ z => nomatch z))))) yy hy).2) rfl rfl) (own_b16 (own_fc (by decide) (own_fc (by decide) (own_fc ⟨hd10, hd11⟩ (fun _ z => nomatch z))))) (Nat.le_of_ble_eq_true rfl) H.SC H.hz H.SF H.rf (Nat.le_of_ble_eq_true rfl) rfl (by decide) (by decide)) own_nW (Nat.le_of_eq rfl) Ex own_pd22 rfl rfl rfl d31_85 (by decide) (by decide) ?_
  rintro v1 T2 h3 A4 ⟨rfl, rfl⟩
  show own_Run p e below Q m T2 88 #[.val (.ref x), .val (.int (0 : Int32)), .val (.int (0 : Int32)), .val (.int c1), .val (.int c2), .val (.int (1 : Int32)), .val (.int d1), .val (.int d2), .val (.int (((0 : Int32) + (2 : Int32)) + (1 : Int32))), .val (.int (58 : Int32)), .unset] [(.int (58 : Int32))]
  refine own_iload (q := 90) A4 d31_88 rfl ?_
  refine own_icmpF (q := 93) A4 d31_90 (show (58 : Int32) = (58 : Int32) from rfl) ?_
  refine own_iconst (q := 94) A4 (1 : Int32) d31_93 rfl ?_
  refine own_goto (q := 98) A4 d31_94 ?_
  exact own_retN A4 hQ (t := .boolean) (by simp) d31_98 ⟨rfl, rfl⟩
theorem rm_ok1_01 (x t : Addr) (kt : ClassId) (c1 c2 d1 d2 : Int32) (O0 : Old Z n0 h0) (H : own_H Z a0 zc fm) (Ex : Exa Z h0 x "java/lang/String") (Cx : Fld Z h0 x "java/lang/String" "coder" "B" (.int 0)) (Vx : Fld Z h0 x "java/lang/String" "value" "[B" (.ref t)) (Kx : Arv Z h0 t kt .byte 3 [(.int (58 : Int32)), (.int (32 : Int32)), (.int d1.toInt8.toInt32)] (.int 0))  (hc10 : ¬ c1 < 0) (hc11 : ¬ (255 : Int32) < c1) (hnc1 : nar .char c1 = c1) (hc20 : ¬ c2 < 0) (hc21 : ¬ (255 : Int32) < c2) (hnc2 : nar .char c2 = c2) (hd10 : ¬ d1 < 0) (hd11 : ¬ (255 : Int32) < d1) (hnd1 : nar .char d1 = d1) (hd20 : ¬ d2 < 0) (hd21 : ¬ (255 : Int32) < d2) (hnd2 : nar .char d2 = d2):
  own_Met false l Z n0 [] [] ⟨"com/example/hifadhi/hifadhi/project/NotAnalysedMessagePinLaw", "ok", "(Ljava/lang/String;IICCICC)Z"⟩ method_4_code 11 (some .boolean) [] (own_R 4 0 0 53) #[(.ref x), (.int (1 : Int32)), (.int (0 : Int32)), (.int c1), (.int c2), (.int (1 : Int32)), (.int d1), (.int d2)] h0 (fun v h => v = some (.int 1) ∧ h0 = h) := by
  refine own_ent (a0 := a0) (nm := "ok") (Ls := #[.val (.ref x), .val (.int (1 : Int32)), .val (.int (0 : Int32)), .val (.int c1), .val (.int c2), .val (.int (1 : Int32)), .val (.int d1), .val (.int d2), .unset, .unset, .unset]) own_pn4 O0 EW.nil ?_
  intro p e _ m _ below _ _ T0 Q hQ A0
  refine own_iloadN (q := 1) A0 d31_0 rfl ?_
  refine own_iconst (q := 2) A0 (2 : Int32) d31_1 rfl ?_
  refine own_iadd (q := 3) A0 d31_2 ?_
  refine own_iload (q := 5) A0 d31_3 rfl ?_
  refine own_iadd (q := 6) A0 d31_5 ?_
  refine own_istore (q := 8) (L' := #[.val (.ref x), .val (.int (1 : Int32)), .val (.int (0 : Int32)), .val (.int c1), .val (.int c2), .val (.int (1 : Int32)), .val (.int d1), .val (.int d2), .val (.int (((0 : Int32) + (2 : Int32)) + (1 : Int32))), .unset, .unset]) A0 d31_6 rfl ?_
  refine own_iloadN (q := 9) A0 d31_8 rfl ?_
  refine own_iload (q := 11) A0 d31_9 rfl ?_
  refine own_icmpT (q := 16) A0 d31_11 (show (1 : Int32) < (((0 : Int32) + (2 : Int32)) + (1 : Int32)) from by decide) ?_
  refine own_iloadN (q := 17) A0 d31_16 rfl ?_
  refine own_iloadN (q := 18) A0 d31_17 rfl ?_
  refine own_icmpT (q := 36) A0 d31_18 (show ¬ (1 : Int32) < (0 : Int32) from by decide) ?_
  refine own_iloadN (q := 37) A0 d31_36 rfl ?_
  refine own_iloadN (q := 38) A0 d31_37 rfl ?_
  refine own_icmpT (q := 48) A0 d31_38 (show ¬ (1 : Int32) = (0 : Int32) from by decide) ?_
  refine own_iloadN (q := 49) A0 d31_48 rfl ?_
  refine own_iloadN (q := 50) A0 d31_49 rfl ?_
  refine own_iconst (q := 51) A0 (1 : Int32) d31_50 rfl ?_
  refine own_iadd (q := 52) A0 d31_51 ?_
  refine own_icmpF (q := 55) A0 d31_52 (show (1 : Int32) = ((0 : Int32) + (1 : Int32)) from by decide) ?_
  refine own_bipush (q := 57) A0 (32 : Int32) d31_55 rfl ?_
  refine own_istore (q := 59) (L' := #[.val (.ref x), .val (.int (1 : Int32)), .val (.int (0 : Int32)), .val (.int c1), .val (.int c2), .val (.int (1 : Int32)), .val (.int d1), .val (.int d2), .val (.int (((0 : Int32) + (2 : Int32)) + (1 : Int32))), .val (.int (32 : Int32)), .unset]) A0 d31_57 rfl ?_
  refine own_goto (q := 83) A0 d31_59 ?_
  refine own_aloadN (q := 84) A0 d31_83 rfl rfl ?_
  refine own_iloadN (q := 85) A0 d31_84 rfl ?_
  refine own_virtual (q := 88) (W := 0) (argsL := [(.int (1 : Int32))]) (rest := []) A0 (H.k 168 rfl) (H.k 169 rfl) (H.k 171 rfl) (H.k 170 rfl) (by decide) (own_payCh (cs1 := [(58 : Int32), (32 : Int32), d1]) (i := 1) (kI := 4) (own_wCh H.w) (H.k 5 rfl) A0.old Ex Vx Cx Kx (own_cod [(58 : Int32), (32 : Int32), d1] (n := 3) rfl (fun yy hy => ((show ∀ yy ∈ [(58 : Int32), (32 : Int32), d1], ¬ yy < 0 ∧ ¬ (255 : Int32) < yy from (own_fc (by decide) (own_fc (by decide) (own_fc ⟨hd10, hd11⟩ (fun _ z => nomatch z))))) yy hy).2) rfl rfl) (own_b16 (own_fc (by decide) (own_fc (by decide) (own_fc ⟨hd10, hd11⟩ (fun _ z => nomatch z))))) (Nat.le_of_ble_eq_true rfl) H.SC H.hz H.SF H.rf (Nat.le_of_ble_eq_true rfl) rfl (by decide) (by decide)) own_nW (Nat.le_of_eq rfl) Ex own_pd22 rfl rfl rfl d31_85 (by decide) (by decide) ?_
  rintro v1 T2 h3 A4 ⟨rfl, rfl⟩
  show own_Run p e below Q m T2 88 #[.val (.ref x), .val (.int (1 : Int32)), .val (.int (0 : Int32)), .val (.int c1), .val (.int c2), .val (.int (1 : Int32)), .val (.int d1), .val (.int d2), .val (.int (((0 : Int32) + (2 : Int32)) + (1 : Int32))), .val (.int (32 : Int32)), .unset] [(.int (32 : Int32))]
  refine own_iload (q := 90) A4 d31_88 rfl ?_
  refine own_icmpF (q := 93) A4 d31_90 (show (32 : Int32) = (32 : Int32) from rfl) ?_
  refine own_iconst (q := 94) A4 (1 : Int32) d31_93 rfl ?_
  refine own_goto (q := 98) A4 d31_94 ?_
  exact own_retN A4 hQ (t := .boolean) (by simp) d31_98 ⟨rfl, rfl⟩
theorem rm_ok2_01 (x t : Addr) (kt : ClassId) (c1 c2 d1 d2 : Int32) (O0 : Old Z n0 h0) (H : own_H Z a0 zc fm) (Ex : Exa Z h0 x "java/lang/String") (Cx : Fld Z h0 x "java/lang/String" "coder" "B" (.int 0)) (Vx : Fld Z h0 x "java/lang/String" "value" "[B" (.ref t)) (Kx : Arv Z h0 t kt .byte 3 [(.int (58 : Int32)), (.int (32 : Int32)), (.int d1.toInt8.toInt32)] (.int 0))  (hc10 : ¬ c1 < 0) (hc11 : ¬ (255 : Int32) < c1) (hnc1 : nar .char c1 = c1) (hc20 : ¬ c2 < 0) (hc21 : ¬ (255 : Int32) < c2) (hnc2 : nar .char c2 = c2) (hd10 : ¬ d1 < 0) (hd11 : ¬ (255 : Int32) < d1) (hnd1 : nar .char d1 = d1) (hd20 : ¬ d2 < 0) (hd21 : ¬ (255 : Int32) < d2) (hnd2 : nar .char d2 = d2):
  own_Met false l Z n0 [] [] ⟨"com/example/hifadhi/hifadhi/project/NotAnalysedMessagePinLaw", "ok", "(Ljava/lang/String;IICCICC)Z"⟩ method_4_code 11 (some .boolean) [] (own_R 4 0 0 53) #[(.ref x), (.int (2 : Int32)), (.int (0 : Int32)), (.int c1), (.int c2), (.int (1 : Int32)), (.int d1), (.int d2)] h0 (fun v h => v = some (.int 1) ∧ h0 = h) := by
  refine own_ent (a0 := a0) (nm := "ok") (Ls := #[.val (.ref x), .val (.int (2 : Int32)), .val (.int (0 : Int32)), .val (.int c1), .val (.int c2), .val (.int (1 : Int32)), .val (.int d1), .val (.int d2), .unset, .unset, .unset]) own_pn4 O0 EW.nil ?_
  intro p e _ m _ below _ _ T0 Q hQ A0
  refine own_iloadN (q := 1) A0 d31_0 rfl ?_
  refine own_iconst (q := 2) A0 (2 : Int32) d31_1 rfl ?_
  refine own_iadd (q := 3) A0 d31_2 ?_
  refine own_iload (q := 5) A0 d31_3 rfl ?_
  refine own_iadd (q := 6) A0 d31_5 ?_
  refine own_istore (q := 8) (L' := #[.val (.ref x), .val (.int (2 : Int32)), .val (.int (0 : Int32)), .val (.int c1), .val (.int c2), .val (.int (1 : Int32)), .val (.int d1), .val (.int d2), .val (.int (((0 : Int32) + (2 : Int32)) + (1 : Int32))), .unset, .unset]) A0 d31_6 rfl ?_
  refine own_iloadN (q := 9) A0 d31_8 rfl ?_
  refine own_iload (q := 11) A0 d31_9 rfl ?_
  refine own_icmpT (q := 16) A0 d31_11 (show (2 : Int32) < (((0 : Int32) + (2 : Int32)) + (1 : Int32)) from by decide) ?_
  refine own_iloadN (q := 17) A0 d31_16 rfl ?_
  refine own_iloadN (q := 18) A0 d31_17 rfl ?_
  refine own_icmpT (q := 36) A0 d31_18 (show ¬ (2 : Int32) < (0 : Int32) from by decide) ?_
  refine own_iloadN (q := 37) A0 d31_36 rfl ?_
  refine own_iloadN (q := 38) A0 d31_37 rfl ?_
  refine own_icmpT (q := 48) A0 d31_38 (show ¬ (2 : Int32) = (0 : Int32) from by decide) ?_
  refine own_iloadN (q := 49) A0 d31_48 rfl ?_
  refine own_iloadN (q := 50) A0 d31_49 rfl ?_
  refine own_iconst (q := 51) A0 (1 : Int32) d31_50 rfl ?_
  refine own_iadd (q := 52) A0 d31_51 ?_
  refine own_icmpT (q := 62) A0 d31_52 (show ¬ (2 : Int32) = ((0 : Int32) + (1 : Int32)) from by decide) ?_
  refine own_iloadN (q := 63) A0 d31_62 rfl ?_
  refine own_iloadN (q := 64) A0 d31_63 rfl ?_
  refine own_isub (q := 65) A0 d31_64 ?_
  refine own_iconst (q := 66) A0 (2 : Int32) d31_65 rfl ?_
  refine own_isub (q := 67) A0 d31_66 ?_
  refine own_istore (q := 69) (L' := #[.val (.ref x), .val (.int (2 : Int32)), .val (.int (0 : Int32)), .val (.int c1), .val (.int c2), .val (.int (1 : Int32)), .val (.int d1), .val (.int d2), .val (.int (((0 : Int32) + (2 : Int32)) + (1 : Int32))), .unset, .val (.int (((2 : Int32) - (0 : Int32)) - (2 : Int32)))]) A0 d31_67 rfl ?_
  refine own_iload (q := 71) A0 d31_69 rfl ?_
  refine own_ifcF (q := 74) A0 d31_71 (show (((2 : Int32) - (0 : Int32)) - (2 : Int32)) = (0 : Int32) from by decide) ?_
  refine own_iload (q := 76) A0 d31_74 rfl ?_
  refine own_goto (q := 81) A0 d31_76 ?_
  refine own_istore (q := 83) (L' := #[.val (.ref x), .val (.int (2 : Int32)), .val (.int (0 : Int32)), .val (.int c1), .val (.int c2), .val (.int (1 : Int32)), .val (.int d1), .val (.int d2), .val (.int (((0 : Int32) + (2 : Int32)) + (1 : Int32))), .val (.int d1), .val (.int (((2 : Int32) - (0 : Int32)) - (2 : Int32)))]) A0 d31_81 rfl ?_
  refine own_aloadN (q := 84) A0 d31_83 rfl rfl ?_
  refine own_iloadN (q := 85) A0 d31_84 rfl ?_
  refine own_virtual (q := 88) (W := 0) (argsL := [(.int (2 : Int32))]) (rest := []) A0 (H.k 168 rfl) (H.k 169 rfl) (H.k 171 rfl) (H.k 170 rfl) (by decide) (own_payCh (cs1 := [(58 : Int32), (32 : Int32), d1]) (i := 2) (kI := 4) (own_wCh H.w) (H.k 5 rfl) A0.old Ex Vx Cx Kx (own_cod [(58 : Int32), (32 : Int32), d1] (n := 3) rfl (fun yy hy => ((show ∀ yy ∈ [(58 : Int32), (32 : Int32), d1], ¬ yy < 0 ∧ ¬ (255 : Int32) < yy from (own_fc (by decide) (own_fc (by decide) (own_fc ⟨hd10, hd11⟩ (fun _ z => nomatch z))))) yy hy).2) rfl rfl) (own_b16 (own_fc (by decide) (own_fc (by decide) (own_fc ⟨hd10, hd11⟩ (fun _ z => nomatch z))))) (Nat.le_of_ble_eq_true rfl) H.SC H.hz H.SF H.rf (Nat.le_of_ble_eq_true rfl) rfl (by decide) (by decide)) own_nW (Nat.le_of_eq rfl) Ex own_pd22 rfl rfl rfl d31_85 (by decide) (by decide) ?_
  rintro v1 T2 h3 A4 ⟨rfl, rfl⟩
  show own_Run p e below Q m T2 88 #[.val (.ref x), .val (.int (2 : Int32)), .val (.int (0 : Int32)), .val (.int c1), .val (.int c2), .val (.int (1 : Int32)), .val (.int d1), .val (.int d2), .val (.int (((0 : Int32) + (2 : Int32)) + (1 : Int32))), .val (.int d1), .val (.int (((2 : Int32) - (0 : Int32)) - (2 : Int32)))] [(.int d1)]
  refine own_iload (q := 90) A4 d31_88 rfl ?_
  refine own_icmpF (q := 93) A4 d31_90 (show d1 = d1 from rfl) ?_
  refine own_iconst (q := 94) A4 (1 : Int32) d31_93 rfl ?_
  refine own_goto (q := 98) A4 d31_94 ?_
  exact own_retN A4 hQ (t := .boolean) (by simp) d31_98 ⟨rfl, rfl⟩
theorem rm_ok3_01 (x t : Addr) (kt : ClassId) (c1 c2 d1 d2 : Int32) (O0 : Old Z n0 h0) (H : own_H Z a0 zc fm) (Ex : Exa Z h0 x "java/lang/String") (Cx : Fld Z h0 x "java/lang/String" "coder" "B" (.int 0)) (Vx : Fld Z h0 x "java/lang/String" "value" "[B" (.ref t)) (Kx : Arv Z h0 t kt .byte 3 [(.int (58 : Int32)), (.int (32 : Int32)), (.int d1.toInt8.toInt32)] (.int 0))  (hc10 : ¬ c1 < 0) (hc11 : ¬ (255 : Int32) < c1) (hnc1 : nar .char c1 = c1) (hc20 : ¬ c2 < 0) (hc21 : ¬ (255 : Int32) < c2) (hnc2 : nar .char c2 = c2) (hd10 : ¬ d1 < 0) (hd11 : ¬ (255 : Int32) < d1) (hnd1 : nar .char d1 = d1) (hd20 : ¬ d2 < 0) (hd21 : ¬ (255 : Int32) < d2) (hnd2 : nar .char d2 = d2):
  own_Met false l Z n0 [] [] ⟨"com/example/hifadhi/hifadhi/project/NotAnalysedMessagePinLaw", "ok", "(Ljava/lang/String;IICCICC)Z"⟩ method_4_code 11 (some .boolean) [] (own_R 4 0 0 53) #[(.ref x), (.int (3 : Int32)), (.int (0 : Int32)), (.int c1), (.int c2), (.int (1 : Int32)), (.int d1), (.int d2)] h0 (fun v h => v = some (.int 1) ∧ h0 = h) := by
  refine own_ent (a0 := a0) (nm := "ok") (Ls := #[.val (.ref x), .val (.int (3 : Int32)), .val (.int (0 : Int32)), .val (.int c1), .val (.int c2), .val (.int (1 : Int32)), .val (.int d1), .val (.int d2), .unset, .unset, .unset]) own_pn4 O0 EW.nil ?_
  intro p e _ m _ below _ _ T0 Q hQ A0
  refine own_iloadN (q := 1) A0 d31_0 rfl ?_
  refine own_iconst (q := 2) A0 (2 : Int32) d31_1 rfl ?_
  refine own_iadd (q := 3) A0 d31_2 ?_
  refine own_iload (q := 5) A0 d31_3 rfl ?_
  refine own_iadd (q := 6) A0 d31_5 ?_
  refine own_istore (q := 8) (L' := #[.val (.ref x), .val (.int (3 : Int32)), .val (.int (0 : Int32)), .val (.int c1), .val (.int c2), .val (.int (1 : Int32)), .val (.int d1), .val (.int d2), .val (.int (((0 : Int32) + (2 : Int32)) + (1 : Int32))), .unset, .unset]) A0 d31_6 rfl ?_
  refine own_iloadN (q := 9) A0 d31_8 rfl ?_
  refine own_iload (q := 11) A0 d31_9 rfl ?_
  refine own_icmpF (q := 14) A0 d31_11 (show ¬ (3 : Int32) < (((0 : Int32) + (2 : Int32)) + (1 : Int32)) from by decide) ?_
  refine own_iconst (q := 15) A0 (1 : Int32) d31_14 rfl ?_
  exact own_retN A0 hQ (t := .boolean) (by simp) d31_15 ⟨rfl, rfl⟩
theorem rm_ok4_01 (x t : Addr) (kt : ClassId) (c1 c2 d1 d2 : Int32) (O0 : Old Z n0 h0) (H : own_H Z a0 zc fm) (Ex : Exa Z h0 x "java/lang/String") (Cx : Fld Z h0 x "java/lang/String" "coder" "B" (.int 0)) (Vx : Fld Z h0 x "java/lang/String" "value" "[B" (.ref t)) (Kx : Arv Z h0 t kt .byte 3 [(.int (58 : Int32)), (.int (32 : Int32)), (.int d1.toInt8.toInt32)] (.int 0))  (hc10 : ¬ c1 < 0) (hc11 : ¬ (255 : Int32) < c1) (hnc1 : nar .char c1 = c1) (hc20 : ¬ c2 < 0) (hc21 : ¬ (255 : Int32) < c2) (hnc2 : nar .char c2 = c2) (hd10 : ¬ d1 < 0) (hd11 : ¬ (255 : Int32) < d1) (hnd1 : nar .char d1 = d1) (hd20 : ¬ d2 < 0) (hd21 : ¬ (255 : Int32) < d2) (hnd2 : nar .char d2 = d2):
  own_Met false l Z n0 [] [] ⟨"com/example/hifadhi/hifadhi/project/NotAnalysedMessagePinLaw", "ok", "(Ljava/lang/String;IICCICC)Z"⟩ method_4_code 11 (some .boolean) [] (own_R 4 0 0 53) #[(.ref x), (.int (4 : Int32)), (.int (0 : Int32)), (.int c1), (.int c2), (.int (1 : Int32)), (.int d1), (.int d2)] h0 (fun v h => v = some (.int 1) ∧ h0 = h) := by
  refine own_ent (a0 := a0) (nm := "ok") (Ls := #[.val (.ref x), .val (.int (4 : Int32)), .val (.int (0 : Int32)), .val (.int c1), .val (.int c2), .val (.int (1 : Int32)), .val (.int d1), .val (.int d2), .unset, .unset, .unset]) own_pn4 O0 EW.nil ?_
  intro p e _ m _ below _ _ T0 Q hQ A0
  refine own_iloadN (q := 1) A0 d31_0 rfl ?_
  refine own_iconst (q := 2) A0 (2 : Int32) d31_1 rfl ?_
  refine own_iadd (q := 3) A0 d31_2 ?_
  refine own_iload (q := 5) A0 d31_3 rfl ?_
  refine own_iadd (q := 6) A0 d31_5 ?_
  refine own_istore (q := 8) (L' := #[.val (.ref x), .val (.int (4 : Int32)), .val (.int (0 : Int32)), .val (.int c1), .val (.int c2), .val (.int (1 : Int32)), .val (.int d1), .val (.int d2), .val (.int (((0 : Int32) + (2 : Int32)) + (1 : Int32))), .unset, .unset]) A0 d31_6 rfl ?_
  refine own_iloadN (q := 9) A0 d31_8 rfl ?_
  refine own_iload (q := 11) A0 d31_9 rfl ?_
  refine own_icmpF (q := 14) A0 d31_11 (show ¬ (4 : Int32) < (((0 : Int32) + (2 : Int32)) + (1 : Int32)) from by decide) ?_
  refine own_iconst (q := 15) A0 (1 : Int32) d31_14 rfl ?_
  exact own_retN A0 hQ (t := .boolean) (by simp) d31_15 ⟨rfl, rfl⟩
theorem rm_ok5_01 (x t : Addr) (kt : ClassId) (c1 c2 d1 d2 : Int32) (O0 : Old Z n0 h0) (H : own_H Z a0 zc fm) (Ex : Exa Z h0 x "java/lang/String") (Cx : Fld Z h0 x "java/lang/String" "coder" "B" (.int 0)) (Vx : Fld Z h0 x "java/lang/String" "value" "[B" (.ref t)) (Kx : Arv Z h0 t kt .byte 3 [(.int (58 : Int32)), (.int (32 : Int32)), (.int d1.toInt8.toInt32)] (.int 0))  (hc10 : ¬ c1 < 0) (hc11 : ¬ (255 : Int32) < c1) (hnc1 : nar .char c1 = c1) (hc20 : ¬ c2 < 0) (hc21 : ¬ (255 : Int32) < c2) (hnc2 : nar .char c2 = c2) (hd10 : ¬ d1 < 0) (hd11 : ¬ (255 : Int32) < d1) (hnd1 : nar .char d1 = d1) (hd20 : ¬ d2 < 0) (hd21 : ¬ (255 : Int32) < d2) (hnd2 : nar .char d2 = d2):
  own_Met false l Z n0 [] [] ⟨"com/example/hifadhi/hifadhi/project/NotAnalysedMessagePinLaw", "ok", "(Ljava/lang/String;IICCICC)Z"⟩ method_4_code 11 (some .boolean) [] (own_R 4 0 0 53) #[(.ref x), (.int (5 : Int32)), (.int (0 : Int32)), (.int c1), (.int c2), (.int (1 : Int32)), (.int d1), (.int d2)] h0 (fun v h => v = some (.int 1) ∧ h0 = h) := by
  refine own_ent (a0 := a0) (nm := "ok") (Ls := #[.val (.ref x), .val (.int (5 : Int32)), .val (.int (0 : Int32)), .val (.int c1), .val (.int c2), .val (.int (1 : Int32)), .val (.int d1), .val (.int d2), .unset, .unset, .unset]) own_pn4 O0 EW.nil ?_
  intro p e _ m _ below _ _ T0 Q hQ A0
  refine own_iloadN (q := 1) A0 d31_0 rfl ?_
  refine own_iconst (q := 2) A0 (2 : Int32) d31_1 rfl ?_
  refine own_iadd (q := 3) A0 d31_2 ?_
  refine own_iload (q := 5) A0 d31_3 rfl ?_
  refine own_iadd (q := 6) A0 d31_5 ?_
  refine own_istore (q := 8) (L' := #[.val (.ref x), .val (.int (5 : Int32)), .val (.int (0 : Int32)), .val (.int c1), .val (.int c2), .val (.int (1 : Int32)), .val (.int d1), .val (.int d2), .val (.int (((0 : Int32) + (2 : Int32)) + (1 : Int32))), .unset, .unset]) A0 d31_6 rfl ?_
  refine own_iloadN (q := 9) A0 d31_8 rfl ?_
  refine own_iload (q := 11) A0 d31_9 rfl ?_
  refine own_icmpF (q := 14) A0 d31_11 (show ¬ (5 : Int32) < (((0 : Int32) + (2 : Int32)) + (1 : Int32)) from by decide) ?_
  refine own_iconst (q := 15) A0 (1 : Int32) d31_14 rfl ?_
  exact own_retN A0 hQ (t := .boolean) (by simp) d31_15 ⟨rfl, rfl⟩
theorem rm_ok0_02 (x t : Addr) (kt : ClassId) (c1 c2 d1 d2 : Int32) (O0 : Old Z n0 h0) (H : own_H Z a0 zc fm) (Ex : Exa Z h0 x "java/lang/String") (Cx : Fld Z h0 x "java/lang/String" "coder" "B" (.int 0)) (Vx : Fld Z h0 x "java/lang/String" "value" "[B" (.ref t)) (Kx : Arv Z h0 t kt .byte 4 [(.int (58 : Int32)), (.int (32 : Int32)), (.int d1.toInt8.toInt32), (.int d2.toInt8.toInt32)] (.int 0))  (hc10 : ¬ c1 < 0) (hc11 : ¬ (255 : Int32) < c1) (hnc1 : nar .char c1 = c1) (hc20 : ¬ c2 < 0) (hc21 : ¬ (255 : Int32) < c2) (hnc2 : nar .char c2 = c2) (hd10 : ¬ d1 < 0) (hd11 : ¬ (255 : Int32) < d1) (hnd1 : nar .char d1 = d1) (hd20 : ¬ d2 < 0) (hd21 : ¬ (255 : Int32) < d2) (hnd2 : nar .char d2 = d2):
  own_Met false l Z n0 [] [] ⟨"com/example/hifadhi/hifadhi/project/NotAnalysedMessagePinLaw", "ok", "(Ljava/lang/String;IICCICC)Z"⟩ method_4_code 11 (some .boolean) [] (own_R 4 0 0 53) #[(.ref x), (.int (0 : Int32)), (.int (0 : Int32)), (.int c1), (.int c2), (.int (2 : Int32)), (.int d1), (.int d2)] h0 (fun v h => v = some (.int 1) ∧ h0 = h) := by
  refine own_ent (a0 := a0) (nm := "ok") (Ls := #[.val (.ref x), .val (.int (0 : Int32)), .val (.int (0 : Int32)), .val (.int c1), .val (.int c2), .val (.int (2 : Int32)), .val (.int d1), .val (.int d2), .unset, .unset, .unset]) own_pn4 O0 EW.nil ?_
  intro p e _ m _ below _ _ T0 Q hQ A0
  refine own_iloadN (q := 1) A0 d31_0 rfl ?_
  refine own_iconst (q := 2) A0 (2 : Int32) d31_1 rfl ?_
  refine own_iadd (q := 3) A0 d31_2 ?_
  refine own_iload (q := 5) A0 d31_3 rfl ?_
  refine own_iadd (q := 6) A0 d31_5 ?_
  refine own_istore (q := 8) (L' := #[.val (.ref x), .val (.int (0 : Int32)), .val (.int (0 : Int32)), .val (.int c1), .val (.int c2), .val (.int (2 : Int32)), .val (.int d1), .val (.int d2), .val (.int (((0 : Int32) + (2 : Int32)) + (2 : Int32))), .unset, .unset]) A0 d31_6 rfl ?_
  refine own_iloadN (q := 9) A0 d31_8 rfl ?_
  refine own_iload (q := 11) A0 d31_9 rfl ?_
  refine own_icmpT (q := 16) A0 d31_11 (show (0 : Int32) < (((0 : Int32) + (2 : Int32)) + (2 : Int32)) from by decide) ?_
  refine own_iloadN (q := 17) A0 d31_16 rfl ?_
  refine own_iloadN (q := 18) A0 d31_17 rfl ?_
  refine own_icmpT (q := 36) A0 d31_18 (show ¬ (0 : Int32) < (0 : Int32) from by decide) ?_
  refine own_iloadN (q := 37) A0 d31_36 rfl ?_
  refine own_iloadN (q := 38) A0 d31_37 rfl ?_
  refine own_icmpF (q := 41) A0 d31_38 (show (0 : Int32) = (0 : Int32) from by decide) ?_
  refine own_bipush (q := 43) A0 (58 : Int32) d31_41 rfl ?_
  refine own_istore (q := 45) (L' := #[.val (.ref x), .val (.int (0 : Int32)), .val (.int (0 : Int32)), .val (.int c1), .val (.int c2), .val (.int (2 : Int32)), .val (.int d1), .val (.int d2), .val (.int (((0 : Int32) + (2 : Int32)) + (2 : Int32))), .val (.int (58 : Int32)), .unset]) A0 d31_43 rfl ?_
  refine own_goto (q := 83) A0 d31_45 ?_
  refine own_aloadN (q := 84) A0 d31_83 rfl rfl ?_
  refine own_iloadN (q := 85) A0 d31_84 rfl ?_
  refine own_virtual (q := 88) (W := 0) (argsL := [(.int (0 : Int32))]) (rest := []) A0 (H.k 168 rfl) (H.k 169 rfl) (H.k 171 rfl) (H.k 170 rfl) (by decide) (own_payCh (cs1 := [(58 : Int32), (32 : Int32), d1, d2]) (i := 0) (kI := 4) (own_wCh H.w) (H.k 5 rfl) A0.old Ex Vx Cx Kx (own_cod [(58 : Int32), (32 : Int32), d1, d2] (n := 4) rfl (fun yy hy => ((show ∀ yy ∈ [(58 : Int32), (32 : Int32), d1, d2], ¬ yy < 0 ∧ ¬ (255 : Int32) < yy from (own_fc (by decide) (own_fc (by decide) (own_fc ⟨hd10, hd11⟩ (own_fc ⟨hd20, hd21⟩ (fun _ z => nomatch z)))))) yy hy).2) rfl rfl) (own_b16 (own_fc (by decide) (own_fc (by decide) (own_fc ⟨hd10, hd11⟩ (own_fc ⟨hd20, hd21⟩ (fun _ z => nomatch z)))))) (Nat.le_of_ble_eq_true rfl) H.SC H.hz H.SF H.rf (Nat.le_of_ble_eq_true rfl) rfl (by decide) (by decide)) own_nW (Nat.le_of_eq rfl) Ex own_pd22 rfl rfl rfl d31_85 (by decide) (by decide) ?_
  rintro v1 T2 h3 A4 ⟨rfl, rfl⟩
  show own_Run p e below Q m T2 88 #[.val (.ref x), .val (.int (0 : Int32)), .val (.int (0 : Int32)), .val (.int c1), .val (.int c2), .val (.int (2 : Int32)), .val (.int d1), .val (.int d2), .val (.int (((0 : Int32) + (2 : Int32)) + (2 : Int32))), .val (.int (58 : Int32)), .unset] [(.int (58 : Int32))]
  refine own_iload (q := 90) A4 d31_88 rfl ?_
  refine own_icmpF (q := 93) A4 d31_90 (show (58 : Int32) = (58 : Int32) from rfl) ?_
  refine own_iconst (q := 94) A4 (1 : Int32) d31_93 rfl ?_
  refine own_goto (q := 98) A4 d31_94 ?_
  exact own_retN A4 hQ (t := .boolean) (by simp) d31_98 ⟨rfl, rfl⟩
theorem rm_ok1_02 (x t : Addr) (kt : ClassId) (c1 c2 d1 d2 : Int32) (O0 : Old Z n0 h0) (H : own_H Z a0 zc fm) (Ex : Exa Z h0 x "java/lang/String") (Cx : Fld Z h0 x "java/lang/String" "coder" "B" (.int 0)) (Vx : Fld Z h0 x "java/lang/String" "value" "[B" (.ref t)) (Kx : Arv Z h0 t kt .byte 4 [(.int (58 : Int32)), (.int (32 : Int32)), (.int d1.toInt8.toInt32), (.int d2.toInt8.toInt32)] (.int 0))  (hc10 : ¬ c1 < 0) (hc11 : ¬ (255 : Int32) < c1) (hnc1 : nar .char c1 = c1) (hc20 : ¬ c2 < 0) (hc21 : ¬ (255 : Int32) < c2) (hnc2 : nar .char c2 = c2) (hd10 : ¬ d1 < 0) (hd11 : ¬ (255 : Int32) < d1) (hnd1 : nar .char d1 = d1) (hd20 : ¬ d2 < 0) (hd21 : ¬ (255 : Int32) < d2) (hnd2 : nar .char d2 = d2):
  own_Met false l Z n0 [] [] ⟨"com/example/hifadhi/hifadhi/project/NotAnalysedMessagePinLaw", "ok", "(Ljava/lang/String;IICCICC)Z"⟩ method_4_code 11 (some .boolean) [] (own_R 4 0 0 53) #[(.ref x), (.int (1 : Int32)), (.int (0 : Int32)), (.int c1), (.int c2), (.int (2 : Int32)), (.int d1), (.int d2)] h0 (fun v h => v = some (.int 1) ∧ h0 = h) := by
  refine own_ent (a0 := a0) (nm := "ok") (Ls := #[.val (.ref x), .val (.int (1 : Int32)), .val (.int (0 : Int32)), .val (.int c1), .val (.int c2), .val (.int (2 : Int32)), .val (.int d1), .val (.int d2), .unset, .unset, .unset]) own_pn4 O0 EW.nil ?_
  intro p e _ m _ below _ _ T0 Q hQ A0
  refine own_iloadN (q := 1) A0 d31_0 rfl ?_
  refine own_iconst (q := 2) A0 (2 : Int32) d31_1 rfl ?_
  refine own_iadd (q := 3) A0 d31_2 ?_
  refine own_iload (q := 5) A0 d31_3 rfl ?_
  refine own_iadd (q := 6) A0 d31_5 ?_
  refine own_istore (q := 8) (L' := #[.val (.ref x), .val (.int (1 : Int32)), .val (.int (0 : Int32)), .val (.int c1), .val (.int c2), .val (.int (2 : Int32)), .val (.int d1), .val (.int d2), .val (.int (((0 : Int32) + (2 : Int32)) + (2 : Int32))), .unset, .unset]) A0 d31_6 rfl ?_
  refine own_iloadN (q := 9) A0 d31_8 rfl ?_
  refine own_iload (q := 11) A0 d31_9 rfl ?_
  refine own_icmpT (q := 16) A0 d31_11 (show (1 : Int32) < (((0 : Int32) + (2 : Int32)) + (2 : Int32)) from by decide) ?_
  refine own_iloadN (q := 17) A0 d31_16 rfl ?_
  refine own_iloadN (q := 18) A0 d31_17 rfl ?_
  refine own_icmpT (q := 36) A0 d31_18 (show ¬ (1 : Int32) < (0 : Int32) from by decide) ?_
  refine own_iloadN (q := 37) A0 d31_36 rfl ?_
  refine own_iloadN (q := 38) A0 d31_37 rfl ?_
  refine own_icmpT (q := 48) A0 d31_38 (show ¬ (1 : Int32) = (0 : Int32) from by decide) ?_
  refine own_iloadN (q := 49) A0 d31_48 rfl ?_
  refine own_iloadN (q := 50) A0 d31_49 rfl ?_
  refine own_iconst (q := 51) A0 (1 : Int32) d31_50 rfl ?_
  refine own_iadd (q := 52) A0 d31_51 ?_
  refine own_icmpF (q := 55) A0 d31_52 (show (1 : Int32) = ((0 : Int32) + (1 : Int32)) from by decide) ?_
  refine own_bipush (q := 57) A0 (32 : Int32) d31_55 rfl ?_
  refine own_istore (q := 59) (L' := #[.val (.ref x), .val (.int (1 : Int32)), .val (.int (0 : Int32)), .val (.int c1), .val (.int c2), .val (.int (2 : Int32)), .val (.int d1), .val (.int d2), .val (.int (((0 : Int32) + (2 : Int32)) + (2 : Int32))), .val (.int (32 : Int32)), .unset]) A0 d31_57 rfl ?_
  refine own_goto (q := 83) A0 d31_59 ?_
  refine own_aloadN (q := 84) A0 d31_83 rfl rfl ?_
  refine own_iloadN (q := 85) A0 d31_84 rfl ?_
  refine own_virtual (q := 88) (W := 0) (argsL := [(.int (1 : Int32))]) (rest := []) A0 (H.k 168 rfl) (H.k 169 rfl) (H.k 171 rfl) (H.k 170 rfl) (by decide) (own_payCh (cs1 := [(58 : Int32), (32 : Int32), d1, d2]) (i := 1) (kI := 4) (own_wCh H.w) (H.k 5 rfl) A0.old Ex Vx Cx Kx (own_cod [(58 : Int32), (32 : Int32), d1, d2] (n := 4) rfl (fun yy hy => ((show ∀ yy ∈ [(58 : Int32), (32 : Int32), d1, d2], ¬ yy < 0 ∧ ¬ (255 : Int32) < yy from (own_fc (by decide) (own_fc (by decide) (own_fc ⟨hd10, hd11⟩ (own_fc ⟨hd20, hd21⟩ (fun _ z => nomatch z)))))) yy hy).2) rfl rfl) (own_b16 (own_fc (by decide) (own_fc (by decide) (own_fc ⟨hd10, hd11⟩ (own_fc ⟨hd20, hd21⟩ (fun _ z => nomatch z)))))) (Nat.le_of_ble_eq_true rfl) H.SC H.hz H.SF H.rf (Nat.le_of_ble_eq_true rfl) rfl (by decide) (by decide)) own_nW (Nat.le_of_eq rfl) Ex own_pd22 rfl rfl rfl d31_85 (by decide) (by decide) ?_
  rintro v1 T2 h3 A4 ⟨rfl, rfl⟩
  show own_Run p e below Q m T2 88 #[.val (.ref x), .val (.int (1 : Int32)), .val (.int (0 : Int32)), .val (.int c1), .val (.int c2), .val (.int (2 : Int32)), .val (.int d1), .val (.int d2), .val (.int (((0 : Int32) + (2 : Int32)) + (2 : Int32))), .val (.int (32 : Int32)), .unset] [(.int (32 : Int32))]
  refine own_iload (q := 90) A4 d31_88 rfl ?_
  refine own_icmpF (q := 93) A4 d31_90 (show (32 : Int32) = (32 : Int32) from rfl) ?_
  refine own_iconst (q := 94) A4 (1 : Int32) d31_93 rfl ?_
  refine own_goto (q := 98) A4 d31_94 ?_
  exact own_retN A4 hQ (t := .boolean) (by simp) d31_98 ⟨rfl, rfl⟩
theorem rm_ok2_02 (x t : Addr) (kt : ClassId) (c1 c2 d1 d2 : Int32) (O0 : Old Z n0 h0) (H : own_H Z a0 zc fm) (Ex : Exa Z h0 x "java/lang/String") (Cx : Fld Z h0 x "java/lang/String" "coder" "B" (.int 0)) (Vx : Fld Z h0 x "java/lang/String" "value" "[B" (.ref t)) (Kx : Arv Z h0 t kt .byte 4 [(.int (58 : Int32)), (.int (32 : Int32)), (.int d1.toInt8.toInt32), (.int d2.toInt8.toInt32)] (.int 0))  (hc10 : ¬ c1 < 0) (hc11 : ¬ (255 : Int32) < c1) (hnc1 : nar .char c1 = c1) (hc20 : ¬ c2 < 0) (hc21 : ¬ (255 : Int32) < c2) (hnc2 : nar .char c2 = c2) (hd10 : ¬ d1 < 0) (hd11 : ¬ (255 : Int32) < d1) (hnd1 : nar .char d1 = d1) (hd20 : ¬ d2 < 0) (hd21 : ¬ (255 : Int32) < d2) (hnd2 : nar .char d2 = d2):
  own_Met false l Z n0 [] [] ⟨"com/example/hifadhi/hifadhi/project/NotAnalysedMessagePinLaw", "ok", "(Ljava/lang/String;IICCICC)Z"⟩ method_4_code 11 (some .boolean) [] (own_R 4 0 0 53) #[(.ref x), (.int (2 : Int32)), (.int (0 : Int32)), (.int c1), (.int c2), (.int (2 : Int32)), (.int d1), (.int d2)] h0 (fun v h => v = some (.int 1) ∧ h0 = h) := by
  refine own_ent (a0 := a0) (nm := "ok") (Ls := #[.val (.ref x), .val (.int (2 : Int32)), .val (.int (0 : Int32)), .val (.int c1), .val (.int c2), .val (.int (2 : Int32)), .val (.int d1), .val (.int d2), .unset, .unset, .unset]) own_pn4 O0 EW.nil ?_
  intro p e _ m _ below _ _ T0 Q hQ A0
  refine own_iloadN (q := 1) A0 d31_0 rfl ?_
  refine own_iconst (q := 2) A0 (2 : Int32) d31_1 rfl ?_
  refine own_iadd (q := 3) A0 d31_2 ?_
  refine own_iload (q := 5) A0 d31_3 rfl ?_
  refine own_iadd (q := 6) A0 d31_5 ?_
  refine own_istore (q := 8) (L' := #[.val (.ref x), .val (.int (2 : Int32)), .val (.int (0 : Int32)), .val (.int c1), .val (.int c2), .val (.int (2 : Int32)), .val (.int d1), .val (.int d2), .val (.int (((0 : Int32) + (2 : Int32)) + (2 : Int32))), .unset, .unset]) A0 d31_6 rfl ?_
  refine own_iloadN (q := 9) A0 d31_8 rfl ?_
  refine own_iload (q := 11) A0 d31_9 rfl ?_
  refine own_icmpT (q := 16) A0 d31_11 (show (2 : Int32) < (((0 : Int32) + (2 : Int32)) + (2 : Int32)) from by decide) ?_
  refine own_iloadN (q := 17) A0 d31_16 rfl ?_
  refine own_iloadN (q := 18) A0 d31_17 rfl ?_
  refine own_icmpT (q := 36) A0 d31_18 (show ¬ (2 : Int32) < (0 : Int32) from by decide) ?_
  refine own_iloadN (q := 37) A0 d31_36 rfl ?_
  refine own_iloadN (q := 38) A0 d31_37 rfl ?_
  refine own_icmpT (q := 48) A0 d31_38 (show ¬ (2 : Int32) = (0 : Int32) from by decide) ?_
  refine own_iloadN (q := 49) A0 d31_48 rfl ?_
  refine own_iloadN (q := 50) A0 d31_49 rfl ?_
  refine own_iconst (q := 51) A0 (1 : Int32) d31_50 rfl ?_
  refine own_iadd (q := 52) A0 d31_51 ?_
  refine own_icmpT (q := 62) A0 d31_52 (show ¬ (2 : Int32) = ((0 : Int32) + (1 : Int32)) from by decide) ?_
  refine own_iloadN (q := 63) A0 d31_62 rfl ?_
  refine own_iloadN (q := 64) A0 d31_63 rfl ?_
  refine own_isub (q := 65) A0 d31_64 ?_
  refine own_iconst (q := 66) A0 (2 : Int32) d31_65 rfl ?_
  refine own_isub (q := 67) A0 d31_66 ?_
  refine own_istore (q := 69) (L' := #[.val (.ref x), .val (.int (2 : Int32)), .val (.int (0 : Int32)), .val (.int c1), .val (.int c2), .val (.int (2 : Int32)), .val (.int d1), .val (.int d2), .val (.int (((0 : Int32) + (2 : Int32)) + (2 : Int32))), .unset, .val (.int (((2 : Int32) - (0 : Int32)) - (2 : Int32)))]) A0 d31_67 rfl ?_
  refine own_iload (q := 71) A0 d31_69 rfl ?_
  refine own_ifcF (q := 74) A0 d31_71 (show (((2 : Int32) - (0 : Int32)) - (2 : Int32)) = (0 : Int32) from by decide) ?_
  refine own_iload (q := 76) A0 d31_74 rfl ?_
  refine own_goto (q := 81) A0 d31_76 ?_
  refine own_istore (q := 83) (L' := #[.val (.ref x), .val (.int (2 : Int32)), .val (.int (0 : Int32)), .val (.int c1), .val (.int c2), .val (.int (2 : Int32)), .val (.int d1), .val (.int d2), .val (.int (((0 : Int32) + (2 : Int32)) + (2 : Int32))), .val (.int d1), .val (.int (((2 : Int32) - (0 : Int32)) - (2 : Int32)))]) A0 d31_81 rfl ?_
  refine own_aloadN (q := 84) A0 d31_83 rfl rfl ?_
  refine own_iloadN (q := 85) A0 d31_84 rfl ?_
  refine own_virtual (q := 88) (W := 0) (argsL := [(.int (2 : Int32))]) (rest := []) A0 (H.k 168 rfl) (H.k 169 rfl) (H.k 171 rfl) (H.k 170 rfl) (by decide) (own_payCh (cs1 := [(58 : Int32), (32 : Int32), d1, d2]) (i := 2) (kI := 4) (own_wCh H.w) (H.k 5 rfl) A0.old Ex Vx Cx Kx (own_cod [(58 : Int32), (32 : Int32), d1, d2] (n := 4) rfl (fun yy hy => ((show ∀ yy ∈ [(58 : Int32), (32 : Int32), d1, d2], ¬ yy < 0 ∧ ¬ (255 : Int32) < yy from (own_fc (by decide) (own_fc (by decide) (own_fc ⟨hd10, hd11⟩ (own_fc ⟨hd20, hd21⟩ (fun _ z => nomatch z)))))) yy hy).2) rfl rfl) (own_b16 (own_fc (by decide) (own_fc (by decide) (own_fc ⟨hd10, hd11⟩ (own_fc ⟨hd20, hd21⟩ (fun _ z => nomatch z)))))) (Nat.le_of_ble_eq_true rfl) H.SC H.hz H.SF H.rf (Nat.le_of_ble_eq_true rfl) rfl (by decide) (by decide)) own_nW (Nat.le_of_eq rfl) Ex own_pd22 rfl rfl rfl d31_85 (by decide) (by decide) ?_
  rintro v1 T2 h3 A4 ⟨rfl, rfl⟩
  show own_Run p e below Q m T2 88 #[.val (.ref x), .val (.int (2 : Int32)), .val (.int (0 : Int32)), .val (.int c1), .val (.int c2), .val (.int (2 : Int32)), .val (.int d1), .val (.int d2), .val (.int (((0 : Int32) + (2 : Int32)) + (2 : Int32))), .val (.int d1), .val (.int (((2 : Int32) - (0 : Int32)) - (2 : Int32)))] [(.int d1)]
  refine own_iload (q := 90) A4 d31_88 rfl ?_
  refine own_icmpF (q := 93) A4 d31_90 (show d1 = d1 from rfl) ?_
  refine own_iconst (q := 94) A4 (1 : Int32) d31_93 rfl ?_
  refine own_goto (q := 98) A4 d31_94 ?_
  exact own_retN A4 hQ (t := .boolean) (by simp) d31_98 ⟨rfl, rfl⟩
theorem rm_ok3_02 (x t : Addr) (kt : ClassId) (c1 c2 d1 d2 : Int32) (O0 : Old Z n0 h0) (H : own_H Z a0 zc fm) (Ex : Exa Z h0 x "java/lang/String") (Cx : Fld Z h0 x "java/lang/String" "coder" "B" (.int 0)) (Vx : Fld Z h0 x "java/lang/String" "value" "[B" (.ref t)) (Kx : Arv Z h0 t kt .byte 4 [(.int (58 : Int32)), (.int (32 : Int32)), (.int d1.toInt8.toInt32), (.int d2.toInt8.toInt32)] (.int 0))  (hc10 : ¬ c1 < 0) (hc11 : ¬ (255 : Int32) < c1) (hnc1 : nar .char c1 = c1) (hc20 : ¬ c2 < 0) (hc21 : ¬ (255 : Int32) < c2) (hnc2 : nar .char c2 = c2) (hd10 : ¬ d1 < 0) (hd11 : ¬ (255 : Int32) < d1) (hnd1 : nar .char d1 = d1) (hd20 : ¬ d2 < 0) (hd21 : ¬ (255 : Int32) < d2) (hnd2 : nar .char d2 = d2):
  own_Met false l Z n0 [] [] ⟨"com/example/hifadhi/hifadhi/project/NotAnalysedMessagePinLaw", "ok", "(Ljava/lang/String;IICCICC)Z"⟩ method_4_code 11 (some .boolean) [] (own_R 4 0 0 53) #[(.ref x), (.int (3 : Int32)), (.int (0 : Int32)), (.int c1), (.int c2), (.int (2 : Int32)), (.int d1), (.int d2)] h0 (fun v h => v = some (.int 1) ∧ h0 = h) := by
  refine own_ent (a0 := a0) (nm := "ok") (Ls := #[.val (.ref x), .val (.int (3 : Int32)), .val (.int (0 : Int32)), .val (.int c1), .val (.int c2), .val (.int (2 : Int32)), .val (.int d1), .val (.int d2), .unset, .unset, .unset]) own_pn4 O0 EW.nil ?_
  intro p e _ m _ below _ _ T0 Q hQ A0
  refine own_iloadN (q := 1) A0 d31_0 rfl ?_
  refine own_iconst (q := 2) A0 (2 : Int32) d31_1 rfl ?_
  refine own_iadd (q := 3) A0 d31_2 ?_
  refine own_iload (q := 5) A0 d31_3 rfl ?_
  refine own_iadd (q := 6) A0 d31_5 ?_
  refine own_istore (q := 8) (L' := #[.val (.ref x), .val (.int (3 : Int32)), .val (.int (0 : Int32)), .val (.int c1), .val (.int c2), .val (.int (2 : Int32)), .val (.int d1), .val (.int d2), .val (.int (((0 : Int32) + (2 : Int32)) + (2 : Int32))), .unset, .unset]) A0 d31_6 rfl ?_
  refine own_iloadN (q := 9) A0 d31_8 rfl ?_
  refine own_iload (q := 11) A0 d31_9 rfl ?_
  refine own_icmpT (q := 16) A0 d31_11 (show (3 : Int32) < (((0 : Int32) + (2 : Int32)) + (2 : Int32)) from by decide) ?_
  refine own_iloadN (q := 17) A0 d31_16 rfl ?_
  refine own_iloadN (q := 18) A0 d31_17 rfl ?_
  refine own_icmpT (q := 36) A0 d31_18 (show ¬ (3 : Int32) < (0 : Int32) from by decide) ?_
  refine own_iloadN (q := 37) A0 d31_36 rfl ?_
  refine own_iloadN (q := 38) A0 d31_37 rfl ?_
  refine own_icmpT (q := 48) A0 d31_38 (show ¬ (3 : Int32) = (0 : Int32) from by decide) ?_
  refine own_iloadN (q := 49) A0 d31_48 rfl ?_
  refine own_iloadN (q := 50) A0 d31_49 rfl ?_
  refine own_iconst (q := 51) A0 (1 : Int32) d31_50 rfl ?_
  refine own_iadd (q := 52) A0 d31_51 ?_
  refine own_icmpT (q := 62) A0 d31_52 (show ¬ (3 : Int32) = ((0 : Int32) + (1 : Int32)) from by decide) ?_
  refine own_iloadN (q := 63) A0 d31_62 rfl ?_
  refine own_iloadN (q := 64) A0 d31_63 rfl ?_
  refine own_isub (q := 65) A0 d31_64 ?_
  refine own_iconst (q := 66) A0 (2 : Int32) d31_65 rfl ?_
  refine own_isub (q := 67) A0 d31_66 ?_
  refine own_istore (q := 69) (L' := #[.val (.ref x), .val (.int (3 : Int32)), .val (.int (0 : Int32)), .val (.int c1), .val (.int c2), .val (.int (2 : Int32)), .val (.int d1), .val (.int d2), .val (.int (((0 : Int32) + (2 : Int32)) + (2 : Int32))), .unset, .val (.int (((3 : Int32) - (0 : Int32)) - (2 : Int32)))]) A0 d31_67 rfl ?_
  refine own_iload (q := 71) A0 d31_69 rfl ?_
  refine own_ifcT (q := 79) A0 d31_71 (show ¬ (((3 : Int32) - (0 : Int32)) - (2 : Int32)) = (0 : Int32) from by decide) ?_
  refine own_iload (q := 81) A0 d31_79 rfl ?_
  refine own_istore (q := 83) (L' := #[.val (.ref x), .val (.int (3 : Int32)), .val (.int (0 : Int32)), .val (.int c1), .val (.int c2), .val (.int (2 : Int32)), .val (.int d1), .val (.int d2), .val (.int (((0 : Int32) + (2 : Int32)) + (2 : Int32))), .val (.int d2), .val (.int (((3 : Int32) - (0 : Int32)) - (2 : Int32)))]) A0 d31_81 rfl ?_
  refine own_aloadN (q := 84) A0 d31_83 rfl rfl ?_
  refine own_iloadN (q := 85) A0 d31_84 rfl ?_
  refine own_virtual (q := 88) (W := 0) (argsL := [(.int (3 : Int32))]) (rest := []) A0 (H.k 168 rfl) (H.k 169 rfl) (H.k 171 rfl) (H.k 170 rfl) (by decide) (own_payCh (cs1 := [(58 : Int32), (32 : Int32), d1, d2]) (i := 3) (kI := 4) (own_wCh H.w) (H.k 5 rfl) A0.old Ex Vx Cx Kx (own_cod [(58 : Int32), (32 : Int32), d1, d2] (n := 4) rfl (fun yy hy => ((show ∀ yy ∈ [(58 : Int32), (32 : Int32), d1, d2], ¬ yy < 0 ∧ ¬ (255 : Int32) < yy from (own_fc (by decide) (own_fc (by decide) (own_fc ⟨hd10, hd11⟩ (own_fc ⟨hd20, hd21⟩ (fun _ z => nomatch z)))))) yy hy).2) rfl rfl) (own_b16 (own_fc (by decide) (own_fc (by decide) (own_fc ⟨hd10, hd11⟩ (own_fc ⟨hd20, hd21⟩ (fun _ z => nomatch z)))))) (Nat.le_of_ble_eq_true rfl) H.SC H.hz H.SF H.rf (Nat.le_of_ble_eq_true rfl) rfl (by decide) (by decide)) own_nW (Nat.le_of_eq rfl) Ex own_pd22 rfl rfl rfl d31_85 (by decide) (by decide) ?_
  rintro v1 T2 h3 A4 ⟨rfl, rfl⟩
  show own_Run p e below Q m T2 88 #[.val (.ref x), .val (.int (3 : Int32)), .val (.int (0 : Int32)), .val (.int c1), .val (.int c2), .val (.int (2 : Int32)), .val (.int d1), .val (.int d2), .val (.int (((0 : Int32) + (2 : Int32)) + (2 : Int32))), .val (.int d2), .val (.int (((3 : Int32) - (0 : Int32)) - (2 : Int32)))] [(.int d2)]
  refine own_iload (q := 90) A4 d31_88 rfl ?_
  refine own_icmpF (q := 93) A4 d31_90 (show d2 = d2 from rfl) ?_
  refine own_iconst (q := 94) A4 (1 : Int32) d31_93 rfl ?_
  refine own_goto (q := 98) A4 d31_94 ?_
  exact own_retN A4 hQ (t := .boolean) (by simp) d31_98 ⟨rfl, rfl⟩
theorem rm_ok4_02 (x t : Addr) (kt : ClassId) (c1 c2 d1 d2 : Int32) (O0 : Old Z n0 h0) (H : own_H Z a0 zc fm) (Ex : Exa Z h0 x "java/lang/String") (Cx : Fld Z h0 x "java/lang/String" "coder" "B" (.int 0)) (Vx : Fld Z h0 x "java/lang/String" "value" "[B" (.ref t)) (Kx : Arv Z h0 t kt .byte 4 [(.int (58 : Int32)), (.int (32 : Int32)), (.int d1.toInt8.toInt32), (.int d2.toInt8.toInt32)] (.int 0))  (hc10 : ¬ c1 < 0) (hc11 : ¬ (255 : Int32) < c1) (hnc1 : nar .char c1 = c1) (hc20 : ¬ c2 < 0) (hc21 : ¬ (255 : Int32) < c2) (hnc2 : nar .char c2 = c2) (hd10 : ¬ d1 < 0) (hd11 : ¬ (255 : Int32) < d1) (hnd1 : nar .char d1 = d1) (hd20 : ¬ d2 < 0) (hd21 : ¬ (255 : Int32) < d2) (hnd2 : nar .char d2 = d2):
  own_Met false l Z n0 [] [] ⟨"com/example/hifadhi/hifadhi/project/NotAnalysedMessagePinLaw", "ok", "(Ljava/lang/String;IICCICC)Z"⟩ method_4_code 11 (some .boolean) [] (own_R 4 0 0 53) #[(.ref x), (.int (4 : Int32)), (.int (0 : Int32)), (.int c1), (.int c2), (.int (2 : Int32)), (.int d1), (.int d2)] h0 (fun v h => v = some (.int 1) ∧ h0 = h) := by
  refine own_ent (a0 := a0) (nm := "ok") (Ls := #[.val (.ref x), .val (.int (4 : Int32)), .val (.int (0 : Int32)), .val (.int c1), .val (.int c2), .val (.int (2 : Int32)), .val (.int d1), .val (.int d2), .unset, .unset, .unset]) own_pn4 O0 EW.nil ?_
  intro p e _ m _ below _ _ T0 Q hQ A0
  refine own_iloadN (q := 1) A0 d31_0 rfl ?_
  refine own_iconst (q := 2) A0 (2 : Int32) d31_1 rfl ?_
  refine own_iadd (q := 3) A0 d31_2 ?_
  refine own_iload (q := 5) A0 d31_3 rfl ?_
  refine own_iadd (q := 6) A0 d31_5 ?_
  refine own_istore (q := 8) (L' := #[.val (.ref x), .val (.int (4 : Int32)), .val (.int (0 : Int32)), .val (.int c1), .val (.int c2), .val (.int (2 : Int32)), .val (.int d1), .val (.int d2), .val (.int (((0 : Int32) + (2 : Int32)) + (2 : Int32))), .unset, .unset]) A0 d31_6 rfl ?_
  refine own_iloadN (q := 9) A0 d31_8 rfl ?_
  refine own_iload (q := 11) A0 d31_9 rfl ?_
  refine own_icmpF (q := 14) A0 d31_11 (show ¬ (4 : Int32) < (((0 : Int32) + (2 : Int32)) + (2 : Int32)) from by decide) ?_
  refine own_iconst (q := 15) A0 (1 : Int32) d31_14 rfl ?_
  exact own_retN A0 hQ (t := .boolean) (by simp) d31_15 ⟨rfl, rfl⟩
theorem rm_ok5_02 (x t : Addr) (kt : ClassId) (c1 c2 d1 d2 : Int32) (O0 : Old Z n0 h0) (H : own_H Z a0 zc fm) (Ex : Exa Z h0 x "java/lang/String") (Cx : Fld Z h0 x "java/lang/String" "coder" "B" (.int 0)) (Vx : Fld Z h0 x "java/lang/String" "value" "[B" (.ref t)) (Kx : Arv Z h0 t kt .byte 4 [(.int (58 : Int32)), (.int (32 : Int32)), (.int d1.toInt8.toInt32), (.int d2.toInt8.toInt32)] (.int 0))  (hc10 : ¬ c1 < 0) (hc11 : ¬ (255 : Int32) < c1) (hnc1 : nar .char c1 = c1) (hc20 : ¬ c2 < 0) (hc21 : ¬ (255 : Int32) < c2) (hnc2 : nar .char c2 = c2) (hd10 : ¬ d1 < 0) (hd11 : ¬ (255 : Int32) < d1) (hnd1 : nar .char d1 = d1) (hd20 : ¬ d2 < 0) (hd21 : ¬ (255 : Int32) < d2) (hnd2 : nar .char d2 = d2):
  own_Met false l Z n0 [] [] ⟨"com/example/hifadhi/hifadhi/project/NotAnalysedMessagePinLaw", "ok", "(Ljava/lang/String;IICCICC)Z"⟩ method_4_code 11 (some .boolean) [] (own_R 4 0 0 53) #[(.ref x), (.int (5 : Int32)), (.int (0 : Int32)), (.int c1), (.int c2), (.int (2 : Int32)), (.int d1), (.int d2)] h0 (fun v h => v = some (.int 1) ∧ h0 = h) := by
  refine own_ent (a0 := a0) (nm := "ok") (Ls := #[.val (.ref x), .val (.int (5 : Int32)), .val (.int (0 : Int32)), .val (.int c1), .val (.int c2), .val (.int (2 : Int32)), .val (.int d1), .val (.int d2), .unset, .unset, .unset]) own_pn4 O0 EW.nil ?_
  intro p e _ m _ below _ _ T0 Q hQ A0
  refine own_iloadN (q := 1) A0 d31_0 rfl ?_
  refine own_iconst (q := 2) A0 (2 : Int32) d31_1 rfl ?_
  refine own_iadd (q := 3) A0 d31_2 ?_
  refine own_iload (q := 5) A0 d31_3 rfl ?_
  refine own_iadd (q := 6) A0 d31_5 ?_
  refine own_istore (q := 8) (L' := #[.val (.ref x), .val (.int (5 : Int32)), .val (.int (0 : Int32)), .val (.int c1), .val (.int c2), .val (.int (2 : Int32)), .val (.int d1), .val (.int d2), .val (.int (((0 : Int32) + (2 : Int32)) + (2 : Int32))), .unset, .unset]) A0 d31_6 rfl ?_
  refine own_iloadN (q := 9) A0 d31_8 rfl ?_
  refine own_iload (q := 11) A0 d31_9 rfl ?_
  refine own_icmpF (q := 14) A0 d31_11 (show ¬ (5 : Int32) < (((0 : Int32) + (2 : Int32)) + (2 : Int32)) from by decide) ?_
  refine own_iconst (q := 15) A0 (1 : Int32) d31_14 rfl ?_
  exact own_retN A0 hQ (t := .boolean) (by simp) d31_15 ⟨rfl, rfl⟩
theorem rm_ok0_10 (x t : Addr) (kt : ClassId) (c1 c2 d1 d2 : Int32) (O0 : Old Z n0 h0) (H : own_H Z a0 zc fm) (Ex : Exa Z h0 x "java/lang/String") (Cx : Fld Z h0 x "java/lang/String" "coder" "B" (.int 0)) (Vx : Fld Z h0 x "java/lang/String" "value" "[B" (.ref t)) (Kx : Arv Z h0 t kt .byte 3 [(.int c1.toInt8.toInt32), (.int (58 : Int32)), (.int (32 : Int32))] (.int 0))  (hc10 : ¬ c1 < 0) (hc11 : ¬ (255 : Int32) < c1) (hnc1 : nar .char c1 = c1) (hc20 : ¬ c2 < 0) (hc21 : ¬ (255 : Int32) < c2) (hnc2 : nar .char c2 = c2) (hd10 : ¬ d1 < 0) (hd11 : ¬ (255 : Int32) < d1) (hnd1 : nar .char d1 = d1) (hd20 : ¬ d2 < 0) (hd21 : ¬ (255 : Int32) < d2) (hnd2 : nar .char d2 = d2):
  own_Met false l Z n0 [] [] ⟨"com/example/hifadhi/hifadhi/project/NotAnalysedMessagePinLaw", "ok", "(Ljava/lang/String;IICCICC)Z"⟩ method_4_code 11 (some .boolean) [] (own_R 4 0 0 53) #[(.ref x), (.int (0 : Int32)), (.int (1 : Int32)), (.int c1), (.int c2), (.int (0 : Int32)), (.int d1), (.int d2)] h0 (fun v h => v = some (.int 1) ∧ h0 = h) := by
  refine own_ent (a0 := a0) (nm := "ok") (Ls := #[.val (.ref x), .val (.int (0 : Int32)), .val (.int (1 : Int32)), .val (.int c1), .val (.int c2), .val (.int (0 : Int32)), .val (.int d1), .val (.int d2), .unset, .unset, .unset]) own_pn4 O0 EW.nil ?_
  intro p e _ m _ below _ _ T0 Q hQ A0
  refine own_iloadN (q := 1) A0 d31_0 rfl ?_
  refine own_iconst (q := 2) A0 (2 : Int32) d31_1 rfl ?_
  refine own_iadd (q := 3) A0 d31_2 ?_
  refine own_iload (q := 5) A0 d31_3 rfl ?_
  refine own_iadd (q := 6) A0 d31_5 ?_
  refine own_istore (q := 8) (L' := #[.val (.ref x), .val (.int (0 : Int32)), .val (.int (1 : Int32)), .val (.int c1), .val (.int c2), .val (.int (0 : Int32)), .val (.int d1), .val (.int d2), .val (.int (((1 : Int32) + (2 : Int32)) + (0 : Int32))), .unset, .unset]) A0 d31_6 rfl ?_
  refine own_iloadN (q := 9) A0 d31_8 rfl ?_
  refine own_iload (q := 11) A0 d31_9 rfl ?_
  refine own_icmpT (q := 16) A0 d31_11 (show (0 : Int32) < (((1 : Int32) + (2 : Int32)) + (0 : Int32)) from by decide) ?_
  refine own_iloadN (q := 17) A0 d31_16 rfl ?_
  refine own_iloadN (q := 18) A0 d31_17 rfl ?_
  refine own_icmpF (q := 21) A0 d31_18 (show (0 : Int32) < (1 : Int32) from by decide) ?_
  refine own_iloadN (q := 22) A0 d31_21 rfl ?_
  refine own_ifcF (q := 25) A0 d31_22 (show (0 : Int32) = (0 : Int32) from by decide) ?_
  refine own_iloadN (q := 26) A0 d31_25 rfl ?_
  refine own_goto (q := 31) A0 d31_26 ?_
  refine own_istore (q := 33) (L' := #[.val (.ref x), .val (.int (0 : Int32)), .val (.int (1 : Int32)), .val (.int c1), .val (.int c2), .val (.int (0 : Int32)), .val (.int d1), .val (.int d2), .val (.int (((1 : Int32) + (2 : Int32)) + (0 : Int32))), .val (.int c1), .unset]) A0 d31_31 rfl ?_
  refine own_goto (q := 83) A0 d31_33 ?_
  refine own_aloadN (q := 84) A0 d31_83 rfl rfl ?_
  refine own_iloadN (q := 85) A0 d31_84 rfl ?_
  refine own_virtual (q := 88) (W := 0) (argsL := [(.int (0 : Int32))]) (rest := []) A0 (H.k 168 rfl) (H.k 169 rfl) (H.k 171 rfl) (H.k 170 rfl) (by decide) (own_payCh (cs1 := [c1, (58 : Int32), (32 : Int32)]) (i := 0) (kI := 4) (own_wCh H.w) (H.k 5 rfl) A0.old Ex Vx Cx Kx (own_cod [c1, (58 : Int32), (32 : Int32)] (n := 3) rfl (fun yy hy => ((show ∀ yy ∈ [c1, (58 : Int32), (32 : Int32)], ¬ yy < 0 ∧ ¬ (255 : Int32) < yy from (own_fc ⟨hc10, hc11⟩ (own_fc (by decide) (own_fc (by decide) (fun _ z => nomatch z))))) yy hy).2) rfl rfl) (own_b16 (own_fc ⟨hc10, hc11⟩ (own_fc (by decide) (own_fc (by decide) (fun _ z => nomatch z))))) (Nat.le_of_ble_eq_true rfl) H.SC H.hz H.SF H.rf (Nat.le_of_ble_eq_true rfl) rfl (by decide) (by decide)) own_nW (Nat.le_of_eq rfl) Ex own_pd22 rfl rfl rfl d31_85 (by decide) (by decide) ?_
  rintro v1 T2 h3 A4 ⟨rfl, rfl⟩
  show own_Run p e below Q m T2 88 #[.val (.ref x), .val (.int (0 : Int32)), .val (.int (1 : Int32)), .val (.int c1), .val (.int c2), .val (.int (0 : Int32)), .val (.int d1), .val (.int d2), .val (.int (((1 : Int32) + (2 : Int32)) + (0 : Int32))), .val (.int c1), .unset] [(.int c1)]
  refine own_iload (q := 90) A4 d31_88 rfl ?_
  refine own_icmpF (q := 93) A4 d31_90 (show c1 = c1 from rfl) ?_
  refine own_iconst (q := 94) A4 (1 : Int32) d31_93 rfl ?_
  refine own_goto (q := 98) A4 d31_94 ?_
  exact own_retN A4 hQ (t := .boolean) (by simp) d31_98 ⟨rfl, rfl⟩
theorem rm_ok1_10 (x t : Addr) (kt : ClassId) (c1 c2 d1 d2 : Int32) (O0 : Old Z n0 h0) (H : own_H Z a0 zc fm) (Ex : Exa Z h0 x "java/lang/String") (Cx : Fld Z h0 x "java/lang/String" "coder" "B" (.int 0)) (Vx : Fld Z h0 x "java/lang/String" "value" "[B" (.ref t)) (Kx : Arv Z h0 t kt .byte 3 [(.int c1.toInt8.toInt32), (.int (58 : Int32)), (.int (32 : Int32))] (.int 0))  (hc10 : ¬ c1 < 0) (hc11 : ¬ (255 : Int32) < c1) (hnc1 : nar .char c1 = c1) (hc20 : ¬ c2 < 0) (hc21 : ¬ (255 : Int32) < c2) (hnc2 : nar .char c2 = c2) (hd10 : ¬ d1 < 0) (hd11 : ¬ (255 : Int32) < d1) (hnd1 : nar .char d1 = d1) (hd20 : ¬ d2 < 0) (hd21 : ¬ (255 : Int32) < d2) (hnd2 : nar .char d2 = d2):
  own_Met false l Z n0 [] [] ⟨"com/example/hifadhi/hifadhi/project/NotAnalysedMessagePinLaw", "ok", "(Ljava/lang/String;IICCICC)Z"⟩ method_4_code 11 (some .boolean) [] (own_R 4 0 0 53) #[(.ref x), (.int (1 : Int32)), (.int (1 : Int32)), (.int c1), (.int c2), (.int (0 : Int32)), (.int d1), (.int d2)] h0 (fun v h => v = some (.int 1) ∧ h0 = h) := by
  refine own_ent (a0 := a0) (nm := "ok") (Ls := #[.val (.ref x), .val (.int (1 : Int32)), .val (.int (1 : Int32)), .val (.int c1), .val (.int c2), .val (.int (0 : Int32)), .val (.int d1), .val (.int d2), .unset, .unset, .unset]) own_pn4 O0 EW.nil ?_
  intro p e _ m _ below _ _ T0 Q hQ A0
  refine own_iloadN (q := 1) A0 d31_0 rfl ?_
  refine own_iconst (q := 2) A0 (2 : Int32) d31_1 rfl ?_
  refine own_iadd (q := 3) A0 d31_2 ?_
  refine own_iload (q := 5) A0 d31_3 rfl ?_
  refine own_iadd (q := 6) A0 d31_5 ?_
  refine own_istore (q := 8) (L' := #[.val (.ref x), .val (.int (1 : Int32)), .val (.int (1 : Int32)), .val (.int c1), .val (.int c2), .val (.int (0 : Int32)), .val (.int d1), .val (.int d2), .val (.int (((1 : Int32) + (2 : Int32)) + (0 : Int32))), .unset, .unset]) A0 d31_6 rfl ?_
  refine own_iloadN (q := 9) A0 d31_8 rfl ?_
  refine own_iload (q := 11) A0 d31_9 rfl ?_
  refine own_icmpT (q := 16) A0 d31_11 (show (1 : Int32) < (((1 : Int32) + (2 : Int32)) + (0 : Int32)) from by decide) ?_
  refine own_iloadN (q := 17) A0 d31_16 rfl ?_
  refine own_iloadN (q := 18) A0 d31_17 rfl ?_
  refine own_icmpT (q := 36) A0 d31_18 (show ¬ (1 : Int32) < (1 : Int32) from by decide) ?_
  refine own_iloadN (q := 37) A0 d31_36 rfl ?_
  refine own_iloadN (q := 38) A0 d31_37 rfl ?_
  refine own_icmpF (q := 41) A0 d31_38 (show (1 : Int32) = (1 : Int32) from by decide) ?_
  refine own_bipush (q := 43) A0 (58 : Int32) d31_41 rfl ?_
  refine own_istore (q := 45) (L' := #[.val (.ref x), .val (.int (1 : Int32)), .val (.int (1 : Int32)), .val (.int c1), .val (.int c2), .val (.int (0 : Int32)), .val (.int d1), .val (.int d2), .val (.int (((1 : Int32) + (2 : Int32)) + (0 : Int32))), .val (.int (58 : Int32)), .unset]) A0 d31_43 rfl ?_
  refine own_goto (q := 83) A0 d31_45 ?_
  refine own_aloadN (q := 84) A0 d31_83 rfl rfl ?_
  refine own_iloadN (q := 85) A0 d31_84 rfl ?_
  refine own_virtual (q := 88) (W := 0) (argsL := [(.int (1 : Int32))]) (rest := []) A0 (H.k 168 rfl) (H.k 169 rfl) (H.k 171 rfl) (H.k 170 rfl) (by decide) (own_payCh (cs1 := [c1, (58 : Int32), (32 : Int32)]) (i := 1) (kI := 4) (own_wCh H.w) (H.k 5 rfl) A0.old Ex Vx Cx Kx (own_cod [c1, (58 : Int32), (32 : Int32)] (n := 3) rfl (fun yy hy => ((show ∀ yy ∈ [c1, (58 : Int32), (32 : Int32)], ¬ yy < 0 ∧ ¬ (255 : Int32) < yy from (own_fc ⟨hc10, hc11⟩ (own_fc (by decide) (own_fc (by decide) (fun _ z => nomatch z))))) yy hy).2) rfl rfl) (own_b16 (own_fc ⟨hc10, hc11⟩ (own_fc (by decide) (own_fc (by decide) (fun _ z => nomatch z))))) (Nat.le_of_ble_eq_true rfl) H.SC H.hz H.SF H.rf (Nat.le_of_ble_eq_true rfl) rfl (by decide) (by decide)) own_nW (Nat.le_of_eq rfl) Ex own_pd22 rfl rfl rfl d31_85 (by decide) (by decide) ?_
  rintro v1 T2 h3 A4 ⟨rfl, rfl⟩
  show own_Run p e below Q m T2 88 #[.val (.ref x), .val (.int (1 : Int32)), .val (.int (1 : Int32)), .val (.int c1), .val (.int c2), .val (.int (0 : Int32)), .val (.int d1), .val (.int d2), .val (.int (((1 : Int32) + (2 : Int32)) + (0 : Int32))), .val (.int (58 : Int32)), .unset] [(.int (58 : Int32))]
  refine own_iload (q := 90) A4 d31_88 rfl ?_
  refine own_icmpF (q := 93) A4 d31_90 (show (58 : Int32) = (58 : Int32) from rfl) ?_
  refine own_iconst (q := 94) A4 (1 : Int32) d31_93 rfl ?_
  refine own_goto (q := 98) A4 d31_94 ?_
  exact own_retN A4 hQ (t := .boolean) (by simp) d31_98 ⟨rfl, rfl⟩
theorem rm_ok2_10 (x t : Addr) (kt : ClassId) (c1 c2 d1 d2 : Int32) (O0 : Old Z n0 h0) (H : own_H Z a0 zc fm) (Ex : Exa Z h0 x "java/lang/String") (Cx : Fld Z h0 x "java/lang/String" "coder" "B" (.int 0)) (Vx : Fld Z h0 x "java/lang/String" "value" "[B" (.ref t)) (Kx : Arv Z h0 t kt .byte 3 [(.int c1.toInt8.toInt32), (.int (58 : Int32)), (.int (32 : Int32))] (.int 0))  (hc10 : ¬ c1 < 0) (hc11 : ¬ (255 : Int32) < c1) (hnc1 : nar .char c1 = c1) (hc20 : ¬ c2 < 0) (hc21 : ¬ (255 : Int32) < c2) (hnc2 : nar .char c2 = c2) (hd10 : ¬ d1 < 0) (hd11 : ¬ (255 : Int32) < d1) (hnd1 : nar .char d1 = d1) (hd20 : ¬ d2 < 0) (hd21 : ¬ (255 : Int32) < d2) (hnd2 : nar .char d2 = d2):
  own_Met false l Z n0 [] [] ⟨"com/example/hifadhi/hifadhi/project/NotAnalysedMessagePinLaw", "ok", "(Ljava/lang/String;IICCICC)Z"⟩ method_4_code 11 (some .boolean) [] (own_R 4 0 0 53) #[(.ref x), (.int (2 : Int32)), (.int (1 : Int32)), (.int c1), (.int c2), (.int (0 : Int32)), (.int d1), (.int d2)] h0 (fun v h => v = some (.int 1) ∧ h0 = h) := by
  refine own_ent (a0 := a0) (nm := "ok") (Ls := #[.val (.ref x), .val (.int (2 : Int32)), .val (.int (1 : Int32)), .val (.int c1), .val (.int c2), .val (.int (0 : Int32)), .val (.int d1), .val (.int d2), .unset, .unset, .unset]) own_pn4 O0 EW.nil ?_
  intro p e _ m _ below _ _ T0 Q hQ A0
  refine own_iloadN (q := 1) A0 d31_0 rfl ?_
  refine own_iconst (q := 2) A0 (2 : Int32) d31_1 rfl ?_
  refine own_iadd (q := 3) A0 d31_2 ?_
  refine own_iload (q := 5) A0 d31_3 rfl ?_
  refine own_iadd (q := 6) A0 d31_5 ?_
  refine own_istore (q := 8) (L' := #[.val (.ref x), .val (.int (2 : Int32)), .val (.int (1 : Int32)), .val (.int c1), .val (.int c2), .val (.int (0 : Int32)), .val (.int d1), .val (.int d2), .val (.int (((1 : Int32) + (2 : Int32)) + (0 : Int32))), .unset, .unset]) A0 d31_6 rfl ?_
  refine own_iloadN (q := 9) A0 d31_8 rfl ?_
  refine own_iload (q := 11) A0 d31_9 rfl ?_
  refine own_icmpT (q := 16) A0 d31_11 (show (2 : Int32) < (((1 : Int32) + (2 : Int32)) + (0 : Int32)) from by decide) ?_
  refine own_iloadN (q := 17) A0 d31_16 rfl ?_
  refine own_iloadN (q := 18) A0 d31_17 rfl ?_
  refine own_icmpT (q := 36) A0 d31_18 (show ¬ (2 : Int32) < (1 : Int32) from by decide) ?_
  refine own_iloadN (q := 37) A0 d31_36 rfl ?_
  refine own_iloadN (q := 38) A0 d31_37 rfl ?_
  refine own_icmpT (q := 48) A0 d31_38 (show ¬ (2 : Int32) = (1 : Int32) from by decide) ?_
  refine own_iloadN (q := 49) A0 d31_48 rfl ?_
  refine own_iloadN (q := 50) A0 d31_49 rfl ?_
  refine own_iconst (q := 51) A0 (1 : Int32) d31_50 rfl ?_
  refine own_iadd (q := 52) A0 d31_51 ?_
  refine own_icmpF (q := 55) A0 d31_52 (show (2 : Int32) = ((1 : Int32) + (1 : Int32)) from by decide) ?_
  refine own_bipush (q := 57) A0 (32 : Int32) d31_55 rfl ?_
  refine own_istore (q := 59) (L' := #[.val (.ref x), .val (.int (2 : Int32)), .val (.int (1 : Int32)), .val (.int c1), .val (.int c2), .val (.int (0 : Int32)), .val (.int d1), .val (.int d2), .val (.int (((1 : Int32) + (2 : Int32)) + (0 : Int32))), .val (.int (32 : Int32)), .unset]) A0 d31_57 rfl ?_
  refine own_goto (q := 83) A0 d31_59 ?_
  refine own_aloadN (q := 84) A0 d31_83 rfl rfl ?_
  refine own_iloadN (q := 85) A0 d31_84 rfl ?_
  refine own_virtual (q := 88) (W := 0) (argsL := [(.int (2 : Int32))]) (rest := []) A0 (H.k 168 rfl) (H.k 169 rfl) (H.k 171 rfl) (H.k 170 rfl) (by decide) (own_payCh (cs1 := [c1, (58 : Int32), (32 : Int32)]) (i := 2) (kI := 4) (own_wCh H.w) (H.k 5 rfl) A0.old Ex Vx Cx Kx (own_cod [c1, (58 : Int32), (32 : Int32)] (n := 3) rfl (fun yy hy => ((show ∀ yy ∈ [c1, (58 : Int32), (32 : Int32)], ¬ yy < 0 ∧ ¬ (255 : Int32) < yy from (own_fc ⟨hc10, hc11⟩ (own_fc (by decide) (own_fc (by decide) (fun _ z => nomatch z))))) yy hy).2) rfl rfl) (own_b16 (own_fc ⟨hc10, hc11⟩ (own_fc (by decide) (own_fc (by decide) (fun _ z => nomatch z))))) (Nat.le_of_ble_eq_true rfl) H.SC H.hz H.SF H.rf (Nat.le_of_ble_eq_true rfl) rfl (by decide) (by decide)) own_nW (Nat.le_of_eq rfl) Ex own_pd22 rfl rfl rfl d31_85 (by decide) (by decide) ?_
  rintro v1 T2 h3 A4 ⟨rfl, rfl⟩
  show own_Run p e below Q m T2 88 #[.val (.ref x), .val (.int (2 : Int32)), .val (.int (1 : Int32)), .val (.int c1), .val (.int c2), .val (.int (0 : Int32)), .val (.int d1), .val (.int d2), .val (.int (((1 : Int32) + (2 : Int32)) + (0 : Int32))), .val (.int (32 : Int32)), .unset] [(.int (32 : Int32))]
  refine own_iload (q := 90) A4 d31_88 rfl ?_
  refine own_icmpF (q := 93) A4 d31_90 (show (32 : Int32) = (32 : Int32) from rfl) ?_
  refine own_iconst (q := 94) A4 (1 : Int32) d31_93 rfl ?_
  refine own_goto (q := 98) A4 d31_94 ?_
  exact own_retN A4 hQ (t := .boolean) (by simp) d31_98 ⟨rfl, rfl⟩
theorem rm_ok3_10 (x t : Addr) (kt : ClassId) (c1 c2 d1 d2 : Int32) (O0 : Old Z n0 h0) (H : own_H Z a0 zc fm) (Ex : Exa Z h0 x "java/lang/String") (Cx : Fld Z h0 x "java/lang/String" "coder" "B" (.int 0)) (Vx : Fld Z h0 x "java/lang/String" "value" "[B" (.ref t)) (Kx : Arv Z h0 t kt .byte 3 [(.int c1.toInt8.toInt32), (.int (58 : Int32)), (.int (32 : Int32))] (.int 0))  (hc10 : ¬ c1 < 0) (hc11 : ¬ (255 : Int32) < c1) (hnc1 : nar .char c1 = c1) (hc20 : ¬ c2 < 0) (hc21 : ¬ (255 : Int32) < c2) (hnc2 : nar .char c2 = c2) (hd10 : ¬ d1 < 0) (hd11 : ¬ (255 : Int32) < d1) (hnd1 : nar .char d1 = d1) (hd20 : ¬ d2 < 0) (hd21 : ¬ (255 : Int32) < d2) (hnd2 : nar .char d2 = d2):
  own_Met false l Z n0 [] [] ⟨"com/example/hifadhi/hifadhi/project/NotAnalysedMessagePinLaw", "ok", "(Ljava/lang/String;IICCICC)Z"⟩ method_4_code 11 (some .boolean) [] (own_R 4 0 0 53) #[(.ref x), (.int (3 : Int32)), (.int (1 : Int32)), (.int c1), (.int c2), (.int (0 : Int32)), (.int d1), (.int d2)] h0 (fun v h => v = some (.int 1) ∧ h0 = h) := by
  refine own_ent (a0 := a0) (nm := "ok") (Ls := #[.val (.ref x), .val (.int (3 : Int32)), .val (.int (1 : Int32)), .val (.int c1), .val (.int c2), .val (.int (0 : Int32)), .val (.int d1), .val (.int d2), .unset, .unset, .unset]) own_pn4 O0 EW.nil ?_
  intro p e _ m _ below _ _ T0 Q hQ A0
  refine own_iloadN (q := 1) A0 d31_0 rfl ?_
  refine own_iconst (q := 2) A0 (2 : Int32) d31_1 rfl ?_
  refine own_iadd (q := 3) A0 d31_2 ?_
  refine own_iload (q := 5) A0 d31_3 rfl ?_
  refine own_iadd (q := 6) A0 d31_5 ?_
  refine own_istore (q := 8) (L' := #[.val (.ref x), .val (.int (3 : Int32)), .val (.int (1 : Int32)), .val (.int c1), .val (.int c2), .val (.int (0 : Int32)), .val (.int d1), .val (.int d2), .val (.int (((1 : Int32) + (2 : Int32)) + (0 : Int32))), .unset, .unset]) A0 d31_6 rfl ?_
  refine own_iloadN (q := 9) A0 d31_8 rfl ?_
  refine own_iload (q := 11) A0 d31_9 rfl ?_
  refine own_icmpF (q := 14) A0 d31_11 (show ¬ (3 : Int32) < (((1 : Int32) + (2 : Int32)) + (0 : Int32)) from by decide) ?_
  refine own_iconst (q := 15) A0 (1 : Int32) d31_14 rfl ?_
  exact own_retN A0 hQ (t := .boolean) (by simp) d31_15 ⟨rfl, rfl⟩
theorem rm_ok4_10 (x t : Addr) (kt : ClassId) (c1 c2 d1 d2 : Int32) (O0 : Old Z n0 h0) (H : own_H Z a0 zc fm) (Ex : Exa Z h0 x "java/lang/String") (Cx : Fld Z h0 x "java/lang/String" "coder" "B" (.int 0)) (Vx : Fld Z h0 x "java/lang/String" "value" "[B" (.ref t)) (Kx : Arv Z h0 t kt .byte 3 [(.int c1.toInt8.toInt32), (.int (58 : Int32)), (.int (32 : Int32))] (.int 0))  (hc10 : ¬ c1 < 0) (hc11 : ¬ (255 : Int32) < c1) (hnc1 : nar .char c1 = c1) (hc20 : ¬ c2 < 0) (hc21 : ¬ (255 : Int32) < c2) (hnc2 : nar .char c2 = c2) (hd10 : ¬ d1 < 0) (hd11 : ¬ (255 : Int32) < d1) (hnd1 : nar .char d1 = d1) (hd20 : ¬ d2 < 0) (hd21 : ¬ (255 : Int32) < d2) (hnd2 : nar .char d2 = d2):
  own_Met false l Z n0 [] [] ⟨"com/example/hifadhi/hifadhi/project/NotAnalysedMessagePinLaw", "ok", "(Ljava/lang/String;IICCICC)Z"⟩ method_4_code 11 (some .boolean) [] (own_R 4 0 0 53) #[(.ref x), (.int (4 : Int32)), (.int (1 : Int32)), (.int c1), (.int c2), (.int (0 : Int32)), (.int d1), (.int d2)] h0 (fun v h => v = some (.int 1) ∧ h0 = h) := by
  refine own_ent (a0 := a0) (nm := "ok") (Ls := #[.val (.ref x), .val (.int (4 : Int32)), .val (.int (1 : Int32)), .val (.int c1), .val (.int c2), .val (.int (0 : Int32)), .val (.int d1), .val (.int d2), .unset, .unset, .unset]) own_pn4 O0 EW.nil ?_
  intro p e _ m _ below _ _ T0 Q hQ A0
  refine own_iloadN (q := 1) A0 d31_0 rfl ?_
  refine own_iconst (q := 2) A0 (2 : Int32) d31_1 rfl ?_
  refine own_iadd (q := 3) A0 d31_2 ?_
  refine own_iload (q := 5) A0 d31_3 rfl ?_
  refine own_iadd (q := 6) A0 d31_5 ?_
  refine own_istore (q := 8) (L' := #[.val (.ref x), .val (.int (4 : Int32)), .val (.int (1 : Int32)), .val (.int c1), .val (.int c2), .val (.int (0 : Int32)), .val (.int d1), .val (.int d2), .val (.int (((1 : Int32) + (2 : Int32)) + (0 : Int32))), .unset, .unset]) A0 d31_6 rfl ?_
  refine own_iloadN (q := 9) A0 d31_8 rfl ?_
  refine own_iload (q := 11) A0 d31_9 rfl ?_
  refine own_icmpF (q := 14) A0 d31_11 (show ¬ (4 : Int32) < (((1 : Int32) + (2 : Int32)) + (0 : Int32)) from by decide) ?_
  refine own_iconst (q := 15) A0 (1 : Int32) d31_14 rfl ?_
  exact own_retN A0 hQ (t := .boolean) (by simp) d31_15 ⟨rfl, rfl⟩
theorem rm_ok5_10 (x t : Addr) (kt : ClassId) (c1 c2 d1 d2 : Int32) (O0 : Old Z n0 h0) (H : own_H Z a0 zc fm) (Ex : Exa Z h0 x "java/lang/String") (Cx : Fld Z h0 x "java/lang/String" "coder" "B" (.int 0)) (Vx : Fld Z h0 x "java/lang/String" "value" "[B" (.ref t)) (Kx : Arv Z h0 t kt .byte 3 [(.int c1.toInt8.toInt32), (.int (58 : Int32)), (.int (32 : Int32))] (.int 0))  (hc10 : ¬ c1 < 0) (hc11 : ¬ (255 : Int32) < c1) (hnc1 : nar .char c1 = c1) (hc20 : ¬ c2 < 0) (hc21 : ¬ (255 : Int32) < c2) (hnc2 : nar .char c2 = c2) (hd10 : ¬ d1 < 0) (hd11 : ¬ (255 : Int32) < d1) (hnd1 : nar .char d1 = d1) (hd20 : ¬ d2 < 0) (hd21 : ¬ (255 : Int32) < d2) (hnd2 : nar .char d2 = d2):
  own_Met false l Z n0 [] [] ⟨"com/example/hifadhi/hifadhi/project/NotAnalysedMessagePinLaw", "ok", "(Ljava/lang/String;IICCICC)Z"⟩ method_4_code 11 (some .boolean) [] (own_R 4 0 0 53) #[(.ref x), (.int (5 : Int32)), (.int (1 : Int32)), (.int c1), (.int c2), (.int (0 : Int32)), (.int d1), (.int d2)] h0 (fun v h => v = some (.int 1) ∧ h0 = h) := by
  refine own_ent (a0 := a0) (nm := "ok") (Ls := #[.val (.ref x), .val (.int (5 : Int32)), .val (.int (1 : Int32)), .val (.int c1), .val (.int c2), .val (.int (0 : Int32)), .val (.int d1), .val (.int d2), .unset, .unset, .unset]) own_pn4 O0 EW.nil ?_
  intro p e _ m _ below _ _ T0 Q hQ A0
  refine own_iloadN (q := 1) A0 d31_0 rfl ?_
  refine own_iconst (q := 2) A0 (2 : Int32) d31_1 rfl ?_
  refine own_iadd (q := 3) A0 d31_2 ?_
  refine own_iload (q := 5) A0 d31_3 rfl ?_
  refine own_iadd (q := 6) A0 d31_5 ?_
  refine own_istore (q := 8) (L' := #[.val (.ref x), .val (.int (5 : Int32)), .val (.int (1 : Int32)), .val (.int c1), .val (.int c2), .val (.int (0 : Int32)), .val (.int d1), .val (.int d2), .val (.int (((1 : Int32) + (2 : Int32)) + (0 : Int32))), .unset, .unset]) A0 d31_6 rfl ?_
  refine own_iloadN (q := 9) A0 d31_8 rfl ?_
  refine own_iload (q := 11) A0 d31_9 rfl ?_
  refine own_icmpF (q := 14) A0 d31_11 (show ¬ (5 : Int32) < (((1 : Int32) + (2 : Int32)) + (0 : Int32)) from by decide) ?_
  refine own_iconst (q := 15) A0 (1 : Int32) d31_14 rfl ?_
  exact own_retN A0 hQ (t := .boolean) (by simp) d31_15 ⟨rfl, rfl⟩
theorem rm_ok0_11 (x t : Addr) (kt : ClassId) (c1 c2 d1 d2 : Int32) (O0 : Old Z n0 h0) (H : own_H Z a0 zc fm) (Ex : Exa Z h0 x "java/lang/String") (Cx : Fld Z h0 x "java/lang/String" "coder" "B" (.int 0)) (Vx : Fld Z h0 x "java/lang/String" "value" "[B" (.ref t)) (Kx : Arv Z h0 t kt .byte 4 [(.int c1.toInt8.toInt32), (.int (58 : Int32)), (.int (32 : Int32)), (.int d1.toInt8.toInt32)] (.int 0))  (hc10 : ¬ c1 < 0) (hc11 : ¬ (255 : Int32) < c1) (hnc1 : nar .char c1 = c1) (hc20 : ¬ c2 < 0) (hc21 : ¬ (255 : Int32) < c2) (hnc2 : nar .char c2 = c2) (hd10 : ¬ d1 < 0) (hd11 : ¬ (255 : Int32) < d1) (hnd1 : nar .char d1 = d1) (hd20 : ¬ d2 < 0) (hd21 : ¬ (255 : Int32) < d2) (hnd2 : nar .char d2 = d2):
  own_Met false l Z n0 [] [] ⟨"com/example/hifadhi/hifadhi/project/NotAnalysedMessagePinLaw", "ok", "(Ljava/lang/String;IICCICC)Z"⟩ method_4_code 11 (some .boolean) [] (own_R 4 0 0 53) #[(.ref x), (.int (0 : Int32)), (.int (1 : Int32)), (.int c1), (.int c2), (.int (1 : Int32)), (.int d1), (.int d2)] h0 (fun v h => v = some (.int 1) ∧ h0 = h) := by
  refine own_ent (a0 := a0) (nm := "ok") (Ls := #[.val (.ref x), .val (.int (0 : Int32)), .val (.int (1 : Int32)), .val (.int c1), .val (.int c2), .val (.int (1 : Int32)), .val (.int d1), .val (.int d2), .unset, .unset, .unset]) own_pn4 O0 EW.nil ?_
  intro p e _ m _ below _ _ T0 Q hQ A0
  refine own_iloadN (q := 1) A0 d31_0 rfl ?_
  refine own_iconst (q := 2) A0 (2 : Int32) d31_1 rfl ?_
  refine own_iadd (q := 3) A0 d31_2 ?_
  refine own_iload (q := 5) A0 d31_3 rfl ?_
  refine own_iadd (q := 6) A0 d31_5 ?_
  refine own_istore (q := 8) (L' := #[.val (.ref x), .val (.int (0 : Int32)), .val (.int (1 : Int32)), .val (.int c1), .val (.int c2), .val (.int (1 : Int32)), .val (.int d1), .val (.int d2), .val (.int (((1 : Int32) + (2 : Int32)) + (1 : Int32))), .unset, .unset]) A0 d31_6 rfl ?_
  refine own_iloadN (q := 9) A0 d31_8 rfl ?_
  refine own_iload (q := 11) A0 d31_9 rfl ?_
  refine own_icmpT (q := 16) A0 d31_11 (show (0 : Int32) < (((1 : Int32) + (2 : Int32)) + (1 : Int32)) from by decide) ?_
  refine own_iloadN (q := 17) A0 d31_16 rfl ?_
  refine own_iloadN (q := 18) A0 d31_17 rfl ?_
  refine own_icmpF (q := 21) A0 d31_18 (show (0 : Int32) < (1 : Int32) from by decide) ?_
  refine own_iloadN (q := 22) A0 d31_21 rfl ?_
  refine own_ifcF (q := 25) A0 d31_22 (show (0 : Int32) = (0 : Int32) from by decide) ?_
  refine own_iloadN (q := 26) A0 d31_25 rfl ?_
  refine own_goto (q := 31) A0 d31_26 ?_
  refine own_istore (q := 33) (L' := #[.val (.ref x), .val (.int (0 : Int32)), .val (.int (1 : Int32)), .val (.int c1), .val (.int c2), .val (.int (1 : Int32)), .val (.int d1), .val (.int d2), .val (.int (((1 : Int32) + (2 : Int32)) + (1 : Int32))), .val (.int c1), .unset]) A0 d31_31 rfl ?_
  refine own_goto (q := 83) A0 d31_33 ?_
  refine own_aloadN (q := 84) A0 d31_83 rfl rfl ?_
  refine own_iloadN (q := 85) A0 d31_84 rfl ?_
  refine own_virtual (q := 88) (W := 0) (argsL := [(.int (0 : Int32))]) (rest := []) A0 (H.k 168 rfl) (H.k 169 rfl) (H.k 171 rfl) (H.k 170 rfl) (by decide) (own_payCh (cs1 := [c1, (58 : Int32), (32 : Int32), d1]) (i := 0) (kI := 4) (own_wCh H.w) (H.k 5 rfl) A0.old Ex Vx Cx Kx (own_cod [c1, (58 : Int32), (32 : Int32), d1] (n := 4) rfl (fun yy hy => ((show ∀ yy ∈ [c1, (58 : Int32), (32 : Int32), d1], ¬ yy < 0 ∧ ¬ (255 : Int32) < yy from (own_fc ⟨hc10, hc11⟩ (own_fc (by decide) (own_fc (by decide) (own_fc ⟨hd10, hd11⟩ (fun _ z => nomatch z)))))) yy hy).2) rfl rfl) (own_b16 (own_fc ⟨hc10, hc11⟩ (own_fc (by decide) (own_fc (by decide) (own_fc ⟨hd10, hd11⟩ (fun _ z => nomatch z)))))) (Nat.le_of_ble_eq_true rfl) H.SC H.hz H.SF H.rf (Nat.le_of_ble_eq_true rfl) rfl (by decide) (by decide)) own_nW (Nat.le_of_eq rfl) Ex own_pd22 rfl rfl rfl d31_85 (by decide) (by decide) ?_
  rintro v1 T2 h3 A4 ⟨rfl, rfl⟩
  show own_Run p e below Q m T2 88 #[.val (.ref x), .val (.int (0 : Int32)), .val (.int (1 : Int32)), .val (.int c1), .val (.int c2), .val (.int (1 : Int32)), .val (.int d1), .val (.int d2), .val (.int (((1 : Int32) + (2 : Int32)) + (1 : Int32))), .val (.int c1), .unset] [(.int c1)]
  refine own_iload (q := 90) A4 d31_88 rfl ?_
  refine own_icmpF (q := 93) A4 d31_90 (show c1 = c1 from rfl) ?_
  refine own_iconst (q := 94) A4 (1 : Int32) d31_93 rfl ?_
  refine own_goto (q := 98) A4 d31_94 ?_
  exact own_retN A4 hQ (t := .boolean) (by simp) d31_98 ⟨rfl, rfl⟩
theorem rm_ok1_11 (x t : Addr) (kt : ClassId) (c1 c2 d1 d2 : Int32) (O0 : Old Z n0 h0) (H : own_H Z a0 zc fm) (Ex : Exa Z h0 x "java/lang/String") (Cx : Fld Z h0 x "java/lang/String" "coder" "B" (.int 0)) (Vx : Fld Z h0 x "java/lang/String" "value" "[B" (.ref t)) (Kx : Arv Z h0 t kt .byte 4 [(.int c1.toInt8.toInt32), (.int (58 : Int32)), (.int (32 : Int32)), (.int d1.toInt8.toInt32)] (.int 0))  (hc10 : ¬ c1 < 0) (hc11 : ¬ (255 : Int32) < c1) (hnc1 : nar .char c1 = c1) (hc20 : ¬ c2 < 0) (hc21 : ¬ (255 : Int32) < c2) (hnc2 : nar .char c2 = c2) (hd10 : ¬ d1 < 0) (hd11 : ¬ (255 : Int32) < d1) (hnd1 : nar .char d1 = d1) (hd20 : ¬ d2 < 0) (hd21 : ¬ (255 : Int32) < d2) (hnd2 : nar .char d2 = d2):
  own_Met false l Z n0 [] [] ⟨"com/example/hifadhi/hifadhi/project/NotAnalysedMessagePinLaw", "ok", "(Ljava/lang/String;IICCICC)Z"⟩ method_4_code 11 (some .boolean) [] (own_R 4 0 0 53) #[(.ref x), (.int (1 : Int32)), (.int (1 : Int32)), (.int c1), (.int c2), (.int (1 : Int32)), (.int d1), (.int d2)] h0 (fun v h => v = some (.int 1) ∧ h0 = h) := by
  refine own_ent (a0 := a0) (nm := "ok") (Ls := #[.val (.ref x), .val (.int (1 : Int32)), .val (.int (1 : Int32)), .val (.int c1), .val (.int c2), .val (.int (1 : Int32)), .val (.int d1), .val (.int d2), .unset, .unset, .unset]) own_pn4 O0 EW.nil ?_
  intro p e _ m _ below _ _ T0 Q hQ A0
  refine own_iloadN (q := 1) A0 d31_0 rfl ?_
  refine own_iconst (q := 2) A0 (2 : Int32) d31_1 rfl ?_
  refine own_iadd (q := 3) A0 d31_2 ?_
  refine own_iload (q := 5) A0 d31_3 rfl ?_
  refine own_iadd (q := 6) A0 d31_5 ?_
  refine own_istore (q := 8) (L' := #[.val (.ref x), .val (.int (1 : Int32)), .val (.int (1 : Int32)), .val (.int c1), .val (.int c2), .val (.int (1 : Int32)), .val (.int d1), .val (.int d2), .val (.int (((1 : Int32) + (2 : Int32)) + (1 : Int32))), .unset, .unset]) A0 d31_6 rfl ?_
  refine own_iloadN (q := 9) A0 d31_8 rfl ?_
  refine own_iload (q := 11) A0 d31_9 rfl ?_
  refine own_icmpT (q := 16) A0 d31_11 (show (1 : Int32) < (((1 : Int32) + (2 : Int32)) + (1 : Int32)) from by decide) ?_
  refine own_iloadN (q := 17) A0 d31_16 rfl ?_
  refine own_iloadN (q := 18) A0 d31_17 rfl ?_
  refine own_icmpT (q := 36) A0 d31_18 (show ¬ (1 : Int32) < (1 : Int32) from by decide) ?_
  refine own_iloadN (q := 37) A0 d31_36 rfl ?_
  refine own_iloadN (q := 38) A0 d31_37 rfl ?_
  refine own_icmpF (q := 41) A0 d31_38 (show (1 : Int32) = (1 : Int32) from by decide) ?_
  refine own_bipush (q := 43) A0 (58 : Int32) d31_41 rfl ?_
  refine own_istore (q := 45) (L' := #[.val (.ref x), .val (.int (1 : Int32)), .val (.int (1 : Int32)), .val (.int c1), .val (.int c2), .val (.int (1 : Int32)), .val (.int d1), .val (.int d2), .val (.int (((1 : Int32) + (2 : Int32)) + (1 : Int32))), .val (.int (58 : Int32)), .unset]) A0 d31_43 rfl ?_
  refine own_goto (q := 83) A0 d31_45 ?_
  refine own_aloadN (q := 84) A0 d31_83 rfl rfl ?_
  refine own_iloadN (q := 85) A0 d31_84 rfl ?_
  refine own_virtual (q := 88) (W := 0) (argsL := [(.int (1 : Int32))]) (rest := []) A0 (H.k 168 rfl) (H.k 169 rfl) (H.k 171 rfl) (H.k 170 rfl) (by decide) (own_payCh (cs1 := [c1, (58 : Int32), (32 : Int32), d1]) (i := 1) (kI := 4) (own_wCh H.w) (H.k 5 rfl) A0.old Ex Vx Cx Kx (own_cod [c1, (58 : Int32), (32 : Int32), d1] (n := 4) rfl (fun yy hy => ((show ∀ yy ∈ [c1, (58 : Int32), (32 : Int32), d1], ¬ yy < 0 ∧ ¬ (255 : Int32) < yy from (own_fc ⟨hc10, hc11⟩ (own_fc (by decide) (own_fc (by decide) (own_fc ⟨hd10, hd11⟩ (fun _ z => nomatch z)))))) yy hy).2) rfl rfl) (own_b16 (own_fc ⟨hc10, hc11⟩ (own_fc (by decide) (own_fc (by decide) (own_fc ⟨hd10, hd11⟩ (fun _ z => nomatch z)))))) (Nat.le_of_ble_eq_true rfl) H.SC H.hz H.SF H.rf (Nat.le_of_ble_eq_true rfl) rfl (by decide) (by decide)) own_nW (Nat.le_of_eq rfl) Ex own_pd22 rfl rfl rfl d31_85 (by decide) (by decide) ?_
  rintro v1 T2 h3 A4 ⟨rfl, rfl⟩
  show own_Run p e below Q m T2 88 #[.val (.ref x), .val (.int (1 : Int32)), .val (.int (1 : Int32)), .val (.int c1), .val (.int c2), .val (.int (1 : Int32)), .val (.int d1), .val (.int d2), .val (.int (((1 : Int32) + (2 : Int32)) + (1 : Int32))), .val (.int (58 : Int32)), .unset] [(.int (58 : Int32))]
  refine own_iload (q := 90) A4 d31_88 rfl ?_
  refine own_icmpF (q := 93) A4 d31_90 (show (58 : Int32) = (58 : Int32) from rfl) ?_
  refine own_iconst (q := 94) A4 (1 : Int32) d31_93 rfl ?_
  refine own_goto (q := 98) A4 d31_94 ?_
  exact own_retN A4 hQ (t := .boolean) (by simp) d31_98 ⟨rfl, rfl⟩
theorem rm_ok2_11 (x t : Addr) (kt : ClassId) (c1 c2 d1 d2 : Int32) (O0 : Old Z n0 h0) (H : own_H Z a0 zc fm) (Ex : Exa Z h0 x "java/lang/String") (Cx : Fld Z h0 x "java/lang/String" "coder" "B" (.int 0)) (Vx : Fld Z h0 x "java/lang/String" "value" "[B" (.ref t)) (Kx : Arv Z h0 t kt .byte 4 [(.int c1.toInt8.toInt32), (.int (58 : Int32)), (.int (32 : Int32)), (.int d1.toInt8.toInt32)] (.int 0))  (hc10 : ¬ c1 < 0) (hc11 : ¬ (255 : Int32) < c1) (hnc1 : nar .char c1 = c1) (hc20 : ¬ c2 < 0) (hc21 : ¬ (255 : Int32) < c2) (hnc2 : nar .char c2 = c2) (hd10 : ¬ d1 < 0) (hd11 : ¬ (255 : Int32) < d1) (hnd1 : nar .char d1 = d1) (hd20 : ¬ d2 < 0) (hd21 : ¬ (255 : Int32) < d2) (hnd2 : nar .char d2 = d2):
  own_Met false l Z n0 [] [] ⟨"com/example/hifadhi/hifadhi/project/NotAnalysedMessagePinLaw", "ok", "(Ljava/lang/String;IICCICC)Z"⟩ method_4_code 11 (some .boolean) [] (own_R 4 0 0 53) #[(.ref x), (.int (2 : Int32)), (.int (1 : Int32)), (.int c1), (.int c2), (.int (1 : Int32)), (.int d1), (.int d2)] h0 (fun v h => v = some (.int 1) ∧ h0 = h) := by
  refine own_ent (a0 := a0) (nm := "ok") (Ls := #[.val (.ref x), .val (.int (2 : Int32)), .val (.int (1 : Int32)), .val (.int c1), .val (.int c2), .val (.int (1 : Int32)), .val (.int d1), .val (.int d2), .unset, .unset, .unset]) own_pn4 O0 EW.nil ?_
  intro p e _ m _ below _ _ T0 Q hQ A0
  refine own_iloadN (q := 1) A0 d31_0 rfl ?_
  refine own_iconst (q := 2) A0 (2 : Int32) d31_1 rfl ?_
  refine own_iadd (q := 3) A0 d31_2 ?_
  refine own_iload (q := 5) A0 d31_3 rfl ?_
  refine own_iadd (q := 6) A0 d31_5 ?_
  refine own_istore (q := 8) (L' := #[.val (.ref x), .val (.int (2 : Int32)), .val (.int (1 : Int32)), .val (.int c1), .val (.int c2), .val (.int (1 : Int32)), .val (.int d1), .val (.int d2), .val (.int (((1 : Int32) + (2 : Int32)) + (1 : Int32))), .unset, .unset]) A0 d31_6 rfl ?_
  refine own_iloadN (q := 9) A0 d31_8 rfl ?_
  refine own_iload (q := 11) A0 d31_9 rfl ?_
  refine own_icmpT (q := 16) A0 d31_11 (show (2 : Int32) < (((1 : Int32) + (2 : Int32)) + (1 : Int32)) from by decide) ?_
  refine own_iloadN (q := 17) A0 d31_16 rfl ?_
  refine own_iloadN (q := 18) A0 d31_17 rfl ?_
  refine own_icmpT (q := 36) A0 d31_18 (show ¬ (2 : Int32) < (1 : Int32) from by decide) ?_
  refine own_iloadN (q := 37) A0 d31_36 rfl ?_
  refine own_iloadN (q := 38) A0 d31_37 rfl ?_
  refine own_icmpT (q := 48) A0 d31_38 (show ¬ (2 : Int32) = (1 : Int32) from by decide) ?_
  refine own_iloadN (q := 49) A0 d31_48 rfl ?_
  refine own_iloadN (q := 50) A0 d31_49 rfl ?_
  refine own_iconst (q := 51) A0 (1 : Int32) d31_50 rfl ?_
  refine own_iadd (q := 52) A0 d31_51 ?_
  refine own_icmpF (q := 55) A0 d31_52 (show (2 : Int32) = ((1 : Int32) + (1 : Int32)) from by decide) ?_
  refine own_bipush (q := 57) A0 (32 : Int32) d31_55 rfl ?_
  refine own_istore (q := 59) (L' := #[.val (.ref x), .val (.int (2 : Int32)), .val (.int (1 : Int32)), .val (.int c1), .val (.int c2), .val (.int (1 : Int32)), .val (.int d1), .val (.int d2), .val (.int (((1 : Int32) + (2 : Int32)) + (1 : Int32))), .val (.int (32 : Int32)), .unset]) A0 d31_57 rfl ?_
  refine own_goto (q := 83) A0 d31_59 ?_
  refine own_aloadN (q := 84) A0 d31_83 rfl rfl ?_
  refine own_iloadN (q := 85) A0 d31_84 rfl ?_
  refine own_virtual (q := 88) (W := 0) (argsL := [(.int (2 : Int32))]) (rest := []) A0 (H.k 168 rfl) (H.k 169 rfl) (H.k 171 rfl) (H.k 170 rfl) (by decide) (own_payCh (cs1 := [c1, (58 : Int32), (32 : Int32), d1]) (i := 2) (kI := 4) (own_wCh H.w) (H.k 5 rfl) A0.old Ex Vx Cx Kx (own_cod [c1, (58 : Int32), (32 : Int32), d1] (n := 4) rfl (fun yy hy => ((show ∀ yy ∈ [c1, (58 : Int32), (32 : Int32), d1], ¬ yy < 0 ∧ ¬ (255 : Int32) < yy from (own_fc ⟨hc10, hc11⟩ (own_fc (by decide) (own_fc (by decide) (own_fc ⟨hd10, hd11⟩ (fun _ z => nomatch z)))))) yy hy).2) rfl rfl) (own_b16 (own_fc ⟨hc10, hc11⟩ (own_fc (by decide) (own_fc (by decide) (own_fc ⟨hd10, hd11⟩ (fun _ z => nomatch z)))))) (Nat.le_of_ble_eq_true rfl) H.SC H.hz H.SF H.rf (Nat.le_of_ble_eq_true rfl) rfl (by decide) (by decide)) own_nW (Nat.le_of_eq rfl) Ex own_pd22 rfl rfl rfl d31_85 (by decide) (by decide) ?_
  rintro v1 T2 h3 A4 ⟨rfl, rfl⟩
  show own_Run p e below Q m T2 88 #[.val (.ref x), .val (.int (2 : Int32)), .val (.int (1 : Int32)), .val (.int c1), .val (.int c2), .val (.int (1 : Int32)), .val (.int d1), .val (.int d2), .val (.int (((1 : Int32) + (2 : Int32)) + (1 : Int32))), .val (.int (32 : Int32)), .unset] [(.int (32 : Int32))]
  refine own_iload (q := 90) A4 d31_88 rfl ?_
  refine own_icmpF (q := 93) A4 d31_90 (show (32 : Int32) = (32 : Int32) from rfl) ?_
  refine own_iconst (q := 94) A4 (1 : Int32) d31_93 rfl ?_
  refine own_goto (q := 98) A4 d31_94 ?_
  exact own_retN A4 hQ (t := .boolean) (by simp) d31_98 ⟨rfl, rfl⟩
theorem rm_ok3_11 (x t : Addr) (kt : ClassId) (c1 c2 d1 d2 : Int32) (O0 : Old Z n0 h0) (H : own_H Z a0 zc fm) (Ex : Exa Z h0 x "java/lang/String") (Cx : Fld Z h0 x "java/lang/String" "coder" "B" (.int 0)) (Vx : Fld Z h0 x "java/lang/String" "value" "[B" (.ref t)) (Kx : Arv Z h0 t kt .byte 4 [(.int c1.toInt8.toInt32), (.int (58 : Int32)), (.int (32 : Int32)), (.int d1.toInt8.toInt32)] (.int 0))  (hc10 : ¬ c1 < 0) (hc11 : ¬ (255 : Int32) < c1) (hnc1 : nar .char c1 = c1) (hc20 : ¬ c2 < 0) (hc21 : ¬ (255 : Int32) < c2) (hnc2 : nar .char c2 = c2) (hd10 : ¬ d1 < 0) (hd11 : ¬ (255 : Int32) < d1) (hnd1 : nar .char d1 = d1) (hd20 : ¬ d2 < 0) (hd21 : ¬ (255 : Int32) < d2) (hnd2 : nar .char d2 = d2):
  own_Met false l Z n0 [] [] ⟨"com/example/hifadhi/hifadhi/project/NotAnalysedMessagePinLaw", "ok", "(Ljava/lang/String;IICCICC)Z"⟩ method_4_code 11 (some .boolean) [] (own_R 4 0 0 53) #[(.ref x), (.int (3 : Int32)), (.int (1 : Int32)), (.int c1), (.int c2), (.int (1 : Int32)), (.int d1), (.int d2)] h0 (fun v h => v = some (.int 1) ∧ h0 = h) := by
  refine own_ent (a0 := a0) (nm := "ok") (Ls := #[.val (.ref x), .val (.int (3 : Int32)), .val (.int (1 : Int32)), .val (.int c1), .val (.int c2), .val (.int (1 : Int32)), .val (.int d1), .val (.int d2), .unset, .unset, .unset]) own_pn4 O0 EW.nil ?_
  intro p e _ m _ below _ _ T0 Q hQ A0
  refine own_iloadN (q := 1) A0 d31_0 rfl ?_
  refine own_iconst (q := 2) A0 (2 : Int32) d31_1 rfl ?_
  refine own_iadd (q := 3) A0 d31_2 ?_
  refine own_iload (q := 5) A0 d31_3 rfl ?_
  refine own_iadd (q := 6) A0 d31_5 ?_
  refine own_istore (q := 8) (L' := #[.val (.ref x), .val (.int (3 : Int32)), .val (.int (1 : Int32)), .val (.int c1), .val (.int c2), .val (.int (1 : Int32)), .val (.int d1), .val (.int d2), .val (.int (((1 : Int32) + (2 : Int32)) + (1 : Int32))), .unset, .unset]) A0 d31_6 rfl ?_
  refine own_iloadN (q := 9) A0 d31_8 rfl ?_
  refine own_iload (q := 11) A0 d31_9 rfl ?_
  refine own_icmpT (q := 16) A0 d31_11 (show (3 : Int32) < (((1 : Int32) + (2 : Int32)) + (1 : Int32)) from by decide) ?_
  refine own_iloadN (q := 17) A0 d31_16 rfl ?_
  refine own_iloadN (q := 18) A0 d31_17 rfl ?_
  refine own_icmpT (q := 36) A0 d31_18 (show ¬ (3 : Int32) < (1 : Int32) from by decide) ?_
  refine own_iloadN (q := 37) A0 d31_36 rfl ?_
  refine own_iloadN (q := 38) A0 d31_37 rfl ?_
  refine own_icmpT (q := 48) A0 d31_38 (show ¬ (3 : Int32) = (1 : Int32) from by decide) ?_
  refine own_iloadN (q := 49) A0 d31_48 rfl ?_
  refine own_iloadN (q := 50) A0 d31_49 rfl ?_
  refine own_iconst (q := 51) A0 (1 : Int32) d31_50 rfl ?_
  refine own_iadd (q := 52) A0 d31_51 ?_
  refine own_icmpT (q := 62) A0 d31_52 (show ¬ (3 : Int32) = ((1 : Int32) + (1 : Int32)) from by decide) ?_
  refine own_iloadN (q := 63) A0 d31_62 rfl ?_
  refine own_iloadN (q := 64) A0 d31_63 rfl ?_
  refine own_isub (q := 65) A0 d31_64 ?_
  refine own_iconst (q := 66) A0 (2 : Int32) d31_65 rfl ?_
  refine own_isub (q := 67) A0 d31_66 ?_
  refine own_istore (q := 69) (L' := #[.val (.ref x), .val (.int (3 : Int32)), .val (.int (1 : Int32)), .val (.int c1), .val (.int c2), .val (.int (1 : Int32)), .val (.int d1), .val (.int d2), .val (.int (((1 : Int32) + (2 : Int32)) + (1 : Int32))), .unset, .val (.int (((3 : Int32) - (1 : Int32)) - (2 : Int32)))]) A0 d31_67 rfl ?_
  refine own_iload (q := 71) A0 d31_69 rfl ?_
  refine own_ifcF (q := 74) A0 d31_71 (show (((3 : Int32) - (1 : Int32)) - (2 : Int32)) = (0 : Int32) from by decide) ?_
  refine own_iload (q := 76) A0 d31_74 rfl ?_
  refine own_goto (q := 81) A0 d31_76 ?_
  refine own_istore (q := 83) (L' := #[.val (.ref x), .val (.int (3 : Int32)), .val (.int (1 : Int32)), .val (.int c1), .val (.int c2), .val (.int (1 : Int32)), .val (.int d1), .val (.int d2), .val (.int (((1 : Int32) + (2 : Int32)) + (1 : Int32))), .val (.int d1), .val (.int (((3 : Int32) - (1 : Int32)) - (2 : Int32)))]) A0 d31_81 rfl ?_
  refine own_aloadN (q := 84) A0 d31_83 rfl rfl ?_
  refine own_iloadN (q := 85) A0 d31_84 rfl ?_
  refine own_virtual (q := 88) (W := 0) (argsL := [(.int (3 : Int32))]) (rest := []) A0 (H.k 168 rfl) (H.k 169 rfl) (H.k 171 rfl) (H.k 170 rfl) (by decide) (own_payCh (cs1 := [c1, (58 : Int32), (32 : Int32), d1]) (i := 3) (kI := 4) (own_wCh H.w) (H.k 5 rfl) A0.old Ex Vx Cx Kx (own_cod [c1, (58 : Int32), (32 : Int32), d1] (n := 4) rfl (fun yy hy => ((show ∀ yy ∈ [c1, (58 : Int32), (32 : Int32), d1], ¬ yy < 0 ∧ ¬ (255 : Int32) < yy from (own_fc ⟨hc10, hc11⟩ (own_fc (by decide) (own_fc (by decide) (own_fc ⟨hd10, hd11⟩ (fun _ z => nomatch z)))))) yy hy).2) rfl rfl) (own_b16 (own_fc ⟨hc10, hc11⟩ (own_fc (by decide) (own_fc (by decide) (own_fc ⟨hd10, hd11⟩ (fun _ z => nomatch z)))))) (Nat.le_of_ble_eq_true rfl) H.SC H.hz H.SF H.rf (Nat.le_of_ble_eq_true rfl) rfl (by decide) (by decide)) own_nW (Nat.le_of_eq rfl) Ex own_pd22 rfl rfl rfl d31_85 (by decide) (by decide) ?_
  rintro v1 T2 h3 A4 ⟨rfl, rfl⟩
  show own_Run p e below Q m T2 88 #[.val (.ref x), .val (.int (3 : Int32)), .val (.int (1 : Int32)), .val (.int c1), .val (.int c2), .val (.int (1 : Int32)), .val (.int d1), .val (.int d2), .val (.int (((1 : Int32) + (2 : Int32)) + (1 : Int32))), .val (.int d1), .val (.int (((3 : Int32) - (1 : Int32)) - (2 : Int32)))] [(.int d1)]
  refine own_iload (q := 90) A4 d31_88 rfl ?_
  refine own_icmpF (q := 93) A4 d31_90 (show d1 = d1 from rfl) ?_
  refine own_iconst (q := 94) A4 (1 : Int32) d31_93 rfl ?_
  refine own_goto (q := 98) A4 d31_94 ?_
  exact own_retN A4 hQ (t := .boolean) (by simp) d31_98 ⟨rfl, rfl⟩
theorem rm_ok4_11 (x t : Addr) (kt : ClassId) (c1 c2 d1 d2 : Int32) (O0 : Old Z n0 h0) (H : own_H Z a0 zc fm) (Ex : Exa Z h0 x "java/lang/String") (Cx : Fld Z h0 x "java/lang/String" "coder" "B" (.int 0)) (Vx : Fld Z h0 x "java/lang/String" "value" "[B" (.ref t)) (Kx : Arv Z h0 t kt .byte 4 [(.int c1.toInt8.toInt32), (.int (58 : Int32)), (.int (32 : Int32)), (.int d1.toInt8.toInt32)] (.int 0))  (hc10 : ¬ c1 < 0) (hc11 : ¬ (255 : Int32) < c1) (hnc1 : nar .char c1 = c1) (hc20 : ¬ c2 < 0) (hc21 : ¬ (255 : Int32) < c2) (hnc2 : nar .char c2 = c2) (hd10 : ¬ d1 < 0) (hd11 : ¬ (255 : Int32) < d1) (hnd1 : nar .char d1 = d1) (hd20 : ¬ d2 < 0) (hd21 : ¬ (255 : Int32) < d2) (hnd2 : nar .char d2 = d2):
  own_Met false l Z n0 [] [] ⟨"com/example/hifadhi/hifadhi/project/NotAnalysedMessagePinLaw", "ok", "(Ljava/lang/String;IICCICC)Z"⟩ method_4_code 11 (some .boolean) [] (own_R 4 0 0 53) #[(.ref x), (.int (4 : Int32)), (.int (1 : Int32)), (.int c1), (.int c2), (.int (1 : Int32)), (.int d1), (.int d2)] h0 (fun v h => v = some (.int 1) ∧ h0 = h) := by
  refine own_ent (a0 := a0) (nm := "ok") (Ls := #[.val (.ref x), .val (.int (4 : Int32)), .val (.int (1 : Int32)), .val (.int c1), .val (.int c2), .val (.int (1 : Int32)), .val (.int d1), .val (.int d2), .unset, .unset, .unset]) own_pn4 O0 EW.nil ?_
  intro p e _ m _ below _ _ T0 Q hQ A0
  refine own_iloadN (q := 1) A0 d31_0 rfl ?_
  refine own_iconst (q := 2) A0 (2 : Int32) d31_1 rfl ?_
  refine own_iadd (q := 3) A0 d31_2 ?_
  refine own_iload (q := 5) A0 d31_3 rfl ?_
  refine own_iadd (q := 6) A0 d31_5 ?_
  refine own_istore (q := 8) (L' := #[.val (.ref x), .val (.int (4 : Int32)), .val (.int (1 : Int32)), .val (.int c1), .val (.int c2), .val (.int (1 : Int32)), .val (.int d1), .val (.int d2), .val (.int (((1 : Int32) + (2 : Int32)) + (1 : Int32))), .unset, .unset]) A0 d31_6 rfl ?_
  refine own_iloadN (q := 9) A0 d31_8 rfl ?_
  refine own_iload (q := 11) A0 d31_9 rfl ?_
  refine own_icmpF (q := 14) A0 d31_11 (show ¬ (4 : Int32) < (((1 : Int32) + (2 : Int32)) + (1 : Int32)) from by decide) ?_
  refine own_iconst (q := 15) A0 (1 : Int32) d31_14 rfl ?_
  exact own_retN A0 hQ (t := .boolean) (by simp) d31_15 ⟨rfl, rfl⟩
theorem rm_ok5_11 (x t : Addr) (kt : ClassId) (c1 c2 d1 d2 : Int32) (O0 : Old Z n0 h0) (H : own_H Z a0 zc fm) (Ex : Exa Z h0 x "java/lang/String") (Cx : Fld Z h0 x "java/lang/String" "coder" "B" (.int 0)) (Vx : Fld Z h0 x "java/lang/String" "value" "[B" (.ref t)) (Kx : Arv Z h0 t kt .byte 4 [(.int c1.toInt8.toInt32), (.int (58 : Int32)), (.int (32 : Int32)), (.int d1.toInt8.toInt32)] (.int 0))  (hc10 : ¬ c1 < 0) (hc11 : ¬ (255 : Int32) < c1) (hnc1 : nar .char c1 = c1) (hc20 : ¬ c2 < 0) (hc21 : ¬ (255 : Int32) < c2) (hnc2 : nar .char c2 = c2) (hd10 : ¬ d1 < 0) (hd11 : ¬ (255 : Int32) < d1) (hnd1 : nar .char d1 = d1) (hd20 : ¬ d2 < 0) (hd21 : ¬ (255 : Int32) < d2) (hnd2 : nar .char d2 = d2):
  own_Met false l Z n0 [] [] ⟨"com/example/hifadhi/hifadhi/project/NotAnalysedMessagePinLaw", "ok", "(Ljava/lang/String;IICCICC)Z"⟩ method_4_code 11 (some .boolean) [] (own_R 4 0 0 53) #[(.ref x), (.int (5 : Int32)), (.int (1 : Int32)), (.int c1), (.int c2), (.int (1 : Int32)), (.int d1), (.int d2)] h0 (fun v h => v = some (.int 1) ∧ h0 = h) := by
  refine own_ent (a0 := a0) (nm := "ok") (Ls := #[.val (.ref x), .val (.int (5 : Int32)), .val (.int (1 : Int32)), .val (.int c1), .val (.int c2), .val (.int (1 : Int32)), .val (.int d1), .val (.int d2), .unset, .unset, .unset]) own_pn4 O0 EW.nil ?_
  intro p e _ m _ below _ _ T0 Q hQ A0
  refine own_iloadN (q := 1) A0 d31_0 rfl ?_
  refine own_iconst (q := 2) A0 (2 : Int32) d31_1 rfl ?_
  refine own_iadd (q := 3) A0 d31_2 ?_
  refine own_iload (q := 5) A0 d31_3 rfl ?_
  refine own_iadd (q := 6) A0 d31_5 ?_
  refine own_istore (q := 8) (L' := #[.val (.ref x), .val (.int (5 : Int32)), .val (.int (1 : Int32)), .val (.int c1), .val (.int c2), .val (.int (1 : Int32)), .val (.int d1), .val (.int d2), .val (.int (((1 : Int32) + (2 : Int32)) + (1 : Int32))), .unset, .unset]) A0 d31_6 rfl ?_
  refine own_iloadN (q := 9) A0 d31_8 rfl ?_
  refine own_iload (q := 11) A0 d31_9 rfl ?_
  refine own_icmpF (q := 14) A0 d31_11 (show ¬ (5 : Int32) < (((1 : Int32) + (2 : Int32)) + (1 : Int32)) from by decide) ?_
  refine own_iconst (q := 15) A0 (1 : Int32) d31_14 rfl ?_
  exact own_retN A0 hQ (t := .boolean) (by simp) d31_15 ⟨rfl, rfl⟩
theorem rm_ok0_12 (x t : Addr) (kt : ClassId) (c1 c2 d1 d2 : Int32) (O0 : Old Z n0 h0) (H : own_H Z a0 zc fm) (Ex : Exa Z h0 x "java/lang/String") (Cx : Fld Z h0 x "java/lang/String" "coder" "B" (.int 0)) (Vx : Fld Z h0 x "java/lang/String" "value" "[B" (.ref t)) (Kx : Arv Z h0 t kt .byte 5 [(.int c1.toInt8.toInt32), (.int (58 : Int32)), (.int (32 : Int32)), (.int d1.toInt8.toInt32), (.int d2.toInt8.toInt32)] (.int 0))  (hc10 : ¬ c1 < 0) (hc11 : ¬ (255 : Int32) < c1) (hnc1 : nar .char c1 = c1) (hc20 : ¬ c2 < 0) (hc21 : ¬ (255 : Int32) < c2) (hnc2 : nar .char c2 = c2) (hd10 : ¬ d1 < 0) (hd11 : ¬ (255 : Int32) < d1) (hnd1 : nar .char d1 = d1) (hd20 : ¬ d2 < 0) (hd21 : ¬ (255 : Int32) < d2) (hnd2 : nar .char d2 = d2):
  own_Met false l Z n0 [] [] ⟨"com/example/hifadhi/hifadhi/project/NotAnalysedMessagePinLaw", "ok", "(Ljava/lang/String;IICCICC)Z"⟩ method_4_code 11 (some .boolean) [] (own_R 4 0 0 53) #[(.ref x), (.int (0 : Int32)), (.int (1 : Int32)), (.int c1), (.int c2), (.int (2 : Int32)), (.int d1), (.int d2)] h0 (fun v h => v = some (.int 1) ∧ h0 = h) := by
  refine own_ent (a0 := a0) (nm := "ok") (Ls := #[.val (.ref x), .val (.int (0 : Int32)), .val (.int (1 : Int32)), .val (.int c1), .val (.int c2), .val (.int (2 : Int32)), .val (.int d1), .val (.int d2), .unset, .unset, .unset]) own_pn4 O0 EW.nil ?_
  intro p e _ m _ below _ _ T0 Q hQ A0
  refine own_iloadN (q := 1) A0 d31_0 rfl ?_
  refine own_iconst (q := 2) A0 (2 : Int32) d31_1 rfl ?_
  refine own_iadd (q := 3) A0 d31_2 ?_
  refine own_iload (q := 5) A0 d31_3 rfl ?_
  refine own_iadd (q := 6) A0 d31_5 ?_
  refine own_istore (q := 8) (L' := #[.val (.ref x), .val (.int (0 : Int32)), .val (.int (1 : Int32)), .val (.int c1), .val (.int c2), .val (.int (2 : Int32)), .val (.int d1), .val (.int d2), .val (.int (((1 : Int32) + (2 : Int32)) + (2 : Int32))), .unset, .unset]) A0 d31_6 rfl ?_
  refine own_iloadN (q := 9) A0 d31_8 rfl ?_
  refine own_iload (q := 11) A0 d31_9 rfl ?_
  refine own_icmpT (q := 16) A0 d31_11 (show (0 : Int32) < (((1 : Int32) + (2 : Int32)) + (2 : Int32)) from by decide) ?_
  refine own_iloadN (q := 17) A0 d31_16 rfl ?_
  refine own_iloadN (q := 18) A0 d31_17 rfl ?_
  refine own_icmpF (q := 21) A0 d31_18 (show (0 : Int32) < (1 : Int32) from by decide) ?_
  refine own_iloadN (q := 22) A0 d31_21 rfl ?_
  refine own_ifcF (q := 25) A0 d31_22 (show (0 : Int32) = (0 : Int32) from by decide) ?_
  refine own_iloadN (q := 26) A0 d31_25 rfl ?_
  refine own_goto (q := 31) A0 d31_26 ?_
  refine own_istore (q := 33) (L' := #[.val (.ref x), .val (.int (0 : Int32)), .val (.int (1 : Int32)), .val (.int c1), .val (.int c2), .val (.int (2 : Int32)), .val (.int d1), .val (.int d2), .val (.int (((1 : Int32) + (2 : Int32)) + (2 : Int32))), .val (.int c1), .unset]) A0 d31_31 rfl ?_
  refine own_goto (q := 83) A0 d31_33 ?_
  refine own_aloadN (q := 84) A0 d31_83 rfl rfl ?_
  refine own_iloadN (q := 85) A0 d31_84 rfl ?_
  refine own_virtual (q := 88) (W := 0) (argsL := [(.int (0 : Int32))]) (rest := []) A0 (H.k 168 rfl) (H.k 169 rfl) (H.k 171 rfl) (H.k 170 rfl) (by decide) (own_payCh (cs1 := [c1, (58 : Int32), (32 : Int32), d1, d2]) (i := 0) (kI := 4) (own_wCh H.w) (H.k 5 rfl) A0.old Ex Vx Cx Kx (own_cod [c1, (58 : Int32), (32 : Int32), d1, d2] (n := 5) rfl (fun yy hy => ((show ∀ yy ∈ [c1, (58 : Int32), (32 : Int32), d1, d2], ¬ yy < 0 ∧ ¬ (255 : Int32) < yy from (own_fc ⟨hc10, hc11⟩ (own_fc (by decide) (own_fc (by decide) (own_fc ⟨hd10, hd11⟩ (own_fc ⟨hd20, hd21⟩ (fun _ z => nomatch z))))))) yy hy).2) rfl rfl) (own_b16 (own_fc ⟨hc10, hc11⟩ (own_fc (by decide) (own_fc (by decide) (own_fc ⟨hd10, hd11⟩ (own_fc ⟨hd20, hd21⟩ (fun _ z => nomatch z))))))) (Nat.le_of_ble_eq_true rfl) H.SC H.hz H.SF H.rf (Nat.le_of_ble_eq_true rfl) rfl (by decide) (by decide)) own_nW (Nat.le_of_eq rfl) Ex own_pd22 rfl rfl rfl d31_85 (by decide) (by decide) ?_
  rintro v1 T2 h3 A4 ⟨rfl, rfl⟩
  show own_Run p e below Q m T2 88 #[.val (.ref x), .val (.int (0 : Int32)), .val (.int (1 : Int32)), .val (.int c1), .val (.int c2), .val (.int (2 : Int32)), .val (.int d1), .val (.int d2), .val (.int (((1 : Int32) + (2 : Int32)) + (2 : Int32))), .val (.int c1), .unset] [(.int c1)]
  refine own_iload (q := 90) A4 d31_88 rfl ?_
  refine own_icmpF (q := 93) A4 d31_90 (show c1 = c1 from rfl) ?_
  refine own_iconst (q := 94) A4 (1 : Int32) d31_93 rfl ?_
  refine own_goto (q := 98) A4 d31_94 ?_
  exact own_retN A4 hQ (t := .boolean) (by simp) d31_98 ⟨rfl, rfl⟩
theorem rm_ok1_12 (x t : Addr) (kt : ClassId) (c1 c2 d1 d2 : Int32) (O0 : Old Z n0 h0) (H : own_H Z a0 zc fm) (Ex : Exa Z h0 x "java/lang/String") (Cx : Fld Z h0 x "java/lang/String" "coder" "B" (.int 0)) (Vx : Fld Z h0 x "java/lang/String" "value" "[B" (.ref t)) (Kx : Arv Z h0 t kt .byte 5 [(.int c1.toInt8.toInt32), (.int (58 : Int32)), (.int (32 : Int32)), (.int d1.toInt8.toInt32), (.int d2.toInt8.toInt32)] (.int 0))  (hc10 : ¬ c1 < 0) (hc11 : ¬ (255 : Int32) < c1) (hnc1 : nar .char c1 = c1) (hc20 : ¬ c2 < 0) (hc21 : ¬ (255 : Int32) < c2) (hnc2 : nar .char c2 = c2) (hd10 : ¬ d1 < 0) (hd11 : ¬ (255 : Int32) < d1) (hnd1 : nar .char d1 = d1) (hd20 : ¬ d2 < 0) (hd21 : ¬ (255 : Int32) < d2) (hnd2 : nar .char d2 = d2):
  own_Met false l Z n0 [] [] ⟨"com/example/hifadhi/hifadhi/project/NotAnalysedMessagePinLaw", "ok", "(Ljava/lang/String;IICCICC)Z"⟩ method_4_code 11 (some .boolean) [] (own_R 4 0 0 53) #[(.ref x), (.int (1 : Int32)), (.int (1 : Int32)), (.int c1), (.int c2), (.int (2 : Int32)), (.int d1), (.int d2)] h0 (fun v h => v = some (.int 1) ∧ h0 = h) := by
  refine own_ent (a0 := a0) (nm := "ok") (Ls := #[.val (.ref x), .val (.int (1 : Int32)), .val (.int (1 : Int32)), .val (.int c1), .val (.int c2), .val (.int (2 : Int32)), .val (.int d1), .val (.int d2), .unset, .unset, .unset]) own_pn4 O0 EW.nil ?_
  intro p e _ m _ below _ _ T0 Q hQ A0
  refine own_iloadN (q := 1) A0 d31_0 rfl ?_
  refine own_iconst (q := 2) A0 (2 : Int32) d31_1 rfl ?_
  refine own_iadd (q := 3) A0 d31_2 ?_
  refine own_iload (q := 5) A0 d31_3 rfl ?_
  refine own_iadd (q := 6) A0 d31_5 ?_
  refine own_istore (q := 8) (L' := #[.val (.ref x), .val (.int (1 : Int32)), .val (.int (1 : Int32)), .val (.int c1), .val (.int c2), .val (.int (2 : Int32)), .val (.int d1), .val (.int d2), .val (.int (((1 : Int32) + (2 : Int32)) + (2 : Int32))), .unset, .unset]) A0 d31_6 rfl ?_
  refine own_iloadN (q := 9) A0 d31_8 rfl ?_
  refine own_iload (q := 11) A0 d31_9 rfl ?_
  refine own_icmpT (q := 16) A0 d31_11 (show (1 : Int32) < (((1 : Int32) + (2 : Int32)) + (2 : Int32)) from by decide) ?_
  refine own_iloadN (q := 17) A0 d31_16 rfl ?_
  refine own_iloadN (q := 18) A0 d31_17 rfl ?_
  refine own_icmpT (q := 36) A0 d31_18 (show ¬ (1 : Int32) < (1 : Int32) from by decide) ?_
  refine own_iloadN (q := 37) A0 d31_36 rfl ?_
  refine own_iloadN (q := 38) A0 d31_37 rfl ?_
  refine own_icmpF (q := 41) A0 d31_38 (show (1 : Int32) = (1 : Int32) from by decide) ?_
  refine own_bipush (q := 43) A0 (58 : Int32) d31_41 rfl ?_
  refine own_istore (q := 45) (L' := #[.val (.ref x), .val (.int (1 : Int32)), .val (.int (1 : Int32)), .val (.int c1), .val (.int c2), .val (.int (2 : Int32)), .val (.int d1), .val (.int d2), .val (.int (((1 : Int32) + (2 : Int32)) + (2 : Int32))), .val (.int (58 : Int32)), .unset]) A0 d31_43 rfl ?_
  refine own_goto (q := 83) A0 d31_45 ?_
  refine own_aloadN (q := 84) A0 d31_83 rfl rfl ?_
  refine own_iloadN (q := 85) A0 d31_84 rfl ?_
  refine own_virtual (q := 88) (W := 0) (argsL := [(.int (1 : Int32))]) (rest := []) A0 (H.k 168 rfl) (H.k 169 rfl) (H.k 171 rfl) (H.k 170 rfl) (by decide) (own_payCh (cs1 := [c1, (58 : Int32), (32 : Int32), d1, d2]) (i := 1) (kI := 4) (own_wCh H.w) (H.k 5 rfl) A0.old Ex Vx Cx Kx (own_cod [c1, (58 : Int32), (32 : Int32), d1, d2] (n := 5) rfl (fun yy hy => ((show ∀ yy ∈ [c1, (58 : Int32), (32 : Int32), d1, d2], ¬ yy < 0 ∧ ¬ (255 : Int32) < yy from (own_fc ⟨hc10, hc11⟩ (own_fc (by decide) (own_fc (by decide) (own_fc ⟨hd10, hd11⟩ (own_fc ⟨hd20, hd21⟩ (fun _ z => nomatch z))))))) yy hy).2) rfl rfl) (own_b16 (own_fc ⟨hc10, hc11⟩ (own_fc (by decide) (own_fc (by decide) (own_fc ⟨hd10, hd11⟩ (own_fc ⟨hd20, hd21⟩ (fun _ z => nomatch z))))))) (Nat.le_of_ble_eq_true rfl) H.SC H.hz H.SF H.rf (Nat.le_of_ble_eq_true rfl) rfl (by decide) (by decide)) own_nW (Nat.le_of_eq rfl) Ex own_pd22 rfl rfl rfl d31_85 (by decide) (by decide) ?_
  rintro v1 T2 h3 A4 ⟨rfl, rfl⟩
  show own_Run p e below Q m T2 88 #[.val (.ref x), .val (.int (1 : Int32)), .val (.int (1 : Int32)), .val (.int c1), .val (.int c2), .val (.int (2 : Int32)), .val (.int d1), .val (.int d2), .val (.int (((1 : Int32) + (2 : Int32)) + (2 : Int32))), .val (.int (58 : Int32)), .unset] [(.int (58 : Int32))]
  refine own_iload (q := 90) A4 d31_88 rfl ?_
  refine own_icmpF (q := 93) A4 d31_90 (show (58 : Int32) = (58 : Int32) from rfl) ?_
  refine own_iconst (q := 94) A4 (1 : Int32) d31_93 rfl ?_
  refine own_goto (q := 98) A4 d31_94 ?_
  exact own_retN A4 hQ (t := .boolean) (by simp) d31_98 ⟨rfl, rfl⟩
theorem rm_ok2_12 (x t : Addr) (kt : ClassId) (c1 c2 d1 d2 : Int32) (O0 : Old Z n0 h0) (H : own_H Z a0 zc fm) (Ex : Exa Z h0 x "java/lang/String") (Cx : Fld Z h0 x "java/lang/String" "coder" "B" (.int 0)) (Vx : Fld Z h0 x "java/lang/String" "value" "[B" (.ref t)) (Kx : Arv Z h0 t kt .byte 5 [(.int c1.toInt8.toInt32), (.int (58 : Int32)), (.int (32 : Int32)), (.int d1.toInt8.toInt32), (.int d2.toInt8.toInt32)] (.int 0))  (hc10 : ¬ c1 < 0) (hc11 : ¬ (255 : Int32) < c1) (hnc1 : nar .char c1 = c1) (hc20 : ¬ c2 < 0) (hc21 : ¬ (255 : Int32) < c2) (hnc2 : nar .char c2 = c2) (hd10 : ¬ d1 < 0) (hd11 : ¬ (255 : Int32) < d1) (hnd1 : nar .char d1 = d1) (hd20 : ¬ d2 < 0) (hd21 : ¬ (255 : Int32) < d2) (hnd2 : nar .char d2 = d2):
  own_Met false l Z n0 [] [] ⟨"com/example/hifadhi/hifadhi/project/NotAnalysedMessagePinLaw", "ok", "(Ljava/lang/String;IICCICC)Z"⟩ method_4_code 11 (some .boolean) [] (own_R 4 0 0 53) #[(.ref x), (.int (2 : Int32)), (.int (1 : Int32)), (.int c1), (.int c2), (.int (2 : Int32)), (.int d1), (.int d2)] h0 (fun v h => v = some (.int 1) ∧ h0 = h) := by
  refine own_ent (a0 := a0) (nm := "ok") (Ls := #[.val (.ref x), .val (.int (2 : Int32)), .val (.int (1 : Int32)), .val (.int c1), .val (.int c2), .val (.int (2 : Int32)), .val (.int d1), .val (.int d2), .unset, .unset, .unset]) own_pn4 O0 EW.nil ?_
  intro p e _ m _ below _ _ T0 Q hQ A0
  refine own_iloadN (q := 1) A0 d31_0 rfl ?_
  refine own_iconst (q := 2) A0 (2 : Int32) d31_1 rfl ?_
  refine own_iadd (q := 3) A0 d31_2 ?_
  refine own_iload (q := 5) A0 d31_3 rfl ?_
  refine own_iadd (q := 6) A0 d31_5 ?_
  refine own_istore (q := 8) (L' := #[.val (.ref x), .val (.int (2 : Int32)), .val (.int (1 : Int32)), .val (.int c1), .val (.int c2), .val (.int (2 : Int32)), .val (.int d1), .val (.int d2), .val (.int (((1 : Int32) + (2 : Int32)) + (2 : Int32))), .unset, .unset]) A0 d31_6 rfl ?_
  refine own_iloadN (q := 9) A0 d31_8 rfl ?_
  refine own_iload (q := 11) A0 d31_9 rfl ?_
  refine own_icmpT (q := 16) A0 d31_11 (show (2 : Int32) < (((1 : Int32) + (2 : Int32)) + (2 : Int32)) from by decide) ?_
  refine own_iloadN (q := 17) A0 d31_16 rfl ?_
  refine own_iloadN (q := 18) A0 d31_17 rfl ?_
  refine own_icmpT (q := 36) A0 d31_18 (show ¬ (2 : Int32) < (1 : Int32) from by decide) ?_
  refine own_iloadN (q := 37) A0 d31_36 rfl ?_
  refine own_iloadN (q := 38) A0 d31_37 rfl ?_
  refine own_icmpT (q := 48) A0 d31_38 (show ¬ (2 : Int32) = (1 : Int32) from by decide) ?_
  refine own_iloadN (q := 49) A0 d31_48 rfl ?_
  refine own_iloadN (q := 50) A0 d31_49 rfl ?_
  refine own_iconst (q := 51) A0 (1 : Int32) d31_50 rfl ?_
  refine own_iadd (q := 52) A0 d31_51 ?_
  refine own_icmpF (q := 55) A0 d31_52 (show (2 : Int32) = ((1 : Int32) + (1 : Int32)) from by decide) ?_
  refine own_bipush (q := 57) A0 (32 : Int32) d31_55 rfl ?_
  refine own_istore (q := 59) (L' := #[.val (.ref x), .val (.int (2 : Int32)), .val (.int (1 : Int32)), .val (.int c1), .val (.int c2), .val (.int (2 : Int32)), .val (.int d1), .val (.int d2), .val (.int (((1 : Int32) + (2 : Int32)) + (2 : Int32))), .val (.int (32 : Int32)), .unset]) A0 d31_57 rfl ?_
  refine own_goto (q := 83) A0 d31_59 ?_
  refine own_aloadN (q := 84) A0 d31_83 rfl rfl ?_
  refine own_iloadN (q := 85) A0 d31_84 rfl ?_
  refine own_virtual (q := 88) (W := 0) (argsL := [(.int (2 : Int32))]) (rest := []) A0 (H.k 168 rfl) (H.k 169 rfl) (H.k 171 rfl) (H.k 170 rfl) (by decide) (own_payCh (cs1 := [c1, (58 : Int32), (32 : Int32), d1, d2]) (i := 2) (kI := 4) (own_wCh H.w) (H.k 5 rfl) A0.old Ex Vx Cx Kx (own_cod [c1, (58 : Int32), (32 : Int32), d1, d2] (n := 5) rfl (fun yy hy => ((show ∀ yy ∈ [c1, (58 : Int32), (32 : Int32), d1, d2], ¬ yy < 0 ∧ ¬ (255 : Int32) < yy from (own_fc ⟨hc10, hc11⟩ (own_fc (by decide) (own_fc (by decide) (own_fc ⟨hd10, hd11⟩ (own_fc ⟨hd20, hd21⟩ (fun _ z => nomatch z))))))) yy hy).2) rfl rfl) (own_b16 (own_fc ⟨hc10, hc11⟩ (own_fc (by decide) (own_fc (by decide) (own_fc ⟨hd10, hd11⟩ (own_fc ⟨hd20, hd21⟩ (fun _ z => nomatch z))))))) (Nat.le_of_ble_eq_true rfl) H.SC H.hz H.SF H.rf (Nat.le_of_ble_eq_true rfl) rfl (by decide) (by decide)) own_nW (Nat.le_of_eq rfl) Ex own_pd22 rfl rfl rfl d31_85 (by decide) (by decide) ?_
  rintro v1 T2 h3 A4 ⟨rfl, rfl⟩
  show own_Run p e below Q m T2 88 #[.val (.ref x), .val (.int (2 : Int32)), .val (.int (1 : Int32)), .val (.int c1), .val (.int c2), .val (.int (2 : Int32)), .val (.int d1), .val (.int d2), .val (.int (((1 : Int32) + (2 : Int32)) + (2 : Int32))), .val (.int (32 : Int32)), .unset] [(.int (32 : Int32))]
  refine own_iload (q := 90) A4 d31_88 rfl ?_
  refine own_icmpF (q := 93) A4 d31_90 (show (32 : Int32) = (32 : Int32) from rfl) ?_
  refine own_iconst (q := 94) A4 (1 : Int32) d31_93 rfl ?_
  refine own_goto (q := 98) A4 d31_94 ?_
  exact own_retN A4 hQ (t := .boolean) (by simp) d31_98 ⟨rfl, rfl⟩
theorem rm_ok3_12 (x t : Addr) (kt : ClassId) (c1 c2 d1 d2 : Int32) (O0 : Old Z n0 h0) (H : own_H Z a0 zc fm) (Ex : Exa Z h0 x "java/lang/String") (Cx : Fld Z h0 x "java/lang/String" "coder" "B" (.int 0)) (Vx : Fld Z h0 x "java/lang/String" "value" "[B" (.ref t)) (Kx : Arv Z h0 t kt .byte 5 [(.int c1.toInt8.toInt32), (.int (58 : Int32)), (.int (32 : Int32)), (.int d1.toInt8.toInt32), (.int d2.toInt8.toInt32)] (.int 0))  (hc10 : ¬ c1 < 0) (hc11 : ¬ (255 : Int32) < c1) (hnc1 : nar .char c1 = c1) (hc20 : ¬ c2 < 0) (hc21 : ¬ (255 : Int32) < c2) (hnc2 : nar .char c2 = c2) (hd10 : ¬ d1 < 0) (hd11 : ¬ (255 : Int32) < d1) (hnd1 : nar .char d1 = d1) (hd20 : ¬ d2 < 0) (hd21 : ¬ (255 : Int32) < d2) (hnd2 : nar .char d2 = d2):
  own_Met false l Z n0 [] [] ⟨"com/example/hifadhi/hifadhi/project/NotAnalysedMessagePinLaw", "ok", "(Ljava/lang/String;IICCICC)Z"⟩ method_4_code 11 (some .boolean) [] (own_R 4 0 0 53) #[(.ref x), (.int (3 : Int32)), (.int (1 : Int32)), (.int c1), (.int c2), (.int (2 : Int32)), (.int d1), (.int d2)] h0 (fun v h => v = some (.int 1) ∧ h0 = h) := by
  refine own_ent (a0 := a0) (nm := "ok") (Ls := #[.val (.ref x), .val (.int (3 : Int32)), .val (.int (1 : Int32)), .val (.int c1), .val (.int c2), .val (.int (2 : Int32)), .val (.int d1), .val (.int d2), .unset, .unset, .unset]) own_pn4 O0 EW.nil ?_
  intro p e _ m _ below _ _ T0 Q hQ A0
  refine own_iloadN (q := 1) A0 d31_0 rfl ?_
  refine own_iconst (q := 2) A0 (2 : Int32) d31_1 rfl ?_
  refine own_iadd (q := 3) A0 d31_2 ?_
  refine own_iload (q := 5) A0 d31_3 rfl ?_
  refine own_iadd (q := 6) A0 d31_5 ?_
  refine own_istore (q := 8) (L' := #[.val (.ref x), .val (.int (3 : Int32)), .val (.int (1 : Int32)), .val (.int c1), .val (.int c2), .val (.int (2 : Int32)), .val (.int d1), .val (.int d2), .val (.int (((1 : Int32) + (2 : Int32)) + (2 : Int32))), .unset, .unset]) A0 d31_6 rfl ?_
  refine own_iloadN (q := 9) A0 d31_8 rfl ?_
  refine own_iload (q := 11) A0 d31_9 rfl ?_
  refine own_icmpT (q := 16) A0 d31_11 (show (3 : Int32) < (((1 : Int32) + (2 : Int32)) + (2 : Int32)) from by decide) ?_
  refine own_iloadN (q := 17) A0 d31_16 rfl ?_
  refine own_iloadN (q := 18) A0 d31_17 rfl ?_
  refine own_icmpT (q := 36) A0 d31_18 (show ¬ (3 : Int32) < (1 : Int32) from by decide) ?_
  refine own_iloadN (q := 37) A0 d31_36 rfl ?_
  refine own_iloadN (q := 38) A0 d31_37 rfl ?_
  refine own_icmpT (q := 48) A0 d31_38 (show ¬ (3 : Int32) = (1 : Int32) from by decide) ?_
  refine own_iloadN (q := 49) A0 d31_48 rfl ?_
  refine own_iloadN (q := 50) A0 d31_49 rfl ?_
  refine own_iconst (q := 51) A0 (1 : Int32) d31_50 rfl ?_
  refine own_iadd (q := 52) A0 d31_51 ?_
  refine own_icmpT (q := 62) A0 d31_52 (show ¬ (3 : Int32) = ((1 : Int32) + (1 : Int32)) from by decide) ?_
  refine own_iloadN (q := 63) A0 d31_62 rfl ?_
  refine own_iloadN (q := 64) A0 d31_63 rfl ?_
  refine own_isub (q := 65) A0 d31_64 ?_
  refine own_iconst (q := 66) A0 (2 : Int32) d31_65 rfl ?_
  refine own_isub (q := 67) A0 d31_66 ?_
  refine own_istore (q := 69) (L' := #[.val (.ref x), .val (.int (3 : Int32)), .val (.int (1 : Int32)), .val (.int c1), .val (.int c2), .val (.int (2 : Int32)), .val (.int d1), .val (.int d2), .val (.int (((1 : Int32) + (2 : Int32)) + (2 : Int32))), .unset, .val (.int (((3 : Int32) - (1 : Int32)) - (2 : Int32)))]) A0 d31_67 rfl ?_
  refine own_iload (q := 71) A0 d31_69 rfl ?_
  refine own_ifcF (q := 74) A0 d31_71 (show (((3 : Int32) - (1 : Int32)) - (2 : Int32)) = (0 : Int32) from by decide) ?_
  refine own_iload (q := 76) A0 d31_74 rfl ?_
  refine own_goto (q := 81) A0 d31_76 ?_
  refine own_istore (q := 83) (L' := #[.val (.ref x), .val (.int (3 : Int32)), .val (.int (1 : Int32)), .val (.int c1), .val (.int c2), .val (.int (2 : Int32)), .val (.int d1), .val (.int d2), .val (.int (((1 : Int32) + (2 : Int32)) + (2 : Int32))), .val (.int d1), .val (.int (((3 : Int32) - (1 : Int32)) - (2 : Int32)))]) A0 d31_81 rfl ?_
  refine own_aloadN (q := 84) A0 d31_83 rfl rfl ?_
  refine own_iloadN (q := 85) A0 d31_84 rfl ?_
  refine own_virtual (q := 88) (W := 0) (argsL := [(.int (3 : Int32))]) (rest := []) A0 (H.k 168 rfl) (H.k 169 rfl) (H.k 171 rfl) (H.k 170 rfl) (by decide) (own_payCh (cs1 := [c1, (58 : Int32), (32 : Int32), d1, d2]) (i := 3) (kI := 4) (own_wCh H.w) (H.k 5 rfl) A0.old Ex Vx Cx Kx (own_cod [c1, (58 : Int32), (32 : Int32), d1, d2] (n := 5) rfl (fun yy hy => ((show ∀ yy ∈ [c1, (58 : Int32), (32 : Int32), d1, d2], ¬ yy < 0 ∧ ¬ (255 : Int32) < yy from (own_fc ⟨hc10, hc11⟩ (own_fc (by decide) (own_fc (by decide) (own_fc ⟨hd10, hd11⟩ (own_fc ⟨hd20, hd21⟩ (fun _ z => nomatch z))))))) yy hy).2) rfl rfl) (own_b16 (own_fc ⟨hc10, hc11⟩ (own_fc (by decide) (own_fc (by decide) (own_fc ⟨hd10, hd11⟩ (own_fc ⟨hd20, hd21⟩ (fun _ z => nomatch z))))))) (Nat.le_of_ble_eq_true rfl) H.SC H.hz H.SF H.rf (Nat.le_of_ble_eq_true rfl) rfl (by decide) (by decide)) own_nW (Nat.le_of_eq rfl) Ex own_pd22 rfl rfl rfl d31_85 (by decide) (by decide) ?_
  rintro v1 T2 h3 A4 ⟨rfl, rfl⟩
  show own_Run p e below Q m T2 88 #[.val (.ref x), .val (.int (3 : Int32)), .val (.int (1 : Int32)), .val (.int c1), .val (.int c2), .val (.int (2 : Int32)), .val (.int d1), .val (.int d2), .val (.int (((1 : Int32) + (2 : Int32)) + (2 : Int32))), .val (.int d1), .val (.int (((3 : Int32) - (1 : Int32)) - (2 : Int32)))] [(.int d1)]
  refine own_iload (q := 90) A4 d31_88 rfl ?_
  refine own_icmpF (q := 93) A4 d31_90 (show d1 = d1 from rfl) ?_
  refine own_iconst (q := 94) A4 (1 : Int32) d31_93 rfl ?_
  refine own_goto (q := 98) A4 d31_94 ?_
  exact own_retN A4 hQ (t := .boolean) (by simp) d31_98 ⟨rfl, rfl⟩
theorem rm_ok4_12 (x t : Addr) (kt : ClassId) (c1 c2 d1 d2 : Int32) (O0 : Old Z n0 h0) (H : own_H Z a0 zc fm) (Ex : Exa Z h0 x "java/lang/String") (Cx : Fld Z h0 x "java/lang/String" "coder" "B" (.int 0)) (Vx : Fld Z h0 x "java/lang/String" "value" "[B" (.ref t)) (Kx : Arv Z h0 t kt .byte 5 [(.int c1.toInt8.toInt32), (.int (58 : Int32)), (.int (32 : Int32)), (.int d1.toInt8.toInt32), (.int d2.toInt8.toInt32)] (.int 0))  (hc10 : ¬ c1 < 0) (hc11 : ¬ (255 : Int32) < c1) (hnc1 : nar .char c1 = c1) (hc20 : ¬ c2 < 0) (hc21 : ¬ (255 : Int32) < c2) (hnc2 : nar .char c2 = c2) (hd10 : ¬ d1 < 0) (hd11 : ¬ (255 : Int32) < d1) (hnd1 : nar .char d1 = d1) (hd20 : ¬ d2 < 0) (hd21 : ¬ (255 : Int32) < d2) (hnd2 : nar .char d2 = d2):
  own_Met false l Z n0 [] [] ⟨"com/example/hifadhi/hifadhi/project/NotAnalysedMessagePinLaw", "ok", "(Ljava/lang/String;IICCICC)Z"⟩ method_4_code 11 (some .boolean) [] (own_R 4 0 0 53) #[(.ref x), (.int (4 : Int32)), (.int (1 : Int32)), (.int c1), (.int c2), (.int (2 : Int32)), (.int d1), (.int d2)] h0 (fun v h => v = some (.int 1) ∧ h0 = h) := by
  refine own_ent (a0 := a0) (nm := "ok") (Ls := #[.val (.ref x), .val (.int (4 : Int32)), .val (.int (1 : Int32)), .val (.int c1), .val (.int c2), .val (.int (2 : Int32)), .val (.int d1), .val (.int d2), .unset, .unset, .unset]) own_pn4 O0 EW.nil ?_
  intro p e _ m _ below _ _ T0 Q hQ A0
  refine own_iloadN (q := 1) A0 d31_0 rfl ?_
  refine own_iconst (q := 2) A0 (2 : Int32) d31_1 rfl ?_
  refine own_iadd (q := 3) A0 d31_2 ?_
  refine own_iload (q := 5) A0 d31_3 rfl ?_
  refine own_iadd (q := 6) A0 d31_5 ?_
  refine own_istore (q := 8) (L' := #[.val (.ref x), .val (.int (4 : Int32)), .val (.int (1 : Int32)), .val (.int c1), .val (.int c2), .val (.int (2 : Int32)), .val (.int d1), .val (.int d2), .val (.int (((1 : Int32) + (2 : Int32)) + (2 : Int32))), .unset, .unset]) A0 d31_6 rfl ?_
  refine own_iloadN (q := 9) A0 d31_8 rfl ?_
  refine own_iload (q := 11) A0 d31_9 rfl ?_
  refine own_icmpT (q := 16) A0 d31_11 (show (4 : Int32) < (((1 : Int32) + (2 : Int32)) + (2 : Int32)) from by decide) ?_
  refine own_iloadN (q := 17) A0 d31_16 rfl ?_
  refine own_iloadN (q := 18) A0 d31_17 rfl ?_
  refine own_icmpT (q := 36) A0 d31_18 (show ¬ (4 : Int32) < (1 : Int32) from by decide) ?_
  refine own_iloadN (q := 37) A0 d31_36 rfl ?_
  refine own_iloadN (q := 38) A0 d31_37 rfl ?_
  refine own_icmpT (q := 48) A0 d31_38 (show ¬ (4 : Int32) = (1 : Int32) from by decide) ?_
  refine own_iloadN (q := 49) A0 d31_48 rfl ?_
  refine own_iloadN (q := 50) A0 d31_49 rfl ?_
  refine own_iconst (q := 51) A0 (1 : Int32) d31_50 rfl ?_
  refine own_iadd (q := 52) A0 d31_51 ?_
  refine own_icmpT (q := 62) A0 d31_52 (show ¬ (4 : Int32) = ((1 : Int32) + (1 : Int32)) from by decide) ?_
  refine own_iloadN (q := 63) A0 d31_62 rfl ?_
  refine own_iloadN (q := 64) A0 d31_63 rfl ?_
  refine own_isub (q := 65) A0 d31_64 ?_
  refine own_iconst (q := 66) A0 (2 : Int32) d31_65 rfl ?_
  refine own_isub (q := 67) A0 d31_66 ?_
  refine own_istore (q := 69) (L' := #[.val (.ref x), .val (.int (4 : Int32)), .val (.int (1 : Int32)), .val (.int c1), .val (.int c2), .val (.int (2 : Int32)), .val (.int d1), .val (.int d2), .val (.int (((1 : Int32) + (2 : Int32)) + (2 : Int32))), .unset, .val (.int (((4 : Int32) - (1 : Int32)) - (2 : Int32)))]) A0 d31_67 rfl ?_
  refine own_iload (q := 71) A0 d31_69 rfl ?_
  refine own_ifcT (q := 79) A0 d31_71 (show ¬ (((4 : Int32) - (1 : Int32)) - (2 : Int32)) = (0 : Int32) from by decide) ?_
  refine own_iload (q := 81) A0 d31_79 rfl ?_
  refine own_istore (q := 83) (L' := #[.val (.ref x), .val (.int (4 : Int32)), .val (.int (1 : Int32)), .val (.int c1), .val (.int c2), .val (.int (2 : Int32)), .val (.int d1), .val (.int d2), .val (.int (((1 : Int32) + (2 : Int32)) + (2 : Int32))), .val (.int d2), .val (.int (((4 : Int32) - (1 : Int32)) - (2 : Int32)))]) A0 d31_81 rfl ?_
  refine own_aloadN (q := 84) A0 d31_83 rfl rfl ?_
  refine own_iloadN (q := 85) A0 d31_84 rfl ?_
  refine own_virtual (q := 88) (W := 0) (argsL := [(.int (4 : Int32))]) (rest := []) A0 (H.k 168 rfl) (H.k 169 rfl) (H.k 171 rfl) (H.k 170 rfl) (by decide) (own_payCh (cs1 := [c1, (58 : Int32), (32 : Int32), d1, d2]) (i := 4) (kI := 4) (own_wCh H.w) (H.k 5 rfl) A0.old Ex Vx Cx Kx (own_cod [c1, (58 : Int32), (32 : Int32), d1, d2] (n := 5) rfl (fun yy hy => ((show ∀ yy ∈ [c1, (58 : Int32), (32 : Int32), d1, d2], ¬ yy < 0 ∧ ¬ (255 : Int32) < yy from (own_fc ⟨hc10, hc11⟩ (own_fc (by decide) (own_fc (by decide) (own_fc ⟨hd10, hd11⟩ (own_fc ⟨hd20, hd21⟩ (fun _ z => nomatch z))))))) yy hy).2) rfl rfl) (own_b16 (own_fc ⟨hc10, hc11⟩ (own_fc (by decide) (own_fc (by decide) (own_fc ⟨hd10, hd11⟩ (own_fc ⟨hd20, hd21⟩ (fun _ z => nomatch z))))))) (Nat.le_of_ble_eq_true rfl) H.SC H.hz H.SF H.rf (Nat.le_of_ble_eq_true rfl) rfl (by decide) (by decide)) own_nW (Nat.le_of_eq rfl) Ex own_pd22 rfl rfl rfl d31_85 (by decide) (by decide) ?_
  rintro v1 T2 h3 A4 ⟨rfl, rfl⟩
  show own_Run p e below Q m T2 88 #[.val (.ref x), .val (.int (4 : Int32)), .val (.int (1 : Int32)), .val (.int c1), .val (.int c2), .val (.int (2 : Int32)), .val (.int d1), .val (.int d2), .val (.int (((1 : Int32) + (2 : Int32)) + (2 : Int32))), .val (.int d2), .val (.int (((4 : Int32) - (1 : Int32)) - (2 : Int32)))] [(.int d2)]
  refine own_iload (q := 90) A4 d31_88 rfl ?_
  refine own_icmpF (q := 93) A4 d31_90 (show d2 = d2 from rfl) ?_
  refine own_iconst (q := 94) A4 (1 : Int32) d31_93 rfl ?_
  refine own_goto (q := 98) A4 d31_94 ?_
  exact own_retN A4 hQ (t := .boolean) (by simp) d31_98 ⟨rfl, rfl⟩
theorem rm_ok5_12 (x t : Addr) (kt : ClassId) (c1 c2 d1 d2 : Int32) (O0 : Old Z n0 h0) (H : own_H Z a0 zc fm) (Ex : Exa Z h0 x "java/lang/String") (Cx : Fld Z h0 x "java/lang/String" "coder" "B" (.int 0)) (Vx : Fld Z h0 x "java/lang/String" "value" "[B" (.ref t)) (Kx : Arv Z h0 t kt .byte 5 [(.int c1.toInt8.toInt32), (.int (58 : Int32)), (.int (32 : Int32)), (.int d1.toInt8.toInt32), (.int d2.toInt8.toInt32)] (.int 0))  (hc10 : ¬ c1 < 0) (hc11 : ¬ (255 : Int32) < c1) (hnc1 : nar .char c1 = c1) (hc20 : ¬ c2 < 0) (hc21 : ¬ (255 : Int32) < c2) (hnc2 : nar .char c2 = c2) (hd10 : ¬ d1 < 0) (hd11 : ¬ (255 : Int32) < d1) (hnd1 : nar .char d1 = d1) (hd20 : ¬ d2 < 0) (hd21 : ¬ (255 : Int32) < d2) (hnd2 : nar .char d2 = d2):
  own_Met false l Z n0 [] [] ⟨"com/example/hifadhi/hifadhi/project/NotAnalysedMessagePinLaw", "ok", "(Ljava/lang/String;IICCICC)Z"⟩ method_4_code 11 (some .boolean) [] (own_R 4 0 0 53) #[(.ref x), (.int (5 : Int32)), (.int (1 : Int32)), (.int c1), (.int c2), (.int (2 : Int32)), (.int d1), (.int d2)] h0 (fun v h => v = some (.int 1) ∧ h0 = h) := by
  refine own_ent (a0 := a0) (nm := "ok") (Ls := #[.val (.ref x), .val (.int (5 : Int32)), .val (.int (1 : Int32)), .val (.int c1), .val (.int c2), .val (.int (2 : Int32)), .val (.int d1), .val (.int d2), .unset, .unset, .unset]) own_pn4 O0 EW.nil ?_
  intro p e _ m _ below _ _ T0 Q hQ A0
  refine own_iloadN (q := 1) A0 d31_0 rfl ?_
  refine own_iconst (q := 2) A0 (2 : Int32) d31_1 rfl ?_
  refine own_iadd (q := 3) A0 d31_2 ?_
  refine own_iload (q := 5) A0 d31_3 rfl ?_
  refine own_iadd (q := 6) A0 d31_5 ?_
  refine own_istore (q := 8) (L' := #[.val (.ref x), .val (.int (5 : Int32)), .val (.int (1 : Int32)), .val (.int c1), .val (.int c2), .val (.int (2 : Int32)), .val (.int d1), .val (.int d2), .val (.int (((1 : Int32) + (2 : Int32)) + (2 : Int32))), .unset, .unset]) A0 d31_6 rfl ?_
  refine own_iloadN (q := 9) A0 d31_8 rfl ?_
  refine own_iload (q := 11) A0 d31_9 rfl ?_
  refine own_icmpF (q := 14) A0 d31_11 (show ¬ (5 : Int32) < (((1 : Int32) + (2 : Int32)) + (2 : Int32)) from by decide) ?_
  refine own_iconst (q := 15) A0 (1 : Int32) d31_14 rfl ?_
  exact own_retN A0 hQ (t := .boolean) (by simp) d31_15 ⟨rfl, rfl⟩
theorem rm_ok0_20 (x t : Addr) (kt : ClassId) (c1 c2 d1 d2 : Int32) (O0 : Old Z n0 h0) (H : own_H Z a0 zc fm) (Ex : Exa Z h0 x "java/lang/String") (Cx : Fld Z h0 x "java/lang/String" "coder" "B" (.int 0)) (Vx : Fld Z h0 x "java/lang/String" "value" "[B" (.ref t)) (Kx : Arv Z h0 t kt .byte 4 [(.int c1.toInt8.toInt32), (.int c2.toInt8.toInt32), (.int (58 : Int32)), (.int (32 : Int32))] (.int 0))  (hc10 : ¬ c1 < 0) (hc11 : ¬ (255 : Int32) < c1) (hnc1 : nar .char c1 = c1) (hc20 : ¬ c2 < 0) (hc21 : ¬ (255 : Int32) < c2) (hnc2 : nar .char c2 = c2) (hd10 : ¬ d1 < 0) (hd11 : ¬ (255 : Int32) < d1) (hnd1 : nar .char d1 = d1) (hd20 : ¬ d2 < 0) (hd21 : ¬ (255 : Int32) < d2) (hnd2 : nar .char d2 = d2):
  own_Met false l Z n0 [] [] ⟨"com/example/hifadhi/hifadhi/project/NotAnalysedMessagePinLaw", "ok", "(Ljava/lang/String;IICCICC)Z"⟩ method_4_code 11 (some .boolean) [] (own_R 4 0 0 53) #[(.ref x), (.int (0 : Int32)), (.int (2 : Int32)), (.int c1), (.int c2), (.int (0 : Int32)), (.int d1), (.int d2)] h0 (fun v h => v = some (.int 1) ∧ h0 = h) := by
  refine own_ent (a0 := a0) (nm := "ok") (Ls := #[.val (.ref x), .val (.int (0 : Int32)), .val (.int (2 : Int32)), .val (.int c1), .val (.int c2), .val (.int (0 : Int32)), .val (.int d1), .val (.int d2), .unset, .unset, .unset]) own_pn4 O0 EW.nil ?_
  intro p e _ m _ below _ _ T0 Q hQ A0
  refine own_iloadN (q := 1) A0 d31_0 rfl ?_
  refine own_iconst (q := 2) A0 (2 : Int32) d31_1 rfl ?_
  refine own_iadd (q := 3) A0 d31_2 ?_
  refine own_iload (q := 5) A0 d31_3 rfl ?_
  refine own_iadd (q := 6) A0 d31_5 ?_
  refine own_istore (q := 8) (L' := #[.val (.ref x), .val (.int (0 : Int32)), .val (.int (2 : Int32)), .val (.int c1), .val (.int c2), .val (.int (0 : Int32)), .val (.int d1), .val (.int d2), .val (.int (((2 : Int32) + (2 : Int32)) + (0 : Int32))), .unset, .unset]) A0 d31_6 rfl ?_
  refine own_iloadN (q := 9) A0 d31_8 rfl ?_
  refine own_iload (q := 11) A0 d31_9 rfl ?_
  refine own_icmpT (q := 16) A0 d31_11 (show (0 : Int32) < (((2 : Int32) + (2 : Int32)) + (0 : Int32)) from by decide) ?_
  refine own_iloadN (q := 17) A0 d31_16 rfl ?_
  refine own_iloadN (q := 18) A0 d31_17 rfl ?_
  refine own_icmpF (q := 21) A0 d31_18 (show (0 : Int32) < (2 : Int32) from by decide) ?_
  refine own_iloadN (q := 22) A0 d31_21 rfl ?_
  refine own_ifcF (q := 25) A0 d31_22 (show (0 : Int32) = (0 : Int32) from by decide) ?_
  refine own_iloadN (q := 26) A0 d31_25 rfl ?_
  refine own_goto (q := 31) A0 d31_26 ?_
  refine own_istore (q := 33) (L' := #[.val (.ref x), .val (.int (0 : Int32)), .val (.int (2 : Int32)), .val (.int c1), .val (.int c2), .val (.int (0 : Int32)), .val (.int d1), .val (.int d2), .val (.int (((2 : Int32) + (2 : Int32)) + (0 : Int32))), .val (.int c1), .unset]) A0 d31_31 rfl ?_
  refine own_goto (q := 83) A0 d31_33 ?_
  refine own_aloadN (q := 84) A0 d31_83 rfl rfl ?_
  refine own_iloadN (q := 85) A0 d31_84 rfl ?_
  refine own_virtual (q := 88) (W := 0) (argsL := [(.int (0 : Int32))]) (rest := []) A0 (H.k 168 rfl) (H.k 169 rfl) (H.k 171 rfl) (H.k 170 rfl) (by decide) (own_payCh (cs1 := [c1, c2, (58 : Int32), (32 : Int32)]) (i := 0) (kI := 4) (own_wCh H.w) (H.k 5 rfl) A0.old Ex Vx Cx Kx (own_cod [c1, c2, (58 : Int32), (32 : Int32)] (n := 4) rfl (fun yy hy => ((show ∀ yy ∈ [c1, c2, (58 : Int32), (32 : Int32)], ¬ yy < 0 ∧ ¬ (255 : Int32) < yy from (own_fc ⟨hc10, hc11⟩ (own_fc ⟨hc20, hc21⟩ (own_fc (by decide) (own_fc (by decide) (fun _ z => nomatch z)))))) yy hy).2) rfl rfl) (own_b16 (own_fc ⟨hc10, hc11⟩ (own_fc ⟨hc20, hc21⟩ (own_fc (by decide) (own_fc (by decide) (fun _ z => nomatch z)))))) (Nat.le_of_ble_eq_true rfl) H.SC H.hz H.SF H.rf (Nat.le_of_ble_eq_true rfl) rfl (by decide) (by decide)) own_nW (Nat.le_of_eq rfl) Ex own_pd22 rfl rfl rfl d31_85 (by decide) (by decide) ?_
  rintro v1 T2 h3 A4 ⟨rfl, rfl⟩
  show own_Run p e below Q m T2 88 #[.val (.ref x), .val (.int (0 : Int32)), .val (.int (2 : Int32)), .val (.int c1), .val (.int c2), .val (.int (0 : Int32)), .val (.int d1), .val (.int d2), .val (.int (((2 : Int32) + (2 : Int32)) + (0 : Int32))), .val (.int c1), .unset] [(.int c1)]
  refine own_iload (q := 90) A4 d31_88 rfl ?_
  refine own_icmpF (q := 93) A4 d31_90 (show c1 = c1 from rfl) ?_
  refine own_iconst (q := 94) A4 (1 : Int32) d31_93 rfl ?_
  refine own_goto (q := 98) A4 d31_94 ?_
  exact own_retN A4 hQ (t := .boolean) (by simp) d31_98 ⟨rfl, rfl⟩
theorem rm_ok1_20 (x t : Addr) (kt : ClassId) (c1 c2 d1 d2 : Int32) (O0 : Old Z n0 h0) (H : own_H Z a0 zc fm) (Ex : Exa Z h0 x "java/lang/String") (Cx : Fld Z h0 x "java/lang/String" "coder" "B" (.int 0)) (Vx : Fld Z h0 x "java/lang/String" "value" "[B" (.ref t)) (Kx : Arv Z h0 t kt .byte 4 [(.int c1.toInt8.toInt32), (.int c2.toInt8.toInt32), (.int (58 : Int32)), (.int (32 : Int32))] (.int 0))  (hc10 : ¬ c1 < 0) (hc11 : ¬ (255 : Int32) < c1) (hnc1 : nar .char c1 = c1) (hc20 : ¬ c2 < 0) (hc21 : ¬ (255 : Int32) < c2) (hnc2 : nar .char c2 = c2) (hd10 : ¬ d1 < 0) (hd11 : ¬ (255 : Int32) < d1) (hnd1 : nar .char d1 = d1) (hd20 : ¬ d2 < 0) (hd21 : ¬ (255 : Int32) < d2) (hnd2 : nar .char d2 = d2):
  own_Met false l Z n0 [] [] ⟨"com/example/hifadhi/hifadhi/project/NotAnalysedMessagePinLaw", "ok", "(Ljava/lang/String;IICCICC)Z"⟩ method_4_code 11 (some .boolean) [] (own_R 4 0 0 53) #[(.ref x), (.int (1 : Int32)), (.int (2 : Int32)), (.int c1), (.int c2), (.int (0 : Int32)), (.int d1), (.int d2)] h0 (fun v h => v = some (.int 1) ∧ h0 = h) := by
  refine own_ent (a0 := a0) (nm := "ok") (Ls := #[.val (.ref x), .val (.int (1 : Int32)), .val (.int (2 : Int32)), .val (.int c1), .val (.int c2), .val (.int (0 : Int32)), .val (.int d1), .val (.int d2), .unset, .unset, .unset]) own_pn4 O0 EW.nil ?_
  intro p e _ m _ below _ _ T0 Q hQ A0
  refine own_iloadN (q := 1) A0 d31_0 rfl ?_
  refine own_iconst (q := 2) A0 (2 : Int32) d31_1 rfl ?_
  refine own_iadd (q := 3) A0 d31_2 ?_
  refine own_iload (q := 5) A0 d31_3 rfl ?_
  refine own_iadd (q := 6) A0 d31_5 ?_
  refine own_istore (q := 8) (L' := #[.val (.ref x), .val (.int (1 : Int32)), .val (.int (2 : Int32)), .val (.int c1), .val (.int c2), .val (.int (0 : Int32)), .val (.int d1), .val (.int d2), .val (.int (((2 : Int32) + (2 : Int32)) + (0 : Int32))), .unset, .unset]) A0 d31_6 rfl ?_
  refine own_iloadN (q := 9) A0 d31_8 rfl ?_
  refine own_iload (q := 11) A0 d31_9 rfl ?_
  refine own_icmpT (q := 16) A0 d31_11 (show (1 : Int32) < (((2 : Int32) + (2 : Int32)) + (0 : Int32)) from by decide) ?_
  refine own_iloadN (q := 17) A0 d31_16 rfl ?_
  refine own_iloadN (q := 18) A0 d31_17 rfl ?_
  refine own_icmpF (q := 21) A0 d31_18 (show (1 : Int32) < (2 : Int32) from by decide) ?_
  refine own_iloadN (q := 22) A0 d31_21 rfl ?_
  refine own_ifcT (q := 29) A0 d31_22 (show ¬ (1 : Int32) = (0 : Int32) from by decide) ?_
  refine own_iload (q := 31) A0 d31_29 rfl ?_
  refine own_istore (q := 33) (L' := #[.val (.ref x), .val (.int (1 : Int32)), .val (.int (2 : Int32)), .val (.int c1), .val (.int c2), .val (.int (0 : Int32)), .val (.int d1), .val (.int d2), .val (.int (((2 : Int32) + (2 : Int32)) + (0 : Int32))), .val (.int c2), .unset]) A0 d31_31 rfl ?_
  refine own_goto (q := 83) A0 d31_33 ?_
  refine own_aloadN (q := 84) A0 d31_83 rfl rfl ?_
  refine own_iloadN (q := 85) A0 d31_84 rfl ?_
  refine own_virtual (q := 88) (W := 0) (argsL := [(.int (1 : Int32))]) (rest := []) A0 (H.k 168 rfl) (H.k 169 rfl) (H.k 171 rfl) (H.k 170 rfl) (by decide) (own_payCh (cs1 := [c1, c2, (58 : Int32), (32 : Int32)]) (i := 1) (kI := 4) (own_wCh H.w) (H.k 5 rfl) A0.old Ex Vx Cx Kx (own_cod [c1, c2, (58 : Int32), (32 : Int32)] (n := 4) rfl (fun yy hy => ((show ∀ yy ∈ [c1, c2, (58 : Int32), (32 : Int32)], ¬ yy < 0 ∧ ¬ (255 : Int32) < yy from (own_fc ⟨hc10, hc11⟩ (own_fc ⟨hc20, hc21⟩ (own_fc (by decide) (own_fc (by decide) (fun _ z => nomatch z)))))) yy hy).2) rfl rfl) (own_b16 (own_fc ⟨hc10, hc11⟩ (own_fc ⟨hc20, hc21⟩ (own_fc (by decide) (own_fc (by decide) (fun _ z => nomatch z)))))) (Nat.le_of_ble_eq_true rfl) H.SC H.hz H.SF H.rf (Nat.le_of_ble_eq_true rfl) rfl (by decide) (by decide)) own_nW (Nat.le_of_eq rfl) Ex own_pd22 rfl rfl rfl d31_85 (by decide) (by decide) ?_
  rintro v1 T2 h3 A4 ⟨rfl, rfl⟩
  show own_Run p e below Q m T2 88 #[.val (.ref x), .val (.int (1 : Int32)), .val (.int (2 : Int32)), .val (.int c1), .val (.int c2), .val (.int (0 : Int32)), .val (.int d1), .val (.int d2), .val (.int (((2 : Int32) + (2 : Int32)) + (0 : Int32))), .val (.int c2), .unset] [(.int c2)]
  refine own_iload (q := 90) A4 d31_88 rfl ?_
  refine own_icmpF (q := 93) A4 d31_90 (show c2 = c2 from rfl) ?_
  refine own_iconst (q := 94) A4 (1 : Int32) d31_93 rfl ?_
  refine own_goto (q := 98) A4 d31_94 ?_
  exact own_retN A4 hQ (t := .boolean) (by simp) d31_98 ⟨rfl, rfl⟩
theorem rm_ok2_20 (x t : Addr) (kt : ClassId) (c1 c2 d1 d2 : Int32) (O0 : Old Z n0 h0) (H : own_H Z a0 zc fm) (Ex : Exa Z h0 x "java/lang/String") (Cx : Fld Z h0 x "java/lang/String" "coder" "B" (.int 0)) (Vx : Fld Z h0 x "java/lang/String" "value" "[B" (.ref t)) (Kx : Arv Z h0 t kt .byte 4 [(.int c1.toInt8.toInt32), (.int c2.toInt8.toInt32), (.int (58 : Int32)), (.int (32 : Int32))] (.int 0))  (hc10 : ¬ c1 < 0) (hc11 : ¬ (255 : Int32) < c1) (hnc1 : nar .char c1 = c1) (hc20 : ¬ c2 < 0) (hc21 : ¬ (255 : Int32) < c2) (hnc2 : nar .char c2 = c2) (hd10 : ¬ d1 < 0) (hd11 : ¬ (255 : Int32) < d1) (hnd1 : nar .char d1 = d1) (hd20 : ¬ d2 < 0) (hd21 : ¬ (255 : Int32) < d2) (hnd2 : nar .char d2 = d2):
  own_Met false l Z n0 [] [] ⟨"com/example/hifadhi/hifadhi/project/NotAnalysedMessagePinLaw", "ok", "(Ljava/lang/String;IICCICC)Z"⟩ method_4_code 11 (some .boolean) [] (own_R 4 0 0 53) #[(.ref x), (.int (2 : Int32)), (.int (2 : Int32)), (.int c1), (.int c2), (.int (0 : Int32)), (.int d1), (.int d2)] h0 (fun v h => v = some (.int 1) ∧ h0 = h) := by
  refine own_ent (a0 := a0) (nm := "ok") (Ls := #[.val (.ref x), .val (.int (2 : Int32)), .val (.int (2 : Int32)), .val (.int c1), .val (.int c2), .val (.int (0 : Int32)), .val (.int d1), .val (.int d2), .unset, .unset, .unset]) own_pn4 O0 EW.nil ?_
  intro p e _ m _ below _ _ T0 Q hQ A0
  refine own_iloadN (q := 1) A0 d31_0 rfl ?_
  refine own_iconst (q := 2) A0 (2 : Int32) d31_1 rfl ?_
  refine own_iadd (q := 3) A0 d31_2 ?_
  refine own_iload (q := 5) A0 d31_3 rfl ?_
  refine own_iadd (q := 6) A0 d31_5 ?_
  refine own_istore (q := 8) (L' := #[.val (.ref x), .val (.int (2 : Int32)), .val (.int (2 : Int32)), .val (.int c1), .val (.int c2), .val (.int (0 : Int32)), .val (.int d1), .val (.int d2), .val (.int (((2 : Int32) + (2 : Int32)) + (0 : Int32))), .unset, .unset]) A0 d31_6 rfl ?_
  refine own_iloadN (q := 9) A0 d31_8 rfl ?_
  refine own_iload (q := 11) A0 d31_9 rfl ?_
  refine own_icmpT (q := 16) A0 d31_11 (show (2 : Int32) < (((2 : Int32) + (2 : Int32)) + (0 : Int32)) from by decide) ?_
  refine own_iloadN (q := 17) A0 d31_16 rfl ?_
  refine own_iloadN (q := 18) A0 d31_17 rfl ?_
  refine own_icmpT (q := 36) A0 d31_18 (show ¬ (2 : Int32) < (2 : Int32) from by decide) ?_
  refine own_iloadN (q := 37) A0 d31_36 rfl ?_
  refine own_iloadN (q := 38) A0 d31_37 rfl ?_
  refine own_icmpF (q := 41) A0 d31_38 (show (2 : Int32) = (2 : Int32) from by decide) ?_
  refine own_bipush (q := 43) A0 (58 : Int32) d31_41 rfl ?_
  refine own_istore (q := 45) (L' := #[.val (.ref x), .val (.int (2 : Int32)), .val (.int (2 : Int32)), .val (.int c1), .val (.int c2), .val (.int (0 : Int32)), .val (.int d1), .val (.int d2), .val (.int (((2 : Int32) + (2 : Int32)) + (0 : Int32))), .val (.int (58 : Int32)), .unset]) A0 d31_43 rfl ?_
  refine own_goto (q := 83) A0 d31_45 ?_
  refine own_aloadN (q := 84) A0 d31_83 rfl rfl ?_
  refine own_iloadN (q := 85) A0 d31_84 rfl ?_
  refine own_virtual (q := 88) (W := 0) (argsL := [(.int (2 : Int32))]) (rest := []) A0 (H.k 168 rfl) (H.k 169 rfl) (H.k 171 rfl) (H.k 170 rfl) (by decide) (own_payCh (cs1 := [c1, c2, (58 : Int32), (32 : Int32)]) (i := 2) (kI := 4) (own_wCh H.w) (H.k 5 rfl) A0.old Ex Vx Cx Kx (own_cod [c1, c2, (58 : Int32), (32 : Int32)] (n := 4) rfl (fun yy hy => ((show ∀ yy ∈ [c1, c2, (58 : Int32), (32 : Int32)], ¬ yy < 0 ∧ ¬ (255 : Int32) < yy from (own_fc ⟨hc10, hc11⟩ (own_fc ⟨hc20, hc21⟩ (own_fc (by decide) (own_fc (by decide) (fun _ z => nomatch z)))))) yy hy).2) rfl rfl) (own_b16 (own_fc ⟨hc10, hc11⟩ (own_fc ⟨hc20, hc21⟩ (own_fc (by decide) (own_fc (by decide) (fun _ z => nomatch z)))))) (Nat.le_of_ble_eq_true rfl) H.SC H.hz H.SF H.rf (Nat.le_of_ble_eq_true rfl) rfl (by decide) (by decide)) own_nW (Nat.le_of_eq rfl) Ex own_pd22 rfl rfl rfl d31_85 (by decide) (by decide) ?_
  rintro v1 T2 h3 A4 ⟨rfl, rfl⟩
  show own_Run p e below Q m T2 88 #[.val (.ref x), .val (.int (2 : Int32)), .val (.int (2 : Int32)), .val (.int c1), .val (.int c2), .val (.int (0 : Int32)), .val (.int d1), .val (.int d2), .val (.int (((2 : Int32) + (2 : Int32)) + (0 : Int32))), .val (.int (58 : Int32)), .unset] [(.int (58 : Int32))]
  refine own_iload (q := 90) A4 d31_88 rfl ?_
  refine own_icmpF (q := 93) A4 d31_90 (show (58 : Int32) = (58 : Int32) from rfl) ?_
  refine own_iconst (q := 94) A4 (1 : Int32) d31_93 rfl ?_
  refine own_goto (q := 98) A4 d31_94 ?_
  exact own_retN A4 hQ (t := .boolean) (by simp) d31_98 ⟨rfl, rfl⟩
theorem rm_ok3_20 (x t : Addr) (kt : ClassId) (c1 c2 d1 d2 : Int32) (O0 : Old Z n0 h0) (H : own_H Z a0 zc fm) (Ex : Exa Z h0 x "java/lang/String") (Cx : Fld Z h0 x "java/lang/String" "coder" "B" (.int 0)) (Vx : Fld Z h0 x "java/lang/String" "value" "[B" (.ref t)) (Kx : Arv Z h0 t kt .byte 4 [(.int c1.toInt8.toInt32), (.int c2.toInt8.toInt32), (.int (58 : Int32)), (.int (32 : Int32))] (.int 0))  (hc10 : ¬ c1 < 0) (hc11 : ¬ (255 : Int32) < c1) (hnc1 : nar .char c1 = c1) (hc20 : ¬ c2 < 0) (hc21 : ¬ (255 : Int32) < c2) (hnc2 : nar .char c2 = c2) (hd10 : ¬ d1 < 0) (hd11 : ¬ (255 : Int32) < d1) (hnd1 : nar .char d1 = d1) (hd20 : ¬ d2 < 0) (hd21 : ¬ (255 : Int32) < d2) (hnd2 : nar .char d2 = d2):
  own_Met false l Z n0 [] [] ⟨"com/example/hifadhi/hifadhi/project/NotAnalysedMessagePinLaw", "ok", "(Ljava/lang/String;IICCICC)Z"⟩ method_4_code 11 (some .boolean) [] (own_R 4 0 0 53) #[(.ref x), (.int (3 : Int32)), (.int (2 : Int32)), (.int c1), (.int c2), (.int (0 : Int32)), (.int d1), (.int d2)] h0 (fun v h => v = some (.int 1) ∧ h0 = h) := by
  refine own_ent (a0 := a0) (nm := "ok") (Ls := #[.val (.ref x), .val (.int (3 : Int32)), .val (.int (2 : Int32)), .val (.int c1), .val (.int c2), .val (.int (0 : Int32)), .val (.int d1), .val (.int d2), .unset, .unset, .unset]) own_pn4 O0 EW.nil ?_
  intro p e _ m _ below _ _ T0 Q hQ A0
  refine own_iloadN (q := 1) A0 d31_0 rfl ?_
  refine own_iconst (q := 2) A0 (2 : Int32) d31_1 rfl ?_
  refine own_iadd (q := 3) A0 d31_2 ?_
  refine own_iload (q := 5) A0 d31_3 rfl ?_
  refine own_iadd (q := 6) A0 d31_5 ?_
  refine own_istore (q := 8) (L' := #[.val (.ref x), .val (.int (3 : Int32)), .val (.int (2 : Int32)), .val (.int c1), .val (.int c2), .val (.int (0 : Int32)), .val (.int d1), .val (.int d2), .val (.int (((2 : Int32) + (2 : Int32)) + (0 : Int32))), .unset, .unset]) A0 d31_6 rfl ?_
  refine own_iloadN (q := 9) A0 d31_8 rfl ?_
  refine own_iload (q := 11) A0 d31_9 rfl ?_
  refine own_icmpT (q := 16) A0 d31_11 (show (3 : Int32) < (((2 : Int32) + (2 : Int32)) + (0 : Int32)) from by decide) ?_
  refine own_iloadN (q := 17) A0 d31_16 rfl ?_
  refine own_iloadN (q := 18) A0 d31_17 rfl ?_
  refine own_icmpT (q := 36) A0 d31_18 (show ¬ (3 : Int32) < (2 : Int32) from by decide) ?_
  refine own_iloadN (q := 37) A0 d31_36 rfl ?_
  refine own_iloadN (q := 38) A0 d31_37 rfl ?_
  refine own_icmpT (q := 48) A0 d31_38 (show ¬ (3 : Int32) = (2 : Int32) from by decide) ?_
  refine own_iloadN (q := 49) A0 d31_48 rfl ?_
  refine own_iloadN (q := 50) A0 d31_49 rfl ?_
  refine own_iconst (q := 51) A0 (1 : Int32) d31_50 rfl ?_
  refine own_iadd (q := 52) A0 d31_51 ?_
  refine own_icmpF (q := 55) A0 d31_52 (show (3 : Int32) = ((2 : Int32) + (1 : Int32)) from by decide) ?_
  refine own_bipush (q := 57) A0 (32 : Int32) d31_55 rfl ?_
  refine own_istore (q := 59) (L' := #[.val (.ref x), .val (.int (3 : Int32)), .val (.int (2 : Int32)), .val (.int c1), .val (.int c2), .val (.int (0 : Int32)), .val (.int d1), .val (.int d2), .val (.int (((2 : Int32) + (2 : Int32)) + (0 : Int32))), .val (.int (32 : Int32)), .unset]) A0 d31_57 rfl ?_
  refine own_goto (q := 83) A0 d31_59 ?_
  refine own_aloadN (q := 84) A0 d31_83 rfl rfl ?_
  refine own_iloadN (q := 85) A0 d31_84 rfl ?_
  refine own_virtual (q := 88) (W := 0) (argsL := [(.int (3 : Int32))]) (rest := []) A0 (H.k 168 rfl) (H.k 169 rfl) (H.k 171 rfl) (H.k 170 rfl) (by decide) (own_payCh (cs1 := [c1, c2, (58 : Int32), (32 : Int32)]) (i := 3) (kI := 4) (own_wCh H.w) (H.k 5 rfl) A0.old Ex Vx Cx Kx (own_cod [c1, c2, (58 : Int32), (32 : Int32)] (n := 4) rfl (fun yy hy => ((show ∀ yy ∈ [c1, c2, (58 : Int32), (32 : Int32)], ¬ yy < 0 ∧ ¬ (255 : Int32) < yy from (own_fc ⟨hc10, hc11⟩ (own_fc ⟨hc20, hc21⟩ (own_fc (by decide) (own_fc (by decide) (fun _ z => nomatch z)))))) yy hy).2) rfl rfl) (own_b16 (own_fc ⟨hc10, hc11⟩ (own_fc ⟨hc20, hc21⟩ (own_fc (by decide) (own_fc (by decide) (fun _ z => nomatch z)))))) (Nat.le_of_ble_eq_true rfl) H.SC H.hz H.SF H.rf (Nat.le_of_ble_eq_true rfl) rfl (by decide) (by decide)) own_nW (Nat.le_of_eq rfl) Ex own_pd22 rfl rfl rfl d31_85 (by decide) (by decide) ?_
  rintro v1 T2 h3 A4 ⟨rfl, rfl⟩
  show own_Run p e below Q m T2 88 #[.val (.ref x), .val (.int (3 : Int32)), .val (.int (2 : Int32)), .val (.int c1), .val (.int c2), .val (.int (0 : Int32)), .val (.int d1), .val (.int d2), .val (.int (((2 : Int32) + (2 : Int32)) + (0 : Int32))), .val (.int (32 : Int32)), .unset] [(.int (32 : Int32))]
  refine own_iload (q := 90) A4 d31_88 rfl ?_
  refine own_icmpF (q := 93) A4 d31_90 (show (32 : Int32) = (32 : Int32) from rfl) ?_
  refine own_iconst (q := 94) A4 (1 : Int32) d31_93 rfl ?_
  refine own_goto (q := 98) A4 d31_94 ?_
  exact own_retN A4 hQ (t := .boolean) (by simp) d31_98 ⟨rfl, rfl⟩
theorem rm_ok4_20 (x t : Addr) (kt : ClassId) (c1 c2 d1 d2 : Int32) (O0 : Old Z n0 h0) (H : own_H Z a0 zc fm) (Ex : Exa Z h0 x "java/lang/String") (Cx : Fld Z h0 x "java/lang/String" "coder" "B" (.int 0)) (Vx : Fld Z h0 x "java/lang/String" "value" "[B" (.ref t)) (Kx : Arv Z h0 t kt .byte 4 [(.int c1.toInt8.toInt32), (.int c2.toInt8.toInt32), (.int (58 : Int32)), (.int (32 : Int32))] (.int 0))  (hc10 : ¬ c1 < 0) (hc11 : ¬ (255 : Int32) < c1) (hnc1 : nar .char c1 = c1) (hc20 : ¬ c2 < 0) (hc21 : ¬ (255 : Int32) < c2) (hnc2 : nar .char c2 = c2) (hd10 : ¬ d1 < 0) (hd11 : ¬ (255 : Int32) < d1) (hnd1 : nar .char d1 = d1) (hd20 : ¬ d2 < 0) (hd21 : ¬ (255 : Int32) < d2) (hnd2 : nar .char d2 = d2):
  own_Met false l Z n0 [] [] ⟨"com/example/hifadhi/hifadhi/project/NotAnalysedMessagePinLaw", "ok", "(Ljava/lang/String;IICCICC)Z"⟩ method_4_code 11 (some .boolean) [] (own_R 4 0 0 53) #[(.ref x), (.int (4 : Int32)), (.int (2 : Int32)), (.int c1), (.int c2), (.int (0 : Int32)), (.int d1), (.int d2)] h0 (fun v h => v = some (.int 1) ∧ h0 = h) := by
  refine own_ent (a0 := a0) (nm := "ok") (Ls := #[.val (.ref x), .val (.int (4 : Int32)), .val (.int (2 : Int32)), .val (.int c1), .val (.int c2), .val (.int (0 : Int32)), .val (.int d1), .val (.int d2), .unset, .unset, .unset]) own_pn4 O0 EW.nil ?_
  intro p e _ m _ below _ _ T0 Q hQ A0
  refine own_iloadN (q := 1) A0 d31_0 rfl ?_
  refine own_iconst (q := 2) A0 (2 : Int32) d31_1 rfl ?_
  refine own_iadd (q := 3) A0 d31_2 ?_
  refine own_iload (q := 5) A0 d31_3 rfl ?_
  refine own_iadd (q := 6) A0 d31_5 ?_
  refine own_istore (q := 8) (L' := #[.val (.ref x), .val (.int (4 : Int32)), .val (.int (2 : Int32)), .val (.int c1), .val (.int c2), .val (.int (0 : Int32)), .val (.int d1), .val (.int d2), .val (.int (((2 : Int32) + (2 : Int32)) + (0 : Int32))), .unset, .unset]) A0 d31_6 rfl ?_
  refine own_iloadN (q := 9) A0 d31_8 rfl ?_
  refine own_iload (q := 11) A0 d31_9 rfl ?_
  refine own_icmpF (q := 14) A0 d31_11 (show ¬ (4 : Int32) < (((2 : Int32) + (2 : Int32)) + (0 : Int32)) from by decide) ?_
  refine own_iconst (q := 15) A0 (1 : Int32) d31_14 rfl ?_
  exact own_retN A0 hQ (t := .boolean) (by simp) d31_15 ⟨rfl, rfl⟩
theorem rm_ok5_20 (x t : Addr) (kt : ClassId) (c1 c2 d1 d2 : Int32) (O0 : Old Z n0 h0) (H : own_H Z a0 zc fm) (Ex : Exa Z h0 x "java/lang/String") (Cx : Fld Z h0 x "java/lang/String" "coder" "B" (.int 0)) (Vx : Fld Z h0 x "java/lang/String" "value" "[B" (.ref t)) (Kx : Arv Z h0 t kt .byte 4 [(.int c1.toInt8.toInt32), (.int c2.toInt8.toInt32), (.int (58 : Int32)), (.int (32 : Int32))] (.int 0))  (hc10 : ¬ c1 < 0) (hc11 : ¬ (255 : Int32) < c1) (hnc1 : nar .char c1 = c1) (hc20 : ¬ c2 < 0) (hc21 : ¬ (255 : Int32) < c2) (hnc2 : nar .char c2 = c2) (hd10 : ¬ d1 < 0) (hd11 : ¬ (255 : Int32) < d1) (hnd1 : nar .char d1 = d1) (hd20 : ¬ d2 < 0) (hd21 : ¬ (255 : Int32) < d2) (hnd2 : nar .char d2 = d2):
  own_Met false l Z n0 [] [] ⟨"com/example/hifadhi/hifadhi/project/NotAnalysedMessagePinLaw", "ok", "(Ljava/lang/String;IICCICC)Z"⟩ method_4_code 11 (some .boolean) [] (own_R 4 0 0 53) #[(.ref x), (.int (5 : Int32)), (.int (2 : Int32)), (.int c1), (.int c2), (.int (0 : Int32)), (.int d1), (.int d2)] h0 (fun v h => v = some (.int 1) ∧ h0 = h) := by
  refine own_ent (a0 := a0) (nm := "ok") (Ls := #[.val (.ref x), .val (.int (5 : Int32)), .val (.int (2 : Int32)), .val (.int c1), .val (.int c2), .val (.int (0 : Int32)), .val (.int d1), .val (.int d2), .unset, .unset, .unset]) own_pn4 O0 EW.nil ?_
  intro p e _ m _ below _ _ T0 Q hQ A0
  refine own_iloadN (q := 1) A0 d31_0 rfl ?_
  refine own_iconst (q := 2) A0 (2 : Int32) d31_1 rfl ?_
  refine own_iadd (q := 3) A0 d31_2 ?_
  refine own_iload (q := 5) A0 d31_3 rfl ?_
  refine own_iadd (q := 6) A0 d31_5 ?_
  refine own_istore (q := 8) (L' := #[.val (.ref x), .val (.int (5 : Int32)), .val (.int (2 : Int32)), .val (.int c1), .val (.int c2), .val (.int (0 : Int32)), .val (.int d1), .val (.int d2), .val (.int (((2 : Int32) + (2 : Int32)) + (0 : Int32))), .unset, .unset]) A0 d31_6 rfl ?_
  refine own_iloadN (q := 9) A0 d31_8 rfl ?_
  refine own_iload (q := 11) A0 d31_9 rfl ?_
  refine own_icmpF (q := 14) A0 d31_11 (show ¬ (5 : Int32) < (((2 : Int32) + (2 : Int32)) + (0 : Int32)) from by decide) ?_
  refine own_iconst (q := 15) A0 (1 : Int32) d31_14 rfl ?_
  exact own_retN A0 hQ (t := .boolean) (by simp) d31_15 ⟨rfl, rfl⟩
theorem rm_ok0_21 (x t : Addr) (kt : ClassId) (c1 c2 d1 d2 : Int32) (O0 : Old Z n0 h0) (H : own_H Z a0 zc fm) (Ex : Exa Z h0 x "java/lang/String") (Cx : Fld Z h0 x "java/lang/String" "coder" "B" (.int 0)) (Vx : Fld Z h0 x "java/lang/String" "value" "[B" (.ref t)) (Kx : Arv Z h0 t kt .byte 5 [(.int c1.toInt8.toInt32), (.int c2.toInt8.toInt32), (.int (58 : Int32)), (.int (32 : Int32)), (.int d1.toInt8.toInt32)] (.int 0))  (hc10 : ¬ c1 < 0) (hc11 : ¬ (255 : Int32) < c1) (hnc1 : nar .char c1 = c1) (hc20 : ¬ c2 < 0) (hc21 : ¬ (255 : Int32) < c2) (hnc2 : nar .char c2 = c2) (hd10 : ¬ d1 < 0) (hd11 : ¬ (255 : Int32) < d1) (hnd1 : nar .char d1 = d1) (hd20 : ¬ d2 < 0) (hd21 : ¬ (255 : Int32) < d2) (hnd2 : nar .char d2 = d2):
  own_Met false l Z n0 [] [] ⟨"com/example/hifadhi/hifadhi/project/NotAnalysedMessagePinLaw", "ok", "(Ljava/lang/String;IICCICC)Z"⟩ method_4_code 11 (some .boolean) [] (own_R 4 0 0 53) #[(.ref x), (.int (0 : Int32)), (.int (2 : Int32)), (.int c1), (.int c2), (.int (1 : Int32)), (.int d1), (.int d2)] h0 (fun v h => v = some (.int 1) ∧ h0 = h) := by
  refine own_ent (a0 := a0) (nm := "ok") (Ls := #[.val (.ref x), .val (.int (0 : Int32)), .val (.int (2 : Int32)), .val (.int c1), .val (.int c2), .val (.int (1 : Int32)), .val (.int d1), .val (.int d2), .unset, .unset, .unset]) own_pn4 O0 EW.nil ?_
  intro p e _ m _ below _ _ T0 Q hQ A0
  refine own_iloadN (q := 1) A0 d31_0 rfl ?_
  refine own_iconst (q := 2) A0 (2 : Int32) d31_1 rfl ?_
  refine own_iadd (q := 3) A0 d31_2 ?_
  refine own_iload (q := 5) A0 d31_3 rfl ?_
  refine own_iadd (q := 6) A0 d31_5 ?_
  refine own_istore (q := 8) (L' := #[.val (.ref x), .val (.int (0 : Int32)), .val (.int (2 : Int32)), .val (.int c1), .val (.int c2), .val (.int (1 : Int32)), .val (.int d1), .val (.int d2), .val (.int (((2 : Int32) + (2 : Int32)) + (1 : Int32))), .unset, .unset]) A0 d31_6 rfl ?_
  refine own_iloadN (q := 9) A0 d31_8 rfl ?_
  refine own_iload (q := 11) A0 d31_9 rfl ?_
  refine own_icmpT (q := 16) A0 d31_11 (show (0 : Int32) < (((2 : Int32) + (2 : Int32)) + (1 : Int32)) from by decide) ?_
  refine own_iloadN (q := 17) A0 d31_16 rfl ?_
  refine own_iloadN (q := 18) A0 d31_17 rfl ?_
  refine own_icmpF (q := 21) A0 d31_18 (show (0 : Int32) < (2 : Int32) from by decide) ?_
  refine own_iloadN (q := 22) A0 d31_21 rfl ?_
  refine own_ifcF (q := 25) A0 d31_22 (show (0 : Int32) = (0 : Int32) from by decide) ?_
  refine own_iloadN (q := 26) A0 d31_25 rfl ?_
  refine own_goto (q := 31) A0 d31_26 ?_
  refine own_istore (q := 33) (L' := #[.val (.ref x), .val (.int (0 : Int32)), .val (.int (2 : Int32)), .val (.int c1), .val (.int c2), .val (.int (1 : Int32)), .val (.int d1), .val (.int d2), .val (.int (((2 : Int32) + (2 : Int32)) + (1 : Int32))), .val (.int c1), .unset]) A0 d31_31 rfl ?_
  refine own_goto (q := 83) A0 d31_33 ?_
  refine own_aloadN (q := 84) A0 d31_83 rfl rfl ?_
  refine own_iloadN (q := 85) A0 d31_84 rfl ?_
  refine own_virtual (q := 88) (W := 0) (argsL := [(.int (0 : Int32))]) (rest := []) A0 (H.k 168 rfl) (H.k 169 rfl) (H.k 171 rfl) (H.k 170 rfl) (by decide) (own_payCh (cs1 := [c1, c2, (58 : Int32), (32 : Int32), d1]) (i := 0) (kI := 4) (own_wCh H.w) (H.k 5 rfl) A0.old Ex Vx Cx Kx (own_cod [c1, c2, (58 : Int32), (32 : Int32), d1] (n := 5) rfl (fun yy hy => ((show ∀ yy ∈ [c1, c2, (58 : Int32), (32 : Int32), d1], ¬ yy < 0 ∧ ¬ (255 : Int32) < yy from (own_fc ⟨hc10, hc11⟩ (own_fc ⟨hc20, hc21⟩ (own_fc (by decide) (own_fc (by decide) (own_fc ⟨hd10, hd11⟩ (fun _ z => nomatch z))))))) yy hy).2) rfl rfl) (own_b16 (own_fc ⟨hc10, hc11⟩ (own_fc ⟨hc20, hc21⟩ (own_fc (by decide) (own_fc (by decide) (own_fc ⟨hd10, hd11⟩ (fun _ z => nomatch z))))))) (Nat.le_of_ble_eq_true rfl) H.SC H.hz H.SF H.rf (Nat.le_of_ble_eq_true rfl) rfl (by decide) (by decide)) own_nW (Nat.le_of_eq rfl) Ex own_pd22 rfl rfl rfl d31_85 (by decide) (by decide) ?_
  rintro v1 T2 h3 A4 ⟨rfl, rfl⟩
  show own_Run p e below Q m T2 88 #[.val (.ref x), .val (.int (0 : Int32)), .val (.int (2 : Int32)), .val (.int c1), .val (.int c2), .val (.int (1 : Int32)), .val (.int d1), .val (.int d2), .val (.int (((2 : Int32) + (2 : Int32)) + (1 : Int32))), .val (.int c1), .unset] [(.int c1)]
  refine own_iload (q := 90) A4 d31_88 rfl ?_
  refine own_icmpF (q := 93) A4 d31_90 (show c1 = c1 from rfl) ?_
  refine own_iconst (q := 94) A4 (1 : Int32) d31_93 rfl ?_
  refine own_goto (q := 98) A4 d31_94 ?_
  exact own_retN A4 hQ (t := .boolean) (by simp) d31_98 ⟨rfl, rfl⟩
theorem rm_ok1_21 (x t : Addr) (kt : ClassId) (c1 c2 d1 d2 : Int32) (O0 : Old Z n0 h0) (H : own_H Z a0 zc fm) (Ex : Exa Z h0 x "java/lang/String") (Cx : Fld Z h0 x "java/lang/String" "coder" "B" (.int 0)) (Vx : Fld Z h0 x "java/lang/String" "value" "[B" (.ref t)) (Kx : Arv Z h0 t kt .byte 5 [(.int c1.toInt8.toInt32), (.int c2.toInt8.toInt32), (.int (58 : Int32)), (.int (32 : Int32)), (.int d1.toInt8.toInt32)] (.int 0))  (hc10 : ¬ c1 < 0) (hc11 : ¬ (255 : Int32) < c1) (hnc1 : nar .char c1 = c1) (hc20 : ¬ c2 < 0) (hc21 : ¬ (255 : Int32) < c2) (hnc2 : nar .char c2 = c2) (hd10 : ¬ d1 < 0) (hd11 : ¬ (255 : Int32) < d1) (hnd1 : nar .char d1 = d1) (hd20 : ¬ d2 < 0) (hd21 : ¬ (255 : Int32) < d2) (hnd2 : nar .char d2 = d2):
  own_Met false l Z n0 [] [] ⟨"com/example/hifadhi/hifadhi/project/NotAnalysedMessagePinLaw", "ok", "(Ljava/lang/String;IICCICC)Z"⟩ method_4_code 11 (some .boolean) [] (own_R 4 0 0 53) #[(.ref x), (.int (1 : Int32)), (.int (2 : Int32)), (.int c1), (.int c2), (.int (1 : Int32)), (.int d1), (.int d2)] h0 (fun v h => v = some (.int 1) ∧ h0 = h) := by
  refine own_ent (a0 := a0) (nm := "ok") (Ls := #[.val (.ref x), .val (.int (1 : Int32)), .val (.int (2 : Int32)), .val (.int c1), .val (.int c2), .val (.int (1 : Int32)), .val (.int d1), .val (.int d2), .unset, .unset, .unset]) own_pn4 O0 EW.nil ?_
  intro p e _ m _ below _ _ T0 Q hQ A0
  refine own_iloadN (q := 1) A0 d31_0 rfl ?_
  refine own_iconst (q := 2) A0 (2 : Int32) d31_1 rfl ?_
  refine own_iadd (q := 3) A0 d31_2 ?_
  refine own_iload (q := 5) A0 d31_3 rfl ?_
  refine own_iadd (q := 6) A0 d31_5 ?_
  refine own_istore (q := 8) (L' := #[.val (.ref x), .val (.int (1 : Int32)), .val (.int (2 : Int32)), .val (.int c1), .val (.int c2), .val (.int (1 : Int32)), .val (.int d1), .val (.int d2), .val (.int (((2 : Int32) + (2 : Int32)) + (1 : Int32))), .unset, .unset]) A0 d31_6 rfl ?_
  refine own_iloadN (q := 9) A0 d31_8 rfl ?_
  refine own_iload (q := 11) A0 d31_9 rfl ?_
  refine own_icmpT (q := 16) A0 d31_11 (show (1 : Int32) < (((2 : Int32) + (2 : Int32)) + (1 : Int32)) from by decide) ?_
  refine own_iloadN (q := 17) A0 d31_16 rfl ?_
  refine own_iloadN (q := 18) A0 d31_17 rfl ?_
  refine own_icmpF (q := 21) A0 d31_18 (show (1 : Int32) < (2 : Int32) from by decide) ?_
  refine own_iloadN (q := 22) A0 d31_21 rfl ?_
  refine own_ifcT (q := 29) A0 d31_22 (show ¬ (1 : Int32) = (0 : Int32) from by decide) ?_
  refine own_iload (q := 31) A0 d31_29 rfl ?_
  refine own_istore (q := 33) (L' := #[.val (.ref x), .val (.int (1 : Int32)), .val (.int (2 : Int32)), .val (.int c1), .val (.int c2), .val (.int (1 : Int32)), .val (.int d1), .val (.int d2), .val (.int (((2 : Int32) + (2 : Int32)) + (1 : Int32))), .val (.int c2), .unset]) A0 d31_31 rfl ?_
  refine own_goto (q := 83) A0 d31_33 ?_
  refine own_aloadN (q := 84) A0 d31_83 rfl rfl ?_
  refine own_iloadN (q := 85) A0 d31_84 rfl ?_
  refine own_virtual (q := 88) (W := 0) (argsL := [(.int (1 : Int32))]) (rest := []) A0 (H.k 168 rfl) (H.k 169 rfl) (H.k 171 rfl) (H.k 170 rfl) (by decide) (own_payCh (cs1 := [c1, c2, (58 : Int32), (32 : Int32), d1]) (i := 1) (kI := 4) (own_wCh H.w) (H.k 5 rfl) A0.old Ex Vx Cx Kx (own_cod [c1, c2, (58 : Int32), (32 : Int32), d1] (n := 5) rfl (fun yy hy => ((show ∀ yy ∈ [c1, c2, (58 : Int32), (32 : Int32), d1], ¬ yy < 0 ∧ ¬ (255 : Int32) < yy from (own_fc ⟨hc10, hc11⟩ (own_fc ⟨hc20, hc21⟩ (own_fc (by decide) (own_fc (by decide) (own_fc ⟨hd10, hd11⟩ (fun _ z => nomatch z))))))) yy hy).2) rfl rfl) (own_b16 (own_fc ⟨hc10, hc11⟩ (own_fc ⟨hc20, hc21⟩ (own_fc (by decide) (own_fc (by decide) (own_fc ⟨hd10, hd11⟩ (fun _ z => nomatch z))))))) (Nat.le_of_ble_eq_true rfl) H.SC H.hz H.SF H.rf (Nat.le_of_ble_eq_true rfl) rfl (by decide) (by decide)) own_nW (Nat.le_of_eq rfl) Ex own_pd22 rfl rfl rfl d31_85 (by decide) (by decide) ?_
  rintro v1 T2 h3 A4 ⟨rfl, rfl⟩
  show own_Run p e below Q m T2 88 #[.val (.ref x), .val (.int (1 : Int32)), .val (.int (2 : Int32)), .val (.int c1), .val (.int c2), .val (.int (1 : Int32)), .val (.int d1), .val (.int d2), .val (.int (((2 : Int32) + (2 : Int32)) + (1 : Int32))), .val (.int c2), .unset] [(.int c2)]
  refine own_iload (q := 90) A4 d31_88 rfl ?_
  refine own_icmpF (q := 93) A4 d31_90 (show c2 = c2 from rfl) ?_
  refine own_iconst (q := 94) A4 (1 : Int32) d31_93 rfl ?_
  refine own_goto (q := 98) A4 d31_94 ?_
  exact own_retN A4 hQ (t := .boolean) (by simp) d31_98 ⟨rfl, rfl⟩
theorem rm_ok2_21 (x t : Addr) (kt : ClassId) (c1 c2 d1 d2 : Int32) (O0 : Old Z n0 h0) (H : own_H Z a0 zc fm) (Ex : Exa Z h0 x "java/lang/String") (Cx : Fld Z h0 x "java/lang/String" "coder" "B" (.int 0)) (Vx : Fld Z h0 x "java/lang/String" "value" "[B" (.ref t)) (Kx : Arv Z h0 t kt .byte 5 [(.int c1.toInt8.toInt32), (.int c2.toInt8.toInt32), (.int (58 : Int32)), (.int (32 : Int32)), (.int d1.toInt8.toInt32)] (.int 0))  (hc10 : ¬ c1 < 0) (hc11 : ¬ (255 : Int32) < c1) (hnc1 : nar .char c1 = c1) (hc20 : ¬ c2 < 0) (hc21 : ¬ (255 : Int32) < c2) (hnc2 : nar .char c2 = c2) (hd10 : ¬ d1 < 0) (hd11 : ¬ (255 : Int32) < d1) (hnd1 : nar .char d1 = d1) (hd20 : ¬ d2 < 0) (hd21 : ¬ (255 : Int32) < d2) (hnd2 : nar .char d2 = d2):
  own_Met false l Z n0 [] [] ⟨"com/example/hifadhi/hifadhi/project/NotAnalysedMessagePinLaw", "ok", "(Ljava/lang/String;IICCICC)Z"⟩ method_4_code 11 (some .boolean) [] (own_R 4 0 0 53) #[(.ref x), (.int (2 : Int32)), (.int (2 : Int32)), (.int c1), (.int c2), (.int (1 : Int32)), (.int d1), (.int d2)] h0 (fun v h => v = some (.int 1) ∧ h0 = h) := by
  refine own_ent (a0 := a0) (nm := "ok") (Ls := #[.val (.ref x), .val (.int (2 : Int32)), .val (.int (2 : Int32)), .val (.int c1), .val (.int c2), .val (.int (1 : Int32)), .val (.int d1), .val (.int d2), .unset, .unset, .unset]) own_pn4 O0 EW.nil ?_
  intro p e _ m _ below _ _ T0 Q hQ A0
  refine own_iloadN (q := 1) A0 d31_0 rfl ?_
  refine own_iconst (q := 2) A0 (2 : Int32) d31_1 rfl ?_
  refine own_iadd (q := 3) A0 d31_2 ?_
  refine own_iload (q := 5) A0 d31_3 rfl ?_
  refine own_iadd (q := 6) A0 d31_5 ?_
  refine own_istore (q := 8) (L' := #[.val (.ref x), .val (.int (2 : Int32)), .val (.int (2 : Int32)), .val (.int c1), .val (.int c2), .val (.int (1 : Int32)), .val (.int d1), .val (.int d2), .val (.int (((2 : Int32) + (2 : Int32)) + (1 : Int32))), .unset, .unset]) A0 d31_6 rfl ?_
  refine own_iloadN (q := 9) A0 d31_8 rfl ?_
  refine own_iload (q := 11) A0 d31_9 rfl ?_
  refine own_icmpT (q := 16) A0 d31_11 (show (2 : Int32) < (((2 : Int32) + (2 : Int32)) + (1 : Int32)) from by decide) ?_
  refine own_iloadN (q := 17) A0 d31_16 rfl ?_
  refine own_iloadN (q := 18) A0 d31_17 rfl ?_
  refine own_icmpT (q := 36) A0 d31_18 (show ¬ (2 : Int32) < (2 : Int32) from by decide) ?_
  refine own_iloadN (q := 37) A0 d31_36 rfl ?_
  refine own_iloadN (q := 38) A0 d31_37 rfl ?_
  refine own_icmpF (q := 41) A0 d31_38 (show (2 : Int32) = (2 : Int32) from by decide) ?_
  refine own_bipush (q := 43) A0 (58 : Int32) d31_41 rfl ?_
  refine own_istore (q := 45) (L' := #[.val (.ref x), .val (.int (2 : Int32)), .val (.int (2 : Int32)), .val (.int c1), .val (.int c2), .val (.int (1 : Int32)), .val (.int d1), .val (.int d2), .val (.int (((2 : Int32) + (2 : Int32)) + (1 : Int32))), .val (.int (58 : Int32)), .unset]) A0 d31_43 rfl ?_
  refine own_goto (q := 83) A0 d31_45 ?_
  refine own_aloadN (q := 84) A0 d31_83 rfl rfl ?_
  refine own_iloadN (q := 85) A0 d31_84 rfl ?_
  refine own_virtual (q := 88) (W := 0) (argsL := [(.int (2 : Int32))]) (rest := []) A0 (H.k 168 rfl) (H.k 169 rfl) (H.k 171 rfl) (H.k 170 rfl) (by decide) (own_payCh (cs1 := [c1, c2, (58 : Int32), (32 : Int32), d1]) (i := 2) (kI := 4) (own_wCh H.w) (H.k 5 rfl) A0.old Ex Vx Cx Kx (own_cod [c1, c2, (58 : Int32), (32 : Int32), d1] (n := 5) rfl (fun yy hy => ((show ∀ yy ∈ [c1, c2, (58 : Int32), (32 : Int32), d1], ¬ yy < 0 ∧ ¬ (255 : Int32) < yy from (own_fc ⟨hc10, hc11⟩ (own_fc ⟨hc20, hc21⟩ (own_fc (by decide) (own_fc (by decide) (own_fc ⟨hd10, hd11⟩ (fun _ z => nomatch z))))))) yy hy).2) rfl rfl) (own_b16 (own_fc ⟨hc10, hc11⟩ (own_fc ⟨hc20, hc21⟩ (own_fc (by decide) (own_fc (by decide) (own_fc ⟨hd10, hd11⟩ (fun _ z => nomatch z))))))) (Nat.le_of_ble_eq_true rfl) H.SC H.hz H.SF H.rf (Nat.le_of_ble_eq_true rfl) rfl (by decide) (by decide)) own_nW (Nat.le_of_eq rfl) Ex own_pd22 rfl rfl rfl d31_85 (by decide) (by decide) ?_
  rintro v1 T2 h3 A4 ⟨rfl, rfl⟩
  show own_Run p e below Q m T2 88 #[.val (.ref x), .val (.int (2 : Int32)), .val (.int (2 : Int32)), .val (.int c1), .val (.int c2), .val (.int (1 : Int32)), .val (.int d1), .val (.int d2), .val (.int (((2 : Int32) + (2 : Int32)) + (1 : Int32))), .val (.int (58 : Int32)), .unset] [(.int (58 : Int32))]
  refine own_iload (q := 90) A4 d31_88 rfl ?_
  refine own_icmpF (q := 93) A4 d31_90 (show (58 : Int32) = (58 : Int32) from rfl) ?_
  refine own_iconst (q := 94) A4 (1 : Int32) d31_93 rfl ?_
  refine own_goto (q := 98) A4 d31_94 ?_
  exact own_retN A4 hQ (t := .boolean) (by simp) d31_98 ⟨rfl, rfl⟩
theorem rm_ok3_21 (x t : Addr) (kt : ClassId) (c1 c2 d1 d2 : Int32) (O0 : Old Z n0 h0) (H : own_H Z a0 zc fm) (Ex : Exa Z h0 x "java/lang/String") (Cx : Fld Z h0 x "java/lang/String" "coder" "B" (.int 0)) (Vx : Fld Z h0 x "java/lang/String" "value" "[B" (.ref t)) (Kx : Arv Z h0 t kt .byte 5 [(.int c1.toInt8.toInt32), (.int c2.toInt8.toInt32), (.int (58 : Int32)), (.int (32 : Int32)), (.int d1.toInt8.toInt32)] (.int 0))  (hc10 : ¬ c1 < 0) (hc11 : ¬ (255 : Int32) < c1) (hnc1 : nar .char c1 = c1) (hc20 : ¬ c2 < 0) (hc21 : ¬ (255 : Int32) < c2) (hnc2 : nar .char c2 = c2) (hd10 : ¬ d1 < 0) (hd11 : ¬ (255 : Int32) < d1) (hnd1 : nar .char d1 = d1) (hd20 : ¬ d2 < 0) (hd21 : ¬ (255 : Int32) < d2) (hnd2 : nar .char d2 = d2):
  own_Met false l Z n0 [] [] ⟨"com/example/hifadhi/hifadhi/project/NotAnalysedMessagePinLaw", "ok", "(Ljava/lang/String;IICCICC)Z"⟩ method_4_code 11 (some .boolean) [] (own_R 4 0 0 53) #[(.ref x), (.int (3 : Int32)), (.int (2 : Int32)), (.int c1), (.int c2), (.int (1 : Int32)), (.int d1), (.int d2)] h0 (fun v h => v = some (.int 1) ∧ h0 = h) := by
  refine own_ent (a0 := a0) (nm := "ok") (Ls := #[.val (.ref x), .val (.int (3 : Int32)), .val (.int (2 : Int32)), .val (.int c1), .val (.int c2), .val (.int (1 : Int32)), .val (.int d1), .val (.int d2), .unset, .unset, .unset]) own_pn4 O0 EW.nil ?_
  intro p e _ m _ below _ _ T0 Q hQ A0
  refine own_iloadN (q := 1) A0 d31_0 rfl ?_
  refine own_iconst (q := 2) A0 (2 : Int32) d31_1 rfl ?_
  refine own_iadd (q := 3) A0 d31_2 ?_
  refine own_iload (q := 5) A0 d31_3 rfl ?_
  refine own_iadd (q := 6) A0 d31_5 ?_
  refine own_istore (q := 8) (L' := #[.val (.ref x), .val (.int (3 : Int32)), .val (.int (2 : Int32)), .val (.int c1), .val (.int c2), .val (.int (1 : Int32)), .val (.int d1), .val (.int d2), .val (.int (((2 : Int32) + (2 : Int32)) + (1 : Int32))), .unset, .unset]) A0 d31_6 rfl ?_
  refine own_iloadN (q := 9) A0 d31_8 rfl ?_
  refine own_iload (q := 11) A0 d31_9 rfl ?_
  refine own_icmpT (q := 16) A0 d31_11 (show (3 : Int32) < (((2 : Int32) + (2 : Int32)) + (1 : Int32)) from by decide) ?_
  refine own_iloadN (q := 17) A0 d31_16 rfl ?_
  refine own_iloadN (q := 18) A0 d31_17 rfl ?_
  refine own_icmpT (q := 36) A0 d31_18 (show ¬ (3 : Int32) < (2 : Int32) from by decide) ?_
  refine own_iloadN (q := 37) A0 d31_36 rfl ?_
  refine own_iloadN (q := 38) A0 d31_37 rfl ?_
  refine own_icmpT (q := 48) A0 d31_38 (show ¬ (3 : Int32) = (2 : Int32) from by decide) ?_
  refine own_iloadN (q := 49) A0 d31_48 rfl ?_
  refine own_iloadN (q := 50) A0 d31_49 rfl ?_
  refine own_iconst (q := 51) A0 (1 : Int32) d31_50 rfl ?_
  refine own_iadd (q := 52) A0 d31_51 ?_
  refine own_icmpF (q := 55) A0 d31_52 (show (3 : Int32) = ((2 : Int32) + (1 : Int32)) from by decide) ?_
  refine own_bipush (q := 57) A0 (32 : Int32) d31_55 rfl ?_
  refine own_istore (q := 59) (L' := #[.val (.ref x), .val (.int (3 : Int32)), .val (.int (2 : Int32)), .val (.int c1), .val (.int c2), .val (.int (1 : Int32)), .val (.int d1), .val (.int d2), .val (.int (((2 : Int32) + (2 : Int32)) + (1 : Int32))), .val (.int (32 : Int32)), .unset]) A0 d31_57 rfl ?_
  refine own_goto (q := 83) A0 d31_59 ?_
  refine own_aloadN (q := 84) A0 d31_83 rfl rfl ?_
  refine own_iloadN (q := 85) A0 d31_84 rfl ?_
  refine own_virtual (q := 88) (W := 0) (argsL := [(.int (3 : Int32))]) (rest := []) A0 (H.k 168 rfl) (H.k 169 rfl) (H.k 171 rfl) (H.k 170 rfl) (by decide) (own_payCh (cs1 := [c1, c2, (58 : Int32), (32 : Int32), d1]) (i := 3) (kI := 4) (own_wCh H.w) (H.k 5 rfl) A0.old Ex Vx Cx Kx (own_cod [c1, c2, (58 : Int32), (32 : Int32), d1] (n := 5) rfl (fun yy hy => ((show ∀ yy ∈ [c1, c2, (58 : Int32), (32 : Int32), d1], ¬ yy < 0 ∧ ¬ (255 : Int32) < yy from (own_fc ⟨hc10, hc11⟩ (own_fc ⟨hc20, hc21⟩ (own_fc (by decide) (own_fc (by decide) (own_fc ⟨hd10, hd11⟩ (fun _ z => nomatch z))))))) yy hy).2) rfl rfl) (own_b16 (own_fc ⟨hc10, hc11⟩ (own_fc ⟨hc20, hc21⟩ (own_fc (by decide) (own_fc (by decide) (own_fc ⟨hd10, hd11⟩ (fun _ z => nomatch z))))))) (Nat.le_of_ble_eq_true rfl) H.SC H.hz H.SF H.rf (Nat.le_of_ble_eq_true rfl) rfl (by decide) (by decide)) own_nW (Nat.le_of_eq rfl) Ex own_pd22 rfl rfl rfl d31_85 (by decide) (by decide) ?_
  rintro v1 T2 h3 A4 ⟨rfl, rfl⟩
  show own_Run p e below Q m T2 88 #[.val (.ref x), .val (.int (3 : Int32)), .val (.int (2 : Int32)), .val (.int c1), .val (.int c2), .val (.int (1 : Int32)), .val (.int d1), .val (.int d2), .val (.int (((2 : Int32) + (2 : Int32)) + (1 : Int32))), .val (.int (32 : Int32)), .unset] [(.int (32 : Int32))]
  refine own_iload (q := 90) A4 d31_88 rfl ?_
  refine own_icmpF (q := 93) A4 d31_90 (show (32 : Int32) = (32 : Int32) from rfl) ?_
  refine own_iconst (q := 94) A4 (1 : Int32) d31_93 rfl ?_
  refine own_goto (q := 98) A4 d31_94 ?_
  exact own_retN A4 hQ (t := .boolean) (by simp) d31_98 ⟨rfl, rfl⟩
theorem rm_ok4_21 (x t : Addr) (kt : ClassId) (c1 c2 d1 d2 : Int32) (O0 : Old Z n0 h0) (H : own_H Z a0 zc fm) (Ex : Exa Z h0 x "java/lang/String") (Cx : Fld Z h0 x "java/lang/String" "coder" "B" (.int 0)) (Vx : Fld Z h0 x "java/lang/String" "value" "[B" (.ref t)) (Kx : Arv Z h0 t kt .byte 5 [(.int c1.toInt8.toInt32), (.int c2.toInt8.toInt32), (.int (58 : Int32)), (.int (32 : Int32)), (.int d1.toInt8.toInt32)] (.int 0))  (hc10 : ¬ c1 < 0) (hc11 : ¬ (255 : Int32) < c1) (hnc1 : nar .char c1 = c1) (hc20 : ¬ c2 < 0) (hc21 : ¬ (255 : Int32) < c2) (hnc2 : nar .char c2 = c2) (hd10 : ¬ d1 < 0) (hd11 : ¬ (255 : Int32) < d1) (hnd1 : nar .char d1 = d1) (hd20 : ¬ d2 < 0) (hd21 : ¬ (255 : Int32) < d2) (hnd2 : nar .char d2 = d2):
  own_Met false l Z n0 [] [] ⟨"com/example/hifadhi/hifadhi/project/NotAnalysedMessagePinLaw", "ok", "(Ljava/lang/String;IICCICC)Z"⟩ method_4_code 11 (some .boolean) [] (own_R 4 0 0 53) #[(.ref x), (.int (4 : Int32)), (.int (2 : Int32)), (.int c1), (.int c2), (.int (1 : Int32)), (.int d1), (.int d2)] h0 (fun v h => v = some (.int 1) ∧ h0 = h) := by
  refine own_ent (a0 := a0) (nm := "ok") (Ls := #[.val (.ref x), .val (.int (4 : Int32)), .val (.int (2 : Int32)), .val (.int c1), .val (.int c2), .val (.int (1 : Int32)), .val (.int d1), .val (.int d2), .unset, .unset, .unset]) own_pn4 O0 EW.nil ?_
  intro p e _ m _ below _ _ T0 Q hQ A0
  refine own_iloadN (q := 1) A0 d31_0 rfl ?_
  refine own_iconst (q := 2) A0 (2 : Int32) d31_1 rfl ?_
  refine own_iadd (q := 3) A0 d31_2 ?_
  refine own_iload (q := 5) A0 d31_3 rfl ?_
  refine own_iadd (q := 6) A0 d31_5 ?_
  refine own_istore (q := 8) (L' := #[.val (.ref x), .val (.int (4 : Int32)), .val (.int (2 : Int32)), .val (.int c1), .val (.int c2), .val (.int (1 : Int32)), .val (.int d1), .val (.int d2), .val (.int (((2 : Int32) + (2 : Int32)) + (1 : Int32))), .unset, .unset]) A0 d31_6 rfl ?_
  refine own_iloadN (q := 9) A0 d31_8 rfl ?_
  refine own_iload (q := 11) A0 d31_9 rfl ?_
  refine own_icmpT (q := 16) A0 d31_11 (show (4 : Int32) < (((2 : Int32) + (2 : Int32)) + (1 : Int32)) from by decide) ?_
  refine own_iloadN (q := 17) A0 d31_16 rfl ?_
  refine own_iloadN (q := 18) A0 d31_17 rfl ?_
  refine own_icmpT (q := 36) A0 d31_18 (show ¬ (4 : Int32) < (2 : Int32) from by decide) ?_
  refine own_iloadN (q := 37) A0 d31_36 rfl ?_
  refine own_iloadN (q := 38) A0 d31_37 rfl ?_
  refine own_icmpT (q := 48) A0 d31_38 (show ¬ (4 : Int32) = (2 : Int32) from by decide) ?_
  refine own_iloadN (q := 49) A0 d31_48 rfl ?_
  refine own_iloadN (q := 50) A0 d31_49 rfl ?_
  refine own_iconst (q := 51) A0 (1 : Int32) d31_50 rfl ?_
  refine own_iadd (q := 52) A0 d31_51 ?_
  refine own_icmpT (q := 62) A0 d31_52 (show ¬ (4 : Int32) = ((2 : Int32) + (1 : Int32)) from by decide) ?_
  refine own_iloadN (q := 63) A0 d31_62 rfl ?_
  refine own_iloadN (q := 64) A0 d31_63 rfl ?_
  refine own_isub (q := 65) A0 d31_64 ?_
  refine own_iconst (q := 66) A0 (2 : Int32) d31_65 rfl ?_
  refine own_isub (q := 67) A0 d31_66 ?_
  refine own_istore (q := 69) (L' := #[.val (.ref x), .val (.int (4 : Int32)), .val (.int (2 : Int32)), .val (.int c1), .val (.int c2), .val (.int (1 : Int32)), .val (.int d1), .val (.int d2), .val (.int (((2 : Int32) + (2 : Int32)) + (1 : Int32))), .unset, .val (.int (((4 : Int32) - (2 : Int32)) - (2 : Int32)))]) A0 d31_67 rfl ?_
  refine own_iload (q := 71) A0 d31_69 rfl ?_
  refine own_ifcF (q := 74) A0 d31_71 (show (((4 : Int32) - (2 : Int32)) - (2 : Int32)) = (0 : Int32) from by decide) ?_
  refine own_iload (q := 76) A0 d31_74 rfl ?_
  refine own_goto (q := 81) A0 d31_76 ?_
  refine own_istore (q := 83) (L' := #[.val (.ref x), .val (.int (4 : Int32)), .val (.int (2 : Int32)), .val (.int c1), .val (.int c2), .val (.int (1 : Int32)), .val (.int d1), .val (.int d2), .val (.int (((2 : Int32) + (2 : Int32)) + (1 : Int32))), .val (.int d1), .val (.int (((4 : Int32) - (2 : Int32)) - (2 : Int32)))]) A0 d31_81 rfl ?_
  refine own_aloadN (q := 84) A0 d31_83 rfl rfl ?_
  refine own_iloadN (q := 85) A0 d31_84 rfl ?_
  refine own_virtual (q := 88) (W := 0) (argsL := [(.int (4 : Int32))]) (rest := []) A0 (H.k 168 rfl) (H.k 169 rfl) (H.k 171 rfl) (H.k 170 rfl) (by decide) (own_payCh (cs1 := [c1, c2, (58 : Int32), (32 : Int32), d1]) (i := 4) (kI := 4) (own_wCh H.w) (H.k 5 rfl) A0.old Ex Vx Cx Kx (own_cod [c1, c2, (58 : Int32), (32 : Int32), d1] (n := 5) rfl (fun yy hy => ((show ∀ yy ∈ [c1, c2, (58 : Int32), (32 : Int32), d1], ¬ yy < 0 ∧ ¬ (255 : Int32) < yy from (own_fc ⟨hc10, hc11⟩ (own_fc ⟨hc20, hc21⟩ (own_fc (by decide) (own_fc (by decide) (own_fc ⟨hd10, hd11⟩ (fun _ z => nomatch z))))))) yy hy).2) rfl rfl) (own_b16 (own_fc ⟨hc10, hc11⟩ (own_fc ⟨hc20, hc21⟩ (own_fc (by decide) (own_fc (by decide) (own_fc ⟨hd10, hd11⟩ (fun _ z => nomatch z))))))) (Nat.le_of_ble_eq_true rfl) H.SC H.hz H.SF H.rf (Nat.le_of_ble_eq_true rfl) rfl (by decide) (by decide)) own_nW (Nat.le_of_eq rfl) Ex own_pd22 rfl rfl rfl d31_85 (by decide) (by decide) ?_
  rintro v1 T2 h3 A4 ⟨rfl, rfl⟩
  show own_Run p e below Q m T2 88 #[.val (.ref x), .val (.int (4 : Int32)), .val (.int (2 : Int32)), .val (.int c1), .val (.int c2), .val (.int (1 : Int32)), .val (.int d1), .val (.int d2), .val (.int (((2 : Int32) + (2 : Int32)) + (1 : Int32))), .val (.int d1), .val (.int (((4 : Int32) - (2 : Int32)) - (2 : Int32)))] [(.int d1)]
  refine own_iload (q := 90) A4 d31_88 rfl ?_
  refine own_icmpF (q := 93) A4 d31_90 (show d1 = d1 from rfl) ?_
  refine own_iconst (q := 94) A4 (1 : Int32) d31_93 rfl ?_
  refine own_goto (q := 98) A4 d31_94 ?_
  exact own_retN A4 hQ (t := .boolean) (by simp) d31_98 ⟨rfl, rfl⟩
theorem rm_ok5_21 (x t : Addr) (kt : ClassId) (c1 c2 d1 d2 : Int32) (O0 : Old Z n0 h0) (H : own_H Z a0 zc fm) (Ex : Exa Z h0 x "java/lang/String") (Cx : Fld Z h0 x "java/lang/String" "coder" "B" (.int 0)) (Vx : Fld Z h0 x "java/lang/String" "value" "[B" (.ref t)) (Kx : Arv Z h0 t kt .byte 5 [(.int c1.toInt8.toInt32), (.int c2.toInt8.toInt32), (.int (58 : Int32)), (.int (32 : Int32)), (.int d1.toInt8.toInt32)] (.int 0))  (hc10 : ¬ c1 < 0) (hc11 : ¬ (255 : Int32) < c1) (hnc1 : nar .char c1 = c1) (hc20 : ¬ c2 < 0) (hc21 : ¬ (255 : Int32) < c2) (hnc2 : nar .char c2 = c2) (hd10 : ¬ d1 < 0) (hd11 : ¬ (255 : Int32) < d1) (hnd1 : nar .char d1 = d1) (hd20 : ¬ d2 < 0) (hd21 : ¬ (255 : Int32) < d2) (hnd2 : nar .char d2 = d2):
  own_Met false l Z n0 [] [] ⟨"com/example/hifadhi/hifadhi/project/NotAnalysedMessagePinLaw", "ok", "(Ljava/lang/String;IICCICC)Z"⟩ method_4_code 11 (some .boolean) [] (own_R 4 0 0 53) #[(.ref x), (.int (5 : Int32)), (.int (2 : Int32)), (.int c1), (.int c2), (.int (1 : Int32)), (.int d1), (.int d2)] h0 (fun v h => v = some (.int 1) ∧ h0 = h) := by
  refine own_ent (a0 := a0) (nm := "ok") (Ls := #[.val (.ref x), .val (.int (5 : Int32)), .val (.int (2 : Int32)), .val (.int c1), .val (.int c2), .val (.int (1 : Int32)), .val (.int d1), .val (.int d2), .unset, .unset, .unset]) own_pn4 O0 EW.nil ?_
  intro p e _ m _ below _ _ T0 Q hQ A0
  refine own_iloadN (q := 1) A0 d31_0 rfl ?_
  refine own_iconst (q := 2) A0 (2 : Int32) d31_1 rfl ?_
  refine own_iadd (q := 3) A0 d31_2 ?_
  refine own_iload (q := 5) A0 d31_3 rfl ?_
  refine own_iadd (q := 6) A0 d31_5 ?_
  refine own_istore (q := 8) (L' := #[.val (.ref x), .val (.int (5 : Int32)), .val (.int (2 : Int32)), .val (.int c1), .val (.int c2), .val (.int (1 : Int32)), .val (.int d1), .val (.int d2), .val (.int (((2 : Int32) + (2 : Int32)) + (1 : Int32))), .unset, .unset]) A0 d31_6 rfl ?_
  refine own_iloadN (q := 9) A0 d31_8 rfl ?_
  refine own_iload (q := 11) A0 d31_9 rfl ?_
  refine own_icmpF (q := 14) A0 d31_11 (show ¬ (5 : Int32) < (((2 : Int32) + (2 : Int32)) + (1 : Int32)) from by decide) ?_
  refine own_iconst (q := 15) A0 (1 : Int32) d31_14 rfl ?_
  exact own_retN A0 hQ (t := .boolean) (by simp) d31_15 ⟨rfl, rfl⟩
theorem rm_ok0_22 (x t : Addr) (kt : ClassId) (c1 c2 d1 d2 : Int32) (O0 : Old Z n0 h0) (H : own_H Z a0 zc fm) (Ex : Exa Z h0 x "java/lang/String") (Cx : Fld Z h0 x "java/lang/String" "coder" "B" (.int 0)) (Vx : Fld Z h0 x "java/lang/String" "value" "[B" (.ref t)) (Kx : Arv Z h0 t kt .byte 6 [(.int c1.toInt8.toInt32), (.int c2.toInt8.toInt32), (.int (58 : Int32)), (.int (32 : Int32)), (.int d1.toInt8.toInt32), (.int d2.toInt8.toInt32)] (.int 0))  (hc10 : ¬ c1 < 0) (hc11 : ¬ (255 : Int32) < c1) (hnc1 : nar .char c1 = c1) (hc20 : ¬ c2 < 0) (hc21 : ¬ (255 : Int32) < c2) (hnc2 : nar .char c2 = c2) (hd10 : ¬ d1 < 0) (hd11 : ¬ (255 : Int32) < d1) (hnd1 : nar .char d1 = d1) (hd20 : ¬ d2 < 0) (hd21 : ¬ (255 : Int32) < d2) (hnd2 : nar .char d2 = d2):
  own_Met false l Z n0 [] [] ⟨"com/example/hifadhi/hifadhi/project/NotAnalysedMessagePinLaw", "ok", "(Ljava/lang/String;IICCICC)Z"⟩ method_4_code 11 (some .boolean) [] (own_R 4 0 0 53) #[(.ref x), (.int (0 : Int32)), (.int (2 : Int32)), (.int c1), (.int c2), (.int (2 : Int32)), (.int d1), (.int d2)] h0 (fun v h => v = some (.int 1) ∧ h0 = h) := by
  refine own_ent (a0 := a0) (nm := "ok") (Ls := #[.val (.ref x), .val (.int (0 : Int32)), .val (.int (2 : Int32)), .val (.int c1), .val (.int c2), .val (.int (2 : Int32)), .val (.int d1), .val (.int d2), .unset, .unset, .unset]) own_pn4 O0 EW.nil ?_
  intro p e _ m _ below _ _ T0 Q hQ A0
  refine own_iloadN (q := 1) A0 d31_0 rfl ?_
  refine own_iconst (q := 2) A0 (2 : Int32) d31_1 rfl ?_
  refine own_iadd (q := 3) A0 d31_2 ?_
  refine own_iload (q := 5) A0 d31_3 rfl ?_
  refine own_iadd (q := 6) A0 d31_5 ?_
  refine own_istore (q := 8) (L' := #[.val (.ref x), .val (.int (0 : Int32)), .val (.int (2 : Int32)), .val (.int c1), .val (.int c2), .val (.int (2 : Int32)), .val (.int d1), .val (.int d2), .val (.int (((2 : Int32) + (2 : Int32)) + (2 : Int32))), .unset, .unset]) A0 d31_6 rfl ?_
  refine own_iloadN (q := 9) A0 d31_8 rfl ?_
  refine own_iload (q := 11) A0 d31_9 rfl ?_
  refine own_icmpT (q := 16) A0 d31_11 (show (0 : Int32) < (((2 : Int32) + (2 : Int32)) + (2 : Int32)) from by decide) ?_
  refine own_iloadN (q := 17) A0 d31_16 rfl ?_
  refine own_iloadN (q := 18) A0 d31_17 rfl ?_
  refine own_icmpF (q := 21) A0 d31_18 (show (0 : Int32) < (2 : Int32) from by decide) ?_
  refine own_iloadN (q := 22) A0 d31_21 rfl ?_
  refine own_ifcF (q := 25) A0 d31_22 (show (0 : Int32) = (0 : Int32) from by decide) ?_
  refine own_iloadN (q := 26) A0 d31_25 rfl ?_
  refine own_goto (q := 31) A0 d31_26 ?_
  refine own_istore (q := 33) (L' := #[.val (.ref x), .val (.int (0 : Int32)), .val (.int (2 : Int32)), .val (.int c1), .val (.int c2), .val (.int (2 : Int32)), .val (.int d1), .val (.int d2), .val (.int (((2 : Int32) + (2 : Int32)) + (2 : Int32))), .val (.int c1), .unset]) A0 d31_31 rfl ?_
  refine own_goto (q := 83) A0 d31_33 ?_
  refine own_aloadN (q := 84) A0 d31_83 rfl rfl ?_
  refine own_iloadN (q := 85) A0 d31_84 rfl ?_
  refine own_virtual (q := 88) (W := 0) (argsL := [(.int (0 : Int32))]) (rest := []) A0 (H.k 168 rfl) (H.k 169 rfl) (H.k 171 rfl) (H.k 170 rfl) (by decide) (own_payCh (cs1 := [c1, c2, (58 : Int32), (32 : Int32), d1, d2]) (i := 0) (kI := 4) (own_wCh H.w) (H.k 5 rfl) A0.old Ex Vx Cx Kx (own_cod [c1, c2, (58 : Int32), (32 : Int32), d1, d2] (n := 6) rfl (fun yy hy => ((show ∀ yy ∈ [c1, c2, (58 : Int32), (32 : Int32), d1, d2], ¬ yy < 0 ∧ ¬ (255 : Int32) < yy from (own_fc ⟨hc10, hc11⟩ (own_fc ⟨hc20, hc21⟩ (own_fc (by decide) (own_fc (by decide) (own_fc ⟨hd10, hd11⟩ (own_fc ⟨hd20, hd21⟩ (fun _ z => nomatch z)))))))) yy hy).2) rfl rfl) (own_b16 (own_fc ⟨hc10, hc11⟩ (own_fc ⟨hc20, hc21⟩ (own_fc (by decide) (own_fc (by decide) (own_fc ⟨hd10, hd11⟩ (own_fc ⟨hd20, hd21⟩ (fun _ z => nomatch z)))))))) (Nat.le_of_ble_eq_true rfl) H.SC H.hz H.SF H.rf (Nat.le_of_ble_eq_true rfl) rfl (by decide) (by decide)) own_nW (Nat.le_of_eq rfl) Ex own_pd22 rfl rfl rfl d31_85 (by decide) (by decide) ?_
  rintro v1 T2 h3 A4 ⟨rfl, rfl⟩
  show own_Run p e below Q m T2 88 #[.val (.ref x), .val (.int (0 : Int32)), .val (.int (2 : Int32)), .val (.int c1), .val (.int c2), .val (.int (2 : Int32)), .val (.int d1), .val (.int d2), .val (.int (((2 : Int32) + (2 : Int32)) + (2 : Int32))), .val (.int c1), .unset] [(.int c1)]
  refine own_iload (q := 90) A4 d31_88 rfl ?_
  refine own_icmpF (q := 93) A4 d31_90 (show c1 = c1 from rfl) ?_
  refine own_iconst (q := 94) A4 (1 : Int32) d31_93 rfl ?_
  refine own_goto (q := 98) A4 d31_94 ?_
  exact own_retN A4 hQ (t := .boolean) (by simp) d31_98 ⟨rfl, rfl⟩
theorem rm_ok1_22 (x t : Addr) (kt : ClassId) (c1 c2 d1 d2 : Int32) (O0 : Old Z n0 h0) (H : own_H Z a0 zc fm) (Ex : Exa Z h0 x "java/lang/String") (Cx : Fld Z h0 x "java/lang/String" "coder" "B" (.int 0)) (Vx : Fld Z h0 x "java/lang/String" "value" "[B" (.ref t)) (Kx : Arv Z h0 t kt .byte 6 [(.int c1.toInt8.toInt32), (.int c2.toInt8.toInt32), (.int (58 : Int32)), (.int (32 : Int32)), (.int d1.toInt8.toInt32), (.int d2.toInt8.toInt32)] (.int 0))  (hc10 : ¬ c1 < 0) (hc11 : ¬ (255 : Int32) < c1) (hnc1 : nar .char c1 = c1) (hc20 : ¬ c2 < 0) (hc21 : ¬ (255 : Int32) < c2) (hnc2 : nar .char c2 = c2) (hd10 : ¬ d1 < 0) (hd11 : ¬ (255 : Int32) < d1) (hnd1 : nar .char d1 = d1) (hd20 : ¬ d2 < 0) (hd21 : ¬ (255 : Int32) < d2) (hnd2 : nar .char d2 = d2):
  own_Met false l Z n0 [] [] ⟨"com/example/hifadhi/hifadhi/project/NotAnalysedMessagePinLaw", "ok", "(Ljava/lang/String;IICCICC)Z"⟩ method_4_code 11 (some .boolean) [] (own_R 4 0 0 53) #[(.ref x), (.int (1 : Int32)), (.int (2 : Int32)), (.int c1), (.int c2), (.int (2 : Int32)), (.int d1), (.int d2)] h0 (fun v h => v = some (.int 1) ∧ h0 = h) := by
  refine own_ent (a0 := a0) (nm := "ok") (Ls := #[.val (.ref x), .val (.int (1 : Int32)), .val (.int (2 : Int32)), .val (.int c1), .val (.int c2), .val (.int (2 : Int32)), .val (.int d1), .val (.int d2), .unset, .unset, .unset]) own_pn4 O0 EW.nil ?_
  intro p e _ m _ below _ _ T0 Q hQ A0
  refine own_iloadN (q := 1) A0 d31_0 rfl ?_
  refine own_iconst (q := 2) A0 (2 : Int32) d31_1 rfl ?_
  refine own_iadd (q := 3) A0 d31_2 ?_
  refine own_iload (q := 5) A0 d31_3 rfl ?_
  refine own_iadd (q := 6) A0 d31_5 ?_
  refine own_istore (q := 8) (L' := #[.val (.ref x), .val (.int (1 : Int32)), .val (.int (2 : Int32)), .val (.int c1), .val (.int c2), .val (.int (2 : Int32)), .val (.int d1), .val (.int d2), .val (.int (((2 : Int32) + (2 : Int32)) + (2 : Int32))), .unset, .unset]) A0 d31_6 rfl ?_
  refine own_iloadN (q := 9) A0 d31_8 rfl ?_
  refine own_iload (q := 11) A0 d31_9 rfl ?_
  refine own_icmpT (q := 16) A0 d31_11 (show (1 : Int32) < (((2 : Int32) + (2 : Int32)) + (2 : Int32)) from by decide) ?_
  refine own_iloadN (q := 17) A0 d31_16 rfl ?_
  refine own_iloadN (q := 18) A0 d31_17 rfl ?_
  refine own_icmpF (q := 21) A0 d31_18 (show (1 : Int32) < (2 : Int32) from by decide) ?_
  refine own_iloadN (q := 22) A0 d31_21 rfl ?_
  refine own_ifcT (q := 29) A0 d31_22 (show ¬ (1 : Int32) = (0 : Int32) from by decide) ?_
  refine own_iload (q := 31) A0 d31_29 rfl ?_
  refine own_istore (q := 33) (L' := #[.val (.ref x), .val (.int (1 : Int32)), .val (.int (2 : Int32)), .val (.int c1), .val (.int c2), .val (.int (2 : Int32)), .val (.int d1), .val (.int d2), .val (.int (((2 : Int32) + (2 : Int32)) + (2 : Int32))), .val (.int c2), .unset]) A0 d31_31 rfl ?_
  refine own_goto (q := 83) A0 d31_33 ?_
  refine own_aloadN (q := 84) A0 d31_83 rfl rfl ?_
  refine own_iloadN (q := 85) A0 d31_84 rfl ?_
  refine own_virtual (q := 88) (W := 0) (argsL := [(.int (1 : Int32))]) (rest := []) A0 (H.k 168 rfl) (H.k 169 rfl) (H.k 171 rfl) (H.k 170 rfl) (by decide) (own_payCh (cs1 := [c1, c2, (58 : Int32), (32 : Int32), d1, d2]) (i := 1) (kI := 4) (own_wCh H.w) (H.k 5 rfl) A0.old Ex Vx Cx Kx (own_cod [c1, c2, (58 : Int32), (32 : Int32), d1, d2] (n := 6) rfl (fun yy hy => ((show ∀ yy ∈ [c1, c2, (58 : Int32), (32 : Int32), d1, d2], ¬ yy < 0 ∧ ¬ (255 : Int32) < yy from (own_fc ⟨hc10, hc11⟩ (own_fc ⟨hc20, hc21⟩ (own_fc (by decide) (own_fc (by decide) (own_fc ⟨hd10, hd11⟩ (own_fc ⟨hd20, hd21⟩ (fun _ z => nomatch z)))))))) yy hy).2) rfl rfl) (own_b16 (own_fc ⟨hc10, hc11⟩ (own_fc ⟨hc20, hc21⟩ (own_fc (by decide) (own_fc (by decide) (own_fc ⟨hd10, hd11⟩ (own_fc ⟨hd20, hd21⟩ (fun _ z => nomatch z)))))))) (Nat.le_of_ble_eq_true rfl) H.SC H.hz H.SF H.rf (Nat.le_of_ble_eq_true rfl) rfl (by decide) (by decide)) own_nW (Nat.le_of_eq rfl) Ex own_pd22 rfl rfl rfl d31_85 (by decide) (by decide) ?_
  rintro v1 T2 h3 A4 ⟨rfl, rfl⟩
  show own_Run p e below Q m T2 88 #[.val (.ref x), .val (.int (1 : Int32)), .val (.int (2 : Int32)), .val (.int c1), .val (.int c2), .val (.int (2 : Int32)), .val (.int d1), .val (.int d2), .val (.int (((2 : Int32) + (2 : Int32)) + (2 : Int32))), .val (.int c2), .unset] [(.int c2)]
  refine own_iload (q := 90) A4 d31_88 rfl ?_
  refine own_icmpF (q := 93) A4 d31_90 (show c2 = c2 from rfl) ?_
  refine own_iconst (q := 94) A4 (1 : Int32) d31_93 rfl ?_
  refine own_goto (q := 98) A4 d31_94 ?_
  exact own_retN A4 hQ (t := .boolean) (by simp) d31_98 ⟨rfl, rfl⟩
theorem rm_ok2_22 (x t : Addr) (kt : ClassId) (c1 c2 d1 d2 : Int32) (O0 : Old Z n0 h0) (H : own_H Z a0 zc fm) (Ex : Exa Z h0 x "java/lang/String") (Cx : Fld Z h0 x "java/lang/String" "coder" "B" (.int 0)) (Vx : Fld Z h0 x "java/lang/String" "value" "[B" (.ref t)) (Kx : Arv Z h0 t kt .byte 6 [(.int c1.toInt8.toInt32), (.int c2.toInt8.toInt32), (.int (58 : Int32)), (.int (32 : Int32)), (.int d1.toInt8.toInt32), (.int d2.toInt8.toInt32)] (.int 0))  (hc10 : ¬ c1 < 0) (hc11 : ¬ (255 : Int32) < c1) (hnc1 : nar .char c1 = c1) (hc20 : ¬ c2 < 0) (hc21 : ¬ (255 : Int32) < c2) (hnc2 : nar .char c2 = c2) (hd10 : ¬ d1 < 0) (hd11 : ¬ (255 : Int32) < d1) (hnd1 : nar .char d1 = d1) (hd20 : ¬ d2 < 0) (hd21 : ¬ (255 : Int32) < d2) (hnd2 : nar .char d2 = d2):
  own_Met false l Z n0 [] [] ⟨"com/example/hifadhi/hifadhi/project/NotAnalysedMessagePinLaw", "ok", "(Ljava/lang/String;IICCICC)Z"⟩ method_4_code 11 (some .boolean) [] (own_R 4 0 0 53) #[(.ref x), (.int (2 : Int32)), (.int (2 : Int32)), (.int c1), (.int c2), (.int (2 : Int32)), (.int d1), (.int d2)] h0 (fun v h => v = some (.int 1) ∧ h0 = h) := by
  refine own_ent (a0 := a0) (nm := "ok") (Ls := #[.val (.ref x), .val (.int (2 : Int32)), .val (.int (2 : Int32)), .val (.int c1), .val (.int c2), .val (.int (2 : Int32)), .val (.int d1), .val (.int d2), .unset, .unset, .unset]) own_pn4 O0 EW.nil ?_
  intro p e _ m _ below _ _ T0 Q hQ A0
  refine own_iloadN (q := 1) A0 d31_0 rfl ?_
  refine own_iconst (q := 2) A0 (2 : Int32) d31_1 rfl ?_
  refine own_iadd (q := 3) A0 d31_2 ?_
  refine own_iload (q := 5) A0 d31_3 rfl ?_
  refine own_iadd (q := 6) A0 d31_5 ?_
  refine own_istore (q := 8) (L' := #[.val (.ref x), .val (.int (2 : Int32)), .val (.int (2 : Int32)), .val (.int c1), .val (.int c2), .val (.int (2 : Int32)), .val (.int d1), .val (.int d2), .val (.int (((2 : Int32) + (2 : Int32)) + (2 : Int32))), .unset, .unset]) A0 d31_6 rfl ?_
  refine own_iloadN (q := 9) A0 d31_8 rfl ?_
  refine own_iload (q := 11) A0 d31_9 rfl ?_
  refine own_icmpT (q := 16) A0 d31_11 (show (2 : Int32) < (((2 : Int32) + (2 : Int32)) + (2 : Int32)) from by decide) ?_
  refine own_iloadN (q := 17) A0 d31_16 rfl ?_
  refine own_iloadN (q := 18) A0 d31_17 rfl ?_
  refine own_icmpT (q := 36) A0 d31_18 (show ¬ (2 : Int32) < (2 : Int32) from by decide) ?_
  refine own_iloadN (q := 37) A0 d31_36 rfl ?_
  refine own_iloadN (q := 38) A0 d31_37 rfl ?_
  refine own_icmpF (q := 41) A0 d31_38 (show (2 : Int32) = (2 : Int32) from by decide) ?_
  refine own_bipush (q := 43) A0 (58 : Int32) d31_41 rfl ?_
  refine own_istore (q := 45) (L' := #[.val (.ref x), .val (.int (2 : Int32)), .val (.int (2 : Int32)), .val (.int c1), .val (.int c2), .val (.int (2 : Int32)), .val (.int d1), .val (.int d2), .val (.int (((2 : Int32) + (2 : Int32)) + (2 : Int32))), .val (.int (58 : Int32)), .unset]) A0 d31_43 rfl ?_
  refine own_goto (q := 83) A0 d31_45 ?_
  refine own_aloadN (q := 84) A0 d31_83 rfl rfl ?_
  refine own_iloadN (q := 85) A0 d31_84 rfl ?_
  refine own_virtual (q := 88) (W := 0) (argsL := [(.int (2 : Int32))]) (rest := []) A0 (H.k 168 rfl) (H.k 169 rfl) (H.k 171 rfl) (H.k 170 rfl) (by decide) (own_payCh (cs1 := [c1, c2, (58 : Int32), (32 : Int32), d1, d2]) (i := 2) (kI := 4) (own_wCh H.w) (H.k 5 rfl) A0.old Ex Vx Cx Kx (own_cod [c1, c2, (58 : Int32), (32 : Int32), d1, d2] (n := 6) rfl (fun yy hy => ((show ∀ yy ∈ [c1, c2, (58 : Int32), (32 : Int32), d1, d2], ¬ yy < 0 ∧ ¬ (255 : Int32) < yy from (own_fc ⟨hc10, hc11⟩ (own_fc ⟨hc20, hc21⟩ (own_fc (by decide) (own_fc (by decide) (own_fc ⟨hd10, hd11⟩ (own_fc ⟨hd20, hd21⟩ (fun _ z => nomatch z)))))))) yy hy).2) rfl rfl) (own_b16 (own_fc ⟨hc10, hc11⟩ (own_fc ⟨hc20, hc21⟩ (own_fc (by decide) (own_fc (by decide) (own_fc ⟨hd10, hd11⟩ (own_fc ⟨hd20, hd21⟩ (fun _ z => nomatch z)))))))) (Nat.le_of_ble_eq_true rfl) H.SC H.hz H.SF H.rf (Nat.le_of_ble_eq_true rfl) rfl (by decide) (by decide)) own_nW (Nat.le_of_eq rfl) Ex own_pd22 rfl rfl rfl d31_85 (by decide) (by decide) ?_
  rintro v1 T2 h3 A4 ⟨rfl, rfl⟩
  show own_Run p e below Q m T2 88 #[.val (.ref x), .val (.int (2 : Int32)), .val (.int (2 : Int32)), .val (.int c1), .val (.int c2), .val (.int (2 : Int32)), .val (.int d1), .val (.int d2), .val (.int (((2 : Int32) + (2 : Int32)) + (2 : Int32))), .val (.int (58 : Int32)), .unset] [(.int (58 : Int32))]
  refine own_iload (q := 90) A4 d31_88 rfl ?_
  refine own_icmpF (q := 93) A4 d31_90 (show (58 : Int32) = (58 : Int32) from rfl) ?_
  refine own_iconst (q := 94) A4 (1 : Int32) d31_93 rfl ?_
  refine own_goto (q := 98) A4 d31_94 ?_
  exact own_retN A4 hQ (t := .boolean) (by simp) d31_98 ⟨rfl, rfl⟩
theorem rm_ok3_22 (x t : Addr) (kt : ClassId) (c1 c2 d1 d2 : Int32) (O0 : Old Z n0 h0) (H : own_H Z a0 zc fm) (Ex : Exa Z h0 x "java/lang/String") (Cx : Fld Z h0 x "java/lang/String" "coder" "B" (.int 0)) (Vx : Fld Z h0 x "java/lang/String" "value" "[B" (.ref t)) (Kx : Arv Z h0 t kt .byte 6 [(.int c1.toInt8.toInt32), (.int c2.toInt8.toInt32), (.int (58 : Int32)), (.int (32 : Int32)), (.int d1.toInt8.toInt32), (.int d2.toInt8.toInt32)] (.int 0))  (hc10 : ¬ c1 < 0) (hc11 : ¬ (255 : Int32) < c1) (hnc1 : nar .char c1 = c1) (hc20 : ¬ c2 < 0) (hc21 : ¬ (255 : Int32) < c2) (hnc2 : nar .char c2 = c2) (hd10 : ¬ d1 < 0) (hd11 : ¬ (255 : Int32) < d1) (hnd1 : nar .char d1 = d1) (hd20 : ¬ d2 < 0) (hd21 : ¬ (255 : Int32) < d2) (hnd2 : nar .char d2 = d2):
  own_Met false l Z n0 [] [] ⟨"com/example/hifadhi/hifadhi/project/NotAnalysedMessagePinLaw", "ok", "(Ljava/lang/String;IICCICC)Z"⟩ method_4_code 11 (some .boolean) [] (own_R 4 0 0 53) #[(.ref x), (.int (3 : Int32)), (.int (2 : Int32)), (.int c1), (.int c2), (.int (2 : Int32)), (.int d1), (.int d2)] h0 (fun v h => v = some (.int 1) ∧ h0 = h) := by
  refine own_ent (a0 := a0) (nm := "ok") (Ls := #[.val (.ref x), .val (.int (3 : Int32)), .val (.int (2 : Int32)), .val (.int c1), .val (.int c2), .val (.int (2 : Int32)), .val (.int d1), .val (.int d2), .unset, .unset, .unset]) own_pn4 O0 EW.nil ?_
  intro p e _ m _ below _ _ T0 Q hQ A0
  refine own_iloadN (q := 1) A0 d31_0 rfl ?_
  refine own_iconst (q := 2) A0 (2 : Int32) d31_1 rfl ?_
  refine own_iadd (q := 3) A0 d31_2 ?_
  refine own_iload (q := 5) A0 d31_3 rfl ?_
  refine own_iadd (q := 6) A0 d31_5 ?_
  refine own_istore (q := 8) (L' := #[.val (.ref x), .val (.int (3 : Int32)), .val (.int (2 : Int32)), .val (.int c1), .val (.int c2), .val (.int (2 : Int32)), .val (.int d1), .val (.int d2), .val (.int (((2 : Int32) + (2 : Int32)) + (2 : Int32))), .unset, .unset]) A0 d31_6 rfl ?_
  refine own_iloadN (q := 9) A0 d31_8 rfl ?_
  refine own_iload (q := 11) A0 d31_9 rfl ?_
  refine own_icmpT (q := 16) A0 d31_11 (show (3 : Int32) < (((2 : Int32) + (2 : Int32)) + (2 : Int32)) from by decide) ?_
  refine own_iloadN (q := 17) A0 d31_16 rfl ?_
  refine own_iloadN (q := 18) A0 d31_17 rfl ?_
  refine own_icmpT (q := 36) A0 d31_18 (show ¬ (3 : Int32) < (2 : Int32) from by decide) ?_
  refine own_iloadN (q := 37) A0 d31_36 rfl ?_
  refine own_iloadN (q := 38) A0 d31_37 rfl ?_
  refine own_icmpT (q := 48) A0 d31_38 (show ¬ (3 : Int32) = (2 : Int32) from by decide) ?_
  refine own_iloadN (q := 49) A0 d31_48 rfl ?_
  refine own_iloadN (q := 50) A0 d31_49 rfl ?_
  refine own_iconst (q := 51) A0 (1 : Int32) d31_50 rfl ?_
  refine own_iadd (q := 52) A0 d31_51 ?_
  refine own_icmpF (q := 55) A0 d31_52 (show (3 : Int32) = ((2 : Int32) + (1 : Int32)) from by decide) ?_
  refine own_bipush (q := 57) A0 (32 : Int32) d31_55 rfl ?_
  refine own_istore (q := 59) (L' := #[.val (.ref x), .val (.int (3 : Int32)), .val (.int (2 : Int32)), .val (.int c1), .val (.int c2), .val (.int (2 : Int32)), .val (.int d1), .val (.int d2), .val (.int (((2 : Int32) + (2 : Int32)) + (2 : Int32))), .val (.int (32 : Int32)), .unset]) A0 d31_57 rfl ?_
  refine own_goto (q := 83) A0 d31_59 ?_
  refine own_aloadN (q := 84) A0 d31_83 rfl rfl ?_
  refine own_iloadN (q := 85) A0 d31_84 rfl ?_
  refine own_virtual (q := 88) (W := 0) (argsL := [(.int (3 : Int32))]) (rest := []) A0 (H.k 168 rfl) (H.k 169 rfl) (H.k 171 rfl) (H.k 170 rfl) (by decide) (own_payCh (cs1 := [c1, c2, (58 : Int32), (32 : Int32), d1, d2]) (i := 3) (kI := 4) (own_wCh H.w) (H.k 5 rfl) A0.old Ex Vx Cx Kx (own_cod [c1, c2, (58 : Int32), (32 : Int32), d1, d2] (n := 6) rfl (fun yy hy => ((show ∀ yy ∈ [c1, c2, (58 : Int32), (32 : Int32), d1, d2], ¬ yy < 0 ∧ ¬ (255 : Int32) < yy from (own_fc ⟨hc10, hc11⟩ (own_fc ⟨hc20, hc21⟩ (own_fc (by decide) (own_fc (by decide) (own_fc ⟨hd10, hd11⟩ (own_fc ⟨hd20, hd21⟩ (fun _ z => nomatch z)))))))) yy hy).2) rfl rfl) (own_b16 (own_fc ⟨hc10, hc11⟩ (own_fc ⟨hc20, hc21⟩ (own_fc (by decide) (own_fc (by decide) (own_fc ⟨hd10, hd11⟩ (own_fc ⟨hd20, hd21⟩ (fun _ z => nomatch z)))))))) (Nat.le_of_ble_eq_true rfl) H.SC H.hz H.SF H.rf (Nat.le_of_ble_eq_true rfl) rfl (by decide) (by decide)) own_nW (Nat.le_of_eq rfl) Ex own_pd22 rfl rfl rfl d31_85 (by decide) (by decide) ?_
  rintro v1 T2 h3 A4 ⟨rfl, rfl⟩
  show own_Run p e below Q m T2 88 #[.val (.ref x), .val (.int (3 : Int32)), .val (.int (2 : Int32)), .val (.int c1), .val (.int c2), .val (.int (2 : Int32)), .val (.int d1), .val (.int d2), .val (.int (((2 : Int32) + (2 : Int32)) + (2 : Int32))), .val (.int (32 : Int32)), .unset] [(.int (32 : Int32))]
  refine own_iload (q := 90) A4 d31_88 rfl ?_
  refine own_icmpF (q := 93) A4 d31_90 (show (32 : Int32) = (32 : Int32) from rfl) ?_
  refine own_iconst (q := 94) A4 (1 : Int32) d31_93 rfl ?_
  refine own_goto (q := 98) A4 d31_94 ?_
  exact own_retN A4 hQ (t := .boolean) (by simp) d31_98 ⟨rfl, rfl⟩
theorem rm_ok4_22 (x t : Addr) (kt : ClassId) (c1 c2 d1 d2 : Int32) (O0 : Old Z n0 h0) (H : own_H Z a0 zc fm) (Ex : Exa Z h0 x "java/lang/String") (Cx : Fld Z h0 x "java/lang/String" "coder" "B" (.int 0)) (Vx : Fld Z h0 x "java/lang/String" "value" "[B" (.ref t)) (Kx : Arv Z h0 t kt .byte 6 [(.int c1.toInt8.toInt32), (.int c2.toInt8.toInt32), (.int (58 : Int32)), (.int (32 : Int32)), (.int d1.toInt8.toInt32), (.int d2.toInt8.toInt32)] (.int 0))  (hc10 : ¬ c1 < 0) (hc11 : ¬ (255 : Int32) < c1) (hnc1 : nar .char c1 = c1) (hc20 : ¬ c2 < 0) (hc21 : ¬ (255 : Int32) < c2) (hnc2 : nar .char c2 = c2) (hd10 : ¬ d1 < 0) (hd11 : ¬ (255 : Int32) < d1) (hnd1 : nar .char d1 = d1) (hd20 : ¬ d2 < 0) (hd21 : ¬ (255 : Int32) < d2) (hnd2 : nar .char d2 = d2):
  own_Met false l Z n0 [] [] ⟨"com/example/hifadhi/hifadhi/project/NotAnalysedMessagePinLaw", "ok", "(Ljava/lang/String;IICCICC)Z"⟩ method_4_code 11 (some .boolean) [] (own_R 4 0 0 53) #[(.ref x), (.int (4 : Int32)), (.int (2 : Int32)), (.int c1), (.int c2), (.int (2 : Int32)), (.int d1), (.int d2)] h0 (fun v h => v = some (.int 1) ∧ h0 = h) := by
  refine own_ent (a0 := a0) (nm := "ok") (Ls := #[.val (.ref x), .val (.int (4 : Int32)), .val (.int (2 : Int32)), .val (.int c1), .val (.int c2), .val (.int (2 : Int32)), .val (.int d1), .val (.int d2), .unset, .unset, .unset]) own_pn4 O0 EW.nil ?_
  intro p e _ m _ below _ _ T0 Q hQ A0
  refine own_iloadN (q := 1) A0 d31_0 rfl ?_
  refine own_iconst (q := 2) A0 (2 : Int32) d31_1 rfl ?_
  refine own_iadd (q := 3) A0 d31_2 ?_
  refine own_iload (q := 5) A0 d31_3 rfl ?_
  refine own_iadd (q := 6) A0 d31_5 ?_
  refine own_istore (q := 8) (L' := #[.val (.ref x), .val (.int (4 : Int32)), .val (.int (2 : Int32)), .val (.int c1), .val (.int c2), .val (.int (2 : Int32)), .val (.int d1), .val (.int d2), .val (.int (((2 : Int32) + (2 : Int32)) + (2 : Int32))), .unset, .unset]) A0 d31_6 rfl ?_
  refine own_iloadN (q := 9) A0 d31_8 rfl ?_
  refine own_iload (q := 11) A0 d31_9 rfl ?_
  refine own_icmpT (q := 16) A0 d31_11 (show (4 : Int32) < (((2 : Int32) + (2 : Int32)) + (2 : Int32)) from by decide) ?_
  refine own_iloadN (q := 17) A0 d31_16 rfl ?_
  refine own_iloadN (q := 18) A0 d31_17 rfl ?_
  refine own_icmpT (q := 36) A0 d31_18 (show ¬ (4 : Int32) < (2 : Int32) from by decide) ?_
  refine own_iloadN (q := 37) A0 d31_36 rfl ?_
  refine own_iloadN (q := 38) A0 d31_37 rfl ?_
  refine own_icmpT (q := 48) A0 d31_38 (show ¬ (4 : Int32) = (2 : Int32) from by decide) ?_
  refine own_iloadN (q := 49) A0 d31_48 rfl ?_
  refine own_iloadN (q := 50) A0 d31_49 rfl ?_
  refine own_iconst (q := 51) A0 (1 : Int32) d31_50 rfl ?_
  refine own_iadd (q := 52) A0 d31_51 ?_
  refine own_icmpT (q := 62) A0 d31_52 (show ¬ (4 : Int32) = ((2 : Int32) + (1 : Int32)) from by decide) ?_
  refine own_iloadN (q := 63) A0 d31_62 rfl ?_
  refine own_iloadN (q := 64) A0 d31_63 rfl ?_
  refine own_isub (q := 65) A0 d31_64 ?_
  refine own_iconst (q := 66) A0 (2 : Int32) d31_65 rfl ?_
  refine own_isub (q := 67) A0 d31_66 ?_
  refine own_istore (q := 69) (L' := #[.val (.ref x), .val (.int (4 : Int32)), .val (.int (2 : Int32)), .val (.int c1), .val (.int c2), .val (.int (2 : Int32)), .val (.int d1), .val (.int d2), .val (.int (((2 : Int32) + (2 : Int32)) + (2 : Int32))), .unset, .val (.int (((4 : Int32) - (2 : Int32)) - (2 : Int32)))]) A0 d31_67 rfl ?_
  refine own_iload (q := 71) A0 d31_69 rfl ?_
  refine own_ifcF (q := 74) A0 d31_71 (show (((4 : Int32) - (2 : Int32)) - (2 : Int32)) = (0 : Int32) from by decide) ?_
  refine own_iload (q := 76) A0 d31_74 rfl ?_
  refine own_goto (q := 81) A0 d31_76 ?_
  refine own_istore (q := 83) (L' := #[.val (.ref x), .val (.int (4 : Int32)), .val (.int (2 : Int32)), .val (.int c1), .val (.int c2), .val (.int (2 : Int32)), .val (.int d1), .val (.int d2), .val (.int (((2 : Int32) + (2 : Int32)) + (2 : Int32))), .val (.int d1), .val (.int (((4 : Int32) - (2 : Int32)) - (2 : Int32)))]) A0 d31_81 rfl ?_
  refine own_aloadN (q := 84) A0 d31_83 rfl rfl ?_
  refine own_iloadN (q := 85) A0 d31_84 rfl ?_
  refine own_virtual (q := 88) (W := 0) (argsL := [(.int (4 : Int32))]) (rest := []) A0 (H.k 168 rfl) (H.k 169 rfl) (H.k 171 rfl) (H.k 170 rfl) (by decide) (own_payCh (cs1 := [c1, c2, (58 : Int32), (32 : Int32), d1, d2]) (i := 4) (kI := 4) (own_wCh H.w) (H.k 5 rfl) A0.old Ex Vx Cx Kx (own_cod [c1, c2, (58 : Int32), (32 : Int32), d1, d2] (n := 6) rfl (fun yy hy => ((show ∀ yy ∈ [c1, c2, (58 : Int32), (32 : Int32), d1, d2], ¬ yy < 0 ∧ ¬ (255 : Int32) < yy from (own_fc ⟨hc10, hc11⟩ (own_fc ⟨hc20, hc21⟩ (own_fc (by decide) (own_fc (by decide) (own_fc ⟨hd10, hd11⟩ (own_fc ⟨hd20, hd21⟩ (fun _ z => nomatch z)))))))) yy hy).2) rfl rfl) (own_b16 (own_fc ⟨hc10, hc11⟩ (own_fc ⟨hc20, hc21⟩ (own_fc (by decide) (own_fc (by decide) (own_fc ⟨hd10, hd11⟩ (own_fc ⟨hd20, hd21⟩ (fun _ z => nomatch z)))))))) (Nat.le_of_ble_eq_true rfl) H.SC H.hz H.SF H.rf (Nat.le_of_ble_eq_true rfl) rfl (by decide) (by decide)) own_nW (Nat.le_of_eq rfl) Ex own_pd22 rfl rfl rfl d31_85 (by decide) (by decide) ?_
  rintro v1 T2 h3 A4 ⟨rfl, rfl⟩
  show own_Run p e below Q m T2 88 #[.val (.ref x), .val (.int (4 : Int32)), .val (.int (2 : Int32)), .val (.int c1), .val (.int c2), .val (.int (2 : Int32)), .val (.int d1), .val (.int d2), .val (.int (((2 : Int32) + (2 : Int32)) + (2 : Int32))), .val (.int d1), .val (.int (((4 : Int32) - (2 : Int32)) - (2 : Int32)))] [(.int d1)]
  refine own_iload (q := 90) A4 d31_88 rfl ?_
  refine own_icmpF (q := 93) A4 d31_90 (show d1 = d1 from rfl) ?_
  refine own_iconst (q := 94) A4 (1 : Int32) d31_93 rfl ?_
  refine own_goto (q := 98) A4 d31_94 ?_
  exact own_retN A4 hQ (t := .boolean) (by simp) d31_98 ⟨rfl, rfl⟩
theorem rm_ok5_22 (x t : Addr) (kt : ClassId) (c1 c2 d1 d2 : Int32) (O0 : Old Z n0 h0) (H : own_H Z a0 zc fm) (Ex : Exa Z h0 x "java/lang/String") (Cx : Fld Z h0 x "java/lang/String" "coder" "B" (.int 0)) (Vx : Fld Z h0 x "java/lang/String" "value" "[B" (.ref t)) (Kx : Arv Z h0 t kt .byte 6 [(.int c1.toInt8.toInt32), (.int c2.toInt8.toInt32), (.int (58 : Int32)), (.int (32 : Int32)), (.int d1.toInt8.toInt32), (.int d2.toInt8.toInt32)] (.int 0))  (hc10 : ¬ c1 < 0) (hc11 : ¬ (255 : Int32) < c1) (hnc1 : nar .char c1 = c1) (hc20 : ¬ c2 < 0) (hc21 : ¬ (255 : Int32) < c2) (hnc2 : nar .char c2 = c2) (hd10 : ¬ d1 < 0) (hd11 : ¬ (255 : Int32) < d1) (hnd1 : nar .char d1 = d1) (hd20 : ¬ d2 < 0) (hd21 : ¬ (255 : Int32) < d2) (hnd2 : nar .char d2 = d2):
  own_Met false l Z n0 [] [] ⟨"com/example/hifadhi/hifadhi/project/NotAnalysedMessagePinLaw", "ok", "(Ljava/lang/String;IICCICC)Z"⟩ method_4_code 11 (some .boolean) [] (own_R 4 0 0 53) #[(.ref x), (.int (5 : Int32)), (.int (2 : Int32)), (.int c1), (.int c2), (.int (2 : Int32)), (.int d1), (.int d2)] h0 (fun v h => v = some (.int 1) ∧ h0 = h) := by
  refine own_ent (a0 := a0) (nm := "ok") (Ls := #[.val (.ref x), .val (.int (5 : Int32)), .val (.int (2 : Int32)), .val (.int c1), .val (.int c2), .val (.int (2 : Int32)), .val (.int d1), .val (.int d2), .unset, .unset, .unset]) own_pn4 O0 EW.nil ?_
  intro p e _ m _ below _ _ T0 Q hQ A0
  refine own_iloadN (q := 1) A0 d31_0 rfl ?_
  refine own_iconst (q := 2) A0 (2 : Int32) d31_1 rfl ?_
  refine own_iadd (q := 3) A0 d31_2 ?_
  refine own_iload (q := 5) A0 d31_3 rfl ?_
  refine own_iadd (q := 6) A0 d31_5 ?_
  refine own_istore (q := 8) (L' := #[.val (.ref x), .val (.int (5 : Int32)), .val (.int (2 : Int32)), .val (.int c1), .val (.int c2), .val (.int (2 : Int32)), .val (.int d1), .val (.int d2), .val (.int (((2 : Int32) + (2 : Int32)) + (2 : Int32))), .unset, .unset]) A0 d31_6 rfl ?_
  refine own_iloadN (q := 9) A0 d31_8 rfl ?_
  refine own_iload (q := 11) A0 d31_9 rfl ?_
  refine own_icmpT (q := 16) A0 d31_11 (show (5 : Int32) < (((2 : Int32) + (2 : Int32)) + (2 : Int32)) from by decide) ?_
  refine own_iloadN (q := 17) A0 d31_16 rfl ?_
  refine own_iloadN (q := 18) A0 d31_17 rfl ?_
  refine own_icmpT (q := 36) A0 d31_18 (show ¬ (5 : Int32) < (2 : Int32) from by decide) ?_
  refine own_iloadN (q := 37) A0 d31_36 rfl ?_
  refine own_iloadN (q := 38) A0 d31_37 rfl ?_
  refine own_icmpT (q := 48) A0 d31_38 (show ¬ (5 : Int32) = (2 : Int32) from by decide) ?_
  refine own_iloadN (q := 49) A0 d31_48 rfl ?_
  refine own_iloadN (q := 50) A0 d31_49 rfl ?_
  refine own_iconst (q := 51) A0 (1 : Int32) d31_50 rfl ?_
  refine own_iadd (q := 52) A0 d31_51 ?_
  refine own_icmpT (q := 62) A0 d31_52 (show ¬ (5 : Int32) = ((2 : Int32) + (1 : Int32)) from by decide) ?_
  refine own_iloadN (q := 63) A0 d31_62 rfl ?_
  refine own_iloadN (q := 64) A0 d31_63 rfl ?_
  refine own_isub (q := 65) A0 d31_64 ?_
  refine own_iconst (q := 66) A0 (2 : Int32) d31_65 rfl ?_
  refine own_isub (q := 67) A0 d31_66 ?_
  refine own_istore (q := 69) (L' := #[.val (.ref x), .val (.int (5 : Int32)), .val (.int (2 : Int32)), .val (.int c1), .val (.int c2), .val (.int (2 : Int32)), .val (.int d1), .val (.int d2), .val (.int (((2 : Int32) + (2 : Int32)) + (2 : Int32))), .unset, .val (.int (((5 : Int32) - (2 : Int32)) - (2 : Int32)))]) A0 d31_67 rfl ?_
  refine own_iload (q := 71) A0 d31_69 rfl ?_
  refine own_ifcT (q := 79) A0 d31_71 (show ¬ (((5 : Int32) - (2 : Int32)) - (2 : Int32)) = (0 : Int32) from by decide) ?_
  refine own_iload (q := 81) A0 d31_79 rfl ?_
  refine own_istore (q := 83) (L' := #[.val (.ref x), .val (.int (5 : Int32)), .val (.int (2 : Int32)), .val (.int c1), .val (.int c2), .val (.int (2 : Int32)), .val (.int d1), .val (.int d2), .val (.int (((2 : Int32) + (2 : Int32)) + (2 : Int32))), .val (.int d2), .val (.int (((5 : Int32) - (2 : Int32)) - (2 : Int32)))]) A0 d31_81 rfl ?_
  refine own_aloadN (q := 84) A0 d31_83 rfl rfl ?_
  refine own_iloadN (q := 85) A0 d31_84 rfl ?_
  refine own_virtual (q := 88) (W := 0) (argsL := [(.int (5 : Int32))]) (rest := []) A0 (H.k 168 rfl) (H.k 169 rfl) (H.k 171 rfl) (H.k 170 rfl) (by decide) (own_payCh (cs1 := [c1, c2, (58 : Int32), (32 : Int32), d1, d2]) (i := 5) (kI := 4) (own_wCh H.w) (H.k 5 rfl) A0.old Ex Vx Cx Kx (own_cod [c1, c2, (58 : Int32), (32 : Int32), d1, d2] (n := 6) rfl (fun yy hy => ((show ∀ yy ∈ [c1, c2, (58 : Int32), (32 : Int32), d1, d2], ¬ yy < 0 ∧ ¬ (255 : Int32) < yy from (own_fc ⟨hc10, hc11⟩ (own_fc ⟨hc20, hc21⟩ (own_fc (by decide) (own_fc (by decide) (own_fc ⟨hd10, hd11⟩ (own_fc ⟨hd20, hd21⟩ (fun _ z => nomatch z)))))))) yy hy).2) rfl rfl) (own_b16 (own_fc ⟨hc10, hc11⟩ (own_fc ⟨hc20, hc21⟩ (own_fc (by decide) (own_fc (by decide) (own_fc ⟨hd10, hd11⟩ (own_fc ⟨hd20, hd21⟩ (fun _ z => nomatch z)))))))) (Nat.le_of_ble_eq_true rfl) H.SC H.hz H.SF H.rf (Nat.le_of_ble_eq_true rfl) rfl (by decide) (by decide)) own_nW (Nat.le_of_eq rfl) Ex own_pd22 rfl rfl rfl d31_85 (by decide) (by decide) ?_
  rintro v1 T2 h3 A4 ⟨rfl, rfl⟩
  show own_Run p e below Q m T2 88 #[.val (.ref x), .val (.int (5 : Int32)), .val (.int (2 : Int32)), .val (.int c1), .val (.int c2), .val (.int (2 : Int32)), .val (.int d1), .val (.int d2), .val (.int (((2 : Int32) + (2 : Int32)) + (2 : Int32))), .val (.int d2), .val (.int (((5 : Int32) - (2 : Int32)) - (2 : Int32)))] [(.int d2)]
  refine own_iload (q := 90) A4 d31_88 rfl ?_
  refine own_icmpF (q := 93) A4 d31_90 (show d2 = d2 from rfl) ?_
  refine own_iconst (q := 94) A4 (1 : Int32) d31_93 rfl ?_
  refine own_goto (q := 98) A4 d31_94 ?_
  exact own_retN A4 hQ (t := .boolean) (by simp) d31_98 ⟨rfl, rfl⟩
theorem rm_lawP (ws : List Jvm.Cond) (i0 i1 i2 : Int32) (O0 : Old Z n0 h0) (hEL : EW Z a0 consts_1) (H : own_H Z a0 zc fm) :
  own_Met true l Z n0 consts_1 [] x code maxLocals ret ws room_1 #[(.int i0), (.int i1), (.int i2)] h0 (fun v _ => v = some (.int 1)) := by
  refine own_ent (a0 := a0) (nm := "law") (Ls := #[.val (.int i0), .val (.int i1), .val (.int i2), .unset, .unset, .unset, .unset, .unset, .unset, .unset, .unset, .unset, .unset]) own_pn4 O0 hEL ?_
  intro p e _ m _ below _ _ T0 Q hQ A0
  refine own_iloadN (q := 1) A0 at_0 rfl ?_
  refine own_sipush (q := 4) A0 (255 : Int32) at_1 rfl ?_
  refine own_iand (q := 5) A0 at_4 ?_
  refine own_iconst (q := 6) A0 (3 : Int32) at_5 rfl ?_
  refine own_irem (q := 7) A0 at_6 (by decide) ?_
  rcases own_rem3 i2 with qk | qk | qk
  · rw [qk]
    refine own_istoreN (q := 8) (L' := #[.val (.int i0), .val (.int i1), .val (.int i2), .val (.int (0 : Int32)), .unset, .unset, .unset, .unset, .unset, .unset, .unset, .unset, .unset]) A0 at_7 rfl ?_
    refine own_iloadN (q := 9) A0 at_8 rfl ?_
    refine own_bipush (q := 11) A0 (8 : Int32) at_9 rfl ?_
    refine own_iushr (q := 12) A0 at_11 ?_
    refine own_sipush (q := 15) A0 (255 : Int32) at_12 rfl ?_
    refine own_iand (q := 16) A0 at_15 ?_
    refine own_iconst (q := 17) A0 (3 : Int32) at_16 rfl ?_
    refine own_irem (q := 18) A0 at_17 (by decide) ?_
    rcases own_rem3 ((i2.toUInt32 >>> ((8 : Int32) &&& 31).toUInt32).toInt32) with qk | qk | qk
    · rw [qk]
      refine own_istore (q := 20) (L' := #[.val (.int i0), .val (.int i1), .val (.int i2), .val (.int (0 : Int32)), .val (.int (0 : Int32)), .unset, .unset, .unset, .unset, .unset, .unset, .unset, .unset]) A0 at_18 rfl ?_
      refine own_iloadN (q := 21) A0 at_20 rfl ?_
      refine own_sipush (q := 24) A0 (255 : Int32) at_21 rfl ?_
      refine own_iand (q := 25) A0 at_24 ?_
      refine own_i2c (q := 26) A0 at_25 ?_
      obtain ⟨c1, ec1, hc10, hc11, hnc1⟩ := own_byte i0
      rw [ec1]
      refine own_istore (q := 28) (L' := #[.val (.int i0), .val (.int i1), .val (.int i2), .val (.int (0 : Int32)), .val (.int (0 : Int32)), .val (.int c1), .unset, .unset, .unset, .unset, .unset, .unset, .unset]) A0 at_26 rfl ?_
      refine own_iloadN (q := 29) A0 at_28 rfl ?_
      refine own_bipush (q := 31) A0 (8 : Int32) at_29 rfl ?_
      refine own_iushr (q := 32) A0 at_31 ?_
      refine own_sipush (q := 35) A0 (255 : Int32) at_32 rfl ?_
      refine own_iand (q := 36) A0 at_35 ?_
      refine own_i2c (q := 37) A0 at_36 ?_
      obtain ⟨c2, ec2, hc20, hc21, hnc2⟩ := own_byte ((i0.toUInt32 >>> ((8 : Int32) &&& 31).toUInt32).toInt32)
      rw [ec2]
      refine own_istore (q := 39) (L' := #[.val (.int i0), .val (.int i1), .val (.int i2), .val (.int (0 : Int32)), .val (.int (0 : Int32)), .val (.int c1), .val (.int c2), .unset, .unset, .unset, .unset, .unset, .unset]) A0 at_37 rfl ?_
      refine own_iloadN (q := 40) A0 at_39 rfl ?_
      refine own_sipush (q := 43) A0 (255 : Int32) at_40 rfl ?_
      refine own_iand (q := 44) A0 at_43 ?_
      refine own_i2c (q := 45) A0 at_44 ?_
      obtain ⟨d1, ed1, hd10, hd11, hnd1⟩ := own_byte i1
      rw [ed1]
      refine own_istore (q := 47) (L' := #[.val (.int i0), .val (.int i1), .val (.int i2), .val (.int (0 : Int32)), .val (.int (0 : Int32)), .val (.int c1), .val (.int c2), .val (.int d1), .unset, .unset, .unset, .unset, .unset]) A0 at_45 rfl ?_
      refine own_iloadN (q := 48) A0 at_47 rfl ?_
      refine own_bipush (q := 50) A0 (8 : Int32) at_48 rfl ?_
      refine own_iushr (q := 51) A0 at_50 ?_
      refine own_sipush (q := 54) A0 (255 : Int32) at_51 rfl ?_
      refine own_iand (q := 55) A0 at_54 ?_
      refine own_i2c (q := 56) A0 at_55 ?_
      obtain ⟨d2, ed2, hd20, hd21, hnd2⟩ := own_byte ((i1.toUInt32 >>> ((8 : Int32) &&& 31).toUInt32).toInt32)
      rw [ed2]
      refine own_istore (q := 58) (L' := #[.val (.int i0), .val (.int i1), .val (.int i2), .val (.int (0 : Int32)), .val (.int (0 : Int32)), .val (.int c1), .val (.int c2), .val (.int d1), .val (.int d2), .unset, .unset, .unset, .unset]) A0 at_56 rfl ?_
      refine own_iloadN (q := 59) A0 at_58 rfl ?_
      refine own_iload (q := 61) A0 at_59 rfl ?_
      refine own_iload (q := 63) A0 at_61 rfl ?_
      refine own_staticW (q := 66) (W := 0) (argsL := [(.int (0 : Int32)), (.int c1), (.int c2)]) (rest := []) A0 (H.k 0 rfl) (H.k 1 rfl) (H.k 2 rfl) (H.k 3 rfl) (by decide) (own_payW (rm_mk0 c1 c2 A0.old hEL H hc10 hc11 hnc1 hc20 hc21 hnc2) (H.k 3 rfl) (H.k 2 rfl) (by decide) (by decide)) own_nW (Nat.le_of_eq rfl) own_pd0 rfl rfl rfl at_63 (by decide) (by decide) ?_
      rintro v9 T10 h11 A12 ⟨b1, t2, k3, rfl, K4, E5, C6, V7, K8⟩
      show own_Run p e below Q m T10 66 #[.val (.int i0), .val (.int i1), .val (.int i2), .val (.int (0 : Int32)), .val (.int (0 : Int32)), .val (.int c1), .val (.int c2), .val (.int d1), .val (.int d2), .unset, .unset, .unset, .unset] [(.ref b1)]
      refine own_astore (q := 68) (L' := #[.val (.int i0), .val (.int i1), .val (.int i2), .val (.int (0 : Int32)), .val (.int (0 : Int32)), .val (.int c1), .val (.int c2), .val (.int d1), .val (.int d2), .val (.ref b1), .unset, .unset, .unset]) A12 at_66 rfl rfl ?_
      refine own_iload (q := 70) A12 at_68 rfl ?_
      refine own_iload (q := 72) A12 at_70 rfl ?_
      refine own_iload (q := 74) A12 at_72 rfl ?_
      refine own_staticW (q := 77) (W := 0) (argsL := [(.int (0 : Int32)), (.int d1), (.int d2)]) (rest := []) A12 (H.k 0 rfl) (H.k 1 rfl) (H.k 2 rfl) (H.k 3 rfl) (by decide) (own_payW (rm_mk0 d1 d2 A12.old hEL H hd10 hd11 hnd1 hd20 hd21 hnd2) (H.k 3 rfl) (H.k 2 rfl) (by decide) (by decide)) own_nW (Nat.le_of_eq rfl) own_pd0 rfl rfl rfl at_74 (by decide) (by decide) ?_
      rintro v21 T22 h23 A24 ⟨b13, t14, k15, rfl, K16, E17, C18, V19, K20⟩
      show own_Run p e below Q m T22 77 #[.val (.int i0), .val (.int i1), .val (.int i2), .val (.int (0 : Int32)), .val (.int (0 : Int32)), .val (.int c1), .val (.int c2), .val (.int d1), .val (.int d2), .val (.ref b1), .unset, .unset, .unset] [(.ref b13)]
      have f25 := E5.keep K16
      have f26 := C6.keep K16 nin0
      have f27 := V7.keep K16 nin0
      have f28 := K8.keep K16 nin0
      refine own_astore (q := 79) (L' := #[.val (.int i0), .val (.int i1), .val (.int i2), .val (.int (0 : Int32)), .val (.int (0 : Int32)), .val (.int c1), .val (.int c2), .val (.int d1), .val (.int d2), .val (.ref b1), .val (.ref b13), .unset, .unset]) A24 at_77 rfl rfl ?_
      refine own_newO (q := 82) A24 (H.k 37 rfl) (H.k 38 rfl) (H.k 39 rfl) at_79 (by decide) (by decide) ?_
      intro T29 h30 a31 g32 g33 A34 E35 X36 D37
      have z38 : b1 ≠ a31 := Nat.ne_of_lt (Nat.lt_of_lt_of_le f25.lt (Nat.le_of_eq g32))
      have z39 : t2 ≠ a31 := Nat.ne_of_lt (Nat.lt_of_lt_of_le f28.lt (Nat.le_of_eq g32))
      have z40 : b13 ≠ a31 := Nat.ne_of_lt (Nat.lt_of_lt_of_le E17.lt (Nat.le_of_eq g32))
      have z41 : t14 ≠ a31 := Nat.ne_of_lt (Nat.lt_of_lt_of_le K20.lt (Nat.le_of_eq g32))
      have f42 := f25.ext E35
      have f43 := f26.ext E35
      have f44 := f27.ext E35
      have f45 := f28.ext E35
      have f46 := E17.ext E35
      have f47 := C18.ext E35
      have f48 := V19.ext E35
      have f49 := K20.ext E35
      have f50 : Fld Z h30 a31 "com/example/hifadhi/hifadhi/project/NotAnalysed" "what" "Ljava/lang/String;" .null := D37 (Or.inr (H.k 45 rfl)) (ty := (.object "java/lang/String")) (by decide)
      have f51 : Fld Z h30 a31 "com/example/hifadhi/hifadhi/project/NotAnalysed" "reason" "Ljava/lang/String;" .null := D37 (Or.inr (H.k 47 rfl)) (ty := (.object "java/lang/String")) (by decide)
      refine own_dup (q := 83) A34 at_82 rfl ?_
      refine own_aload (q := 85) A34 at_83 rfl rfl ?_
      refine own_aload (q := 87) A34 at_85 rfl rfl ?_
      refine own_special (q := 90) (W := 1) (argsL := [(.ref b1), (.ref b13)]) (rest := [(.ref a31)]) A34 rfl (H.k 40 rfl) (H.k 41 rfl) (H.k 42 rfl) (by decide) (own_payN (rm_nai a31 b1 b13 A34.old H X36 f50 f51 g33) (fun _ _ q => q.2.1) (H.k 42 rfl) (H.k 39 rfl) (by decide) (by decide)) (by simp) (Nat.le_of_eq rfl) own_pd4 rfl rfl rfl at_87 (by decide) (by decide) ?_
      rintro v56 T57 h58 A59 ⟨rfl, K52, E53, F54, F55⟩
      show own_Run p e below Q m T57 90 #[.val (.int i0), .val (.int i1), .val (.int i2), .val (.int (0 : Int32)), .val (.int (0 : Int32)), .val (.int c1), .val (.int c2), .val (.int d1), .val (.int d2), .val (.ref b1), .val (.ref b13), .unset, .unset] [(.ref a31)]
      have f60 := f42.keep K52
      have f61 := f43.keep K52 (ninS z38 nin0)
      have f62 := f44.keep K52 (ninS z38 nin0)
      have f63 := f45.keep K52 (ninS z39 nin0)
      have f64 := f46.keep K52
      have f65 := f47.keep K52 (ninS z40 nin0)
      have f66 := f48.keep K52 (ninS z40 nin0)
      have f67 := f49.keep K52 (ninS z41 nin0)
      refine own_virtualW (q := 93) (W := 0) (argsL := []) (rest := []) A59 (H.k 48 rfl) (H.k 49 rfl) (H.k 51 rfl) (H.k 50 rfl) (by decide) (own_payW (rm_msg00 a31 b1 t2 b13 t14 k3 k15  A59.old hEL H E53 F54 F55 f60 f61 f62 f63 f64 f65 f66 f67) (H.k 52 rfl) (H.k 39 rfl) (by decide) (by decide)) own_nW (Nat.le_of_eq rfl) E53 own_pd5 rfl rfl rfl at_90 (by decide) (by decide) ?_
      rintro v75 T76 h77 A78 ⟨b68, t69, k70, rfl, E71, C72, V73, K74⟩
      show own_Run p e below Q m T76 93 #[.val (.int i0), .val (.int i1), .val (.int i2), .val (.int (0 : Int32)), .val (.int (0 : Int32)), .val (.int c1), .val (.int c2), .val (.int d1), .val (.int d2), .val (.ref b1), .val (.ref b13), .unset, .unset] [(.ref b68)]
      refine own_astore (q := 95) (L' := #[.val (.int i0), .val (.int i1), .val (.int i2), .val (.int (0 : Int32)), .val (.int (0 : Int32)), .val (.int c1), .val (.int c2), .val (.int d1), .val (.int d2), .val (.ref b1), .val (.ref b13), .val (.ref b68), .unset]) A78 at_93 rfl rfl ?_
      refine own_iloadN (q := 96) A78 at_95 rfl ?_
      refine own_iconst (q := 97) A78 (2 : Int32) at_96 rfl ?_
      refine own_iadd (q := 98) A78 at_97 ?_
      refine own_iload (q := 100) A78 at_98 rfl ?_
      refine own_iadd (q := 101) A78 at_100 ?_
      refine own_istore (q := 103) (L' := #[.val (.int i0), .val (.int i1), .val (.int i2), .val (.int (0 : Int32)), .val (.int (0 : Int32)), .val (.int c1), .val (.int c2), .val (.int d1), .val (.int d2), .val (.ref b1), .val (.ref b13), .val (.ref b68), .val (.int (((0 : Int32) + (2 : Int32)) + (0 : Int32)))]) A78 at_101 rfl ?_
      refine own_aload (q := 105) A78 at_103 rfl rfl ?_
      refine own_ifnullF (q := 108) A78 at_105 ?_
      refine own_aload (q := 110) A78 at_108 rfl rfl ?_
      refine own_virtual (q := 113) (W := 0) (argsL := []) (rest := []) A78 (H.k 164 rfl) (H.k 82 rfl) (H.k 84 rfl) (H.k 83 rfl) (by decide) (own_payLen (cs1 := [(58 : Int32), (32 : Int32)]) (kI := 4) (own_wLen H.w) (H.k 5 rfl) A78.old E71 V73 C72 K74 (own_cod [(58 : Int32), (32 : Int32)] (n := 2) rfl (fun yy hy => ((show ∀ yy ∈ [(58 : Int32), (32 : Int32)], ¬ yy < 0 ∧ ¬ (255 : Int32) < yy from (own_fc (by decide) (own_fc (by decide) (fun _ z => nomatch z)))) yy hy).2) rfl rfl) (own_b16 (own_fc (by decide) (own_fc (by decide) (fun _ z => nomatch z)))) (Nat.le_of_ble_eq_true rfl) H.SC H.hz (by decide) (by decide)) own_nW (Nat.le_of_eq rfl) E71 own_pd10 rfl rfl rfl at_110 (by decide) (by decide) ?_
      rintro v79 T80 h81 A82 ⟨rfl, rfl⟩
      show own_Run p e below Q m T80 113 #[.val (.int i0), .val (.int i1), .val (.int i2), .val (.int (0 : Int32)), .val (.int (0 : Int32)), .val (.int c1), .val (.int c2), .val (.int d1), .val (.int d2), .val (.ref b1), .val (.ref b13), .val (.ref b68), .val (.int (((0 : Int32) + (2 : Int32)) + (0 : Int32)))] [(.int (2 : Int32))]
      refine own_iload (q := 115) A82 at_113 rfl ?_
      refine own_icmpT (q := 120) A82 at_115 (show (2 : Int32) = (((0 : Int32) + (2 : Int32)) + (0 : Int32)) from by decide) ?_
      refine own_aload (q := 122) A82 at_120 rfl rfl ?_
      refine own_iconst (q := 123) A82 (0 : Int32) at_122 rfl ?_
      refine own_iloadN (q := 124) A82 at_123 rfl ?_
      refine own_iload (q := 126) A82 at_124 rfl ?_
      refine own_iload (q := 128) A82 at_126 rfl ?_
      refine own_iload (q := 130) A82 at_128 rfl ?_
      refine own_iload (q := 132) A82 at_130 rfl ?_
      refine own_iload (q := 134) A82 at_132 rfl ?_
      refine own_static (q := 137) (W := 0) (argsL := [(.ref b68), (.int (0 : Int32)), (.int (0 : Int32)), (.int c1), (.int c2), (.int (0 : Int32)), (.int d1), (.int d2)]) (rest := []) A82 (H.k 165 rfl) (H.k 166 rfl) (H.k 2 rfl) (H.k 167 rfl) (by decide) (own_payN (rm_ok0_00 b68 t69 k70 c1 c2 d1 d2 A82.old H E71 C72 V73 K74 hc10 hc11 hnc1 hc20 hc21 hnc2 hd10 hd11 hnd1 hd20 hd21 hnd2) (fun _ _ q => own_keepE q.2) (H.k 167 rfl) (H.k 2 rfl) (by decide) (by decide)) own_nW (Nat.le_of_eq rfl) own_pd1 rfl rfl rfl at_134 (by decide) (by decide) ?_
      rintro v83 T84 h85 A86 ⟨rfl, rfl⟩
      show own_Run p e below Q m T84 137 #[.val (.int i0), .val (.int i1), .val (.int i2), .val (.int (0 : Int32)), .val (.int (0 : Int32)), .val (.int c1), .val (.int c2), .val (.int d1), .val (.int d2), .val (.ref b1), .val (.ref b13), .val (.ref b68), .val (.int (((0 : Int32) + (2 : Int32)) + (0 : Int32)))] [(.int (1 : Int32))]
      refine own_ifcF (q := 140) A86 at_137 (show ¬ (1 : Int32) = (0 : Int32) from by decide) ?_
      refine own_aload (q := 142) A86 at_140 rfl rfl ?_
      refine own_iconst (q := 143) A86 (1 : Int32) at_142 rfl ?_
      refine own_iloadN (q := 144) A86 at_143 rfl ?_
      refine own_iload (q := 146) A86 at_144 rfl ?_
      refine own_iload (q := 148) A86 at_146 rfl ?_
      refine own_iload (q := 150) A86 at_148 rfl ?_
      refine own_iload (q := 152) A86 at_150 rfl ?_
      refine own_iload (q := 154) A86 at_152 rfl ?_
      refine own_static (q := 157) (W := 0) (argsL := [(.ref b68), (.int (1 : Int32)), (.int (0 : Int32)), (.int c1), (.int c2), (.int (0 : Int32)), (.int d1), (.int d2)]) (rest := []) A86 (H.k 165 rfl) (H.k 166 rfl) (H.k 2 rfl) (H.k 167 rfl) (by decide) (own_payN (rm_ok1_00 b68 t69 k70 c1 c2 d1 d2 A86.old H E71 C72 V73 K74 hc10 hc11 hnc1 hc20 hc21 hnc2 hd10 hd11 hnd1 hd20 hd21 hnd2) (fun _ _ q => own_keepE q.2) (H.k 167 rfl) (H.k 2 rfl) (by decide) (by decide)) own_nW (Nat.le_of_eq rfl) own_pd1 rfl rfl rfl at_154 (by decide) (by decide) ?_
      rintro v87 T88 h89 A90 ⟨rfl, rfl⟩
      show own_Run p e below Q m T88 157 #[.val (.int i0), .val (.int i1), .val (.int i2), .val (.int (0 : Int32)), .val (.int (0 : Int32)), .val (.int c1), .val (.int c2), .val (.int d1), .val (.int d2), .val (.ref b1), .val (.ref b13), .val (.ref b68), .val (.int (((0 : Int32) + (2 : Int32)) + (0 : Int32)))] [(.int (1 : Int32))]
      refine own_ifcF (q := 160) A90 at_157 (show ¬ (1 : Int32) = (0 : Int32) from by decide) ?_
      refine own_aload (q := 162) A90 at_160 rfl rfl ?_
      refine own_iconst (q := 163) A90 (2 : Int32) at_162 rfl ?_
      refine own_iloadN (q := 164) A90 at_163 rfl ?_
      refine own_iload (q := 166) A90 at_164 rfl ?_
      refine own_iload (q := 168) A90 at_166 rfl ?_
      refine own_iload (q := 170) A90 at_168 rfl ?_
      refine own_iload (q := 172) A90 at_170 rfl ?_
      refine own_iload (q := 174) A90 at_172 rfl ?_
      refine own_static (q := 177) (W := 0) (argsL := [(.ref b68), (.int (2 : Int32)), (.int (0 : Int32)), (.int c1), (.int c2), (.int (0 : Int32)), (.int d1), (.int d2)]) (rest := []) A90 (H.k 165 rfl) (H.k 166 rfl) (H.k 2 rfl) (H.k 167 rfl) (by decide) (own_payN (rm_ok2_00 b68 t69 k70 c1 c2 d1 d2 A90.old H E71 C72 V73 K74 hc10 hc11 hnc1 hc20 hc21 hnc2 hd10 hd11 hnd1 hd20 hd21 hnd2) (fun _ _ q => own_keepE q.2) (H.k 167 rfl) (H.k 2 rfl) (by decide) (by decide)) own_nW (Nat.le_of_eq rfl) own_pd1 rfl rfl rfl at_174 (by decide) (by decide) ?_
      rintro v91 T92 h93 A94 ⟨rfl, rfl⟩
      show own_Run p e below Q m T92 177 #[.val (.int i0), .val (.int i1), .val (.int i2), .val (.int (0 : Int32)), .val (.int (0 : Int32)), .val (.int c1), .val (.int c2), .val (.int d1), .val (.int d2), .val (.ref b1), .val (.ref b13), .val (.ref b68), .val (.int (((0 : Int32) + (2 : Int32)) + (0 : Int32)))] [(.int (1 : Int32))]
      refine own_ifcF (q := 180) A94 at_177 (show ¬ (1 : Int32) = (0 : Int32) from by decide) ?_
      refine own_aload (q := 182) A94 at_180 rfl rfl ?_
      refine own_iconst (q := 183) A94 (3 : Int32) at_182 rfl ?_
      refine own_iloadN (q := 184) A94 at_183 rfl ?_
      refine own_iload (q := 186) A94 at_184 rfl ?_
      refine own_iload (q := 188) A94 at_186 rfl ?_
      refine own_iload (q := 190) A94 at_188 rfl ?_
      refine own_iload (q := 192) A94 at_190 rfl ?_
      refine own_iload (q := 194) A94 at_192 rfl ?_
      refine own_static (q := 197) (W := 0) (argsL := [(.ref b68), (.int (3 : Int32)), (.int (0 : Int32)), (.int c1), (.int c2), (.int (0 : Int32)), (.int d1), (.int d2)]) (rest := []) A94 (H.k 165 rfl) (H.k 166 rfl) (H.k 2 rfl) (H.k 167 rfl) (by decide) (own_payN (rm_ok3_00 b68 t69 k70 c1 c2 d1 d2 A94.old H E71 C72 V73 K74 hc10 hc11 hnc1 hc20 hc21 hnc2 hd10 hd11 hnd1 hd20 hd21 hnd2) (fun _ _ q => own_keepE q.2) (H.k 167 rfl) (H.k 2 rfl) (by decide) (by decide)) own_nW (Nat.le_of_eq rfl) own_pd1 rfl rfl rfl at_194 (by decide) (by decide) ?_
      rintro v95 T96 h97 A98 ⟨rfl, rfl⟩
      show own_Run p e below Q m T96 197 #[.val (.int i0), .val (.int i1), .val (.int i2), .val (.int (0 : Int32)), .val (.int (0 : Int32)), .val (.int c1), .val (.int c2), .val (.int d1), .val (.int d2), .val (.ref b1), .val (.ref b13), .val (.ref b68), .val (.int (((0 : Int32) + (2 : Int32)) + (0 : Int32)))] [(.int (1 : Int32))]
      refine own_ifcF (q := 200) A98 at_197 (show ¬ (1 : Int32) = (0 : Int32) from by decide) ?_
      refine own_aload (q := 202) A98 at_200 rfl rfl ?_
      refine own_iconst (q := 203) A98 (4 : Int32) at_202 rfl ?_
      refine own_iloadN (q := 204) A98 at_203 rfl ?_
      refine own_iload (q := 206) A98 at_204 rfl ?_
      refine own_iload (q := 208) A98 at_206 rfl ?_
      refine own_iload (q := 210) A98 at_208 rfl ?_
      refine own_iload (q := 212) A98 at_210 rfl ?_
      refine own_iload (q := 214) A98 at_212 rfl ?_
      refine own_static (q := 217) (W := 0) (argsL := [(.ref b68), (.int (4 : Int32)), (.int (0 : Int32)), (.int c1), (.int c2), (.int (0 : Int32)), (.int d1), (.int d2)]) (rest := []) A98 (H.k 165 rfl) (H.k 166 rfl) (H.k 2 rfl) (H.k 167 rfl) (by decide) (own_payN (rm_ok4_00 b68 t69 k70 c1 c2 d1 d2 A98.old H E71 C72 V73 K74 hc10 hc11 hnc1 hc20 hc21 hnc2 hd10 hd11 hnd1 hd20 hd21 hnd2) (fun _ _ q => own_keepE q.2) (H.k 167 rfl) (H.k 2 rfl) (by decide) (by decide)) own_nW (Nat.le_of_eq rfl) own_pd1 rfl rfl rfl at_214 (by decide) (by decide) ?_
      rintro v99 T100 h101 A102 ⟨rfl, rfl⟩
      show own_Run p e below Q m T100 217 #[.val (.int i0), .val (.int i1), .val (.int i2), .val (.int (0 : Int32)), .val (.int (0 : Int32)), .val (.int c1), .val (.int c2), .val (.int d1), .val (.int d2), .val (.ref b1), .val (.ref b13), .val (.ref b68), .val (.int (((0 : Int32) + (2 : Int32)) + (0 : Int32)))] [(.int (1 : Int32))]
      refine own_ifcF (q := 220) A102 at_217 (show ¬ (1 : Int32) = (0 : Int32) from by decide) ?_
      refine own_aload (q := 222) A102 at_220 rfl rfl ?_
      refine own_iconst (q := 223) A102 (5 : Int32) at_222 rfl ?_
      refine own_iloadN (q := 224) A102 at_223 rfl ?_
      refine own_iload (q := 226) A102 at_224 rfl ?_
      refine own_iload (q := 228) A102 at_226 rfl ?_
      refine own_iload (q := 230) A102 at_228 rfl ?_
      refine own_iload (q := 232) A102 at_230 rfl ?_
      refine own_iload (q := 234) A102 at_232 rfl ?_
      refine own_static (q := 237) (W := 0) (argsL := [(.ref b68), (.int (5 : Int32)), (.int (0 : Int32)), (.int c1), (.int c2), (.int (0 : Int32)), (.int d1), (.int d2)]) (rest := []) A102 (H.k 165 rfl) (H.k 166 rfl) (H.k 2 rfl) (H.k 167 rfl) (by decide) (own_payN (rm_ok5_00 b68 t69 k70 c1 c2 d1 d2 A102.old H E71 C72 V73 K74 hc10 hc11 hnc1 hc20 hc21 hnc2 hd10 hd11 hnd1 hd20 hd21 hnd2) (fun _ _ q => own_keepE q.2) (H.k 167 rfl) (H.k 2 rfl) (by decide) (by decide)) own_nW (Nat.le_of_eq rfl) own_pd1 rfl rfl rfl at_234 (by decide) (by decide) ?_
      rintro v103 T104 h105 A106 ⟨rfl, rfl⟩
      show own_Run p e below Q m T104 237 #[.val (.int i0), .val (.int i1), .val (.int i2), .val (.int (0 : Int32)), .val (.int (0 : Int32)), .val (.int c1), .val (.int c2), .val (.int d1), .val (.int d2), .val (.ref b1), .val (.ref b13), .val (.ref b68), .val (.int (((0 : Int32) + (2 : Int32)) + (0 : Int32)))] [(.int (1 : Int32))]
      refine own_ifcF (q := 240) A106 at_237 (show ¬ (1 : Int32) = (0 : Int32) from by decide) ?_
      refine own_iconst (q := 241) A106 (1 : Int32) at_240 rfl ?_
      refine own_goto (q := 245) A106 at_241 ?_
      exact own_retN A106 hQ (t := .boolean) (by simp) at_245 rfl
    · rw [qk]
      refine own_istore (q := 20) (L' := #[.val (.int i0), .val (.int i1), .val (.int i2), .val (.int (0 : Int32)), .val (.int (1 : Int32)), .unset, .unset, .unset, .unset, .unset, .unset, .unset, .unset]) A0 at_18 rfl ?_
      refine own_iloadN (q := 21) A0 at_20 rfl ?_
      refine own_sipush (q := 24) A0 (255 : Int32) at_21 rfl ?_
      refine own_iand (q := 25) A0 at_24 ?_
      refine own_i2c (q := 26) A0 at_25 ?_
      obtain ⟨c1, ec1, hc10, hc11, hnc1⟩ := own_byte i0
      rw [ec1]
      refine own_istore (q := 28) (L' := #[.val (.int i0), .val (.int i1), .val (.int i2), .val (.int (0 : Int32)), .val (.int (1 : Int32)), .val (.int c1), .unset, .unset, .unset, .unset, .unset, .unset, .unset]) A0 at_26 rfl ?_
      refine own_iloadN (q := 29) A0 at_28 rfl ?_
      refine own_bipush (q := 31) A0 (8 : Int32) at_29 rfl ?_
      refine own_iushr (q := 32) A0 at_31 ?_
      refine own_sipush (q := 35) A0 (255 : Int32) at_32 rfl ?_
      refine own_iand (q := 36) A0 at_35 ?_
      refine own_i2c (q := 37) A0 at_36 ?_
      obtain ⟨c2, ec2, hc20, hc21, hnc2⟩ := own_byte ((i0.toUInt32 >>> ((8 : Int32) &&& 31).toUInt32).toInt32)
      rw [ec2]
      refine own_istore (q := 39) (L' := #[.val (.int i0), .val (.int i1), .val (.int i2), .val (.int (0 : Int32)), .val (.int (1 : Int32)), .val (.int c1), .val (.int c2), .unset, .unset, .unset, .unset, .unset, .unset]) A0 at_37 rfl ?_
      refine own_iloadN (q := 40) A0 at_39 rfl ?_
      refine own_sipush (q := 43) A0 (255 : Int32) at_40 rfl ?_
      refine own_iand (q := 44) A0 at_43 ?_
      refine own_i2c (q := 45) A0 at_44 ?_
      obtain ⟨d1, ed1, hd10, hd11, hnd1⟩ := own_byte i1
      rw [ed1]
      refine own_istore (q := 47) (L' := #[.val (.int i0), .val (.int i1), .val (.int i2), .val (.int (0 : Int32)), .val (.int (1 : Int32)), .val (.int c1), .val (.int c2), .val (.int d1), .unset, .unset, .unset, .unset, .unset]) A0 at_45 rfl ?_
      refine own_iloadN (q := 48) A0 at_47 rfl ?_
      refine own_bipush (q := 50) A0 (8 : Int32) at_48 rfl ?_
      refine own_iushr (q := 51) A0 at_50 ?_
      refine own_sipush (q := 54) A0 (255 : Int32) at_51 rfl ?_
      refine own_iand (q := 55) A0 at_54 ?_
      refine own_i2c (q := 56) A0 at_55 ?_
      obtain ⟨d2, ed2, hd20, hd21, hnd2⟩ := own_byte ((i1.toUInt32 >>> ((8 : Int32) &&& 31).toUInt32).toInt32)
      rw [ed2]
      refine own_istore (q := 58) (L' := #[.val (.int i0), .val (.int i1), .val (.int i2), .val (.int (0 : Int32)), .val (.int (1 : Int32)), .val (.int c1), .val (.int c2), .val (.int d1), .val (.int d2), .unset, .unset, .unset, .unset]) A0 at_56 rfl ?_
      refine own_iloadN (q := 59) A0 at_58 rfl ?_
      refine own_iload (q := 61) A0 at_59 rfl ?_
      refine own_iload (q := 63) A0 at_61 rfl ?_
      refine own_staticW (q := 66) (W := 0) (argsL := [(.int (0 : Int32)), (.int c1), (.int c2)]) (rest := []) A0 (H.k 0 rfl) (H.k 1 rfl) (H.k 2 rfl) (H.k 3 rfl) (by decide) (own_payW (rm_mk0 c1 c2 A0.old hEL H hc10 hc11 hnc1 hc20 hc21 hnc2) (H.k 3 rfl) (H.k 2 rfl) (by decide) (by decide)) own_nW (Nat.le_of_eq rfl) own_pd0 rfl rfl rfl at_63 (by decide) (by decide) ?_
      rintro v115 T116 h117 A118 ⟨b107, t108, k109, rfl, K110, E111, C112, V113, K114⟩
      show own_Run p e below Q m T116 66 #[.val (.int i0), .val (.int i1), .val (.int i2), .val (.int (0 : Int32)), .val (.int (1 : Int32)), .val (.int c1), .val (.int c2), .val (.int d1), .val (.int d2), .unset, .unset, .unset, .unset] [(.ref b107)]
      refine own_astore (q := 68) (L' := #[.val (.int i0), .val (.int i1), .val (.int i2), .val (.int (0 : Int32)), .val (.int (1 : Int32)), .val (.int c1), .val (.int c2), .val (.int d1), .val (.int d2), .val (.ref b107), .unset, .unset, .unset]) A118 at_66 rfl rfl ?_
      refine own_iload (q := 70) A118 at_68 rfl ?_
      refine own_iload (q := 72) A118 at_70 rfl ?_
      refine own_iload (q := 74) A118 at_72 rfl ?_
      refine own_static (q := 77) (W := 0) (argsL := [(.int (1 : Int32)), (.int d1), (.int d2)]) (rest := []) A118 (H.k 0 rfl) (H.k 1 rfl) (H.k 2 rfl) (H.k 3 rfl) (by decide) (own_payN (rm_mk1 d1 d2 A118.old H hd10 hd11 hnd1 hd20 hd21 hnd2) (fun _ _ ⟨_, _, _, _, q, _⟩ => q) (H.k 3 rfl) (H.k 2 rfl) (by decide) (by decide)) own_nW (Nat.le_of_eq rfl) own_pd0 rfl rfl rfl at_74 (by decide) (by decide) ?_
      rintro v127 T128 h129 A130 ⟨b119, t120, k121, rfl, K122, E123, C124, V125, K126⟩
      show own_Run p e below Q m T128 77 #[.val (.int i0), .val (.int i1), .val (.int i2), .val (.int (0 : Int32)), .val (.int (1 : Int32)), .val (.int c1), .val (.int c2), .val (.int d1), .val (.int d2), .val (.ref b107), .unset, .unset, .unset] [(.ref b119)]
      have f131 := E111.keep K122
      have f132 := C112.keep K122 nin0
      have f133 := V113.keep K122 nin0
      have f134 := K114.keep K122 nin0
      refine own_astore (q := 79) (L' := #[.val (.int i0), .val (.int i1), .val (.int i2), .val (.int (0 : Int32)), .val (.int (1 : Int32)), .val (.int c1), .val (.int c2), .val (.int d1), .val (.int d2), .val (.ref b107), .val (.ref b119), .unset, .unset]) A130 at_77 rfl rfl ?_
      refine own_newO (q := 82) A130 (H.k 37 rfl) (H.k 38 rfl) (H.k 39 rfl) at_79 (by decide) (by decide) ?_
      intro T135 h136 a137 g138 g139 A140 E141 X142 D143
      have z144 : b107 ≠ a137 := Nat.ne_of_lt (Nat.lt_of_lt_of_le f131.lt (Nat.le_of_eq g138))
      have z145 : t108 ≠ a137 := Nat.ne_of_lt (Nat.lt_of_lt_of_le f134.lt (Nat.le_of_eq g138))
      have z146 : b119 ≠ a137 := Nat.ne_of_lt (Nat.lt_of_lt_of_le E123.lt (Nat.le_of_eq g138))
      have z147 : t120 ≠ a137 := Nat.ne_of_lt (Nat.lt_of_lt_of_le K126.lt (Nat.le_of_eq g138))
      have f148 := f131.ext E141
      have f149 := f132.ext E141
      have f150 := f133.ext E141
      have f151 := f134.ext E141
      have f152 := E123.ext E141
      have f153 := C124.ext E141
      have f154 := V125.ext E141
      have f155 := K126.ext E141
      have f156 : Fld Z h136 a137 "com/example/hifadhi/hifadhi/project/NotAnalysed" "what" "Ljava/lang/String;" .null := D143 (Or.inr (H.k 45 rfl)) (ty := (.object "java/lang/String")) (by decide)
      have f157 : Fld Z h136 a137 "com/example/hifadhi/hifadhi/project/NotAnalysed" "reason" "Ljava/lang/String;" .null := D143 (Or.inr (H.k 47 rfl)) (ty := (.object "java/lang/String")) (by decide)
      refine own_dup (q := 83) A140 at_82 rfl ?_
      refine own_aload (q := 85) A140 at_83 rfl rfl ?_
      refine own_aload (q := 87) A140 at_85 rfl rfl ?_
      refine own_special (q := 90) (W := 1) (argsL := [(.ref b107), (.ref b119)]) (rest := [(.ref a137)]) A140 rfl (H.k 40 rfl) (H.k 41 rfl) (H.k 42 rfl) (by decide) (own_payN (rm_nai a137 b107 b119 A140.old H X142 f156 f157 g139) (fun _ _ q => q.2.1) (H.k 42 rfl) (H.k 39 rfl) (by decide) (by decide)) (by simp) (Nat.le_of_eq rfl) own_pd4 rfl rfl rfl at_87 (by decide) (by decide) ?_
      rintro v162 T163 h164 A165 ⟨rfl, K158, E159, F160, F161⟩
      show own_Run p e below Q m T163 90 #[.val (.int i0), .val (.int i1), .val (.int i2), .val (.int (0 : Int32)), .val (.int (1 : Int32)), .val (.int c1), .val (.int c2), .val (.int d1), .val (.int d2), .val (.ref b107), .val (.ref b119), .unset, .unset] [(.ref a137)]
      have f166 := f148.keep K158
      have f167 := f149.keep K158 (ninS z144 nin0)
      have f168 := f150.keep K158 (ninS z144 nin0)
      have f169 := f151.keep K158 (ninS z145 nin0)
      have f170 := f152.keep K158
      have f171 := f153.keep K158 (ninS z146 nin0)
      have f172 := f154.keep K158 (ninS z146 nin0)
      have f173 := f155.keep K158 (ninS z147 nin0)
      refine own_virtualW (q := 93) (W := 0) (argsL := []) (rest := []) A165 (H.k 48 rfl) (H.k 49 rfl) (H.k 51 rfl) (H.k 50 rfl) (by decide) (own_payW (rm_msg01 a137 b107 t108 b119 t120 k109 k121 (d1.toInt8.toInt32) A165.old hEL H E159 F160 F161 f166 f167 f168 f169 f170 f171 f172 f173) (H.k 52 rfl) (H.k 39 rfl) (by decide) (by decide)) own_nW (Nat.le_of_eq rfl) E159 own_pd5 rfl rfl rfl at_90 (by decide) (by decide) ?_
      rintro v181 T182 h183 A184 ⟨b174, t175, k176, rfl, E177, C178, V179, K180⟩
      show own_Run p e below Q m T182 93 #[.val (.int i0), .val (.int i1), .val (.int i2), .val (.int (0 : Int32)), .val (.int (1 : Int32)), .val (.int c1), .val (.int c2), .val (.int d1), .val (.int d2), .val (.ref b107), .val (.ref b119), .unset, .unset] [(.ref b174)]
      refine own_astore (q := 95) (L' := #[.val (.int i0), .val (.int i1), .val (.int i2), .val (.int (0 : Int32)), .val (.int (1 : Int32)), .val (.int c1), .val (.int c2), .val (.int d1), .val (.int d2), .val (.ref b107), .val (.ref b119), .val (.ref b174), .unset]) A184 at_93 rfl rfl ?_
      refine own_iloadN (q := 96) A184 at_95 rfl ?_
      refine own_iconst (q := 97) A184 (2 : Int32) at_96 rfl ?_
      refine own_iadd (q := 98) A184 at_97 ?_
      refine own_iload (q := 100) A184 at_98 rfl ?_
      refine own_iadd (q := 101) A184 at_100 ?_
      refine own_istore (q := 103) (L' := #[.val (.int i0), .val (.int i1), .val (.int i2), .val (.int (0 : Int32)), .val (.int (1 : Int32)), .val (.int c1), .val (.int c2), .val (.int d1), .val (.int d2), .val (.ref b107), .val (.ref b119), .val (.ref b174), .val (.int (((0 : Int32) + (2 : Int32)) + (1 : Int32)))]) A184 at_101 rfl ?_
      refine own_aload (q := 105) A184 at_103 rfl rfl ?_
      refine own_ifnullF (q := 108) A184 at_105 ?_
      refine own_aload (q := 110) A184 at_108 rfl rfl ?_
      refine own_virtual (q := 113) (W := 0) (argsL := []) (rest := []) A184 (H.k 164 rfl) (H.k 82 rfl) (H.k 84 rfl) (H.k 83 rfl) (by decide) (own_payLen (cs1 := [(58 : Int32), (32 : Int32), d1]) (kI := 4) (own_wLen H.w) (H.k 5 rfl) A184.old E177 V179 C178 K180 (own_cod [(58 : Int32), (32 : Int32), d1] (n := 3) rfl (fun yy hy => ((show ∀ yy ∈ [(58 : Int32), (32 : Int32), d1], ¬ yy < 0 ∧ ¬ (255 : Int32) < yy from (own_fc (by decide) (own_fc (by decide) (own_fc ⟨hd10, hd11⟩ (fun _ z => nomatch z))))) yy hy).2) rfl rfl) (own_b16 (own_fc (by decide) (own_fc (by decide) (own_fc ⟨hd10, hd11⟩ (fun _ z => nomatch z))))) (Nat.le_of_ble_eq_true rfl) H.SC H.hz (by decide) (by decide)) own_nW (Nat.le_of_eq rfl) E177 own_pd10 rfl rfl rfl at_110 (by decide) (by decide) ?_
      rintro v185 T186 h187 A188 ⟨rfl, rfl⟩
      show own_Run p e below Q m T186 113 #[.val (.int i0), .val (.int i1), .val (.int i2), .val (.int (0 : Int32)), .val (.int (1 : Int32)), .val (.int c1), .val (.int c2), .val (.int d1), .val (.int d2), .val (.ref b107), .val (.ref b119), .val (.ref b174), .val (.int (((0 : Int32) + (2 : Int32)) + (1 : Int32)))] [(.int (3 : Int32))]
      refine own_iload (q := 115) A188 at_113 rfl ?_
      refine own_icmpT (q := 120) A188 at_115 (show (3 : Int32) = (((0 : Int32) + (2 : Int32)) + (1 : Int32)) from by decide) ?_
      refine own_aload (q := 122) A188 at_120 rfl rfl ?_
      refine own_iconst (q := 123) A188 (0 : Int32) at_122 rfl ?_
      refine own_iloadN (q := 124) A188 at_123 rfl ?_
      refine own_iload (q := 126) A188 at_124 rfl ?_
      refine own_iload (q := 128) A188 at_126 rfl ?_
      refine own_iload (q := 130) A188 at_128 rfl ?_
      refine own_iload (q := 132) A188 at_130 rfl ?_
      refine own_iload (q := 134) A188 at_132 rfl ?_
      refine own_static (q := 137) (W := 0) (argsL := [(.ref b174), (.int (0 : Int32)), (.int (0 : Int32)), (.int c1), (.int c2), (.int (1 : Int32)), (.int d1), (.int d2)]) (rest := []) A188 (H.k 165 rfl) (H.k 166 rfl) (H.k 2 rfl) (H.k 167 rfl) (by decide) (own_payN (rm_ok0_01 b174 t175 k176 c1 c2 d1 d2 A188.old H E177 C178 V179 K180 hc10 hc11 hnc1 hc20 hc21 hnc2 hd10 hd11 hnd1 hd20 hd21 hnd2) (fun _ _ q => own_keepE q.2) (H.k 167 rfl) (H.k 2 rfl) (by decide) (by decide)) own_nW (Nat.le_of_eq rfl) own_pd1 rfl rfl rfl at_134 (by decide) (by decide) ?_
      rintro v189 T190 h191 A192 ⟨rfl, rfl⟩
      show own_Run p e below Q m T190 137 #[.val (.int i0), .val (.int i1), .val (.int i2), .val (.int (0 : Int32)), .val (.int (1 : Int32)), .val (.int c1), .val (.int c2), .val (.int d1), .val (.int d2), .val (.ref b107), .val (.ref b119), .val (.ref b174), .val (.int (((0 : Int32) + (2 : Int32)) + (1 : Int32)))] [(.int (1 : Int32))]
      refine own_ifcF (q := 140) A192 at_137 (show ¬ (1 : Int32) = (0 : Int32) from by decide) ?_
      refine own_aload (q := 142) A192 at_140 rfl rfl ?_
      refine own_iconst (q := 143) A192 (1 : Int32) at_142 rfl ?_
      refine own_iloadN (q := 144) A192 at_143 rfl ?_
      refine own_iload (q := 146) A192 at_144 rfl ?_
      refine own_iload (q := 148) A192 at_146 rfl ?_
      refine own_iload (q := 150) A192 at_148 rfl ?_
      refine own_iload (q := 152) A192 at_150 rfl ?_
      refine own_iload (q := 154) A192 at_152 rfl ?_
      refine own_static (q := 157) (W := 0) (argsL := [(.ref b174), (.int (1 : Int32)), (.int (0 : Int32)), (.int c1), (.int c2), (.int (1 : Int32)), (.int d1), (.int d2)]) (rest := []) A192 (H.k 165 rfl) (H.k 166 rfl) (H.k 2 rfl) (H.k 167 rfl) (by decide) (own_payN (rm_ok1_01 b174 t175 k176 c1 c2 d1 d2 A192.old H E177 C178 V179 K180 hc10 hc11 hnc1 hc20 hc21 hnc2 hd10 hd11 hnd1 hd20 hd21 hnd2) (fun _ _ q => own_keepE q.2) (H.k 167 rfl) (H.k 2 rfl) (by decide) (by decide)) own_nW (Nat.le_of_eq rfl) own_pd1 rfl rfl rfl at_154 (by decide) (by decide) ?_
      rintro v193 T194 h195 A196 ⟨rfl, rfl⟩
      show own_Run p e below Q m T194 157 #[.val (.int i0), .val (.int i1), .val (.int i2), .val (.int (0 : Int32)), .val (.int (1 : Int32)), .val (.int c1), .val (.int c2), .val (.int d1), .val (.int d2), .val (.ref b107), .val (.ref b119), .val (.ref b174), .val (.int (((0 : Int32) + (2 : Int32)) + (1 : Int32)))] [(.int (1 : Int32))]
      refine own_ifcF (q := 160) A196 at_157 (show ¬ (1 : Int32) = (0 : Int32) from by decide) ?_
      refine own_aload (q := 162) A196 at_160 rfl rfl ?_
      refine own_iconst (q := 163) A196 (2 : Int32) at_162 rfl ?_
      refine own_iloadN (q := 164) A196 at_163 rfl ?_
      refine own_iload (q := 166) A196 at_164 rfl ?_
      refine own_iload (q := 168) A196 at_166 rfl ?_
      refine own_iload (q := 170) A196 at_168 rfl ?_
      refine own_iload (q := 172) A196 at_170 rfl ?_
      refine own_iload (q := 174) A196 at_172 rfl ?_
      refine own_static (q := 177) (W := 0) (argsL := [(.ref b174), (.int (2 : Int32)), (.int (0 : Int32)), (.int c1), (.int c2), (.int (1 : Int32)), (.int d1), (.int d2)]) (rest := []) A196 (H.k 165 rfl) (H.k 166 rfl) (H.k 2 rfl) (H.k 167 rfl) (by decide) (own_payN (rm_ok2_01 b174 t175 k176 c1 c2 d1 d2 A196.old H E177 C178 V179 K180 hc10 hc11 hnc1 hc20 hc21 hnc2 hd10 hd11 hnd1 hd20 hd21 hnd2) (fun _ _ q => own_keepE q.2) (H.k 167 rfl) (H.k 2 rfl) (by decide) (by decide)) own_nW (Nat.le_of_eq rfl) own_pd1 rfl rfl rfl at_174 (by decide) (by decide) ?_
      rintro v197 T198 h199 A200 ⟨rfl, rfl⟩
      show own_Run p e below Q m T198 177 #[.val (.int i0), .val (.int i1), .val (.int i2), .val (.int (0 : Int32)), .val (.int (1 : Int32)), .val (.int c1), .val (.int c2), .val (.int d1), .val (.int d2), .val (.ref b107), .val (.ref b119), .val (.ref b174), .val (.int (((0 : Int32) + (2 : Int32)) + (1 : Int32)))] [(.int (1 : Int32))]
      refine own_ifcF (q := 180) A200 at_177 (show ¬ (1 : Int32) = (0 : Int32) from by decide) ?_
      refine own_aload (q := 182) A200 at_180 rfl rfl ?_
      refine own_iconst (q := 183) A200 (3 : Int32) at_182 rfl ?_
      refine own_iloadN (q := 184) A200 at_183 rfl ?_
      refine own_iload (q := 186) A200 at_184 rfl ?_
      refine own_iload (q := 188) A200 at_186 rfl ?_
      refine own_iload (q := 190) A200 at_188 rfl ?_
      refine own_iload (q := 192) A200 at_190 rfl ?_
      refine own_iload (q := 194) A200 at_192 rfl ?_
      refine own_static (q := 197) (W := 0) (argsL := [(.ref b174), (.int (3 : Int32)), (.int (0 : Int32)), (.int c1), (.int c2), (.int (1 : Int32)), (.int d1), (.int d2)]) (rest := []) A200 (H.k 165 rfl) (H.k 166 rfl) (H.k 2 rfl) (H.k 167 rfl) (by decide) (own_payN (rm_ok3_01 b174 t175 k176 c1 c2 d1 d2 A200.old H E177 C178 V179 K180 hc10 hc11 hnc1 hc20 hc21 hnc2 hd10 hd11 hnd1 hd20 hd21 hnd2) (fun _ _ q => own_keepE q.2) (H.k 167 rfl) (H.k 2 rfl) (by decide) (by decide)) own_nW (Nat.le_of_eq rfl) own_pd1 rfl rfl rfl at_194 (by decide) (by decide) ?_
      rintro v201 T202 h203 A204 ⟨rfl, rfl⟩
      show own_Run p e below Q m T202 197 #[.val (.int i0), .val (.int i1), .val (.int i2), .val (.int (0 : Int32)), .val (.int (1 : Int32)), .val (.int c1), .val (.int c2), .val (.int d1), .val (.int d2), .val (.ref b107), .val (.ref b119), .val (.ref b174), .val (.int (((0 : Int32) + (2 : Int32)) + (1 : Int32)))] [(.int (1 : Int32))]
      refine own_ifcF (q := 200) A204 at_197 (show ¬ (1 : Int32) = (0 : Int32) from by decide) ?_
      refine own_aload (q := 202) A204 at_200 rfl rfl ?_
      refine own_iconst (q := 203) A204 (4 : Int32) at_202 rfl ?_
      refine own_iloadN (q := 204) A204 at_203 rfl ?_
      refine own_iload (q := 206) A204 at_204 rfl ?_
      refine own_iload (q := 208) A204 at_206 rfl ?_
      refine own_iload (q := 210) A204 at_208 rfl ?_
      refine own_iload (q := 212) A204 at_210 rfl ?_
      refine own_iload (q := 214) A204 at_212 rfl ?_
      refine own_static (q := 217) (W := 0) (argsL := [(.ref b174), (.int (4 : Int32)), (.int (0 : Int32)), (.int c1), (.int c2), (.int (1 : Int32)), (.int d1), (.int d2)]) (rest := []) A204 (H.k 165 rfl) (H.k 166 rfl) (H.k 2 rfl) (H.k 167 rfl) (by decide) (own_payN (rm_ok4_01 b174 t175 k176 c1 c2 d1 d2 A204.old H E177 C178 V179 K180 hc10 hc11 hnc1 hc20 hc21 hnc2 hd10 hd11 hnd1 hd20 hd21 hnd2) (fun _ _ q => own_keepE q.2) (H.k 167 rfl) (H.k 2 rfl) (by decide) (by decide)) own_nW (Nat.le_of_eq rfl) own_pd1 rfl rfl rfl at_214 (by decide) (by decide) ?_
      rintro v205 T206 h207 A208 ⟨rfl, rfl⟩
      show own_Run p e below Q m T206 217 #[.val (.int i0), .val (.int i1), .val (.int i2), .val (.int (0 : Int32)), .val (.int (1 : Int32)), .val (.int c1), .val (.int c2), .val (.int d1), .val (.int d2), .val (.ref b107), .val (.ref b119), .val (.ref b174), .val (.int (((0 : Int32) + (2 : Int32)) + (1 : Int32)))] [(.int (1 : Int32))]
      refine own_ifcF (q := 220) A208 at_217 (show ¬ (1 : Int32) = (0 : Int32) from by decide) ?_
      refine own_aload (q := 222) A208 at_220 rfl rfl ?_
      refine own_iconst (q := 223) A208 (5 : Int32) at_222 rfl ?_
      refine own_iloadN (q := 224) A208 at_223 rfl ?_
      refine own_iload (q := 226) A208 at_224 rfl ?_
      refine own_iload (q := 228) A208 at_226 rfl ?_
      refine own_iload (q := 230) A208 at_228 rfl ?_
      refine own_iload (q := 232) A208 at_230 rfl ?_
      refine own_iload (q := 234) A208 at_232 rfl ?_
      refine own_static (q := 237) (W := 0) (argsL := [(.ref b174), (.int (5 : Int32)), (.int (0 : Int32)), (.int c1), (.int c2), (.int (1 : Int32)), (.int d1), (.int d2)]) (rest := []) A208 (H.k 165 rfl) (H.k 166 rfl) (H.k 2 rfl) (H.k 167 rfl) (by decide) (own_payN (rm_ok5_01 b174 t175 k176 c1 c2 d1 d2 A208.old H E177 C178 V179 K180 hc10 hc11 hnc1 hc20 hc21 hnc2 hd10 hd11 hnd1 hd20 hd21 hnd2) (fun _ _ q => own_keepE q.2) (H.k 167 rfl) (H.k 2 rfl) (by decide) (by decide)) own_nW (Nat.le_of_eq rfl) own_pd1 rfl rfl rfl at_234 (by decide) (by decide) ?_
      rintro v209 T210 h211 A212 ⟨rfl, rfl⟩
      show own_Run p e below Q m T210 237 #[.val (.int i0), .val (.int i1), .val (.int i2), .val (.int (0 : Int32)), .val (.int (1 : Int32)), .val (.int c1), .val (.int c2), .val (.int d1), .val (.int d2), .val (.ref b107), .val (.ref b119), .val (.ref b174), .val (.int (((0 : Int32) + (2 : Int32)) + (1 : Int32)))] [(.int (1 : Int32))]
      refine own_ifcF (q := 240) A212 at_237 (show ¬ (1 : Int32) = (0 : Int32) from by decide) ?_
      refine own_iconst (q := 241) A212 (1 : Int32) at_240 rfl ?_
      refine own_goto (q := 245) A212 at_241 ?_
      exact own_retN A212 hQ (t := .boolean) (by simp) at_245 rfl
    · rw [qk]
      refine own_istore (q := 20) (L' := #[.val (.int i0), .val (.int i1), .val (.int i2), .val (.int (0 : Int32)), .val (.int (2 : Int32)), .unset, .unset, .unset, .unset, .unset, .unset, .unset, .unset]) A0 at_18 rfl ?_
      refine own_iloadN (q := 21) A0 at_20 rfl ?_
      refine own_sipush (q := 24) A0 (255 : Int32) at_21 rfl ?_
      refine own_iand (q := 25) A0 at_24 ?_
      refine own_i2c (q := 26) A0 at_25 ?_
      obtain ⟨c1, ec1, hc10, hc11, hnc1⟩ := own_byte i0
      rw [ec1]
      refine own_istore (q := 28) (L' := #[.val (.int i0), .val (.int i1), .val (.int i2), .val (.int (0 : Int32)), .val (.int (2 : Int32)), .val (.int c1), .unset, .unset, .unset, .unset, .unset, .unset, .unset]) A0 at_26 rfl ?_
      refine own_iloadN (q := 29) A0 at_28 rfl ?_
      refine own_bipush (q := 31) A0 (8 : Int32) at_29 rfl ?_
      refine own_iushr (q := 32) A0 at_31 ?_
      refine own_sipush (q := 35) A0 (255 : Int32) at_32 rfl ?_
      refine own_iand (q := 36) A0 at_35 ?_
      refine own_i2c (q := 37) A0 at_36 ?_
      obtain ⟨c2, ec2, hc20, hc21, hnc2⟩ := own_byte ((i0.toUInt32 >>> ((8 : Int32) &&& 31).toUInt32).toInt32)
      rw [ec2]
      refine own_istore (q := 39) (L' := #[.val (.int i0), .val (.int i1), .val (.int i2), .val (.int (0 : Int32)), .val (.int (2 : Int32)), .val (.int c1), .val (.int c2), .unset, .unset, .unset, .unset, .unset, .unset]) A0 at_37 rfl ?_
      refine own_iloadN (q := 40) A0 at_39 rfl ?_
      refine own_sipush (q := 43) A0 (255 : Int32) at_40 rfl ?_
      refine own_iand (q := 44) A0 at_43 ?_
      refine own_i2c (q := 45) A0 at_44 ?_
      obtain ⟨d1, ed1, hd10, hd11, hnd1⟩ := own_byte i1
      rw [ed1]
      refine own_istore (q := 47) (L' := #[.val (.int i0), .val (.int i1), .val (.int i2), .val (.int (0 : Int32)), .val (.int (2 : Int32)), .val (.int c1), .val (.int c2), .val (.int d1), .unset, .unset, .unset, .unset, .unset]) A0 at_45 rfl ?_
      refine own_iloadN (q := 48) A0 at_47 rfl ?_
      refine own_bipush (q := 50) A0 (8 : Int32) at_48 rfl ?_
      refine own_iushr (q := 51) A0 at_50 ?_
      refine own_sipush (q := 54) A0 (255 : Int32) at_51 rfl ?_
      refine own_iand (q := 55) A0 at_54 ?_
      refine own_i2c (q := 56) A0 at_55 ?_
      obtain ⟨d2, ed2, hd20, hd21, hnd2⟩ := own_byte ((i1.toUInt32 >>> ((8 : Int32) &&& 31).toUInt32).toInt32)
      rw [ed2]
      refine own_istore (q := 58) (L' := #[.val (.int i0), .val (.int i1), .val (.int i2), .val (.int (0 : Int32)), .val (.int (2 : Int32)), .val (.int c1), .val (.int c2), .val (.int d1), .val (.int d2), .unset, .unset, .unset, .unset]) A0 at_56 rfl ?_
      refine own_iloadN (q := 59) A0 at_58 rfl ?_
      refine own_iload (q := 61) A0 at_59 rfl ?_
      refine own_iload (q := 63) A0 at_61 rfl ?_
      refine own_staticW (q := 66) (W := 0) (argsL := [(.int (0 : Int32)), (.int c1), (.int c2)]) (rest := []) A0 (H.k 0 rfl) (H.k 1 rfl) (H.k 2 rfl) (H.k 3 rfl) (by decide) (own_payW (rm_mk0 c1 c2 A0.old hEL H hc10 hc11 hnc1 hc20 hc21 hnc2) (H.k 3 rfl) (H.k 2 rfl) (by decide) (by decide)) own_nW (Nat.le_of_eq rfl) own_pd0 rfl rfl rfl at_63 (by decide) (by decide) ?_
      rintro v221 T222 h223 A224 ⟨b213, t214, k215, rfl, K216, E217, C218, V219, K220⟩
      show own_Run p e below Q m T222 66 #[.val (.int i0), .val (.int i1), .val (.int i2), .val (.int (0 : Int32)), .val (.int (2 : Int32)), .val (.int c1), .val (.int c2), .val (.int d1), .val (.int d2), .unset, .unset, .unset, .unset] [(.ref b213)]
      refine own_astore (q := 68) (L' := #[.val (.int i0), .val (.int i1), .val (.int i2), .val (.int (0 : Int32)), .val (.int (2 : Int32)), .val (.int c1), .val (.int c2), .val (.int d1), .val (.int d2), .val (.ref b213), .unset, .unset, .unset]) A224 at_66 rfl rfl ?_
      refine own_iload (q := 70) A224 at_68 rfl ?_
      refine own_iload (q := 72) A224 at_70 rfl ?_
      refine own_iload (q := 74) A224 at_72 rfl ?_
      refine own_static (q := 77) (W := 0) (argsL := [(.int (2 : Int32)), (.int d1), (.int d2)]) (rest := []) A224 (H.k 0 rfl) (H.k 1 rfl) (H.k 2 rfl) (H.k 3 rfl) (by decide) (own_payN (rm_mk2 d1 d2 A224.old H hd10 hd11 hnd1 hd20 hd21 hnd2) (fun _ _ ⟨_, _, _, _, q, _⟩ => q) (H.k 3 rfl) (H.k 2 rfl) (by decide) (by decide)) own_nW (Nat.le_of_eq rfl) own_pd0 rfl rfl rfl at_74 (by decide) (by decide) ?_
      rintro v233 T234 h235 A236 ⟨b225, t226, k227, rfl, K228, E229, C230, V231, K232⟩
      show own_Run p e below Q m T234 77 #[.val (.int i0), .val (.int i1), .val (.int i2), .val (.int (0 : Int32)), .val (.int (2 : Int32)), .val (.int c1), .val (.int c2), .val (.int d1), .val (.int d2), .val (.ref b213), .unset, .unset, .unset] [(.ref b225)]
      have f237 := E217.keep K228
      have f238 := C218.keep K228 nin0
      have f239 := V219.keep K228 nin0
      have f240 := K220.keep K228 nin0
      refine own_astore (q := 79) (L' := #[.val (.int i0), .val (.int i1), .val (.int i2), .val (.int (0 : Int32)), .val (.int (2 : Int32)), .val (.int c1), .val (.int c2), .val (.int d1), .val (.int d2), .val (.ref b213), .val (.ref b225), .unset, .unset]) A236 at_77 rfl rfl ?_
      refine own_newO (q := 82) A236 (H.k 37 rfl) (H.k 38 rfl) (H.k 39 rfl) at_79 (by decide) (by decide) ?_
      intro T241 h242 a243 g244 g245 A246 E247 X248 D249
      have z250 : b213 ≠ a243 := Nat.ne_of_lt (Nat.lt_of_lt_of_le f237.lt (Nat.le_of_eq g244))
      have z251 : t214 ≠ a243 := Nat.ne_of_lt (Nat.lt_of_lt_of_le f240.lt (Nat.le_of_eq g244))
      have z252 : b225 ≠ a243 := Nat.ne_of_lt (Nat.lt_of_lt_of_le E229.lt (Nat.le_of_eq g244))
      have z253 : t226 ≠ a243 := Nat.ne_of_lt (Nat.lt_of_lt_of_le K232.lt (Nat.le_of_eq g244))
      have f254 := f237.ext E247
      have f255 := f238.ext E247
      have f256 := f239.ext E247
      have f257 := f240.ext E247
      have f258 := E229.ext E247
      have f259 := C230.ext E247
      have f260 := V231.ext E247
      have f261 := K232.ext E247
      have f262 : Fld Z h242 a243 "com/example/hifadhi/hifadhi/project/NotAnalysed" "what" "Ljava/lang/String;" .null := D249 (Or.inr (H.k 45 rfl)) (ty := (.object "java/lang/String")) (by decide)
      have f263 : Fld Z h242 a243 "com/example/hifadhi/hifadhi/project/NotAnalysed" "reason" "Ljava/lang/String;" .null := D249 (Or.inr (H.k 47 rfl)) (ty := (.object "java/lang/String")) (by decide)
      refine own_dup (q := 83) A246 at_82 rfl ?_
      refine own_aload (q := 85) A246 at_83 rfl rfl ?_
      refine own_aload (q := 87) A246 at_85 rfl rfl ?_
      refine own_special (q := 90) (W := 1) (argsL := [(.ref b213), (.ref b225)]) (rest := [(.ref a243)]) A246 rfl (H.k 40 rfl) (H.k 41 rfl) (H.k 42 rfl) (by decide) (own_payN (rm_nai a243 b213 b225 A246.old H X248 f262 f263 g245) (fun _ _ q => q.2.1) (H.k 42 rfl) (H.k 39 rfl) (by decide) (by decide)) (by simp) (Nat.le_of_eq rfl) own_pd4 rfl rfl rfl at_87 (by decide) (by decide) ?_
      rintro v268 T269 h270 A271 ⟨rfl, K264, E265, F266, F267⟩
      show own_Run p e below Q m T269 90 #[.val (.int i0), .val (.int i1), .val (.int i2), .val (.int (0 : Int32)), .val (.int (2 : Int32)), .val (.int c1), .val (.int c2), .val (.int d1), .val (.int d2), .val (.ref b213), .val (.ref b225), .unset, .unset] [(.ref a243)]
      have f272 := f254.keep K264
      have f273 := f255.keep K264 (ninS z250 nin0)
      have f274 := f256.keep K264 (ninS z250 nin0)
      have f275 := f257.keep K264 (ninS z251 nin0)
      have f276 := f258.keep K264
      have f277 := f259.keep K264 (ninS z252 nin0)
      have f278 := f260.keep K264 (ninS z252 nin0)
      have f279 := f261.keep K264 (ninS z253 nin0)
      refine own_virtualW (q := 93) (W := 0) (argsL := []) (rest := []) A271 (H.k 48 rfl) (H.k 49 rfl) (H.k 51 rfl) (H.k 50 rfl) (by decide) (own_payW (rm_msg02 a243 b213 t214 b225 t226 k215 k227 (d1.toInt8.toInt32) (d2.toInt8.toInt32) A271.old hEL H E265 F266 F267 f272 f273 f274 f275 f276 f277 f278 f279) (H.k 52 rfl) (H.k 39 rfl) (by decide) (by decide)) own_nW (Nat.le_of_eq rfl) E265 own_pd5 rfl rfl rfl at_90 (by decide) (by decide) ?_
      rintro v287 T288 h289 A290 ⟨b280, t281, k282, rfl, E283, C284, V285, K286⟩
      show own_Run p e below Q m T288 93 #[.val (.int i0), .val (.int i1), .val (.int i2), .val (.int (0 : Int32)), .val (.int (2 : Int32)), .val (.int c1), .val (.int c2), .val (.int d1), .val (.int d2), .val (.ref b213), .val (.ref b225), .unset, .unset] [(.ref b280)]
      refine own_astore (q := 95) (L' := #[.val (.int i0), .val (.int i1), .val (.int i2), .val (.int (0 : Int32)), .val (.int (2 : Int32)), .val (.int c1), .val (.int c2), .val (.int d1), .val (.int d2), .val (.ref b213), .val (.ref b225), .val (.ref b280), .unset]) A290 at_93 rfl rfl ?_
      refine own_iloadN (q := 96) A290 at_95 rfl ?_
      refine own_iconst (q := 97) A290 (2 : Int32) at_96 rfl ?_
      refine own_iadd (q := 98) A290 at_97 ?_
      refine own_iload (q := 100) A290 at_98 rfl ?_
      refine own_iadd (q := 101) A290 at_100 ?_
      refine own_istore (q := 103) (L' := #[.val (.int i0), .val (.int i1), .val (.int i2), .val (.int (0 : Int32)), .val (.int (2 : Int32)), .val (.int c1), .val (.int c2), .val (.int d1), .val (.int d2), .val (.ref b213), .val (.ref b225), .val (.ref b280), .val (.int (((0 : Int32) + (2 : Int32)) + (2 : Int32)))]) A290 at_101 rfl ?_
      refine own_aload (q := 105) A290 at_103 rfl rfl ?_
      refine own_ifnullF (q := 108) A290 at_105 ?_
      refine own_aload (q := 110) A290 at_108 rfl rfl ?_
      refine own_virtual (q := 113) (W := 0) (argsL := []) (rest := []) A290 (H.k 164 rfl) (H.k 82 rfl) (H.k 84 rfl) (H.k 83 rfl) (by decide) (own_payLen (cs1 := [(58 : Int32), (32 : Int32), d1, d2]) (kI := 4) (own_wLen H.w) (H.k 5 rfl) A290.old E283 V285 C284 K286 (own_cod [(58 : Int32), (32 : Int32), d1, d2] (n := 4) rfl (fun yy hy => ((show ∀ yy ∈ [(58 : Int32), (32 : Int32), d1, d2], ¬ yy < 0 ∧ ¬ (255 : Int32) < yy from (own_fc (by decide) (own_fc (by decide) (own_fc ⟨hd10, hd11⟩ (own_fc ⟨hd20, hd21⟩ (fun _ z => nomatch z)))))) yy hy).2) rfl rfl) (own_b16 (own_fc (by decide) (own_fc (by decide) (own_fc ⟨hd10, hd11⟩ (own_fc ⟨hd20, hd21⟩ (fun _ z => nomatch z)))))) (Nat.le_of_ble_eq_true rfl) H.SC H.hz (by decide) (by decide)) own_nW (Nat.le_of_eq rfl) E283 own_pd10 rfl rfl rfl at_110 (by decide) (by decide) ?_
      rintro v291 T292 h293 A294 ⟨rfl, rfl⟩
      show own_Run p e below Q m T292 113 #[.val (.int i0), .val (.int i1), .val (.int i2), .val (.int (0 : Int32)), .val (.int (2 : Int32)), .val (.int c1), .val (.int c2), .val (.int d1), .val (.int d2), .val (.ref b213), .val (.ref b225), .val (.ref b280), .val (.int (((0 : Int32) + (2 : Int32)) + (2 : Int32)))] [(.int (4 : Int32))]
      refine own_iload (q := 115) A294 at_113 rfl ?_
      refine own_icmpT (q := 120) A294 at_115 (show (4 : Int32) = (((0 : Int32) + (2 : Int32)) + (2 : Int32)) from by decide) ?_
      refine own_aload (q := 122) A294 at_120 rfl rfl ?_
      refine own_iconst (q := 123) A294 (0 : Int32) at_122 rfl ?_
      refine own_iloadN (q := 124) A294 at_123 rfl ?_
      refine own_iload (q := 126) A294 at_124 rfl ?_
      refine own_iload (q := 128) A294 at_126 rfl ?_
      refine own_iload (q := 130) A294 at_128 rfl ?_
      refine own_iload (q := 132) A294 at_130 rfl ?_
      refine own_iload (q := 134) A294 at_132 rfl ?_
      refine own_static (q := 137) (W := 0) (argsL := [(.ref b280), (.int (0 : Int32)), (.int (0 : Int32)), (.int c1), (.int c2), (.int (2 : Int32)), (.int d1), (.int d2)]) (rest := []) A294 (H.k 165 rfl) (H.k 166 rfl) (H.k 2 rfl) (H.k 167 rfl) (by decide) (own_payN (rm_ok0_02 b280 t281 k282 c1 c2 d1 d2 A294.old H E283 C284 V285 K286 hc10 hc11 hnc1 hc20 hc21 hnc2 hd10 hd11 hnd1 hd20 hd21 hnd2) (fun _ _ q => own_keepE q.2) (H.k 167 rfl) (H.k 2 rfl) (by decide) (by decide)) own_nW (Nat.le_of_eq rfl) own_pd1 rfl rfl rfl at_134 (by decide) (by decide) ?_
      rintro v295 T296 h297 A298 ⟨rfl, rfl⟩
      show own_Run p e below Q m T296 137 #[.val (.int i0), .val (.int i1), .val (.int i2), .val (.int (0 : Int32)), .val (.int (2 : Int32)), .val (.int c1), .val (.int c2), .val (.int d1), .val (.int d2), .val (.ref b213), .val (.ref b225), .val (.ref b280), .val (.int (((0 : Int32) + (2 : Int32)) + (2 : Int32)))] [(.int (1 : Int32))]
      refine own_ifcF (q := 140) A298 at_137 (show ¬ (1 : Int32) = (0 : Int32) from by decide) ?_
      refine own_aload (q := 142) A298 at_140 rfl rfl ?_
      refine own_iconst (q := 143) A298 (1 : Int32) at_142 rfl ?_
      refine own_iloadN (q := 144) A298 at_143 rfl ?_
      refine own_iload (q := 146) A298 at_144 rfl ?_
      refine own_iload (q := 148) A298 at_146 rfl ?_
      refine own_iload (q := 150) A298 at_148 rfl ?_
      refine own_iload (q := 152) A298 at_150 rfl ?_
      refine own_iload (q := 154) A298 at_152 rfl ?_
      refine own_static (q := 157) (W := 0) (argsL := [(.ref b280), (.int (1 : Int32)), (.int (0 : Int32)), (.int c1), (.int c2), (.int (2 : Int32)), (.int d1), (.int d2)]) (rest := []) A298 (H.k 165 rfl) (H.k 166 rfl) (H.k 2 rfl) (H.k 167 rfl) (by decide) (own_payN (rm_ok1_02 b280 t281 k282 c1 c2 d1 d2 A298.old H E283 C284 V285 K286 hc10 hc11 hnc1 hc20 hc21 hnc2 hd10 hd11 hnd1 hd20 hd21 hnd2) (fun _ _ q => own_keepE q.2) (H.k 167 rfl) (H.k 2 rfl) (by decide) (by decide)) own_nW (Nat.le_of_eq rfl) own_pd1 rfl rfl rfl at_154 (by decide) (by decide) ?_
      rintro v299 T300 h301 A302 ⟨rfl, rfl⟩
      show own_Run p e below Q m T300 157 #[.val (.int i0), .val (.int i1), .val (.int i2), .val (.int (0 : Int32)), .val (.int (2 : Int32)), .val (.int c1), .val (.int c2), .val (.int d1), .val (.int d2), .val (.ref b213), .val (.ref b225), .val (.ref b280), .val (.int (((0 : Int32) + (2 : Int32)) + (2 : Int32)))] [(.int (1 : Int32))]
      refine own_ifcF (q := 160) A302 at_157 (show ¬ (1 : Int32) = (0 : Int32) from by decide) ?_
      refine own_aload (q := 162) A302 at_160 rfl rfl ?_
      refine own_iconst (q := 163) A302 (2 : Int32) at_162 rfl ?_
      refine own_iloadN (q := 164) A302 at_163 rfl ?_
      refine own_iload (q := 166) A302 at_164 rfl ?_
      refine own_iload (q := 168) A302 at_166 rfl ?_
      refine own_iload (q := 170) A302 at_168 rfl ?_
      refine own_iload (q := 172) A302 at_170 rfl ?_
      refine own_iload (q := 174) A302 at_172 rfl ?_
      refine own_static (q := 177) (W := 0) (argsL := [(.ref b280), (.int (2 : Int32)), (.int (0 : Int32)), (.int c1), (.int c2), (.int (2 : Int32)), (.int d1), (.int d2)]) (rest := []) A302 (H.k 165 rfl) (H.k 166 rfl) (H.k 2 rfl) (H.k 167 rfl) (by decide) (own_payN (rm_ok2_02 b280 t281 k282 c1 c2 d1 d2 A302.old H E283 C284 V285 K286 hc10 hc11 hnc1 hc20 hc21 hnc2 hd10 hd11 hnd1 hd20 hd21 hnd2) (fun _ _ q => own_keepE q.2) (H.k 167 rfl) (H.k 2 rfl) (by decide) (by decide)) own_nW (Nat.le_of_eq rfl) own_pd1 rfl rfl rfl at_174 (by decide) (by decide) ?_
      rintro v303 T304 h305 A306 ⟨rfl, rfl⟩
      show own_Run p e below Q m T304 177 #[.val (.int i0), .val (.int i1), .val (.int i2), .val (.int (0 : Int32)), .val (.int (2 : Int32)), .val (.int c1), .val (.int c2), .val (.int d1), .val (.int d2), .val (.ref b213), .val (.ref b225), .val (.ref b280), .val (.int (((0 : Int32) + (2 : Int32)) + (2 : Int32)))] [(.int (1 : Int32))]
      refine own_ifcF (q := 180) A306 at_177 (show ¬ (1 : Int32) = (0 : Int32) from by decide) ?_
      refine own_aload (q := 182) A306 at_180 rfl rfl ?_
      refine own_iconst (q := 183) A306 (3 : Int32) at_182 rfl ?_
      refine own_iloadN (q := 184) A306 at_183 rfl ?_
      refine own_iload (q := 186) A306 at_184 rfl ?_
      refine own_iload (q := 188) A306 at_186 rfl ?_
      refine own_iload (q := 190) A306 at_188 rfl ?_
      refine own_iload (q := 192) A306 at_190 rfl ?_
      refine own_iload (q := 194) A306 at_192 rfl ?_
      refine own_static (q := 197) (W := 0) (argsL := [(.ref b280), (.int (3 : Int32)), (.int (0 : Int32)), (.int c1), (.int c2), (.int (2 : Int32)), (.int d1), (.int d2)]) (rest := []) A306 (H.k 165 rfl) (H.k 166 rfl) (H.k 2 rfl) (H.k 167 rfl) (by decide) (own_payN (rm_ok3_02 b280 t281 k282 c1 c2 d1 d2 A306.old H E283 C284 V285 K286 hc10 hc11 hnc1 hc20 hc21 hnc2 hd10 hd11 hnd1 hd20 hd21 hnd2) (fun _ _ q => own_keepE q.2) (H.k 167 rfl) (H.k 2 rfl) (by decide) (by decide)) own_nW (Nat.le_of_eq rfl) own_pd1 rfl rfl rfl at_194 (by decide) (by decide) ?_
      rintro v307 T308 h309 A310 ⟨rfl, rfl⟩
      show own_Run p e below Q m T308 197 #[.val (.int i0), .val (.int i1), .val (.int i2), .val (.int (0 : Int32)), .val (.int (2 : Int32)), .val (.int c1), .val (.int c2), .val (.int d1), .val (.int d2), .val (.ref b213), .val (.ref b225), .val (.ref b280), .val (.int (((0 : Int32) + (2 : Int32)) + (2 : Int32)))] [(.int (1 : Int32))]
      refine own_ifcF (q := 200) A310 at_197 (show ¬ (1 : Int32) = (0 : Int32) from by decide) ?_
      refine own_aload (q := 202) A310 at_200 rfl rfl ?_
      refine own_iconst (q := 203) A310 (4 : Int32) at_202 rfl ?_
      refine own_iloadN (q := 204) A310 at_203 rfl ?_
      refine own_iload (q := 206) A310 at_204 rfl ?_
      refine own_iload (q := 208) A310 at_206 rfl ?_
      refine own_iload (q := 210) A310 at_208 rfl ?_
      refine own_iload (q := 212) A310 at_210 rfl ?_
      refine own_iload (q := 214) A310 at_212 rfl ?_
      refine own_static (q := 217) (W := 0) (argsL := [(.ref b280), (.int (4 : Int32)), (.int (0 : Int32)), (.int c1), (.int c2), (.int (2 : Int32)), (.int d1), (.int d2)]) (rest := []) A310 (H.k 165 rfl) (H.k 166 rfl) (H.k 2 rfl) (H.k 167 rfl) (by decide) (own_payN (rm_ok4_02 b280 t281 k282 c1 c2 d1 d2 A310.old H E283 C284 V285 K286 hc10 hc11 hnc1 hc20 hc21 hnc2 hd10 hd11 hnd1 hd20 hd21 hnd2) (fun _ _ q => own_keepE q.2) (H.k 167 rfl) (H.k 2 rfl) (by decide) (by decide)) own_nW (Nat.le_of_eq rfl) own_pd1 rfl rfl rfl at_214 (by decide) (by decide) ?_
      rintro v311 T312 h313 A314 ⟨rfl, rfl⟩
      show own_Run p e below Q m T312 217 #[.val (.int i0), .val (.int i1), .val (.int i2), .val (.int (0 : Int32)), .val (.int (2 : Int32)), .val (.int c1), .val (.int c2), .val (.int d1), .val (.int d2), .val (.ref b213), .val (.ref b225), .val (.ref b280), .val (.int (((0 : Int32) + (2 : Int32)) + (2 : Int32)))] [(.int (1 : Int32))]
      refine own_ifcF (q := 220) A314 at_217 (show ¬ (1 : Int32) = (0 : Int32) from by decide) ?_
      refine own_aload (q := 222) A314 at_220 rfl rfl ?_
      refine own_iconst (q := 223) A314 (5 : Int32) at_222 rfl ?_
      refine own_iloadN (q := 224) A314 at_223 rfl ?_
      refine own_iload (q := 226) A314 at_224 rfl ?_
      refine own_iload (q := 228) A314 at_226 rfl ?_
      refine own_iload (q := 230) A314 at_228 rfl ?_
      refine own_iload (q := 232) A314 at_230 rfl ?_
      refine own_iload (q := 234) A314 at_232 rfl ?_
      refine own_static (q := 237) (W := 0) (argsL := [(.ref b280), (.int (5 : Int32)), (.int (0 : Int32)), (.int c1), (.int c2), (.int (2 : Int32)), (.int d1), (.int d2)]) (rest := []) A314 (H.k 165 rfl) (H.k 166 rfl) (H.k 2 rfl) (H.k 167 rfl) (by decide) (own_payN (rm_ok5_02 b280 t281 k282 c1 c2 d1 d2 A314.old H E283 C284 V285 K286 hc10 hc11 hnc1 hc20 hc21 hnc2 hd10 hd11 hnd1 hd20 hd21 hnd2) (fun _ _ q => own_keepE q.2) (H.k 167 rfl) (H.k 2 rfl) (by decide) (by decide)) own_nW (Nat.le_of_eq rfl) own_pd1 rfl rfl rfl at_234 (by decide) (by decide) ?_
      rintro v315 T316 h317 A318 ⟨rfl, rfl⟩
      show own_Run p e below Q m T316 237 #[.val (.int i0), .val (.int i1), .val (.int i2), .val (.int (0 : Int32)), .val (.int (2 : Int32)), .val (.int c1), .val (.int c2), .val (.int d1), .val (.int d2), .val (.ref b213), .val (.ref b225), .val (.ref b280), .val (.int (((0 : Int32) + (2 : Int32)) + (2 : Int32)))] [(.int (1 : Int32))]
      refine own_ifcF (q := 240) A318 at_237 (show ¬ (1 : Int32) = (0 : Int32) from by decide) ?_
      refine own_iconst (q := 241) A318 (1 : Int32) at_240 rfl ?_
      refine own_goto (q := 245) A318 at_241 ?_
      exact own_retN A318 hQ (t := .boolean) (by simp) at_245 rfl
  · rw [qk]
    refine own_istoreN (q := 8) (L' := #[.val (.int i0), .val (.int i1), .val (.int i2), .val (.int (1 : Int32)), .unset, .unset, .unset, .unset, .unset, .unset, .unset, .unset, .unset]) A0 at_7 rfl ?_
    refine own_iloadN (q := 9) A0 at_8 rfl ?_
    refine own_bipush (q := 11) A0 (8 : Int32) at_9 rfl ?_
    refine own_iushr (q := 12) A0 at_11 ?_
    refine own_sipush (q := 15) A0 (255 : Int32) at_12 rfl ?_
    refine own_iand (q := 16) A0 at_15 ?_
    refine own_iconst (q := 17) A0 (3 : Int32) at_16 rfl ?_
    refine own_irem (q := 18) A0 at_17 (by decide) ?_
    rcases own_rem3 ((i2.toUInt32 >>> ((8 : Int32) &&& 31).toUInt32).toInt32) with qk | qk | qk
    · rw [qk]
      refine own_istore (q := 20) (L' := #[.val (.int i0), .val (.int i1), .val (.int i2), .val (.int (1 : Int32)), .val (.int (0 : Int32)), .unset, .unset, .unset, .unset, .unset, .unset, .unset, .unset]) A0 at_18 rfl ?_
      refine own_iloadN (q := 21) A0 at_20 rfl ?_
      refine own_sipush (q := 24) A0 (255 : Int32) at_21 rfl ?_
      refine own_iand (q := 25) A0 at_24 ?_
      refine own_i2c (q := 26) A0 at_25 ?_
      obtain ⟨c1, ec1, hc10, hc11, hnc1⟩ := own_byte i0
      rw [ec1]
      refine own_istore (q := 28) (L' := #[.val (.int i0), .val (.int i1), .val (.int i2), .val (.int (1 : Int32)), .val (.int (0 : Int32)), .val (.int c1), .unset, .unset, .unset, .unset, .unset, .unset, .unset]) A0 at_26 rfl ?_
      refine own_iloadN (q := 29) A0 at_28 rfl ?_
      refine own_bipush (q := 31) A0 (8 : Int32) at_29 rfl ?_
      refine own_iushr (q := 32) A0 at_31 ?_
      refine own_sipush (q := 35) A0 (255 : Int32) at_32 rfl ?_
      refine own_iand (q := 36) A0 at_35 ?_
      refine own_i2c (q := 37) A0 at_36 ?_
      obtain ⟨c2, ec2, hc20, hc21, hnc2⟩ := own_byte ((i0.toUInt32 >>> ((8 : Int32) &&& 31).toUInt32).toInt32)
      rw [ec2]
      refine own_istore (q := 39) (L' := #[.val (.int i0), .val (.int i1), .val (.int i2), .val (.int (1 : Int32)), .val (.int (0 : Int32)), .val (.int c1), .val (.int c2), .unset, .unset, .unset, .unset, .unset, .unset]) A0 at_37 rfl ?_
      refine own_iloadN (q := 40) A0 at_39 rfl ?_
      refine own_sipush (q := 43) A0 (255 : Int32) at_40 rfl ?_
      refine own_iand (q := 44) A0 at_43 ?_
      refine own_i2c (q := 45) A0 at_44 ?_
      obtain ⟨d1, ed1, hd10, hd11, hnd1⟩ := own_byte i1
      rw [ed1]
      refine own_istore (q := 47) (L' := #[.val (.int i0), .val (.int i1), .val (.int i2), .val (.int (1 : Int32)), .val (.int (0 : Int32)), .val (.int c1), .val (.int c2), .val (.int d1), .unset, .unset, .unset, .unset, .unset]) A0 at_45 rfl ?_
      refine own_iloadN (q := 48) A0 at_47 rfl ?_
      refine own_bipush (q := 50) A0 (8 : Int32) at_48 rfl ?_
      refine own_iushr (q := 51) A0 at_50 ?_
      refine own_sipush (q := 54) A0 (255 : Int32) at_51 rfl ?_
      refine own_iand (q := 55) A0 at_54 ?_
      refine own_i2c (q := 56) A0 at_55 ?_
      obtain ⟨d2, ed2, hd20, hd21, hnd2⟩ := own_byte ((i1.toUInt32 >>> ((8 : Int32) &&& 31).toUInt32).toInt32)
      rw [ed2]
      refine own_istore (q := 58) (L' := #[.val (.int i0), .val (.int i1), .val (.int i2), .val (.int (1 : Int32)), .val (.int (0 : Int32)), .val (.int c1), .val (.int c2), .val (.int d1), .val (.int d2), .unset, .unset, .unset, .unset]) A0 at_56 rfl ?_
      refine own_iloadN (q := 59) A0 at_58 rfl ?_
      refine own_iload (q := 61) A0 at_59 rfl ?_
      refine own_iload (q := 63) A0 at_61 rfl ?_
      refine own_static (q := 66) (W := 0) (argsL := [(.int (1 : Int32)), (.int c1), (.int c2)]) (rest := []) A0 (H.k 0 rfl) (H.k 1 rfl) (H.k 2 rfl) (H.k 3 rfl) (by decide) (own_payN (rm_mk1 c1 c2 A0.old H hc10 hc11 hnc1 hc20 hc21 hnc2) (fun _ _ ⟨_, _, _, _, q, _⟩ => q) (H.k 3 rfl) (H.k 2 rfl) (by decide) (by decide)) own_nW (Nat.le_of_eq rfl) own_pd0 rfl rfl rfl at_63 (by decide) (by decide) ?_
      rintro v327 T328 h329 A330 ⟨b319, t320, k321, rfl, K322, E323, C324, V325, K326⟩
      show own_Run p e below Q m T328 66 #[.val (.int i0), .val (.int i1), .val (.int i2), .val (.int (1 : Int32)), .val (.int (0 : Int32)), .val (.int c1), .val (.int c2), .val (.int d1), .val (.int d2), .unset, .unset, .unset, .unset] [(.ref b319)]
      refine own_astore (q := 68) (L' := #[.val (.int i0), .val (.int i1), .val (.int i2), .val (.int (1 : Int32)), .val (.int (0 : Int32)), .val (.int c1), .val (.int c2), .val (.int d1), .val (.int d2), .val (.ref b319), .unset, .unset, .unset]) A330 at_66 rfl rfl ?_
      refine own_iload (q := 70) A330 at_68 rfl ?_
      refine own_iload (q := 72) A330 at_70 rfl ?_
      refine own_iload (q := 74) A330 at_72 rfl ?_
      refine own_staticW (q := 77) (W := 0) (argsL := [(.int (0 : Int32)), (.int d1), (.int d2)]) (rest := []) A330 (H.k 0 rfl) (H.k 1 rfl) (H.k 2 rfl) (H.k 3 rfl) (by decide) (own_payW (rm_mk0 d1 d2 A330.old hEL H hd10 hd11 hnd1 hd20 hd21 hnd2) (H.k 3 rfl) (H.k 2 rfl) (by decide) (by decide)) own_nW (Nat.le_of_eq rfl) own_pd0 rfl rfl rfl at_74 (by decide) (by decide) ?_
      rintro v339 T340 h341 A342 ⟨b331, t332, k333, rfl, K334, E335, C336, V337, K338⟩
      show own_Run p e below Q m T340 77 #[.val (.int i0), .val (.int i1), .val (.int i2), .val (.int (1 : Int32)), .val (.int (0 : Int32)), .val (.int c1), .val (.int c2), .val (.int d1), .val (.int d2), .val (.ref b319), .unset, .unset, .unset] [(.ref b331)]
      have f343 := E323.keep K334
      have f344 := C324.keep K334 nin0
      have f345 := V325.keep K334 nin0
      have f346 := K326.keep K334 nin0
      refine own_astore (q := 79) (L' := #[.val (.int i0), .val (.int i1), .val (.int i2), .val (.int (1 : Int32)), .val (.int (0 : Int32)), .val (.int c1), .val (.int c2), .val (.int d1), .val (.int d2), .val (.ref b319), .val (.ref b331), .unset, .unset]) A342 at_77 rfl rfl ?_
      refine own_newO (q := 82) A342 (H.k 37 rfl) (H.k 38 rfl) (H.k 39 rfl) at_79 (by decide) (by decide) ?_
      intro T347 h348 a349 g350 g351 A352 E353 X354 D355
      have z356 : b319 ≠ a349 := Nat.ne_of_lt (Nat.lt_of_lt_of_le f343.lt (Nat.le_of_eq g350))
      have z357 : t320 ≠ a349 := Nat.ne_of_lt (Nat.lt_of_lt_of_le f346.lt (Nat.le_of_eq g350))
      have z358 : b331 ≠ a349 := Nat.ne_of_lt (Nat.lt_of_lt_of_le E335.lt (Nat.le_of_eq g350))
      have z359 : t332 ≠ a349 := Nat.ne_of_lt (Nat.lt_of_lt_of_le K338.lt (Nat.le_of_eq g350))
      have f360 := f343.ext E353
      have f361 := f344.ext E353
      have f362 := f345.ext E353
      have f363 := f346.ext E353
      have f364 := E335.ext E353
      have f365 := C336.ext E353
      have f366 := V337.ext E353
      have f367 := K338.ext E353
      have f368 : Fld Z h348 a349 "com/example/hifadhi/hifadhi/project/NotAnalysed" "what" "Ljava/lang/String;" .null := D355 (Or.inr (H.k 45 rfl)) (ty := (.object "java/lang/String")) (by decide)
      have f369 : Fld Z h348 a349 "com/example/hifadhi/hifadhi/project/NotAnalysed" "reason" "Ljava/lang/String;" .null := D355 (Or.inr (H.k 47 rfl)) (ty := (.object "java/lang/String")) (by decide)
      refine own_dup (q := 83) A352 at_82 rfl ?_
      refine own_aload (q := 85) A352 at_83 rfl rfl ?_
      refine own_aload (q := 87) A352 at_85 rfl rfl ?_
      refine own_special (q := 90) (W := 1) (argsL := [(.ref b319), (.ref b331)]) (rest := [(.ref a349)]) A352 rfl (H.k 40 rfl) (H.k 41 rfl) (H.k 42 rfl) (by decide) (own_payN (rm_nai a349 b319 b331 A352.old H X354 f368 f369 g351) (fun _ _ q => q.2.1) (H.k 42 rfl) (H.k 39 rfl) (by decide) (by decide)) (by simp) (Nat.le_of_eq rfl) own_pd4 rfl rfl rfl at_87 (by decide) (by decide) ?_
      rintro v374 T375 h376 A377 ⟨rfl, K370, E371, F372, F373⟩
      show own_Run p e below Q m T375 90 #[.val (.int i0), .val (.int i1), .val (.int i2), .val (.int (1 : Int32)), .val (.int (0 : Int32)), .val (.int c1), .val (.int c2), .val (.int d1), .val (.int d2), .val (.ref b319), .val (.ref b331), .unset, .unset] [(.ref a349)]
      have f378 := f360.keep K370
      have f379 := f361.keep K370 (ninS z356 nin0)
      have f380 := f362.keep K370 (ninS z356 nin0)
      have f381 := f363.keep K370 (ninS z357 nin0)
      have f382 := f364.keep K370
      have f383 := f365.keep K370 (ninS z358 nin0)
      have f384 := f366.keep K370 (ninS z358 nin0)
      have f385 := f367.keep K370 (ninS z359 nin0)
      refine own_virtualW (q := 93) (W := 0) (argsL := []) (rest := []) A377 (H.k 48 rfl) (H.k 49 rfl) (H.k 51 rfl) (H.k 50 rfl) (by decide) (own_payW (rm_msg10 a349 b319 t320 b331 t332 k321 k333 (c1.toInt8.toInt32) A377.old hEL H E371 F372 F373 f378 f379 f380 f381 f382 f383 f384 f385) (H.k 52 rfl) (H.k 39 rfl) (by decide) (by decide)) own_nW (Nat.le_of_eq rfl) E371 own_pd5 rfl rfl rfl at_90 (by decide) (by decide) ?_
      rintro v393 T394 h395 A396 ⟨b386, t387, k388, rfl, E389, C390, V391, K392⟩
      show own_Run p e below Q m T394 93 #[.val (.int i0), .val (.int i1), .val (.int i2), .val (.int (1 : Int32)), .val (.int (0 : Int32)), .val (.int c1), .val (.int c2), .val (.int d1), .val (.int d2), .val (.ref b319), .val (.ref b331), .unset, .unset] [(.ref b386)]
      refine own_astore (q := 95) (L' := #[.val (.int i0), .val (.int i1), .val (.int i2), .val (.int (1 : Int32)), .val (.int (0 : Int32)), .val (.int c1), .val (.int c2), .val (.int d1), .val (.int d2), .val (.ref b319), .val (.ref b331), .val (.ref b386), .unset]) A396 at_93 rfl rfl ?_
      refine own_iloadN (q := 96) A396 at_95 rfl ?_
      refine own_iconst (q := 97) A396 (2 : Int32) at_96 rfl ?_
      refine own_iadd (q := 98) A396 at_97 ?_
      refine own_iload (q := 100) A396 at_98 rfl ?_
      refine own_iadd (q := 101) A396 at_100 ?_
      refine own_istore (q := 103) (L' := #[.val (.int i0), .val (.int i1), .val (.int i2), .val (.int (1 : Int32)), .val (.int (0 : Int32)), .val (.int c1), .val (.int c2), .val (.int d1), .val (.int d2), .val (.ref b319), .val (.ref b331), .val (.ref b386), .val (.int (((1 : Int32) + (2 : Int32)) + (0 : Int32)))]) A396 at_101 rfl ?_
      refine own_aload (q := 105) A396 at_103 rfl rfl ?_
      refine own_ifnullF (q := 108) A396 at_105 ?_
      refine own_aload (q := 110) A396 at_108 rfl rfl ?_
      refine own_virtual (q := 113) (W := 0) (argsL := []) (rest := []) A396 (H.k 164 rfl) (H.k 82 rfl) (H.k 84 rfl) (H.k 83 rfl) (by decide) (own_payLen (cs1 := [c1, (58 : Int32), (32 : Int32)]) (kI := 4) (own_wLen H.w) (H.k 5 rfl) A396.old E389 V391 C390 K392 (own_cod [c1, (58 : Int32), (32 : Int32)] (n := 3) rfl (fun yy hy => ((show ∀ yy ∈ [c1, (58 : Int32), (32 : Int32)], ¬ yy < 0 ∧ ¬ (255 : Int32) < yy from (own_fc ⟨hc10, hc11⟩ (own_fc (by decide) (own_fc (by decide) (fun _ z => nomatch z))))) yy hy).2) rfl rfl) (own_b16 (own_fc ⟨hc10, hc11⟩ (own_fc (by decide) (own_fc (by decide) (fun _ z => nomatch z))))) (Nat.le_of_ble_eq_true rfl) H.SC H.hz (by decide) (by decide)) own_nW (Nat.le_of_eq rfl) E389 own_pd10 rfl rfl rfl at_110 (by decide) (by decide) ?_
      rintro v397 T398 h399 A400 ⟨rfl, rfl⟩
      show own_Run p e below Q m T398 113 #[.val (.int i0), .val (.int i1), .val (.int i2), .val (.int (1 : Int32)), .val (.int (0 : Int32)), .val (.int c1), .val (.int c2), .val (.int d1), .val (.int d2), .val (.ref b319), .val (.ref b331), .val (.ref b386), .val (.int (((1 : Int32) + (2 : Int32)) + (0 : Int32)))] [(.int (3 : Int32))]
      refine own_iload (q := 115) A400 at_113 rfl ?_
      refine own_icmpT (q := 120) A400 at_115 (show (3 : Int32) = (((1 : Int32) + (2 : Int32)) + (0 : Int32)) from by decide) ?_
      refine own_aload (q := 122) A400 at_120 rfl rfl ?_
      refine own_iconst (q := 123) A400 (0 : Int32) at_122 rfl ?_
      refine own_iloadN (q := 124) A400 at_123 rfl ?_
      refine own_iload (q := 126) A400 at_124 rfl ?_
      refine own_iload (q := 128) A400 at_126 rfl ?_
      refine own_iload (q := 130) A400 at_128 rfl ?_
      refine own_iload (q := 132) A400 at_130 rfl ?_
      refine own_iload (q := 134) A400 at_132 rfl ?_
      refine own_static (q := 137) (W := 0) (argsL := [(.ref b386), (.int (0 : Int32)), (.int (1 : Int32)), (.int c1), (.int c2), (.int (0 : Int32)), (.int d1), (.int d2)]) (rest := []) A400 (H.k 165 rfl) (H.k 166 rfl) (H.k 2 rfl) (H.k 167 rfl) (by decide) (own_payN (rm_ok0_10 b386 t387 k388 c1 c2 d1 d2 A400.old H E389 C390 V391 K392 hc10 hc11 hnc1 hc20 hc21 hnc2 hd10 hd11 hnd1 hd20 hd21 hnd2) (fun _ _ q => own_keepE q.2) (H.k 167 rfl) (H.k 2 rfl) (by decide) (by decide)) own_nW (Nat.le_of_eq rfl) own_pd1 rfl rfl rfl at_134 (by decide) (by decide) ?_
      rintro v401 T402 h403 A404 ⟨rfl, rfl⟩
      show own_Run p e below Q m T402 137 #[.val (.int i0), .val (.int i1), .val (.int i2), .val (.int (1 : Int32)), .val (.int (0 : Int32)), .val (.int c1), .val (.int c2), .val (.int d1), .val (.int d2), .val (.ref b319), .val (.ref b331), .val (.ref b386), .val (.int (((1 : Int32) + (2 : Int32)) + (0 : Int32)))] [(.int (1 : Int32))]
      refine own_ifcF (q := 140) A404 at_137 (show ¬ (1 : Int32) = (0 : Int32) from by decide) ?_
      refine own_aload (q := 142) A404 at_140 rfl rfl ?_
      refine own_iconst (q := 143) A404 (1 : Int32) at_142 rfl ?_
      refine own_iloadN (q := 144) A404 at_143 rfl ?_
      refine own_iload (q := 146) A404 at_144 rfl ?_
      refine own_iload (q := 148) A404 at_146 rfl ?_
      refine own_iload (q := 150) A404 at_148 rfl ?_
      refine own_iload (q := 152) A404 at_150 rfl ?_
      refine own_iload (q := 154) A404 at_152 rfl ?_
      refine own_static (q := 157) (W := 0) (argsL := [(.ref b386), (.int (1 : Int32)), (.int (1 : Int32)), (.int c1), (.int c2), (.int (0 : Int32)), (.int d1), (.int d2)]) (rest := []) A404 (H.k 165 rfl) (H.k 166 rfl) (H.k 2 rfl) (H.k 167 rfl) (by decide) (own_payN (rm_ok1_10 b386 t387 k388 c1 c2 d1 d2 A404.old H E389 C390 V391 K392 hc10 hc11 hnc1 hc20 hc21 hnc2 hd10 hd11 hnd1 hd20 hd21 hnd2) (fun _ _ q => own_keepE q.2) (H.k 167 rfl) (H.k 2 rfl) (by decide) (by decide)) own_nW (Nat.le_of_eq rfl) own_pd1 rfl rfl rfl at_154 (by decide) (by decide) ?_
      rintro v405 T406 h407 A408 ⟨rfl, rfl⟩
      show own_Run p e below Q m T406 157 #[.val (.int i0), .val (.int i1), .val (.int i2), .val (.int (1 : Int32)), .val (.int (0 : Int32)), .val (.int c1), .val (.int c2), .val (.int d1), .val (.int d2), .val (.ref b319), .val (.ref b331), .val (.ref b386), .val (.int (((1 : Int32) + (2 : Int32)) + (0 : Int32)))] [(.int (1 : Int32))]
      refine own_ifcF (q := 160) A408 at_157 (show ¬ (1 : Int32) = (0 : Int32) from by decide) ?_
      refine own_aload (q := 162) A408 at_160 rfl rfl ?_
      refine own_iconst (q := 163) A408 (2 : Int32) at_162 rfl ?_
      refine own_iloadN (q := 164) A408 at_163 rfl ?_
      refine own_iload (q := 166) A408 at_164 rfl ?_
      refine own_iload (q := 168) A408 at_166 rfl ?_
      refine own_iload (q := 170) A408 at_168 rfl ?_
      refine own_iload (q := 172) A408 at_170 rfl ?_
      refine own_iload (q := 174) A408 at_172 rfl ?_
      refine own_static (q := 177) (W := 0) (argsL := [(.ref b386), (.int (2 : Int32)), (.int (1 : Int32)), (.int c1), (.int c2), (.int (0 : Int32)), (.int d1), (.int d2)]) (rest := []) A408 (H.k 165 rfl) (H.k 166 rfl) (H.k 2 rfl) (H.k 167 rfl) (by decide) (own_payN (rm_ok2_10 b386 t387 k388 c1 c2 d1 d2 A408.old H E389 C390 V391 K392 hc10 hc11 hnc1 hc20 hc21 hnc2 hd10 hd11 hnd1 hd20 hd21 hnd2) (fun _ _ q => own_keepE q.2) (H.k 167 rfl) (H.k 2 rfl) (by decide) (by decide)) own_nW (Nat.le_of_eq rfl) own_pd1 rfl rfl rfl at_174 (by decide) (by decide) ?_
      rintro v409 T410 h411 A412 ⟨rfl, rfl⟩
      show own_Run p e below Q m T410 177 #[.val (.int i0), .val (.int i1), .val (.int i2), .val (.int (1 : Int32)), .val (.int (0 : Int32)), .val (.int c1), .val (.int c2), .val (.int d1), .val (.int d2), .val (.ref b319), .val (.ref b331), .val (.ref b386), .val (.int (((1 : Int32) + (2 : Int32)) + (0 : Int32)))] [(.int (1 : Int32))]
      refine own_ifcF (q := 180) A412 at_177 (show ¬ (1 : Int32) = (0 : Int32) from by decide) ?_
      refine own_aload (q := 182) A412 at_180 rfl rfl ?_
      refine own_iconst (q := 183) A412 (3 : Int32) at_182 rfl ?_
      refine own_iloadN (q := 184) A412 at_183 rfl ?_
      refine own_iload (q := 186) A412 at_184 rfl ?_
      refine own_iload (q := 188) A412 at_186 rfl ?_
      refine own_iload (q := 190) A412 at_188 rfl ?_
      refine own_iload (q := 192) A412 at_190 rfl ?_
      refine own_iload (q := 194) A412 at_192 rfl ?_
      refine own_static (q := 197) (W := 0) (argsL := [(.ref b386), (.int (3 : Int32)), (.int (1 : Int32)), (.int c1), (.int c2), (.int (0 : Int32)), (.int d1), (.int d2)]) (rest := []) A412 (H.k 165 rfl) (H.k 166 rfl) (H.k 2 rfl) (H.k 167 rfl) (by decide) (own_payN (rm_ok3_10 b386 t387 k388 c1 c2 d1 d2 A412.old H E389 C390 V391 K392 hc10 hc11 hnc1 hc20 hc21 hnc2 hd10 hd11 hnd1 hd20 hd21 hnd2) (fun _ _ q => own_keepE q.2) (H.k 167 rfl) (H.k 2 rfl) (by decide) (by decide)) own_nW (Nat.le_of_eq rfl) own_pd1 rfl rfl rfl at_194 (by decide) (by decide) ?_
      rintro v413 T414 h415 A416 ⟨rfl, rfl⟩
      show own_Run p e below Q m T414 197 #[.val (.int i0), .val (.int i1), .val (.int i2), .val (.int (1 : Int32)), .val (.int (0 : Int32)), .val (.int c1), .val (.int c2), .val (.int d1), .val (.int d2), .val (.ref b319), .val (.ref b331), .val (.ref b386), .val (.int (((1 : Int32) + (2 : Int32)) + (0 : Int32)))] [(.int (1 : Int32))]
      refine own_ifcF (q := 200) A416 at_197 (show ¬ (1 : Int32) = (0 : Int32) from by decide) ?_
      refine own_aload (q := 202) A416 at_200 rfl rfl ?_
      refine own_iconst (q := 203) A416 (4 : Int32) at_202 rfl ?_
      refine own_iloadN (q := 204) A416 at_203 rfl ?_
      refine own_iload (q := 206) A416 at_204 rfl ?_
      refine own_iload (q := 208) A416 at_206 rfl ?_
      refine own_iload (q := 210) A416 at_208 rfl ?_
      refine own_iload (q := 212) A416 at_210 rfl ?_
      refine own_iload (q := 214) A416 at_212 rfl ?_
      refine own_static (q := 217) (W := 0) (argsL := [(.ref b386), (.int (4 : Int32)), (.int (1 : Int32)), (.int c1), (.int c2), (.int (0 : Int32)), (.int d1), (.int d2)]) (rest := []) A416 (H.k 165 rfl) (H.k 166 rfl) (H.k 2 rfl) (H.k 167 rfl) (by decide) (own_payN (rm_ok4_10 b386 t387 k388 c1 c2 d1 d2 A416.old H E389 C390 V391 K392 hc10 hc11 hnc1 hc20 hc21 hnc2 hd10 hd11 hnd1 hd20 hd21 hnd2) (fun _ _ q => own_keepE q.2) (H.k 167 rfl) (H.k 2 rfl) (by decide) (by decide)) own_nW (Nat.le_of_eq rfl) own_pd1 rfl rfl rfl at_214 (by decide) (by decide) ?_
      rintro v417 T418 h419 A420 ⟨rfl, rfl⟩
      show own_Run p e below Q m T418 217 #[.val (.int i0), .val (.int i1), .val (.int i2), .val (.int (1 : Int32)), .val (.int (0 : Int32)), .val (.int c1), .val (.int c2), .val (.int d1), .val (.int d2), .val (.ref b319), .val (.ref b331), .val (.ref b386), .val (.int (((1 : Int32) + (2 : Int32)) + (0 : Int32)))] [(.int (1 : Int32))]
      refine own_ifcF (q := 220) A420 at_217 (show ¬ (1 : Int32) = (0 : Int32) from by decide) ?_
      refine own_aload (q := 222) A420 at_220 rfl rfl ?_
      refine own_iconst (q := 223) A420 (5 : Int32) at_222 rfl ?_
      refine own_iloadN (q := 224) A420 at_223 rfl ?_
      refine own_iload (q := 226) A420 at_224 rfl ?_
      refine own_iload (q := 228) A420 at_226 rfl ?_
      refine own_iload (q := 230) A420 at_228 rfl ?_
      refine own_iload (q := 232) A420 at_230 rfl ?_
      refine own_iload (q := 234) A420 at_232 rfl ?_
      refine own_static (q := 237) (W := 0) (argsL := [(.ref b386), (.int (5 : Int32)), (.int (1 : Int32)), (.int c1), (.int c2), (.int (0 : Int32)), (.int d1), (.int d2)]) (rest := []) A420 (H.k 165 rfl) (H.k 166 rfl) (H.k 2 rfl) (H.k 167 rfl) (by decide) (own_payN (rm_ok5_10 b386 t387 k388 c1 c2 d1 d2 A420.old H E389 C390 V391 K392 hc10 hc11 hnc1 hc20 hc21 hnc2 hd10 hd11 hnd1 hd20 hd21 hnd2) (fun _ _ q => own_keepE q.2) (H.k 167 rfl) (H.k 2 rfl) (by decide) (by decide)) own_nW (Nat.le_of_eq rfl) own_pd1 rfl rfl rfl at_234 (by decide) (by decide) ?_
      rintro v421 T422 h423 A424 ⟨rfl, rfl⟩
      show own_Run p e below Q m T422 237 #[.val (.int i0), .val (.int i1), .val (.int i2), .val (.int (1 : Int32)), .val (.int (0 : Int32)), .val (.int c1), .val (.int c2), .val (.int d1), .val (.int d2), .val (.ref b319), .val (.ref b331), .val (.ref b386), .val (.int (((1 : Int32) + (2 : Int32)) + (0 : Int32)))] [(.int (1 : Int32))]
      refine own_ifcF (q := 240) A424 at_237 (show ¬ (1 : Int32) = (0 : Int32) from by decide) ?_
      refine own_iconst (q := 241) A424 (1 : Int32) at_240 rfl ?_
      refine own_goto (q := 245) A424 at_241 ?_
      exact own_retN A424 hQ (t := .boolean) (by simp) at_245 rfl
    · rw [qk]
      refine own_istore (q := 20) (L' := #[.val (.int i0), .val (.int i1), .val (.int i2), .val (.int (1 : Int32)), .val (.int (1 : Int32)), .unset, .unset, .unset, .unset, .unset, .unset, .unset, .unset]) A0 at_18 rfl ?_
      refine own_iloadN (q := 21) A0 at_20 rfl ?_
      refine own_sipush (q := 24) A0 (255 : Int32) at_21 rfl ?_
      refine own_iand (q := 25) A0 at_24 ?_
      refine own_i2c (q := 26) A0 at_25 ?_
      obtain ⟨c1, ec1, hc10, hc11, hnc1⟩ := own_byte i0
      rw [ec1]
      refine own_istore (q := 28) (L' := #[.val (.int i0), .val (.int i1), .val (.int i2), .val (.int (1 : Int32)), .val (.int (1 : Int32)), .val (.int c1), .unset, .unset, .unset, .unset, .unset, .unset, .unset]) A0 at_26 rfl ?_
      refine own_iloadN (q := 29) A0 at_28 rfl ?_
      refine own_bipush (q := 31) A0 (8 : Int32) at_29 rfl ?_
      refine own_iushr (q := 32) A0 at_31 ?_
      refine own_sipush (q := 35) A0 (255 : Int32) at_32 rfl ?_
      refine own_iand (q := 36) A0 at_35 ?_
      refine own_i2c (q := 37) A0 at_36 ?_
      obtain ⟨c2, ec2, hc20, hc21, hnc2⟩ := own_byte ((i0.toUInt32 >>> ((8 : Int32) &&& 31).toUInt32).toInt32)
      rw [ec2]
      refine own_istore (q := 39) (L' := #[.val (.int i0), .val (.int i1), .val (.int i2), .val (.int (1 : Int32)), .val (.int (1 : Int32)), .val (.int c1), .val (.int c2), .unset, .unset, .unset, .unset, .unset, .unset]) A0 at_37 rfl ?_
      refine own_iloadN (q := 40) A0 at_39 rfl ?_
      refine own_sipush (q := 43) A0 (255 : Int32) at_40 rfl ?_
      refine own_iand (q := 44) A0 at_43 ?_
      refine own_i2c (q := 45) A0 at_44 ?_
      obtain ⟨d1, ed1, hd10, hd11, hnd1⟩ := own_byte i1
      rw [ed1]
      refine own_istore (q := 47) (L' := #[.val (.int i0), .val (.int i1), .val (.int i2), .val (.int (1 : Int32)), .val (.int (1 : Int32)), .val (.int c1), .val (.int c2), .val (.int d1), .unset, .unset, .unset, .unset, .unset]) A0 at_45 rfl ?_
      refine own_iloadN (q := 48) A0 at_47 rfl ?_
      refine own_bipush (q := 50) A0 (8 : Int32) at_48 rfl ?_
      refine own_iushr (q := 51) A0 at_50 ?_
      refine own_sipush (q := 54) A0 (255 : Int32) at_51 rfl ?_
      refine own_iand (q := 55) A0 at_54 ?_
      refine own_i2c (q := 56) A0 at_55 ?_
      obtain ⟨d2, ed2, hd20, hd21, hnd2⟩ := own_byte ((i1.toUInt32 >>> ((8 : Int32) &&& 31).toUInt32).toInt32)
      rw [ed2]
      refine own_istore (q := 58) (L' := #[.val (.int i0), .val (.int i1), .val (.int i2), .val (.int (1 : Int32)), .val (.int (1 : Int32)), .val (.int c1), .val (.int c2), .val (.int d1), .val (.int d2), .unset, .unset, .unset, .unset]) A0 at_56 rfl ?_
      refine own_iloadN (q := 59) A0 at_58 rfl ?_
      refine own_iload (q := 61) A0 at_59 rfl ?_
      refine own_iload (q := 63) A0 at_61 rfl ?_
      refine own_static (q := 66) (W := 0) (argsL := [(.int (1 : Int32)), (.int c1), (.int c2)]) (rest := []) A0 (H.k 0 rfl) (H.k 1 rfl) (H.k 2 rfl) (H.k 3 rfl) (by decide) (own_payN (rm_mk1 c1 c2 A0.old H hc10 hc11 hnc1 hc20 hc21 hnc2) (fun _ _ ⟨_, _, _, _, q, _⟩ => q) (H.k 3 rfl) (H.k 2 rfl) (by decide) (by decide)) own_nW (Nat.le_of_eq rfl) own_pd0 rfl rfl rfl at_63 (by decide) (by decide) ?_
      rintro v433 T434 h435 A436 ⟨b425, t426, k427, rfl, K428, E429, C430, V431, K432⟩
      show own_Run p e below Q m T434 66 #[.val (.int i0), .val (.int i1), .val (.int i2), .val (.int (1 : Int32)), .val (.int (1 : Int32)), .val (.int c1), .val (.int c2), .val (.int d1), .val (.int d2), .unset, .unset, .unset, .unset] [(.ref b425)]
      refine own_astore (q := 68) (L' := #[.val (.int i0), .val (.int i1), .val (.int i2), .val (.int (1 : Int32)), .val (.int (1 : Int32)), .val (.int c1), .val (.int c2), .val (.int d1), .val (.int d2), .val (.ref b425), .unset, .unset, .unset]) A436 at_66 rfl rfl ?_
      refine own_iload (q := 70) A436 at_68 rfl ?_
      refine own_iload (q := 72) A436 at_70 rfl ?_
      refine own_iload (q := 74) A436 at_72 rfl ?_
      refine own_static (q := 77) (W := 0) (argsL := [(.int (1 : Int32)), (.int d1), (.int d2)]) (rest := []) A436 (H.k 0 rfl) (H.k 1 rfl) (H.k 2 rfl) (H.k 3 rfl) (by decide) (own_payN (rm_mk1 d1 d2 A436.old H hd10 hd11 hnd1 hd20 hd21 hnd2) (fun _ _ ⟨_, _, _, _, q, _⟩ => q) (H.k 3 rfl) (H.k 2 rfl) (by decide) (by decide)) own_nW (Nat.le_of_eq rfl) own_pd0 rfl rfl rfl at_74 (by decide) (by decide) ?_
      rintro v445 T446 h447 A448 ⟨b437, t438, k439, rfl, K440, E441, C442, V443, K444⟩
      show own_Run p e below Q m T446 77 #[.val (.int i0), .val (.int i1), .val (.int i2), .val (.int (1 : Int32)), .val (.int (1 : Int32)), .val (.int c1), .val (.int c2), .val (.int d1), .val (.int d2), .val (.ref b425), .unset, .unset, .unset] [(.ref b437)]
      have f449 := E429.keep K440
      have f450 := C430.keep K440 nin0
      have f451 := V431.keep K440 nin0
      have f452 := K432.keep K440 nin0
      refine own_astore (q := 79) (L' := #[.val (.int i0), .val (.int i1), .val (.int i2), .val (.int (1 : Int32)), .val (.int (1 : Int32)), .val (.int c1), .val (.int c2), .val (.int d1), .val (.int d2), .val (.ref b425), .val (.ref b437), .unset, .unset]) A448 at_77 rfl rfl ?_
      refine own_newO (q := 82) A448 (H.k 37 rfl) (H.k 38 rfl) (H.k 39 rfl) at_79 (by decide) (by decide) ?_
      intro T453 h454 a455 g456 g457 A458 E459 X460 D461
      have z462 : b425 ≠ a455 := Nat.ne_of_lt (Nat.lt_of_lt_of_le f449.lt (Nat.le_of_eq g456))
      have z463 : t426 ≠ a455 := Nat.ne_of_lt (Nat.lt_of_lt_of_le f452.lt (Nat.le_of_eq g456))
      have z464 : b437 ≠ a455 := Nat.ne_of_lt (Nat.lt_of_lt_of_le E441.lt (Nat.le_of_eq g456))
      have z465 : t438 ≠ a455 := Nat.ne_of_lt (Nat.lt_of_lt_of_le K444.lt (Nat.le_of_eq g456))
      have f466 := f449.ext E459
      have f467 := f450.ext E459
      have f468 := f451.ext E459
      have f469 := f452.ext E459
      have f470 := E441.ext E459
      have f471 := C442.ext E459
      have f472 := V443.ext E459
      have f473 := K444.ext E459
      have f474 : Fld Z h454 a455 "com/example/hifadhi/hifadhi/project/NotAnalysed" "what" "Ljava/lang/String;" .null := D461 (Or.inr (H.k 45 rfl)) (ty := (.object "java/lang/String")) (by decide)
      have f475 : Fld Z h454 a455 "com/example/hifadhi/hifadhi/project/NotAnalysed" "reason" "Ljava/lang/String;" .null := D461 (Or.inr (H.k 47 rfl)) (ty := (.object "java/lang/String")) (by decide)
      refine own_dup (q := 83) A458 at_82 rfl ?_
      refine own_aload (q := 85) A458 at_83 rfl rfl ?_
      refine own_aload (q := 87) A458 at_85 rfl rfl ?_
      refine own_special (q := 90) (W := 1) (argsL := [(.ref b425), (.ref b437)]) (rest := [(.ref a455)]) A458 rfl (H.k 40 rfl) (H.k 41 rfl) (H.k 42 rfl) (by decide) (own_payN (rm_nai a455 b425 b437 A458.old H X460 f474 f475 g457) (fun _ _ q => q.2.1) (H.k 42 rfl) (H.k 39 rfl) (by decide) (by decide)) (by simp) (Nat.le_of_eq rfl) own_pd4 rfl rfl rfl at_87 (by decide) (by decide) ?_
      rintro v480 T481 h482 A483 ⟨rfl, K476, E477, F478, F479⟩
      show own_Run p e below Q m T481 90 #[.val (.int i0), .val (.int i1), .val (.int i2), .val (.int (1 : Int32)), .val (.int (1 : Int32)), .val (.int c1), .val (.int c2), .val (.int d1), .val (.int d2), .val (.ref b425), .val (.ref b437), .unset, .unset] [(.ref a455)]
      have f484 := f466.keep K476
      have f485 := f467.keep K476 (ninS z462 nin0)
      have f486 := f468.keep K476 (ninS z462 nin0)
      have f487 := f469.keep K476 (ninS z463 nin0)
      have f488 := f470.keep K476
      have f489 := f471.keep K476 (ninS z464 nin0)
      have f490 := f472.keep K476 (ninS z464 nin0)
      have f491 := f473.keep K476 (ninS z465 nin0)
      refine own_virtualW (q := 93) (W := 0) (argsL := []) (rest := []) A483 (H.k 48 rfl) (H.k 49 rfl) (H.k 51 rfl) (H.k 50 rfl) (by decide) (own_payW (rm_msg11 a455 b425 t426 b437 t438 k427 k439 (c1.toInt8.toInt32) (d1.toInt8.toInt32) A483.old hEL H E477 F478 F479 f484 f485 f486 f487 f488 f489 f490 f491) (H.k 52 rfl) (H.k 39 rfl) (by decide) (by decide)) own_nW (Nat.le_of_eq rfl) E477 own_pd5 rfl rfl rfl at_90 (by decide) (by decide) ?_
      rintro v499 T500 h501 A502 ⟨b492, t493, k494, rfl, E495, C496, V497, K498⟩
      show own_Run p e below Q m T500 93 #[.val (.int i0), .val (.int i1), .val (.int i2), .val (.int (1 : Int32)), .val (.int (1 : Int32)), .val (.int c1), .val (.int c2), .val (.int d1), .val (.int d2), .val (.ref b425), .val (.ref b437), .unset, .unset] [(.ref b492)]
      refine own_astore (q := 95) (L' := #[.val (.int i0), .val (.int i1), .val (.int i2), .val (.int (1 : Int32)), .val (.int (1 : Int32)), .val (.int c1), .val (.int c2), .val (.int d1), .val (.int d2), .val (.ref b425), .val (.ref b437), .val (.ref b492), .unset]) A502 at_93 rfl rfl ?_
      refine own_iloadN (q := 96) A502 at_95 rfl ?_
      refine own_iconst (q := 97) A502 (2 : Int32) at_96 rfl ?_
      refine own_iadd (q := 98) A502 at_97 ?_
      refine own_iload (q := 100) A502 at_98 rfl ?_
      refine own_iadd (q := 101) A502 at_100 ?_
      refine own_istore (q := 103) (L' := #[.val (.int i0), .val (.int i1), .val (.int i2), .val (.int (1 : Int32)), .val (.int (1 : Int32)), .val (.int c1), .val (.int c2), .val (.int d1), .val (.int d2), .val (.ref b425), .val (.ref b437), .val (.ref b492), .val (.int (((1 : Int32) + (2 : Int32)) + (1 : Int32)))]) A502 at_101 rfl ?_
      refine own_aload (q := 105) A502 at_103 rfl rfl ?_
      refine own_ifnullF (q := 108) A502 at_105 ?_
      refine own_aload (q := 110) A502 at_108 rfl rfl ?_
      refine own_virtual (q := 113) (W := 0) (argsL := []) (rest := []) A502 (H.k 164 rfl) (H.k 82 rfl) (H.k 84 rfl) (H.k 83 rfl) (by decide) (own_payLen (cs1 := [c1, (58 : Int32), (32 : Int32), d1]) (kI := 4) (own_wLen H.w) (H.k 5 rfl) A502.old E495 V497 C496 K498 (own_cod [c1, (58 : Int32), (32 : Int32), d1] (n := 4) rfl (fun yy hy => ((show ∀ yy ∈ [c1, (58 : Int32), (32 : Int32), d1], ¬ yy < 0 ∧ ¬ (255 : Int32) < yy from (own_fc ⟨hc10, hc11⟩ (own_fc (by decide) (own_fc (by decide) (own_fc ⟨hd10, hd11⟩ (fun _ z => nomatch z)))))) yy hy).2) rfl rfl) (own_b16 (own_fc ⟨hc10, hc11⟩ (own_fc (by decide) (own_fc (by decide) (own_fc ⟨hd10, hd11⟩ (fun _ z => nomatch z)))))) (Nat.le_of_ble_eq_true rfl) H.SC H.hz (by decide) (by decide)) own_nW (Nat.le_of_eq rfl) E495 own_pd10 rfl rfl rfl at_110 (by decide) (by decide) ?_
      rintro v503 T504 h505 A506 ⟨rfl, rfl⟩
      show own_Run p e below Q m T504 113 #[.val (.int i0), .val (.int i1), .val (.int i2), .val (.int (1 : Int32)), .val (.int (1 : Int32)), .val (.int c1), .val (.int c2), .val (.int d1), .val (.int d2), .val (.ref b425), .val (.ref b437), .val (.ref b492), .val (.int (((1 : Int32) + (2 : Int32)) + (1 : Int32)))] [(.int (4 : Int32))]
      refine own_iload (q := 115) A506 at_113 rfl ?_
      refine own_icmpT (q := 120) A506 at_115 (show (4 : Int32) = (((1 : Int32) + (2 : Int32)) + (1 : Int32)) from by decide) ?_
      refine own_aload (q := 122) A506 at_120 rfl rfl ?_
      refine own_iconst (q := 123) A506 (0 : Int32) at_122 rfl ?_
      refine own_iloadN (q := 124) A506 at_123 rfl ?_
      refine own_iload (q := 126) A506 at_124 rfl ?_
      refine own_iload (q := 128) A506 at_126 rfl ?_
      refine own_iload (q := 130) A506 at_128 rfl ?_
      refine own_iload (q := 132) A506 at_130 rfl ?_
      refine own_iload (q := 134) A506 at_132 rfl ?_
      refine own_static (q := 137) (W := 0) (argsL := [(.ref b492), (.int (0 : Int32)), (.int (1 : Int32)), (.int c1), (.int c2), (.int (1 : Int32)), (.int d1), (.int d2)]) (rest := []) A506 (H.k 165 rfl) (H.k 166 rfl) (H.k 2 rfl) (H.k 167 rfl) (by decide) (own_payN (rm_ok0_11 b492 t493 k494 c1 c2 d1 d2 A506.old H E495 C496 V497 K498 hc10 hc11 hnc1 hc20 hc21 hnc2 hd10 hd11 hnd1 hd20 hd21 hnd2) (fun _ _ q => own_keepE q.2) (H.k 167 rfl) (H.k 2 rfl) (by decide) (by decide)) own_nW (Nat.le_of_eq rfl) own_pd1 rfl rfl rfl at_134 (by decide) (by decide) ?_
      rintro v507 T508 h509 A510 ⟨rfl, rfl⟩
      show own_Run p e below Q m T508 137 #[.val (.int i0), .val (.int i1), .val (.int i2), .val (.int (1 : Int32)), .val (.int (1 : Int32)), .val (.int c1), .val (.int c2), .val (.int d1), .val (.int d2), .val (.ref b425), .val (.ref b437), .val (.ref b492), .val (.int (((1 : Int32) + (2 : Int32)) + (1 : Int32)))] [(.int (1 : Int32))]
      refine own_ifcF (q := 140) A510 at_137 (show ¬ (1 : Int32) = (0 : Int32) from by decide) ?_
      refine own_aload (q := 142) A510 at_140 rfl rfl ?_
      refine own_iconst (q := 143) A510 (1 : Int32) at_142 rfl ?_
      refine own_iloadN (q := 144) A510 at_143 rfl ?_
      refine own_iload (q := 146) A510 at_144 rfl ?_
      refine own_iload (q := 148) A510 at_146 rfl ?_
      refine own_iload (q := 150) A510 at_148 rfl ?_
      refine own_iload (q := 152) A510 at_150 rfl ?_
      refine own_iload (q := 154) A510 at_152 rfl ?_
      refine own_static (q := 157) (W := 0) (argsL := [(.ref b492), (.int (1 : Int32)), (.int (1 : Int32)), (.int c1), (.int c2), (.int (1 : Int32)), (.int d1), (.int d2)]) (rest := []) A510 (H.k 165 rfl) (H.k 166 rfl) (H.k 2 rfl) (H.k 167 rfl) (by decide) (own_payN (rm_ok1_11 b492 t493 k494 c1 c2 d1 d2 A510.old H E495 C496 V497 K498 hc10 hc11 hnc1 hc20 hc21 hnc2 hd10 hd11 hnd1 hd20 hd21 hnd2) (fun _ _ q => own_keepE q.2) (H.k 167 rfl) (H.k 2 rfl) (by decide) (by decide)) own_nW (Nat.le_of_eq rfl) own_pd1 rfl rfl rfl at_154 (by decide) (by decide) ?_
      rintro v511 T512 h513 A514 ⟨rfl, rfl⟩
      show own_Run p e below Q m T512 157 #[.val (.int i0), .val (.int i1), .val (.int i2), .val (.int (1 : Int32)), .val (.int (1 : Int32)), .val (.int c1), .val (.int c2), .val (.int d1), .val (.int d2), .val (.ref b425), .val (.ref b437), .val (.ref b492), .val (.int (((1 : Int32) + (2 : Int32)) + (1 : Int32)))] [(.int (1 : Int32))]
      refine own_ifcF (q := 160) A514 at_157 (show ¬ (1 : Int32) = (0 : Int32) from by decide) ?_
      refine own_aload (q := 162) A514 at_160 rfl rfl ?_
      refine own_iconst (q := 163) A514 (2 : Int32) at_162 rfl ?_
      refine own_iloadN (q := 164) A514 at_163 rfl ?_
      refine own_iload (q := 166) A514 at_164 rfl ?_
      refine own_iload (q := 168) A514 at_166 rfl ?_
      refine own_iload (q := 170) A514 at_168 rfl ?_
      refine own_iload (q := 172) A514 at_170 rfl ?_
      refine own_iload (q := 174) A514 at_172 rfl ?_
      refine own_static (q := 177) (W := 0) (argsL := [(.ref b492), (.int (2 : Int32)), (.int (1 : Int32)), (.int c1), (.int c2), (.int (1 : Int32)), (.int d1), (.int d2)]) (rest := []) A514 (H.k 165 rfl) (H.k 166 rfl) (H.k 2 rfl) (H.k 167 rfl) (by decide) (own_payN (rm_ok2_11 b492 t493 k494 c1 c2 d1 d2 A514.old H E495 C496 V497 K498 hc10 hc11 hnc1 hc20 hc21 hnc2 hd10 hd11 hnd1 hd20 hd21 hnd2) (fun _ _ q => own_keepE q.2) (H.k 167 rfl) (H.k 2 rfl) (by decide) (by decide)) own_nW (Nat.le_of_eq rfl) own_pd1 rfl rfl rfl at_174 (by decide) (by decide) ?_
      rintro v515 T516 h517 A518 ⟨rfl, rfl⟩
      show own_Run p e below Q m T516 177 #[.val (.int i0), .val (.int i1), .val (.int i2), .val (.int (1 : Int32)), .val (.int (1 : Int32)), .val (.int c1), .val (.int c2), .val (.int d1), .val (.int d2), .val (.ref b425), .val (.ref b437), .val (.ref b492), .val (.int (((1 : Int32) + (2 : Int32)) + (1 : Int32)))] [(.int (1 : Int32))]
      refine own_ifcF (q := 180) A518 at_177 (show ¬ (1 : Int32) = (0 : Int32) from by decide) ?_
      refine own_aload (q := 182) A518 at_180 rfl rfl ?_
      refine own_iconst (q := 183) A518 (3 : Int32) at_182 rfl ?_
      refine own_iloadN (q := 184) A518 at_183 rfl ?_
      refine own_iload (q := 186) A518 at_184 rfl ?_
      refine own_iload (q := 188) A518 at_186 rfl ?_
      refine own_iload (q := 190) A518 at_188 rfl ?_
      refine own_iload (q := 192) A518 at_190 rfl ?_
      refine own_iload (q := 194) A518 at_192 rfl ?_
      refine own_static (q := 197) (W := 0) (argsL := [(.ref b492), (.int (3 : Int32)), (.int (1 : Int32)), (.int c1), (.int c2), (.int (1 : Int32)), (.int d1), (.int d2)]) (rest := []) A518 (H.k 165 rfl) (H.k 166 rfl) (H.k 2 rfl) (H.k 167 rfl) (by decide) (own_payN (rm_ok3_11 b492 t493 k494 c1 c2 d1 d2 A518.old H E495 C496 V497 K498 hc10 hc11 hnc1 hc20 hc21 hnc2 hd10 hd11 hnd1 hd20 hd21 hnd2) (fun _ _ q => own_keepE q.2) (H.k 167 rfl) (H.k 2 rfl) (by decide) (by decide)) own_nW (Nat.le_of_eq rfl) own_pd1 rfl rfl rfl at_194 (by decide) (by decide) ?_
      rintro v519 T520 h521 A522 ⟨rfl, rfl⟩
      show own_Run p e below Q m T520 197 #[.val (.int i0), .val (.int i1), .val (.int i2), .val (.int (1 : Int32)), .val (.int (1 : Int32)), .val (.int c1), .val (.int c2), .val (.int d1), .val (.int d2), .val (.ref b425), .val (.ref b437), .val (.ref b492), .val (.int (((1 : Int32) + (2 : Int32)) + (1 : Int32)))] [(.int (1 : Int32))]
      refine own_ifcF (q := 200) A522 at_197 (show ¬ (1 : Int32) = (0 : Int32) from by decide) ?_
      refine own_aload (q := 202) A522 at_200 rfl rfl ?_
      refine own_iconst (q := 203) A522 (4 : Int32) at_202 rfl ?_
      refine own_iloadN (q := 204) A522 at_203 rfl ?_
      refine own_iload (q := 206) A522 at_204 rfl ?_
      refine own_iload (q := 208) A522 at_206 rfl ?_
      refine own_iload (q := 210) A522 at_208 rfl ?_
      refine own_iload (q := 212) A522 at_210 rfl ?_
      refine own_iload (q := 214) A522 at_212 rfl ?_
      refine own_static (q := 217) (W := 0) (argsL := [(.ref b492), (.int (4 : Int32)), (.int (1 : Int32)), (.int c1), (.int c2), (.int (1 : Int32)), (.int d1), (.int d2)]) (rest := []) A522 (H.k 165 rfl) (H.k 166 rfl) (H.k 2 rfl) (H.k 167 rfl) (by decide) (own_payN (rm_ok4_11 b492 t493 k494 c1 c2 d1 d2 A522.old H E495 C496 V497 K498 hc10 hc11 hnc1 hc20 hc21 hnc2 hd10 hd11 hnd1 hd20 hd21 hnd2) (fun _ _ q => own_keepE q.2) (H.k 167 rfl) (H.k 2 rfl) (by decide) (by decide)) own_nW (Nat.le_of_eq rfl) own_pd1 rfl rfl rfl at_214 (by decide) (by decide) ?_
      rintro v523 T524 h525 A526 ⟨rfl, rfl⟩
      show own_Run p e below Q m T524 217 #[.val (.int i0), .val (.int i1), .val (.int i2), .val (.int (1 : Int32)), .val (.int (1 : Int32)), .val (.int c1), .val (.int c2), .val (.int d1), .val (.int d2), .val (.ref b425), .val (.ref b437), .val (.ref b492), .val (.int (((1 : Int32) + (2 : Int32)) + (1 : Int32)))] [(.int (1 : Int32))]
      refine own_ifcF (q := 220) A526 at_217 (show ¬ (1 : Int32) = (0 : Int32) from by decide) ?_
      refine own_aload (q := 222) A526 at_220 rfl rfl ?_
      refine own_iconst (q := 223) A526 (5 : Int32) at_222 rfl ?_
      refine own_iloadN (q := 224) A526 at_223 rfl ?_
      refine own_iload (q := 226) A526 at_224 rfl ?_
      refine own_iload (q := 228) A526 at_226 rfl ?_
      refine own_iload (q := 230) A526 at_228 rfl ?_
      refine own_iload (q := 232) A526 at_230 rfl ?_
      refine own_iload (q := 234) A526 at_232 rfl ?_
      refine own_static (q := 237) (W := 0) (argsL := [(.ref b492), (.int (5 : Int32)), (.int (1 : Int32)), (.int c1), (.int c2), (.int (1 : Int32)), (.int d1), (.int d2)]) (rest := []) A526 (H.k 165 rfl) (H.k 166 rfl) (H.k 2 rfl) (H.k 167 rfl) (by decide) (own_payN (rm_ok5_11 b492 t493 k494 c1 c2 d1 d2 A526.old H E495 C496 V497 K498 hc10 hc11 hnc1 hc20 hc21 hnc2 hd10 hd11 hnd1 hd20 hd21 hnd2) (fun _ _ q => own_keepE q.2) (H.k 167 rfl) (H.k 2 rfl) (by decide) (by decide)) own_nW (Nat.le_of_eq rfl) own_pd1 rfl rfl rfl at_234 (by decide) (by decide) ?_
      rintro v527 T528 h529 A530 ⟨rfl, rfl⟩
      show own_Run p e below Q m T528 237 #[.val (.int i0), .val (.int i1), .val (.int i2), .val (.int (1 : Int32)), .val (.int (1 : Int32)), .val (.int c1), .val (.int c2), .val (.int d1), .val (.int d2), .val (.ref b425), .val (.ref b437), .val (.ref b492), .val (.int (((1 : Int32) + (2 : Int32)) + (1 : Int32)))] [(.int (1 : Int32))]
      refine own_ifcF (q := 240) A530 at_237 (show ¬ (1 : Int32) = (0 : Int32) from by decide) ?_
      refine own_iconst (q := 241) A530 (1 : Int32) at_240 rfl ?_
      refine own_goto (q := 245) A530 at_241 ?_
      exact own_retN A530 hQ (t := .boolean) (by simp) at_245 rfl
    · rw [qk]
      refine own_istore (q := 20) (L' := #[.val (.int i0), .val (.int i1), .val (.int i2), .val (.int (1 : Int32)), .val (.int (2 : Int32)), .unset, .unset, .unset, .unset, .unset, .unset, .unset, .unset]) A0 at_18 rfl ?_
      refine own_iloadN (q := 21) A0 at_20 rfl ?_
      refine own_sipush (q := 24) A0 (255 : Int32) at_21 rfl ?_
      refine own_iand (q := 25) A0 at_24 ?_
      refine own_i2c (q := 26) A0 at_25 ?_
      obtain ⟨c1, ec1, hc10, hc11, hnc1⟩ := own_byte i0
      rw [ec1]
      refine own_istore (q := 28) (L' := #[.val (.int i0), .val (.int i1), .val (.int i2), .val (.int (1 : Int32)), .val (.int (2 : Int32)), .val (.int c1), .unset, .unset, .unset, .unset, .unset, .unset, .unset]) A0 at_26 rfl ?_
      refine own_iloadN (q := 29) A0 at_28 rfl ?_
      refine own_bipush (q := 31) A0 (8 : Int32) at_29 rfl ?_
      refine own_iushr (q := 32) A0 at_31 ?_
      refine own_sipush (q := 35) A0 (255 : Int32) at_32 rfl ?_
      refine own_iand (q := 36) A0 at_35 ?_
      refine own_i2c (q := 37) A0 at_36 ?_
      obtain ⟨c2, ec2, hc20, hc21, hnc2⟩ := own_byte ((i0.toUInt32 >>> ((8 : Int32) &&& 31).toUInt32).toInt32)
      rw [ec2]
      refine own_istore (q := 39) (L' := #[.val (.int i0), .val (.int i1), .val (.int i2), .val (.int (1 : Int32)), .val (.int (2 : Int32)), .val (.int c1), .val (.int c2), .unset, .unset, .unset, .unset, .unset, .unset]) A0 at_37 rfl ?_
      refine own_iloadN (q := 40) A0 at_39 rfl ?_
      refine own_sipush (q := 43) A0 (255 : Int32) at_40 rfl ?_
      refine own_iand (q := 44) A0 at_43 ?_
      refine own_i2c (q := 45) A0 at_44 ?_
      obtain ⟨d1, ed1, hd10, hd11, hnd1⟩ := own_byte i1
      rw [ed1]
      refine own_istore (q := 47) (L' := #[.val (.int i0), .val (.int i1), .val (.int i2), .val (.int (1 : Int32)), .val (.int (2 : Int32)), .val (.int c1), .val (.int c2), .val (.int d1), .unset, .unset, .unset, .unset, .unset]) A0 at_45 rfl ?_
      refine own_iloadN (q := 48) A0 at_47 rfl ?_
      refine own_bipush (q := 50) A0 (8 : Int32) at_48 rfl ?_
      refine own_iushr (q := 51) A0 at_50 ?_
      refine own_sipush (q := 54) A0 (255 : Int32) at_51 rfl ?_
      refine own_iand (q := 55) A0 at_54 ?_
      refine own_i2c (q := 56) A0 at_55 ?_
      obtain ⟨d2, ed2, hd20, hd21, hnd2⟩ := own_byte ((i1.toUInt32 >>> ((8 : Int32) &&& 31).toUInt32).toInt32)
      rw [ed2]
      refine own_istore (q := 58) (L' := #[.val (.int i0), .val (.int i1), .val (.int i2), .val (.int (1 : Int32)), .val (.int (2 : Int32)), .val (.int c1), .val (.int c2), .val (.int d1), .val (.int d2), .unset, .unset, .unset, .unset]) A0 at_56 rfl ?_
      refine own_iloadN (q := 59) A0 at_58 rfl ?_
      refine own_iload (q := 61) A0 at_59 rfl ?_
      refine own_iload (q := 63) A0 at_61 rfl ?_
      refine own_static (q := 66) (W := 0) (argsL := [(.int (1 : Int32)), (.int c1), (.int c2)]) (rest := []) A0 (H.k 0 rfl) (H.k 1 rfl) (H.k 2 rfl) (H.k 3 rfl) (by decide) (own_payN (rm_mk1 c1 c2 A0.old H hc10 hc11 hnc1 hc20 hc21 hnc2) (fun _ _ ⟨_, _, _, _, q, _⟩ => q) (H.k 3 rfl) (H.k 2 rfl) (by decide) (by decide)) own_nW (Nat.le_of_eq rfl) own_pd0 rfl rfl rfl at_63 (by decide) (by decide) ?_
      rintro v539 T540 h541 A542 ⟨b531, t532, k533, rfl, K534, E535, C536, V537, K538⟩
      show own_Run p e below Q m T540 66 #[.val (.int i0), .val (.int i1), .val (.int i2), .val (.int (1 : Int32)), .val (.int (2 : Int32)), .val (.int c1), .val (.int c2), .val (.int d1), .val (.int d2), .unset, .unset, .unset, .unset] [(.ref b531)]
      refine own_astore (q := 68) (L' := #[.val (.int i0), .val (.int i1), .val (.int i2), .val (.int (1 : Int32)), .val (.int (2 : Int32)), .val (.int c1), .val (.int c2), .val (.int d1), .val (.int d2), .val (.ref b531), .unset, .unset, .unset]) A542 at_66 rfl rfl ?_
      refine own_iload (q := 70) A542 at_68 rfl ?_
      refine own_iload (q := 72) A542 at_70 rfl ?_
      refine own_iload (q := 74) A542 at_72 rfl ?_
      refine own_static (q := 77) (W := 0) (argsL := [(.int (2 : Int32)), (.int d1), (.int d2)]) (rest := []) A542 (H.k 0 rfl) (H.k 1 rfl) (H.k 2 rfl) (H.k 3 rfl) (by decide) (own_payN (rm_mk2 d1 d2 A542.old H hd10 hd11 hnd1 hd20 hd21 hnd2) (fun _ _ ⟨_, _, _, _, q, _⟩ => q) (H.k 3 rfl) (H.k 2 rfl) (by decide) (by decide)) own_nW (Nat.le_of_eq rfl) own_pd0 rfl rfl rfl at_74 (by decide) (by decide) ?_
      rintro v551 T552 h553 A554 ⟨b543, t544, k545, rfl, K546, E547, C548, V549, K550⟩
      show own_Run p e below Q m T552 77 #[.val (.int i0), .val (.int i1), .val (.int i2), .val (.int (1 : Int32)), .val (.int (2 : Int32)), .val (.int c1), .val (.int c2), .val (.int d1), .val (.int d2), .val (.ref b531), .unset, .unset, .unset] [(.ref b543)]
      have f555 := E535.keep K546
      have f556 := C536.keep K546 nin0
      have f557 := V537.keep K546 nin0
      have f558 := K538.keep K546 nin0
      refine own_astore (q := 79) (L' := #[.val (.int i0), .val (.int i1), .val (.int i2), .val (.int (1 : Int32)), .val (.int (2 : Int32)), .val (.int c1), .val (.int c2), .val (.int d1), .val (.int d2), .val (.ref b531), .val (.ref b543), .unset, .unset]) A554 at_77 rfl rfl ?_
      refine own_newO (q := 82) A554 (H.k 37 rfl) (H.k 38 rfl) (H.k 39 rfl) at_79 (by decide) (by decide) ?_
      intro T559 h560 a561 g562 g563 A564 E565 X566 D567
      have z568 : b531 ≠ a561 := Nat.ne_of_lt (Nat.lt_of_lt_of_le f555.lt (Nat.le_of_eq g562))
      have z569 : t532 ≠ a561 := Nat.ne_of_lt (Nat.lt_of_lt_of_le f558.lt (Nat.le_of_eq g562))
      have z570 : b543 ≠ a561 := Nat.ne_of_lt (Nat.lt_of_lt_of_le E547.lt (Nat.le_of_eq g562))
      have z571 : t544 ≠ a561 := Nat.ne_of_lt (Nat.lt_of_lt_of_le K550.lt (Nat.le_of_eq g562))
      have f572 := f555.ext E565
      have f573 := f556.ext E565
      have f574 := f557.ext E565
      have f575 := f558.ext E565
      have f576 := E547.ext E565
      have f577 := C548.ext E565
      have f578 := V549.ext E565
      have f579 := K550.ext E565
      have f580 : Fld Z h560 a561 "com/example/hifadhi/hifadhi/project/NotAnalysed" "what" "Ljava/lang/String;" .null := D567 (Or.inr (H.k 45 rfl)) (ty := (.object "java/lang/String")) (by decide)
      have f581 : Fld Z h560 a561 "com/example/hifadhi/hifadhi/project/NotAnalysed" "reason" "Ljava/lang/String;" .null := D567 (Or.inr (H.k 47 rfl)) (ty := (.object "java/lang/String")) (by decide)
      refine own_dup (q := 83) A564 at_82 rfl ?_
      refine own_aload (q := 85) A564 at_83 rfl rfl ?_
      refine own_aload (q := 87) A564 at_85 rfl rfl ?_
      refine own_special (q := 90) (W := 1) (argsL := [(.ref b531), (.ref b543)]) (rest := [(.ref a561)]) A564 rfl (H.k 40 rfl) (H.k 41 rfl) (H.k 42 rfl) (by decide) (own_payN (rm_nai a561 b531 b543 A564.old H X566 f580 f581 g563) (fun _ _ q => q.2.1) (H.k 42 rfl) (H.k 39 rfl) (by decide) (by decide)) (by simp) (Nat.le_of_eq rfl) own_pd4 rfl rfl rfl at_87 (by decide) (by decide) ?_
      rintro v586 T587 h588 A589 ⟨rfl, K582, E583, F584, F585⟩
      show own_Run p e below Q m T587 90 #[.val (.int i0), .val (.int i1), .val (.int i2), .val (.int (1 : Int32)), .val (.int (2 : Int32)), .val (.int c1), .val (.int c2), .val (.int d1), .val (.int d2), .val (.ref b531), .val (.ref b543), .unset, .unset] [(.ref a561)]
      have f590 := f572.keep K582
      have f591 := f573.keep K582 (ninS z568 nin0)
      have f592 := f574.keep K582 (ninS z568 nin0)
      have f593 := f575.keep K582 (ninS z569 nin0)
      have f594 := f576.keep K582
      have f595 := f577.keep K582 (ninS z570 nin0)
      have f596 := f578.keep K582 (ninS z570 nin0)
      have f597 := f579.keep K582 (ninS z571 nin0)
      refine own_virtualW (q := 93) (W := 0) (argsL := []) (rest := []) A589 (H.k 48 rfl) (H.k 49 rfl) (H.k 51 rfl) (H.k 50 rfl) (by decide) (own_payW (rm_msg12 a561 b531 t532 b543 t544 k533 k545 (c1.toInt8.toInt32) (d1.toInt8.toInt32) (d2.toInt8.toInt32) A589.old hEL H E583 F584 F585 f590 f591 f592 f593 f594 f595 f596 f597) (H.k 52 rfl) (H.k 39 rfl) (by decide) (by decide)) own_nW (Nat.le_of_eq rfl) E583 own_pd5 rfl rfl rfl at_90 (by decide) (by decide) ?_
      rintro v605 T606 h607 A608 ⟨b598, t599, k600, rfl, E601, C602, V603, K604⟩
      show own_Run p e below Q m T606 93 #[.val (.int i0), .val (.int i1), .val (.int i2), .val (.int (1 : Int32)), .val (.int (2 : Int32)), .val (.int c1), .val (.int c2), .val (.int d1), .val (.int d2), .val (.ref b531), .val (.ref b543), .unset, .unset] [(.ref b598)]
      refine own_astore (q := 95) (L' := #[.val (.int i0), .val (.int i1), .val (.int i2), .val (.int (1 : Int32)), .val (.int (2 : Int32)), .val (.int c1), .val (.int c2), .val (.int d1), .val (.int d2), .val (.ref b531), .val (.ref b543), .val (.ref b598), .unset]) A608 at_93 rfl rfl ?_
      refine own_iloadN (q := 96) A608 at_95 rfl ?_
      refine own_iconst (q := 97) A608 (2 : Int32) at_96 rfl ?_
      refine own_iadd (q := 98) A608 at_97 ?_
      refine own_iload (q := 100) A608 at_98 rfl ?_
      refine own_iadd (q := 101) A608 at_100 ?_
      refine own_istore (q := 103) (L' := #[.val (.int i0), .val (.int i1), .val (.int i2), .val (.int (1 : Int32)), .val (.int (2 : Int32)), .val (.int c1), .val (.int c2), .val (.int d1), .val (.int d2), .val (.ref b531), .val (.ref b543), .val (.ref b598), .val (.int (((1 : Int32) + (2 : Int32)) + (2 : Int32)))]) A608 at_101 rfl ?_
      refine own_aload (q := 105) A608 at_103 rfl rfl ?_
      refine own_ifnullF (q := 108) A608 at_105 ?_
      refine own_aload (q := 110) A608 at_108 rfl rfl ?_
      refine own_virtual (q := 113) (W := 0) (argsL := []) (rest := []) A608 (H.k 164 rfl) (H.k 82 rfl) (H.k 84 rfl) (H.k 83 rfl) (by decide) (own_payLen (cs1 := [c1, (58 : Int32), (32 : Int32), d1, d2]) (kI := 4) (own_wLen H.w) (H.k 5 rfl) A608.old E601 V603 C602 K604 (own_cod [c1, (58 : Int32), (32 : Int32), d1, d2] (n := 5) rfl (fun yy hy => ((show ∀ yy ∈ [c1, (58 : Int32), (32 : Int32), d1, d2], ¬ yy < 0 ∧ ¬ (255 : Int32) < yy from (own_fc ⟨hc10, hc11⟩ (own_fc (by decide) (own_fc (by decide) (own_fc ⟨hd10, hd11⟩ (own_fc ⟨hd20, hd21⟩ (fun _ z => nomatch z))))))) yy hy).2) rfl rfl) (own_b16 (own_fc ⟨hc10, hc11⟩ (own_fc (by decide) (own_fc (by decide) (own_fc ⟨hd10, hd11⟩ (own_fc ⟨hd20, hd21⟩ (fun _ z => nomatch z))))))) (Nat.le_of_ble_eq_true rfl) H.SC H.hz (by decide) (by decide)) own_nW (Nat.le_of_eq rfl) E601 own_pd10 rfl rfl rfl at_110 (by decide) (by decide) ?_
      rintro v609 T610 h611 A612 ⟨rfl, rfl⟩
      show own_Run p e below Q m T610 113 #[.val (.int i0), .val (.int i1), .val (.int i2), .val (.int (1 : Int32)), .val (.int (2 : Int32)), .val (.int c1), .val (.int c2), .val (.int d1), .val (.int d2), .val (.ref b531), .val (.ref b543), .val (.ref b598), .val (.int (((1 : Int32) + (2 : Int32)) + (2 : Int32)))] [(.int (5 : Int32))]
      refine own_iload (q := 115) A612 at_113 rfl ?_
      refine own_icmpT (q := 120) A612 at_115 (show (5 : Int32) = (((1 : Int32) + (2 : Int32)) + (2 : Int32)) from by decide) ?_
      refine own_aload (q := 122) A612 at_120 rfl rfl ?_
      refine own_iconst (q := 123) A612 (0 : Int32) at_122 rfl ?_
      refine own_iloadN (q := 124) A612 at_123 rfl ?_
      refine own_iload (q := 126) A612 at_124 rfl ?_
      refine own_iload (q := 128) A612 at_126 rfl ?_
      refine own_iload (q := 130) A612 at_128 rfl ?_
      refine own_iload (q := 132) A612 at_130 rfl ?_
      refine own_iload (q := 134) A612 at_132 rfl ?_
      refine own_static (q := 137) (W := 0) (argsL := [(.ref b598), (.int (0 : Int32)), (.int (1 : Int32)), (.int c1), (.int c2), (.int (2 : Int32)), (.int d1), (.int d2)]) (rest := []) A612 (H.k 165 rfl) (H.k 166 rfl) (H.k 2 rfl) (H.k 167 rfl) (by decide) (own_payN (rm_ok0_12 b598 t599 k600 c1 c2 d1 d2 A612.old H E601 C602 V603 K604 hc10 hc11 hnc1 hc20 hc21 hnc2 hd10 hd11 hnd1 hd20 hd21 hnd2) (fun _ _ q => own_keepE q.2) (H.k 167 rfl) (H.k 2 rfl) (by decide) (by decide)) own_nW (Nat.le_of_eq rfl) own_pd1 rfl rfl rfl at_134 (by decide) (by decide) ?_
      rintro v613 T614 h615 A616 ⟨rfl, rfl⟩
      show own_Run p e below Q m T614 137 #[.val (.int i0), .val (.int i1), .val (.int i2), .val (.int (1 : Int32)), .val (.int (2 : Int32)), .val (.int c1), .val (.int c2), .val (.int d1), .val (.int d2), .val (.ref b531), .val (.ref b543), .val (.ref b598), .val (.int (((1 : Int32) + (2 : Int32)) + (2 : Int32)))] [(.int (1 : Int32))]
      refine own_ifcF (q := 140) A616 at_137 (show ¬ (1 : Int32) = (0 : Int32) from by decide) ?_
      refine own_aload (q := 142) A616 at_140 rfl rfl ?_
      refine own_iconst (q := 143) A616 (1 : Int32) at_142 rfl ?_
      refine own_iloadN (q := 144) A616 at_143 rfl ?_
      refine own_iload (q := 146) A616 at_144 rfl ?_
      refine own_iload (q := 148) A616 at_146 rfl ?_
      refine own_iload (q := 150) A616 at_148 rfl ?_
      refine own_iload (q := 152) A616 at_150 rfl ?_
      refine own_iload (q := 154) A616 at_152 rfl ?_
      refine own_static (q := 157) (W := 0) (argsL := [(.ref b598), (.int (1 : Int32)), (.int (1 : Int32)), (.int c1), (.int c2), (.int (2 : Int32)), (.int d1), (.int d2)]) (rest := []) A616 (H.k 165 rfl) (H.k 166 rfl) (H.k 2 rfl) (H.k 167 rfl) (by decide) (own_payN (rm_ok1_12 b598 t599 k600 c1 c2 d1 d2 A616.old H E601 C602 V603 K604 hc10 hc11 hnc1 hc20 hc21 hnc2 hd10 hd11 hnd1 hd20 hd21 hnd2) (fun _ _ q => own_keepE q.2) (H.k 167 rfl) (H.k 2 rfl) (by decide) (by decide)) own_nW (Nat.le_of_eq rfl) own_pd1 rfl rfl rfl at_154 (by decide) (by decide) ?_
      rintro v617 T618 h619 A620 ⟨rfl, rfl⟩
      show own_Run p e below Q m T618 157 #[.val (.int i0), .val (.int i1), .val (.int i2), .val (.int (1 : Int32)), .val (.int (2 : Int32)), .val (.int c1), .val (.int c2), .val (.int d1), .val (.int d2), .val (.ref b531), .val (.ref b543), .val (.ref b598), .val (.int (((1 : Int32) + (2 : Int32)) + (2 : Int32)))] [(.int (1 : Int32))]
      refine own_ifcF (q := 160) A620 at_157 (show ¬ (1 : Int32) = (0 : Int32) from by decide) ?_
      refine own_aload (q := 162) A620 at_160 rfl rfl ?_
      refine own_iconst (q := 163) A620 (2 : Int32) at_162 rfl ?_
      refine own_iloadN (q := 164) A620 at_163 rfl ?_
      refine own_iload (q := 166) A620 at_164 rfl ?_
      refine own_iload (q := 168) A620 at_166 rfl ?_
      refine own_iload (q := 170) A620 at_168 rfl ?_
      refine own_iload (q := 172) A620 at_170 rfl ?_
      refine own_iload (q := 174) A620 at_172 rfl ?_
      refine own_static (q := 177) (W := 0) (argsL := [(.ref b598), (.int (2 : Int32)), (.int (1 : Int32)), (.int c1), (.int c2), (.int (2 : Int32)), (.int d1), (.int d2)]) (rest := []) A620 (H.k 165 rfl) (H.k 166 rfl) (H.k 2 rfl) (H.k 167 rfl) (by decide) (own_payN (rm_ok2_12 b598 t599 k600 c1 c2 d1 d2 A620.old H E601 C602 V603 K604 hc10 hc11 hnc1 hc20 hc21 hnc2 hd10 hd11 hnd1 hd20 hd21 hnd2) (fun _ _ q => own_keepE q.2) (H.k 167 rfl) (H.k 2 rfl) (by decide) (by decide)) own_nW (Nat.le_of_eq rfl) own_pd1 rfl rfl rfl at_174 (by decide) (by decide) ?_
      rintro v621 T622 h623 A624 ⟨rfl, rfl⟩
      show own_Run p e below Q m T622 177 #[.val (.int i0), .val (.int i1), .val (.int i2), .val (.int (1 : Int32)), .val (.int (2 : Int32)), .val (.int c1), .val (.int c2), .val (.int d1), .val (.int d2), .val (.ref b531), .val (.ref b543), .val (.ref b598), .val (.int (((1 : Int32) + (2 : Int32)) + (2 : Int32)))] [(.int (1 : Int32))]
      refine own_ifcF (q := 180) A624 at_177 (show ¬ (1 : Int32) = (0 : Int32) from by decide) ?_
      refine own_aload (q := 182) A624 at_180 rfl rfl ?_
      refine own_iconst (q := 183) A624 (3 : Int32) at_182 rfl ?_
      refine own_iloadN (q := 184) A624 at_183 rfl ?_
      refine own_iload (q := 186) A624 at_184 rfl ?_
      refine own_iload (q := 188) A624 at_186 rfl ?_
      refine own_iload (q := 190) A624 at_188 rfl ?_
      refine own_iload (q := 192) A624 at_190 rfl ?_
      refine own_iload (q := 194) A624 at_192 rfl ?_
      refine own_static (q := 197) (W := 0) (argsL := [(.ref b598), (.int (3 : Int32)), (.int (1 : Int32)), (.int c1), (.int c2), (.int (2 : Int32)), (.int d1), (.int d2)]) (rest := []) A624 (H.k 165 rfl) (H.k 166 rfl) (H.k 2 rfl) (H.k 167 rfl) (by decide) (own_payN (rm_ok3_12 b598 t599 k600 c1 c2 d1 d2 A624.old H E601 C602 V603 K604 hc10 hc11 hnc1 hc20 hc21 hnc2 hd10 hd11 hnd1 hd20 hd21 hnd2) (fun _ _ q => own_keepE q.2) (H.k 167 rfl) (H.k 2 rfl) (by decide) (by decide)) own_nW (Nat.le_of_eq rfl) own_pd1 rfl rfl rfl at_194 (by decide) (by decide) ?_
      rintro v625 T626 h627 A628 ⟨rfl, rfl⟩
      show own_Run p e below Q m T626 197 #[.val (.int i0), .val (.int i1), .val (.int i2), .val (.int (1 : Int32)), .val (.int (2 : Int32)), .val (.int c1), .val (.int c2), .val (.int d1), .val (.int d2), .val (.ref b531), .val (.ref b543), .val (.ref b598), .val (.int (((1 : Int32) + (2 : Int32)) + (2 : Int32)))] [(.int (1 : Int32))]
      refine own_ifcF (q := 200) A628 at_197 (show ¬ (1 : Int32) = (0 : Int32) from by decide) ?_
      refine own_aload (q := 202) A628 at_200 rfl rfl ?_
      refine own_iconst (q := 203) A628 (4 : Int32) at_202 rfl ?_
      refine own_iloadN (q := 204) A628 at_203 rfl ?_
      refine own_iload (q := 206) A628 at_204 rfl ?_
      refine own_iload (q := 208) A628 at_206 rfl ?_
      refine own_iload (q := 210) A628 at_208 rfl ?_
      refine own_iload (q := 212) A628 at_210 rfl ?_
      refine own_iload (q := 214) A628 at_212 rfl ?_
      refine own_static (q := 217) (W := 0) (argsL := [(.ref b598), (.int (4 : Int32)), (.int (1 : Int32)), (.int c1), (.int c2), (.int (2 : Int32)), (.int d1), (.int d2)]) (rest := []) A628 (H.k 165 rfl) (H.k 166 rfl) (H.k 2 rfl) (H.k 167 rfl) (by decide) (own_payN (rm_ok4_12 b598 t599 k600 c1 c2 d1 d2 A628.old H E601 C602 V603 K604 hc10 hc11 hnc1 hc20 hc21 hnc2 hd10 hd11 hnd1 hd20 hd21 hnd2) (fun _ _ q => own_keepE q.2) (H.k 167 rfl) (H.k 2 rfl) (by decide) (by decide)) own_nW (Nat.le_of_eq rfl) own_pd1 rfl rfl rfl at_214 (by decide) (by decide) ?_
      rintro v629 T630 h631 A632 ⟨rfl, rfl⟩
      show own_Run p e below Q m T630 217 #[.val (.int i0), .val (.int i1), .val (.int i2), .val (.int (1 : Int32)), .val (.int (2 : Int32)), .val (.int c1), .val (.int c2), .val (.int d1), .val (.int d2), .val (.ref b531), .val (.ref b543), .val (.ref b598), .val (.int (((1 : Int32) + (2 : Int32)) + (2 : Int32)))] [(.int (1 : Int32))]
      refine own_ifcF (q := 220) A632 at_217 (show ¬ (1 : Int32) = (0 : Int32) from by decide) ?_
      refine own_aload (q := 222) A632 at_220 rfl rfl ?_
      refine own_iconst (q := 223) A632 (5 : Int32) at_222 rfl ?_
      refine own_iloadN (q := 224) A632 at_223 rfl ?_
      refine own_iload (q := 226) A632 at_224 rfl ?_
      refine own_iload (q := 228) A632 at_226 rfl ?_
      refine own_iload (q := 230) A632 at_228 rfl ?_
      refine own_iload (q := 232) A632 at_230 rfl ?_
      refine own_iload (q := 234) A632 at_232 rfl ?_
      refine own_static (q := 237) (W := 0) (argsL := [(.ref b598), (.int (5 : Int32)), (.int (1 : Int32)), (.int c1), (.int c2), (.int (2 : Int32)), (.int d1), (.int d2)]) (rest := []) A632 (H.k 165 rfl) (H.k 166 rfl) (H.k 2 rfl) (H.k 167 rfl) (by decide) (own_payN (rm_ok5_12 b598 t599 k600 c1 c2 d1 d2 A632.old H E601 C602 V603 K604 hc10 hc11 hnc1 hc20 hc21 hnc2 hd10 hd11 hnd1 hd20 hd21 hnd2) (fun _ _ q => own_keepE q.2) (H.k 167 rfl) (H.k 2 rfl) (by decide) (by decide)) own_nW (Nat.le_of_eq rfl) own_pd1 rfl rfl rfl at_234 (by decide) (by decide) ?_
      rintro v633 T634 h635 A636 ⟨rfl, rfl⟩
      show own_Run p e below Q m T634 237 #[.val (.int i0), .val (.int i1), .val (.int i2), .val (.int (1 : Int32)), .val (.int (2 : Int32)), .val (.int c1), .val (.int c2), .val (.int d1), .val (.int d2), .val (.ref b531), .val (.ref b543), .val (.ref b598), .val (.int (((1 : Int32) + (2 : Int32)) + (2 : Int32)))] [(.int (1 : Int32))]
      refine own_ifcF (q := 240) A636 at_237 (show ¬ (1 : Int32) = (0 : Int32) from by decide) ?_
      refine own_iconst (q := 241) A636 (1 : Int32) at_240 rfl ?_
      refine own_goto (q := 245) A636 at_241 ?_
      exact own_retN A636 hQ (t := .boolean) (by simp) at_245 rfl
  · rw [qk]
    refine own_istoreN (q := 8) (L' := #[.val (.int i0), .val (.int i1), .val (.int i2), .val (.int (2 : Int32)), .unset, .unset, .unset, .unset, .unset, .unset, .unset, .unset, .unset]) A0 at_7 rfl ?_
    refine own_iloadN (q := 9) A0 at_8 rfl ?_
    refine own_bipush (q := 11) A0 (8 : Int32) at_9 rfl ?_
    refine own_iushr (q := 12) A0 at_11 ?_
    refine own_sipush (q := 15) A0 (255 : Int32) at_12 rfl ?_
    refine own_iand (q := 16) A0 at_15 ?_
    refine own_iconst (q := 17) A0 (3 : Int32) at_16 rfl ?_
    refine own_irem (q := 18) A0 at_17 (by decide) ?_
    rcases own_rem3 ((i2.toUInt32 >>> ((8 : Int32) &&& 31).toUInt32).toInt32) with qk | qk | qk
    · rw [qk]
      refine own_istore (q := 20) (L' := #[.val (.int i0), .val (.int i1), .val (.int i2), .val (.int (2 : Int32)), .val (.int (0 : Int32)), .unset, .unset, .unset, .unset, .unset, .unset, .unset, .unset]) A0 at_18 rfl ?_
      refine own_iloadN (q := 21) A0 at_20 rfl ?_
      refine own_sipush (q := 24) A0 (255 : Int32) at_21 rfl ?_
      refine own_iand (q := 25) A0 at_24 ?_
      refine own_i2c (q := 26) A0 at_25 ?_
      obtain ⟨c1, ec1, hc10, hc11, hnc1⟩ := own_byte i0
      rw [ec1]
      refine own_istore (q := 28) (L' := #[.val (.int i0), .val (.int i1), .val (.int i2), .val (.int (2 : Int32)), .val (.int (0 : Int32)), .val (.int c1), .unset, .unset, .unset, .unset, .unset, .unset, .unset]) A0 at_26 rfl ?_
      refine own_iloadN (q := 29) A0 at_28 rfl ?_
      refine own_bipush (q := 31) A0 (8 : Int32) at_29 rfl ?_
      refine own_iushr (q := 32) A0 at_31 ?_
      refine own_sipush (q := 35) A0 (255 : Int32) at_32 rfl ?_
      refine own_iand (q := 36) A0 at_35 ?_
      refine own_i2c (q := 37) A0 at_36 ?_
      obtain ⟨c2, ec2, hc20, hc21, hnc2⟩ := own_byte ((i0.toUInt32 >>> ((8 : Int32) &&& 31).toUInt32).toInt32)
      rw [ec2]
      refine own_istore (q := 39) (L' := #[.val (.int i0), .val (.int i1), .val (.int i2), .val (.int (2 : Int32)), .val (.int (0 : Int32)), .val (.int c1), .val (.int c2), .unset, .unset, .unset, .unset, .unset, .unset]) A0 at_37 rfl ?_
      refine own_iloadN (q := 40) A0 at_39 rfl ?_
      refine own_sipush (q := 43) A0 (255 : Int32) at_40 rfl ?_
      refine own_iand (q := 44) A0 at_43 ?_
      refine own_i2c (q := 45) A0 at_44 ?_
      obtain ⟨d1, ed1, hd10, hd11, hnd1⟩ := own_byte i1
      rw [ed1]
      refine own_istore (q := 47) (L' := #[.val (.int i0), .val (.int i1), .val (.int i2), .val (.int (2 : Int32)), .val (.int (0 : Int32)), .val (.int c1), .val (.int c2), .val (.int d1), .unset, .unset, .unset, .unset, .unset]) A0 at_45 rfl ?_
      refine own_iloadN (q := 48) A0 at_47 rfl ?_
      refine own_bipush (q := 50) A0 (8 : Int32) at_48 rfl ?_
      refine own_iushr (q := 51) A0 at_50 ?_
      refine own_sipush (q := 54) A0 (255 : Int32) at_51 rfl ?_
      refine own_iand (q := 55) A0 at_54 ?_
      refine own_i2c (q := 56) A0 at_55 ?_
      obtain ⟨d2, ed2, hd20, hd21, hnd2⟩ := own_byte ((i1.toUInt32 >>> ((8 : Int32) &&& 31).toUInt32).toInt32)
      rw [ed2]
      refine own_istore (q := 58) (L' := #[.val (.int i0), .val (.int i1), .val (.int i2), .val (.int (2 : Int32)), .val (.int (0 : Int32)), .val (.int c1), .val (.int c2), .val (.int d1), .val (.int d2), .unset, .unset, .unset, .unset]) A0 at_56 rfl ?_
      refine own_iloadN (q := 59) A0 at_58 rfl ?_
      refine own_iload (q := 61) A0 at_59 rfl ?_
      refine own_iload (q := 63) A0 at_61 rfl ?_
      refine own_static (q := 66) (W := 0) (argsL := [(.int (2 : Int32)), (.int c1), (.int c2)]) (rest := []) A0 (H.k 0 rfl) (H.k 1 rfl) (H.k 2 rfl) (H.k 3 rfl) (by decide) (own_payN (rm_mk2 c1 c2 A0.old H hc10 hc11 hnc1 hc20 hc21 hnc2) (fun _ _ ⟨_, _, _, _, q, _⟩ => q) (H.k 3 rfl) (H.k 2 rfl) (by decide) (by decide)) own_nW (Nat.le_of_eq rfl) own_pd0 rfl rfl rfl at_63 (by decide) (by decide) ?_
      rintro v645 T646 h647 A648 ⟨b637, t638, k639, rfl, K640, E641, C642, V643, K644⟩
      show own_Run p e below Q m T646 66 #[.val (.int i0), .val (.int i1), .val (.int i2), .val (.int (2 : Int32)), .val (.int (0 : Int32)), .val (.int c1), .val (.int c2), .val (.int d1), .val (.int d2), .unset, .unset, .unset, .unset] [(.ref b637)]
      refine own_astore (q := 68) (L' := #[.val (.int i0), .val (.int i1), .val (.int i2), .val (.int (2 : Int32)), .val (.int (0 : Int32)), .val (.int c1), .val (.int c2), .val (.int d1), .val (.int d2), .val (.ref b637), .unset, .unset, .unset]) A648 at_66 rfl rfl ?_
      refine own_iload (q := 70) A648 at_68 rfl ?_
      refine own_iload (q := 72) A648 at_70 rfl ?_
      refine own_iload (q := 74) A648 at_72 rfl ?_
      refine own_staticW (q := 77) (W := 0) (argsL := [(.int (0 : Int32)), (.int d1), (.int d2)]) (rest := []) A648 (H.k 0 rfl) (H.k 1 rfl) (H.k 2 rfl) (H.k 3 rfl) (by decide) (own_payW (rm_mk0 d1 d2 A648.old hEL H hd10 hd11 hnd1 hd20 hd21 hnd2) (H.k 3 rfl) (H.k 2 rfl) (by decide) (by decide)) own_nW (Nat.le_of_eq rfl) own_pd0 rfl rfl rfl at_74 (by decide) (by decide) ?_
      rintro v657 T658 h659 A660 ⟨b649, t650, k651, rfl, K652, E653, C654, V655, K656⟩
      show own_Run p e below Q m T658 77 #[.val (.int i0), .val (.int i1), .val (.int i2), .val (.int (2 : Int32)), .val (.int (0 : Int32)), .val (.int c1), .val (.int c2), .val (.int d1), .val (.int d2), .val (.ref b637), .unset, .unset, .unset] [(.ref b649)]
      have f661 := E641.keep K652
      have f662 := C642.keep K652 nin0
      have f663 := V643.keep K652 nin0
      have f664 := K644.keep K652 nin0
      refine own_astore (q := 79) (L' := #[.val (.int i0), .val (.int i1), .val (.int i2), .val (.int (2 : Int32)), .val (.int (0 : Int32)), .val (.int c1), .val (.int c2), .val (.int d1), .val (.int d2), .val (.ref b637), .val (.ref b649), .unset, .unset]) A660 at_77 rfl rfl ?_
      refine own_newO (q := 82) A660 (H.k 37 rfl) (H.k 38 rfl) (H.k 39 rfl) at_79 (by decide) (by decide) ?_
      intro T665 h666 a667 g668 g669 A670 E671 X672 D673
      have z674 : b637 ≠ a667 := Nat.ne_of_lt (Nat.lt_of_lt_of_le f661.lt (Nat.le_of_eq g668))
      have z675 : t638 ≠ a667 := Nat.ne_of_lt (Nat.lt_of_lt_of_le f664.lt (Nat.le_of_eq g668))
      have z676 : b649 ≠ a667 := Nat.ne_of_lt (Nat.lt_of_lt_of_le E653.lt (Nat.le_of_eq g668))
      have z677 : t650 ≠ a667 := Nat.ne_of_lt (Nat.lt_of_lt_of_le K656.lt (Nat.le_of_eq g668))
      have f678 := f661.ext E671
      have f679 := f662.ext E671
      have f680 := f663.ext E671
      have f681 := f664.ext E671
      have f682 := E653.ext E671
      have f683 := C654.ext E671
      have f684 := V655.ext E671
      have f685 := K656.ext E671
      have f686 : Fld Z h666 a667 "com/example/hifadhi/hifadhi/project/NotAnalysed" "what" "Ljava/lang/String;" .null := D673 (Or.inr (H.k 45 rfl)) (ty := (.object "java/lang/String")) (by decide)
      have f687 : Fld Z h666 a667 "com/example/hifadhi/hifadhi/project/NotAnalysed" "reason" "Ljava/lang/String;" .null := D673 (Or.inr (H.k 47 rfl)) (ty := (.object "java/lang/String")) (by decide)
      refine own_dup (q := 83) A670 at_82 rfl ?_
      refine own_aload (q := 85) A670 at_83 rfl rfl ?_
      refine own_aload (q := 87) A670 at_85 rfl rfl ?_
      refine own_special (q := 90) (W := 1) (argsL := [(.ref b637), (.ref b649)]) (rest := [(.ref a667)]) A670 rfl (H.k 40 rfl) (H.k 41 rfl) (H.k 42 rfl) (by decide) (own_payN (rm_nai a667 b637 b649 A670.old H X672 f686 f687 g669) (fun _ _ q => q.2.1) (H.k 42 rfl) (H.k 39 rfl) (by decide) (by decide)) (by simp) (Nat.le_of_eq rfl) own_pd4 rfl rfl rfl at_87 (by decide) (by decide) ?_
      rintro v692 T693 h694 A695 ⟨rfl, K688, E689, F690, F691⟩
      show own_Run p e below Q m T693 90 #[.val (.int i0), .val (.int i1), .val (.int i2), .val (.int (2 : Int32)), .val (.int (0 : Int32)), .val (.int c1), .val (.int c2), .val (.int d1), .val (.int d2), .val (.ref b637), .val (.ref b649), .unset, .unset] [(.ref a667)]
      have f696 := f678.keep K688
      have f697 := f679.keep K688 (ninS z674 nin0)
      have f698 := f680.keep K688 (ninS z674 nin0)
      have f699 := f681.keep K688 (ninS z675 nin0)
      have f700 := f682.keep K688
      have f701 := f683.keep K688 (ninS z676 nin0)
      have f702 := f684.keep K688 (ninS z676 nin0)
      have f703 := f685.keep K688 (ninS z677 nin0)
      refine own_virtualW (q := 93) (W := 0) (argsL := []) (rest := []) A695 (H.k 48 rfl) (H.k 49 rfl) (H.k 51 rfl) (H.k 50 rfl) (by decide) (own_payW (rm_msg20 a667 b637 t638 b649 t650 k639 k651 (c1.toInt8.toInt32) (c2.toInt8.toInt32) A695.old hEL H E689 F690 F691 f696 f697 f698 f699 f700 f701 f702 f703) (H.k 52 rfl) (H.k 39 rfl) (by decide) (by decide)) own_nW (Nat.le_of_eq rfl) E689 own_pd5 rfl rfl rfl at_90 (by decide) (by decide) ?_
      rintro v711 T712 h713 A714 ⟨b704, t705, k706, rfl, E707, C708, V709, K710⟩
      show own_Run p e below Q m T712 93 #[.val (.int i0), .val (.int i1), .val (.int i2), .val (.int (2 : Int32)), .val (.int (0 : Int32)), .val (.int c1), .val (.int c2), .val (.int d1), .val (.int d2), .val (.ref b637), .val (.ref b649), .unset, .unset] [(.ref b704)]
      refine own_astore (q := 95) (L' := #[.val (.int i0), .val (.int i1), .val (.int i2), .val (.int (2 : Int32)), .val (.int (0 : Int32)), .val (.int c1), .val (.int c2), .val (.int d1), .val (.int d2), .val (.ref b637), .val (.ref b649), .val (.ref b704), .unset]) A714 at_93 rfl rfl ?_
      refine own_iloadN (q := 96) A714 at_95 rfl ?_
      refine own_iconst (q := 97) A714 (2 : Int32) at_96 rfl ?_
      refine own_iadd (q := 98) A714 at_97 ?_
      refine own_iload (q := 100) A714 at_98 rfl ?_
      refine own_iadd (q := 101) A714 at_100 ?_
      refine own_istore (q := 103) (L' := #[.val (.int i0), .val (.int i1), .val (.int i2), .val (.int (2 : Int32)), .val (.int (0 : Int32)), .val (.int c1), .val (.int c2), .val (.int d1), .val (.int d2), .val (.ref b637), .val (.ref b649), .val (.ref b704), .val (.int (((2 : Int32) + (2 : Int32)) + (0 : Int32)))]) A714 at_101 rfl ?_
      refine own_aload (q := 105) A714 at_103 rfl rfl ?_
      refine own_ifnullF (q := 108) A714 at_105 ?_
      refine own_aload (q := 110) A714 at_108 rfl rfl ?_
      refine own_virtual (q := 113) (W := 0) (argsL := []) (rest := []) A714 (H.k 164 rfl) (H.k 82 rfl) (H.k 84 rfl) (H.k 83 rfl) (by decide) (own_payLen (cs1 := [c1, c2, (58 : Int32), (32 : Int32)]) (kI := 4) (own_wLen H.w) (H.k 5 rfl) A714.old E707 V709 C708 K710 (own_cod [c1, c2, (58 : Int32), (32 : Int32)] (n := 4) rfl (fun yy hy => ((show ∀ yy ∈ [c1, c2, (58 : Int32), (32 : Int32)], ¬ yy < 0 ∧ ¬ (255 : Int32) < yy from (own_fc ⟨hc10, hc11⟩ (own_fc ⟨hc20, hc21⟩ (own_fc (by decide) (own_fc (by decide) (fun _ z => nomatch z)))))) yy hy).2) rfl rfl) (own_b16 (own_fc ⟨hc10, hc11⟩ (own_fc ⟨hc20, hc21⟩ (own_fc (by decide) (own_fc (by decide) (fun _ z => nomatch z)))))) (Nat.le_of_ble_eq_true rfl) H.SC H.hz (by decide) (by decide)) own_nW (Nat.le_of_eq rfl) E707 own_pd10 rfl rfl rfl at_110 (by decide) (by decide) ?_
      rintro v715 T716 h717 A718 ⟨rfl, rfl⟩
      show own_Run p e below Q m T716 113 #[.val (.int i0), .val (.int i1), .val (.int i2), .val (.int (2 : Int32)), .val (.int (0 : Int32)), .val (.int c1), .val (.int c2), .val (.int d1), .val (.int d2), .val (.ref b637), .val (.ref b649), .val (.ref b704), .val (.int (((2 : Int32) + (2 : Int32)) + (0 : Int32)))] [(.int (4 : Int32))]
      refine own_iload (q := 115) A718 at_113 rfl ?_
      refine own_icmpT (q := 120) A718 at_115 (show (4 : Int32) = (((2 : Int32) + (2 : Int32)) + (0 : Int32)) from by decide) ?_
      refine own_aload (q := 122) A718 at_120 rfl rfl ?_
      refine own_iconst (q := 123) A718 (0 : Int32) at_122 rfl ?_
      refine own_iloadN (q := 124) A718 at_123 rfl ?_
      refine own_iload (q := 126) A718 at_124 rfl ?_
      refine own_iload (q := 128) A718 at_126 rfl ?_
      refine own_iload (q := 130) A718 at_128 rfl ?_
      refine own_iload (q := 132) A718 at_130 rfl ?_
      refine own_iload (q := 134) A718 at_132 rfl ?_
      refine own_static (q := 137) (W := 0) (argsL := [(.ref b704), (.int (0 : Int32)), (.int (2 : Int32)), (.int c1), (.int c2), (.int (0 : Int32)), (.int d1), (.int d2)]) (rest := []) A718 (H.k 165 rfl) (H.k 166 rfl) (H.k 2 rfl) (H.k 167 rfl) (by decide) (own_payN (rm_ok0_20 b704 t705 k706 c1 c2 d1 d2 A718.old H E707 C708 V709 K710 hc10 hc11 hnc1 hc20 hc21 hnc2 hd10 hd11 hnd1 hd20 hd21 hnd2) (fun _ _ q => own_keepE q.2) (H.k 167 rfl) (H.k 2 rfl) (by decide) (by decide)) own_nW (Nat.le_of_eq rfl) own_pd1 rfl rfl rfl at_134 (by decide) (by decide) ?_
      rintro v719 T720 h721 A722 ⟨rfl, rfl⟩
      show own_Run p e below Q m T720 137 #[.val (.int i0), .val (.int i1), .val (.int i2), .val (.int (2 : Int32)), .val (.int (0 : Int32)), .val (.int c1), .val (.int c2), .val (.int d1), .val (.int d2), .val (.ref b637), .val (.ref b649), .val (.ref b704), .val (.int (((2 : Int32) + (2 : Int32)) + (0 : Int32)))] [(.int (1 : Int32))]
      refine own_ifcF (q := 140) A722 at_137 (show ¬ (1 : Int32) = (0 : Int32) from by decide) ?_
      refine own_aload (q := 142) A722 at_140 rfl rfl ?_
      refine own_iconst (q := 143) A722 (1 : Int32) at_142 rfl ?_
      refine own_iloadN (q := 144) A722 at_143 rfl ?_
      refine own_iload (q := 146) A722 at_144 rfl ?_
      refine own_iload (q := 148) A722 at_146 rfl ?_
      refine own_iload (q := 150) A722 at_148 rfl ?_
      refine own_iload (q := 152) A722 at_150 rfl ?_
      refine own_iload (q := 154) A722 at_152 rfl ?_
      refine own_static (q := 157) (W := 0) (argsL := [(.ref b704), (.int (1 : Int32)), (.int (2 : Int32)), (.int c1), (.int c2), (.int (0 : Int32)), (.int d1), (.int d2)]) (rest := []) A722 (H.k 165 rfl) (H.k 166 rfl) (H.k 2 rfl) (H.k 167 rfl) (by decide) (own_payN (rm_ok1_20 b704 t705 k706 c1 c2 d1 d2 A722.old H E707 C708 V709 K710 hc10 hc11 hnc1 hc20 hc21 hnc2 hd10 hd11 hnd1 hd20 hd21 hnd2) (fun _ _ q => own_keepE q.2) (H.k 167 rfl) (H.k 2 rfl) (by decide) (by decide)) own_nW (Nat.le_of_eq rfl) own_pd1 rfl rfl rfl at_154 (by decide) (by decide) ?_
      rintro v723 T724 h725 A726 ⟨rfl, rfl⟩
      show own_Run p e below Q m T724 157 #[.val (.int i0), .val (.int i1), .val (.int i2), .val (.int (2 : Int32)), .val (.int (0 : Int32)), .val (.int c1), .val (.int c2), .val (.int d1), .val (.int d2), .val (.ref b637), .val (.ref b649), .val (.ref b704), .val (.int (((2 : Int32) + (2 : Int32)) + (0 : Int32)))] [(.int (1 : Int32))]
      refine own_ifcF (q := 160) A726 at_157 (show ¬ (1 : Int32) = (0 : Int32) from by decide) ?_
      refine own_aload (q := 162) A726 at_160 rfl rfl ?_
      refine own_iconst (q := 163) A726 (2 : Int32) at_162 rfl ?_
      refine own_iloadN (q := 164) A726 at_163 rfl ?_
      refine own_iload (q := 166) A726 at_164 rfl ?_
      refine own_iload (q := 168) A726 at_166 rfl ?_
      refine own_iload (q := 170) A726 at_168 rfl ?_
      refine own_iload (q := 172) A726 at_170 rfl ?_
      refine own_iload (q := 174) A726 at_172 rfl ?_
      refine own_static (q := 177) (W := 0) (argsL := [(.ref b704), (.int (2 : Int32)), (.int (2 : Int32)), (.int c1), (.int c2), (.int (0 : Int32)), (.int d1), (.int d2)]) (rest := []) A726 (H.k 165 rfl) (H.k 166 rfl) (H.k 2 rfl) (H.k 167 rfl) (by decide) (own_payN (rm_ok2_20 b704 t705 k706 c1 c2 d1 d2 A726.old H E707 C708 V709 K710 hc10 hc11 hnc1 hc20 hc21 hnc2 hd10 hd11 hnd1 hd20 hd21 hnd2) (fun _ _ q => own_keepE q.2) (H.k 167 rfl) (H.k 2 rfl) (by decide) (by decide)) own_nW (Nat.le_of_eq rfl) own_pd1 rfl rfl rfl at_174 (by decide) (by decide) ?_
      rintro v727 T728 h729 A730 ⟨rfl, rfl⟩
      show own_Run p e below Q m T728 177 #[.val (.int i0), .val (.int i1), .val (.int i2), .val (.int (2 : Int32)), .val (.int (0 : Int32)), .val (.int c1), .val (.int c2), .val (.int d1), .val (.int d2), .val (.ref b637), .val (.ref b649), .val (.ref b704), .val (.int (((2 : Int32) + (2 : Int32)) + (0 : Int32)))] [(.int (1 : Int32))]
      refine own_ifcF (q := 180) A730 at_177 (show ¬ (1 : Int32) = (0 : Int32) from by decide) ?_
      refine own_aload (q := 182) A730 at_180 rfl rfl ?_
      refine own_iconst (q := 183) A730 (3 : Int32) at_182 rfl ?_
      refine own_iloadN (q := 184) A730 at_183 rfl ?_
      refine own_iload (q := 186) A730 at_184 rfl ?_
      refine own_iload (q := 188) A730 at_186 rfl ?_
      refine own_iload (q := 190) A730 at_188 rfl ?_
      refine own_iload (q := 192) A730 at_190 rfl ?_
      refine own_iload (q := 194) A730 at_192 rfl ?_
      refine own_static (q := 197) (W := 0) (argsL := [(.ref b704), (.int (3 : Int32)), (.int (2 : Int32)), (.int c1), (.int c2), (.int (0 : Int32)), (.int d1), (.int d2)]) (rest := []) A730 (H.k 165 rfl) (H.k 166 rfl) (H.k 2 rfl) (H.k 167 rfl) (by decide) (own_payN (rm_ok3_20 b704 t705 k706 c1 c2 d1 d2 A730.old H E707 C708 V709 K710 hc10 hc11 hnc1 hc20 hc21 hnc2 hd10 hd11 hnd1 hd20 hd21 hnd2) (fun _ _ q => own_keepE q.2) (H.k 167 rfl) (H.k 2 rfl) (by decide) (by decide)) own_nW (Nat.le_of_eq rfl) own_pd1 rfl rfl rfl at_194 (by decide) (by decide) ?_
      rintro v731 T732 h733 A734 ⟨rfl, rfl⟩
      show own_Run p e below Q m T732 197 #[.val (.int i0), .val (.int i1), .val (.int i2), .val (.int (2 : Int32)), .val (.int (0 : Int32)), .val (.int c1), .val (.int c2), .val (.int d1), .val (.int d2), .val (.ref b637), .val (.ref b649), .val (.ref b704), .val (.int (((2 : Int32) + (2 : Int32)) + (0 : Int32)))] [(.int (1 : Int32))]
      refine own_ifcF (q := 200) A734 at_197 (show ¬ (1 : Int32) = (0 : Int32) from by decide) ?_
      refine own_aload (q := 202) A734 at_200 rfl rfl ?_
      refine own_iconst (q := 203) A734 (4 : Int32) at_202 rfl ?_
      refine own_iloadN (q := 204) A734 at_203 rfl ?_
      refine own_iload (q := 206) A734 at_204 rfl ?_
      refine own_iload (q := 208) A734 at_206 rfl ?_
      refine own_iload (q := 210) A734 at_208 rfl ?_
      refine own_iload (q := 212) A734 at_210 rfl ?_
      refine own_iload (q := 214) A734 at_212 rfl ?_
      refine own_static (q := 217) (W := 0) (argsL := [(.ref b704), (.int (4 : Int32)), (.int (2 : Int32)), (.int c1), (.int c2), (.int (0 : Int32)), (.int d1), (.int d2)]) (rest := []) A734 (H.k 165 rfl) (H.k 166 rfl) (H.k 2 rfl) (H.k 167 rfl) (by decide) (own_payN (rm_ok4_20 b704 t705 k706 c1 c2 d1 d2 A734.old H E707 C708 V709 K710 hc10 hc11 hnc1 hc20 hc21 hnc2 hd10 hd11 hnd1 hd20 hd21 hnd2) (fun _ _ q => own_keepE q.2) (H.k 167 rfl) (H.k 2 rfl) (by decide) (by decide)) own_nW (Nat.le_of_eq rfl) own_pd1 rfl rfl rfl at_214 (by decide) (by decide) ?_
      rintro v735 T736 h737 A738 ⟨rfl, rfl⟩
      show own_Run p e below Q m T736 217 #[.val (.int i0), .val (.int i1), .val (.int i2), .val (.int (2 : Int32)), .val (.int (0 : Int32)), .val (.int c1), .val (.int c2), .val (.int d1), .val (.int d2), .val (.ref b637), .val (.ref b649), .val (.ref b704), .val (.int (((2 : Int32) + (2 : Int32)) + (0 : Int32)))] [(.int (1 : Int32))]
      refine own_ifcF (q := 220) A738 at_217 (show ¬ (1 : Int32) = (0 : Int32) from by decide) ?_
      refine own_aload (q := 222) A738 at_220 rfl rfl ?_
      refine own_iconst (q := 223) A738 (5 : Int32) at_222 rfl ?_
      refine own_iloadN (q := 224) A738 at_223 rfl ?_
      refine own_iload (q := 226) A738 at_224 rfl ?_
      refine own_iload (q := 228) A738 at_226 rfl ?_
      refine own_iload (q := 230) A738 at_228 rfl ?_
      refine own_iload (q := 232) A738 at_230 rfl ?_
      refine own_iload (q := 234) A738 at_232 rfl ?_
      refine own_static (q := 237) (W := 0) (argsL := [(.ref b704), (.int (5 : Int32)), (.int (2 : Int32)), (.int c1), (.int c2), (.int (0 : Int32)), (.int d1), (.int d2)]) (rest := []) A738 (H.k 165 rfl) (H.k 166 rfl) (H.k 2 rfl) (H.k 167 rfl) (by decide) (own_payN (rm_ok5_20 b704 t705 k706 c1 c2 d1 d2 A738.old H E707 C708 V709 K710 hc10 hc11 hnc1 hc20 hc21 hnc2 hd10 hd11 hnd1 hd20 hd21 hnd2) (fun _ _ q => own_keepE q.2) (H.k 167 rfl) (H.k 2 rfl) (by decide) (by decide)) own_nW (Nat.le_of_eq rfl) own_pd1 rfl rfl rfl at_234 (by decide) (by decide) ?_
      rintro v739 T740 h741 A742 ⟨rfl, rfl⟩
      show own_Run p e below Q m T740 237 #[.val (.int i0), .val (.int i1), .val (.int i2), .val (.int (2 : Int32)), .val (.int (0 : Int32)), .val (.int c1), .val (.int c2), .val (.int d1), .val (.int d2), .val (.ref b637), .val (.ref b649), .val (.ref b704), .val (.int (((2 : Int32) + (2 : Int32)) + (0 : Int32)))] [(.int (1 : Int32))]
      refine own_ifcF (q := 240) A742 at_237 (show ¬ (1 : Int32) = (0 : Int32) from by decide) ?_
      refine own_iconst (q := 241) A742 (1 : Int32) at_240 rfl ?_
      refine own_goto (q := 245) A742 at_241 ?_
      exact own_retN A742 hQ (t := .boolean) (by simp) at_245 rfl
    · rw [qk]
      refine own_istore (q := 20) (L' := #[.val (.int i0), .val (.int i1), .val (.int i2), .val (.int (2 : Int32)), .val (.int (1 : Int32)), .unset, .unset, .unset, .unset, .unset, .unset, .unset, .unset]) A0 at_18 rfl ?_
      refine own_iloadN (q := 21) A0 at_20 rfl ?_
      refine own_sipush (q := 24) A0 (255 : Int32) at_21 rfl ?_
      refine own_iand (q := 25) A0 at_24 ?_
      refine own_i2c (q := 26) A0 at_25 ?_
      obtain ⟨c1, ec1, hc10, hc11, hnc1⟩ := own_byte i0
      rw [ec1]
      refine own_istore (q := 28) (L' := #[.val (.int i0), .val (.int i1), .val (.int i2), .val (.int (2 : Int32)), .val (.int (1 : Int32)), .val (.int c1), .unset, .unset, .unset, .unset, .unset, .unset, .unset]) A0 at_26 rfl ?_
      refine own_iloadN (q := 29) A0 at_28 rfl ?_
      refine own_bipush (q := 31) A0 (8 : Int32) at_29 rfl ?_
      refine own_iushr (q := 32) A0 at_31 ?_
      refine own_sipush (q := 35) A0 (255 : Int32) at_32 rfl ?_
      refine own_iand (q := 36) A0 at_35 ?_
      refine own_i2c (q := 37) A0 at_36 ?_
      obtain ⟨c2, ec2, hc20, hc21, hnc2⟩ := own_byte ((i0.toUInt32 >>> ((8 : Int32) &&& 31).toUInt32).toInt32)
      rw [ec2]
      refine own_istore (q := 39) (L' := #[.val (.int i0), .val (.int i1), .val (.int i2), .val (.int (2 : Int32)), .val (.int (1 : Int32)), .val (.int c1), .val (.int c2), .unset, .unset, .unset, .unset, .unset, .unset]) A0 at_37 rfl ?_
      refine own_iloadN (q := 40) A0 at_39 rfl ?_
      refine own_sipush (q := 43) A0 (255 : Int32) at_40 rfl ?_
      refine own_iand (q := 44) A0 at_43 ?_
      refine own_i2c (q := 45) A0 at_44 ?_
      obtain ⟨d1, ed1, hd10, hd11, hnd1⟩ := own_byte i1
      rw [ed1]
      refine own_istore (q := 47) (L' := #[.val (.int i0), .val (.int i1), .val (.int i2), .val (.int (2 : Int32)), .val (.int (1 : Int32)), .val (.int c1), .val (.int c2), .val (.int d1), .unset, .unset, .unset, .unset, .unset]) A0 at_45 rfl ?_
      refine own_iloadN (q := 48) A0 at_47 rfl ?_
      refine own_bipush (q := 50) A0 (8 : Int32) at_48 rfl ?_
      refine own_iushr (q := 51) A0 at_50 ?_
      refine own_sipush (q := 54) A0 (255 : Int32) at_51 rfl ?_
      refine own_iand (q := 55) A0 at_54 ?_
      refine own_i2c (q := 56) A0 at_55 ?_
      obtain ⟨d2, ed2, hd20, hd21, hnd2⟩ := own_byte ((i1.toUInt32 >>> ((8 : Int32) &&& 31).toUInt32).toInt32)
      rw [ed2]
      refine own_istore (q := 58) (L' := #[.val (.int i0), .val (.int i1), .val (.int i2), .val (.int (2 : Int32)), .val (.int (1 : Int32)), .val (.int c1), .val (.int c2), .val (.int d1), .val (.int d2), .unset, .unset, .unset, .unset]) A0 at_56 rfl ?_
      refine own_iloadN (q := 59) A0 at_58 rfl ?_
      refine own_iload (q := 61) A0 at_59 rfl ?_
      refine own_iload (q := 63) A0 at_61 rfl ?_
      refine own_static (q := 66) (W := 0) (argsL := [(.int (2 : Int32)), (.int c1), (.int c2)]) (rest := []) A0 (H.k 0 rfl) (H.k 1 rfl) (H.k 2 rfl) (H.k 3 rfl) (by decide) (own_payN (rm_mk2 c1 c2 A0.old H hc10 hc11 hnc1 hc20 hc21 hnc2) (fun _ _ ⟨_, _, _, _, q, _⟩ => q) (H.k 3 rfl) (H.k 2 rfl) (by decide) (by decide)) own_nW (Nat.le_of_eq rfl) own_pd0 rfl rfl rfl at_63 (by decide) (by decide) ?_
      rintro v751 T752 h753 A754 ⟨b743, t744, k745, rfl, K746, E747, C748, V749, K750⟩
      show own_Run p e below Q m T752 66 #[.val (.int i0), .val (.int i1), .val (.int i2), .val (.int (2 : Int32)), .val (.int (1 : Int32)), .val (.int c1), .val (.int c2), .val (.int d1), .val (.int d2), .unset, .unset, .unset, .unset] [(.ref b743)]
      refine own_astore (q := 68) (L' := #[.val (.int i0), .val (.int i1), .val (.int i2), .val (.int (2 : Int32)), .val (.int (1 : Int32)), .val (.int c1), .val (.int c2), .val (.int d1), .val (.int d2), .val (.ref b743), .unset, .unset, .unset]) A754 at_66 rfl rfl ?_
      refine own_iload (q := 70) A754 at_68 rfl ?_
      refine own_iload (q := 72) A754 at_70 rfl ?_
      refine own_iload (q := 74) A754 at_72 rfl ?_
      refine own_static (q := 77) (W := 0) (argsL := [(.int (1 : Int32)), (.int d1), (.int d2)]) (rest := []) A754 (H.k 0 rfl) (H.k 1 rfl) (H.k 2 rfl) (H.k 3 rfl) (by decide) (own_payN (rm_mk1 d1 d2 A754.old H hd10 hd11 hnd1 hd20 hd21 hnd2) (fun _ _ ⟨_, _, _, _, q, _⟩ => q) (H.k 3 rfl) (H.k 2 rfl) (by decide) (by decide)) own_nW (Nat.le_of_eq rfl) own_pd0 rfl rfl rfl at_74 (by decide) (by decide) ?_
      rintro v763 T764 h765 A766 ⟨b755, t756, k757, rfl, K758, E759, C760, V761, K762⟩
      show own_Run p e below Q m T764 77 #[.val (.int i0), .val (.int i1), .val (.int i2), .val (.int (2 : Int32)), .val (.int (1 : Int32)), .val (.int c1), .val (.int c2), .val (.int d1), .val (.int d2), .val (.ref b743), .unset, .unset, .unset] [(.ref b755)]
      have f767 := E747.keep K758
      have f768 := C748.keep K758 nin0
      have f769 := V749.keep K758 nin0
      have f770 := K750.keep K758 nin0
      refine own_astore (q := 79) (L' := #[.val (.int i0), .val (.int i1), .val (.int i2), .val (.int (2 : Int32)), .val (.int (1 : Int32)), .val (.int c1), .val (.int c2), .val (.int d1), .val (.int d2), .val (.ref b743), .val (.ref b755), .unset, .unset]) A766 at_77 rfl rfl ?_
      refine own_newO (q := 82) A766 (H.k 37 rfl) (H.k 38 rfl) (H.k 39 rfl) at_79 (by decide) (by decide) ?_
      intro T771 h772 a773 g774 g775 A776 E777 X778 D779
      have z780 : b743 ≠ a773 := Nat.ne_of_lt (Nat.lt_of_lt_of_le f767.lt (Nat.le_of_eq g774))
      have z781 : t744 ≠ a773 := Nat.ne_of_lt (Nat.lt_of_lt_of_le f770.lt (Nat.le_of_eq g774))
      have z782 : b755 ≠ a773 := Nat.ne_of_lt (Nat.lt_of_lt_of_le E759.lt (Nat.le_of_eq g774))
      have z783 : t756 ≠ a773 := Nat.ne_of_lt (Nat.lt_of_lt_of_le K762.lt (Nat.le_of_eq g774))
      have f784 := f767.ext E777
      have f785 := f768.ext E777
      have f786 := f769.ext E777
      have f787 := f770.ext E777
      have f788 := E759.ext E777
      have f789 := C760.ext E777
      have f790 := V761.ext E777
      have f791 := K762.ext E777
      have f792 : Fld Z h772 a773 "com/example/hifadhi/hifadhi/project/NotAnalysed" "what" "Ljava/lang/String;" .null := D779 (Or.inr (H.k 45 rfl)) (ty := (.object "java/lang/String")) (by decide)
      have f793 : Fld Z h772 a773 "com/example/hifadhi/hifadhi/project/NotAnalysed" "reason" "Ljava/lang/String;" .null := D779 (Or.inr (H.k 47 rfl)) (ty := (.object "java/lang/String")) (by decide)
      refine own_dup (q := 83) A776 at_82 rfl ?_
      refine own_aload (q := 85) A776 at_83 rfl rfl ?_
      refine own_aload (q := 87) A776 at_85 rfl rfl ?_
      refine own_special (q := 90) (W := 1) (argsL := [(.ref b743), (.ref b755)]) (rest := [(.ref a773)]) A776 rfl (H.k 40 rfl) (H.k 41 rfl) (H.k 42 rfl) (by decide) (own_payN (rm_nai a773 b743 b755 A776.old H X778 f792 f793 g775) (fun _ _ q => q.2.1) (H.k 42 rfl) (H.k 39 rfl) (by decide) (by decide)) (by simp) (Nat.le_of_eq rfl) own_pd4 rfl rfl rfl at_87 (by decide) (by decide) ?_
      rintro v798 T799 h800 A801 ⟨rfl, K794, E795, F796, F797⟩
      show own_Run p e below Q m T799 90 #[.val (.int i0), .val (.int i1), .val (.int i2), .val (.int (2 : Int32)), .val (.int (1 : Int32)), .val (.int c1), .val (.int c2), .val (.int d1), .val (.int d2), .val (.ref b743), .val (.ref b755), .unset, .unset] [(.ref a773)]
      have f802 := f784.keep K794
      have f803 := f785.keep K794 (ninS z780 nin0)
      have f804 := f786.keep K794 (ninS z780 nin0)
      have f805 := f787.keep K794 (ninS z781 nin0)
      have f806 := f788.keep K794
      have f807 := f789.keep K794 (ninS z782 nin0)
      have f808 := f790.keep K794 (ninS z782 nin0)
      have f809 := f791.keep K794 (ninS z783 nin0)
      refine own_virtualW (q := 93) (W := 0) (argsL := []) (rest := []) A801 (H.k 48 rfl) (H.k 49 rfl) (H.k 51 rfl) (H.k 50 rfl) (by decide) (own_payW (rm_msg21 a773 b743 t744 b755 t756 k745 k757 (c1.toInt8.toInt32) (c2.toInt8.toInt32) (d1.toInt8.toInt32) A801.old hEL H E795 F796 F797 f802 f803 f804 f805 f806 f807 f808 f809) (H.k 52 rfl) (H.k 39 rfl) (by decide) (by decide)) own_nW (Nat.le_of_eq rfl) E795 own_pd5 rfl rfl rfl at_90 (by decide) (by decide) ?_
      rintro v817 T818 h819 A820 ⟨b810, t811, k812, rfl, E813, C814, V815, K816⟩
      show own_Run p e below Q m T818 93 #[.val (.int i0), .val (.int i1), .val (.int i2), .val (.int (2 : Int32)), .val (.int (1 : Int32)), .val (.int c1), .val (.int c2), .val (.int d1), .val (.int d2), .val (.ref b743), .val (.ref b755), .unset, .unset] [(.ref b810)]
      refine own_astore (q := 95) (L' := #[.val (.int i0), .val (.int i1), .val (.int i2), .val (.int (2 : Int32)), .val (.int (1 : Int32)), .val (.int c1), .val (.int c2), .val (.int d1), .val (.int d2), .val (.ref b743), .val (.ref b755), .val (.ref b810), .unset]) A820 at_93 rfl rfl ?_
      refine own_iloadN (q := 96) A820 at_95 rfl ?_
      refine own_iconst (q := 97) A820 (2 : Int32) at_96 rfl ?_
      refine own_iadd (q := 98) A820 at_97 ?_
      refine own_iload (q := 100) A820 at_98 rfl ?_
      refine own_iadd (q := 101) A820 at_100 ?_
      refine own_istore (q := 103) (L' := #[.val (.int i0), .val (.int i1), .val (.int i2), .val (.int (2 : Int32)), .val (.int (1 : Int32)), .val (.int c1), .val (.int c2), .val (.int d1), .val (.int d2), .val (.ref b743), .val (.ref b755), .val (.ref b810), .val (.int (((2 : Int32) + (2 : Int32)) + (1 : Int32)))]) A820 at_101 rfl ?_
      refine own_aload (q := 105) A820 at_103 rfl rfl ?_
      refine own_ifnullF (q := 108) A820 at_105 ?_
      refine own_aload (q := 110) A820 at_108 rfl rfl ?_
      refine own_virtual (q := 113) (W := 0) (argsL := []) (rest := []) A820 (H.k 164 rfl) (H.k 82 rfl) (H.k 84 rfl) (H.k 83 rfl) (by decide) (own_payLen (cs1 := [c1, c2, (58 : Int32), (32 : Int32), d1]) (kI := 4) (own_wLen H.w) (H.k 5 rfl) A820.old E813 V815 C814 K816 (own_cod [c1, c2, (58 : Int32), (32 : Int32), d1] (n := 5) rfl (fun yy hy => ((show ∀ yy ∈ [c1, c2, (58 : Int32), (32 : Int32), d1], ¬ yy < 0 ∧ ¬ (255 : Int32) < yy from (own_fc ⟨hc10, hc11⟩ (own_fc ⟨hc20, hc21⟩ (own_fc (by decide) (own_fc (by decide) (own_fc ⟨hd10, hd11⟩ (fun _ z => nomatch z))))))) yy hy).2) rfl rfl) (own_b16 (own_fc ⟨hc10, hc11⟩ (own_fc ⟨hc20, hc21⟩ (own_fc (by decide) (own_fc (by decide) (own_fc ⟨hd10, hd11⟩ (fun _ z => nomatch z))))))) (Nat.le_of_ble_eq_true rfl) H.SC H.hz (by decide) (by decide)) own_nW (Nat.le_of_eq rfl) E813 own_pd10 rfl rfl rfl at_110 (by decide) (by decide) ?_
      rintro v821 T822 h823 A824 ⟨rfl, rfl⟩
      show own_Run p e below Q m T822 113 #[.val (.int i0), .val (.int i1), .val (.int i2), .val (.int (2 : Int32)), .val (.int (1 : Int32)), .val (.int c1), .val (.int c2), .val (.int d1), .val (.int d2), .val (.ref b743), .val (.ref b755), .val (.ref b810), .val (.int (((2 : Int32) + (2 : Int32)) + (1 : Int32)))] [(.int (5 : Int32))]
      refine own_iload (q := 115) A824 at_113 rfl ?_
      refine own_icmpT (q := 120) A824 at_115 (show (5 : Int32) = (((2 : Int32) + (2 : Int32)) + (1 : Int32)) from by decide) ?_
      refine own_aload (q := 122) A824 at_120 rfl rfl ?_
      refine own_iconst (q := 123) A824 (0 : Int32) at_122 rfl ?_
      refine own_iloadN (q := 124) A824 at_123 rfl ?_
      refine own_iload (q := 126) A824 at_124 rfl ?_
      refine own_iload (q := 128) A824 at_126 rfl ?_
      refine own_iload (q := 130) A824 at_128 rfl ?_
      refine own_iload (q := 132) A824 at_130 rfl ?_
      refine own_iload (q := 134) A824 at_132 rfl ?_
      refine own_static (q := 137) (W := 0) (argsL := [(.ref b810), (.int (0 : Int32)), (.int (2 : Int32)), (.int c1), (.int c2), (.int (1 : Int32)), (.int d1), (.int d2)]) (rest := []) A824 (H.k 165 rfl) (H.k 166 rfl) (H.k 2 rfl) (H.k 167 rfl) (by decide) (own_payN (rm_ok0_21 b810 t811 k812 c1 c2 d1 d2 A824.old H E813 C814 V815 K816 hc10 hc11 hnc1 hc20 hc21 hnc2 hd10 hd11 hnd1 hd20 hd21 hnd2) (fun _ _ q => own_keepE q.2) (H.k 167 rfl) (H.k 2 rfl) (by decide) (by decide)) own_nW (Nat.le_of_eq rfl) own_pd1 rfl rfl rfl at_134 (by decide) (by decide) ?_
      rintro v825 T826 h827 A828 ⟨rfl, rfl⟩
      show own_Run p e below Q m T826 137 #[.val (.int i0), .val (.int i1), .val (.int i2), .val (.int (2 : Int32)), .val (.int (1 : Int32)), .val (.int c1), .val (.int c2), .val (.int d1), .val (.int d2), .val (.ref b743), .val (.ref b755), .val (.ref b810), .val (.int (((2 : Int32) + (2 : Int32)) + (1 : Int32)))] [(.int (1 : Int32))]
      refine own_ifcF (q := 140) A828 at_137 (show ¬ (1 : Int32) = (0 : Int32) from by decide) ?_
      refine own_aload (q := 142) A828 at_140 rfl rfl ?_
      refine own_iconst (q := 143) A828 (1 : Int32) at_142 rfl ?_
      refine own_iloadN (q := 144) A828 at_143 rfl ?_
      refine own_iload (q := 146) A828 at_144 rfl ?_
      refine own_iload (q := 148) A828 at_146 rfl ?_
      refine own_iload (q := 150) A828 at_148 rfl ?_
      refine own_iload (q := 152) A828 at_150 rfl ?_
      refine own_iload (q := 154) A828 at_152 rfl ?_
      refine own_static (q := 157) (W := 0) (argsL := [(.ref b810), (.int (1 : Int32)), (.int (2 : Int32)), (.int c1), (.int c2), (.int (1 : Int32)), (.int d1), (.int d2)]) (rest := []) A828 (H.k 165 rfl) (H.k 166 rfl) (H.k 2 rfl) (H.k 167 rfl) (by decide) (own_payN (rm_ok1_21 b810 t811 k812 c1 c2 d1 d2 A828.old H E813 C814 V815 K816 hc10 hc11 hnc1 hc20 hc21 hnc2 hd10 hd11 hnd1 hd20 hd21 hnd2) (fun _ _ q => own_keepE q.2) (H.k 167 rfl) (H.k 2 rfl) (by decide) (by decide)) own_nW (Nat.le_of_eq rfl) own_pd1 rfl rfl rfl at_154 (by decide) (by decide) ?_
      rintro v829 T830 h831 A832 ⟨rfl, rfl⟩
      show own_Run p e below Q m T830 157 #[.val (.int i0), .val (.int i1), .val (.int i2), .val (.int (2 : Int32)), .val (.int (1 : Int32)), .val (.int c1), .val (.int c2), .val (.int d1), .val (.int d2), .val (.ref b743), .val (.ref b755), .val (.ref b810), .val (.int (((2 : Int32) + (2 : Int32)) + (1 : Int32)))] [(.int (1 : Int32))]
      refine own_ifcF (q := 160) A832 at_157 (show ¬ (1 : Int32) = (0 : Int32) from by decide) ?_
      refine own_aload (q := 162) A832 at_160 rfl rfl ?_
      refine own_iconst (q := 163) A832 (2 : Int32) at_162 rfl ?_
      refine own_iloadN (q := 164) A832 at_163 rfl ?_
      refine own_iload (q := 166) A832 at_164 rfl ?_
      refine own_iload (q := 168) A832 at_166 rfl ?_
      refine own_iload (q := 170) A832 at_168 rfl ?_
      refine own_iload (q := 172) A832 at_170 rfl ?_
      refine own_iload (q := 174) A832 at_172 rfl ?_
      refine own_static (q := 177) (W := 0) (argsL := [(.ref b810), (.int (2 : Int32)), (.int (2 : Int32)), (.int c1), (.int c2), (.int (1 : Int32)), (.int d1), (.int d2)]) (rest := []) A832 (H.k 165 rfl) (H.k 166 rfl) (H.k 2 rfl) (H.k 167 rfl) (by decide) (own_payN (rm_ok2_21 b810 t811 k812 c1 c2 d1 d2 A832.old H E813 C814 V815 K816 hc10 hc11 hnc1 hc20 hc21 hnc2 hd10 hd11 hnd1 hd20 hd21 hnd2) (fun _ _ q => own_keepE q.2) (H.k 167 rfl) (H.k 2 rfl) (by decide) (by decide)) own_nW (Nat.le_of_eq rfl) own_pd1 rfl rfl rfl at_174 (by decide) (by decide) ?_
      rintro v833 T834 h835 A836 ⟨rfl, rfl⟩
      show own_Run p e below Q m T834 177 #[.val (.int i0), .val (.int i1), .val (.int i2), .val (.int (2 : Int32)), .val (.int (1 : Int32)), .val (.int c1), .val (.int c2), .val (.int d1), .val (.int d2), .val (.ref b743), .val (.ref b755), .val (.ref b810), .val (.int (((2 : Int32) + (2 : Int32)) + (1 : Int32)))] [(.int (1 : Int32))]
      refine own_ifcF (q := 180) A836 at_177 (show ¬ (1 : Int32) = (0 : Int32) from by decide) ?_
      refine own_aload (q := 182) A836 at_180 rfl rfl ?_
      refine own_iconst (q := 183) A836 (3 : Int32) at_182 rfl ?_
      refine own_iloadN (q := 184) A836 at_183 rfl ?_
      refine own_iload (q := 186) A836 at_184 rfl ?_
      refine own_iload (q := 188) A836 at_186 rfl ?_
      refine own_iload (q := 190) A836 at_188 rfl ?_
      refine own_iload (q := 192) A836 at_190 rfl ?_
      refine own_iload (q := 194) A836 at_192 rfl ?_
      refine own_static (q := 197) (W := 0) (argsL := [(.ref b810), (.int (3 : Int32)), (.int (2 : Int32)), (.int c1), (.int c2), (.int (1 : Int32)), (.int d1), (.int d2)]) (rest := []) A836 (H.k 165 rfl) (H.k 166 rfl) (H.k 2 rfl) (H.k 167 rfl) (by decide) (own_payN (rm_ok3_21 b810 t811 k812 c1 c2 d1 d2 A836.old H E813 C814 V815 K816 hc10 hc11 hnc1 hc20 hc21 hnc2 hd10 hd11 hnd1 hd20 hd21 hnd2) (fun _ _ q => own_keepE q.2) (H.k 167 rfl) (H.k 2 rfl) (by decide) (by decide)) own_nW (Nat.le_of_eq rfl) own_pd1 rfl rfl rfl at_194 (by decide) (by decide) ?_
      rintro v837 T838 h839 A840 ⟨rfl, rfl⟩
      show own_Run p e below Q m T838 197 #[.val (.int i0), .val (.int i1), .val (.int i2), .val (.int (2 : Int32)), .val (.int (1 : Int32)), .val (.int c1), .val (.int c2), .val (.int d1), .val (.int d2), .val (.ref b743), .val (.ref b755), .val (.ref b810), .val (.int (((2 : Int32) + (2 : Int32)) + (1 : Int32)))] [(.int (1 : Int32))]
      refine own_ifcF (q := 200) A840 at_197 (show ¬ (1 : Int32) = (0 : Int32) from by decide) ?_
      refine own_aload (q := 202) A840 at_200 rfl rfl ?_
      refine own_iconst (q := 203) A840 (4 : Int32) at_202 rfl ?_
      refine own_iloadN (q := 204) A840 at_203 rfl ?_
      refine own_iload (q := 206) A840 at_204 rfl ?_
      refine own_iload (q := 208) A840 at_206 rfl ?_
      refine own_iload (q := 210) A840 at_208 rfl ?_
      refine own_iload (q := 212) A840 at_210 rfl ?_
      refine own_iload (q := 214) A840 at_212 rfl ?_
      refine own_static (q := 217) (W := 0) (argsL := [(.ref b810), (.int (4 : Int32)), (.int (2 : Int32)), (.int c1), (.int c2), (.int (1 : Int32)), (.int d1), (.int d2)]) (rest := []) A840 (H.k 165 rfl) (H.k 166 rfl) (H.k 2 rfl) (H.k 167 rfl) (by decide) (own_payN (rm_ok4_21 b810 t811 k812 c1 c2 d1 d2 A840.old H E813 C814 V815 K816 hc10 hc11 hnc1 hc20 hc21 hnc2 hd10 hd11 hnd1 hd20 hd21 hnd2) (fun _ _ q => own_keepE q.2) (H.k 167 rfl) (H.k 2 rfl) (by decide) (by decide)) own_nW (Nat.le_of_eq rfl) own_pd1 rfl rfl rfl at_214 (by decide) (by decide) ?_
      rintro v841 T842 h843 A844 ⟨rfl, rfl⟩
      show own_Run p e below Q m T842 217 #[.val (.int i0), .val (.int i1), .val (.int i2), .val (.int (2 : Int32)), .val (.int (1 : Int32)), .val (.int c1), .val (.int c2), .val (.int d1), .val (.int d2), .val (.ref b743), .val (.ref b755), .val (.ref b810), .val (.int (((2 : Int32) + (2 : Int32)) + (1 : Int32)))] [(.int (1 : Int32))]
      refine own_ifcF (q := 220) A844 at_217 (show ¬ (1 : Int32) = (0 : Int32) from by decide) ?_
      refine own_aload (q := 222) A844 at_220 rfl rfl ?_
      refine own_iconst (q := 223) A844 (5 : Int32) at_222 rfl ?_
      refine own_iloadN (q := 224) A844 at_223 rfl ?_
      refine own_iload (q := 226) A844 at_224 rfl ?_
      refine own_iload (q := 228) A844 at_226 rfl ?_
      refine own_iload (q := 230) A844 at_228 rfl ?_
      refine own_iload (q := 232) A844 at_230 rfl ?_
      refine own_iload (q := 234) A844 at_232 rfl ?_
      refine own_static (q := 237) (W := 0) (argsL := [(.ref b810), (.int (5 : Int32)), (.int (2 : Int32)), (.int c1), (.int c2), (.int (1 : Int32)), (.int d1), (.int d2)]) (rest := []) A844 (H.k 165 rfl) (H.k 166 rfl) (H.k 2 rfl) (H.k 167 rfl) (by decide) (own_payN (rm_ok5_21 b810 t811 k812 c1 c2 d1 d2 A844.old H E813 C814 V815 K816 hc10 hc11 hnc1 hc20 hc21 hnc2 hd10 hd11 hnd1 hd20 hd21 hnd2) (fun _ _ q => own_keepE q.2) (H.k 167 rfl) (H.k 2 rfl) (by decide) (by decide)) own_nW (Nat.le_of_eq rfl) own_pd1 rfl rfl rfl at_234 (by decide) (by decide) ?_
      rintro v845 T846 h847 A848 ⟨rfl, rfl⟩
      show own_Run p e below Q m T846 237 #[.val (.int i0), .val (.int i1), .val (.int i2), .val (.int (2 : Int32)), .val (.int (1 : Int32)), .val (.int c1), .val (.int c2), .val (.int d1), .val (.int d2), .val (.ref b743), .val (.ref b755), .val (.ref b810), .val (.int (((2 : Int32) + (2 : Int32)) + (1 : Int32)))] [(.int (1 : Int32))]
      refine own_ifcF (q := 240) A848 at_237 (show ¬ (1 : Int32) = (0 : Int32) from by decide) ?_
      refine own_iconst (q := 241) A848 (1 : Int32) at_240 rfl ?_
      refine own_goto (q := 245) A848 at_241 ?_
      exact own_retN A848 hQ (t := .boolean) (by simp) at_245 rfl
    · rw [qk]
      refine own_istore (q := 20) (L' := #[.val (.int i0), .val (.int i1), .val (.int i2), .val (.int (2 : Int32)), .val (.int (2 : Int32)), .unset, .unset, .unset, .unset, .unset, .unset, .unset, .unset]) A0 at_18 rfl ?_
      refine own_iloadN (q := 21) A0 at_20 rfl ?_
      refine own_sipush (q := 24) A0 (255 : Int32) at_21 rfl ?_
      refine own_iand (q := 25) A0 at_24 ?_
      refine own_i2c (q := 26) A0 at_25 ?_
      obtain ⟨c1, ec1, hc10, hc11, hnc1⟩ := own_byte i0
      rw [ec1]
      refine own_istore (q := 28) (L' := #[.val (.int i0), .val (.int i1), .val (.int i2), .val (.int (2 : Int32)), .val (.int (2 : Int32)), .val (.int c1), .unset, .unset, .unset, .unset, .unset, .unset, .unset]) A0 at_26 rfl ?_
      refine own_iloadN (q := 29) A0 at_28 rfl ?_
      refine own_bipush (q := 31) A0 (8 : Int32) at_29 rfl ?_
      refine own_iushr (q := 32) A0 at_31 ?_
      refine own_sipush (q := 35) A0 (255 : Int32) at_32 rfl ?_
      refine own_iand (q := 36) A0 at_35 ?_
      refine own_i2c (q := 37) A0 at_36 ?_
      obtain ⟨c2, ec2, hc20, hc21, hnc2⟩ := own_byte ((i0.toUInt32 >>> ((8 : Int32) &&& 31).toUInt32).toInt32)
      rw [ec2]
      refine own_istore (q := 39) (L' := #[.val (.int i0), .val (.int i1), .val (.int i2), .val (.int (2 : Int32)), .val (.int (2 : Int32)), .val (.int c1), .val (.int c2), .unset, .unset, .unset, .unset, .unset, .unset]) A0 at_37 rfl ?_
      refine own_iloadN (q := 40) A0 at_39 rfl ?_
      refine own_sipush (q := 43) A0 (255 : Int32) at_40 rfl ?_
      refine own_iand (q := 44) A0 at_43 ?_
      refine own_i2c (q := 45) A0 at_44 ?_
      obtain ⟨d1, ed1, hd10, hd11, hnd1⟩ := own_byte i1
      rw [ed1]
      refine own_istore (q := 47) (L' := #[.val (.int i0), .val (.int i1), .val (.int i2), .val (.int (2 : Int32)), .val (.int (2 : Int32)), .val (.int c1), .val (.int c2), .val (.int d1), .unset, .unset, .unset, .unset, .unset]) A0 at_45 rfl ?_
      refine own_iloadN (q := 48) A0 at_47 rfl ?_
      refine own_bipush (q := 50) A0 (8 : Int32) at_48 rfl ?_
      refine own_iushr (q := 51) A0 at_50 ?_
      refine own_sipush (q := 54) A0 (255 : Int32) at_51 rfl ?_
      refine own_iand (q := 55) A0 at_54 ?_
      refine own_i2c (q := 56) A0 at_55 ?_
      obtain ⟨d2, ed2, hd20, hd21, hnd2⟩ := own_byte ((i1.toUInt32 >>> ((8 : Int32) &&& 31).toUInt32).toInt32)
      rw [ed2]
      refine own_istore (q := 58) (L' := #[.val (.int i0), .val (.int i1), .val (.int i2), .val (.int (2 : Int32)), .val (.int (2 : Int32)), .val (.int c1), .val (.int c2), .val (.int d1), .val (.int d2), .unset, .unset, .unset, .unset]) A0 at_56 rfl ?_
      refine own_iloadN (q := 59) A0 at_58 rfl ?_
      refine own_iload (q := 61) A0 at_59 rfl ?_
      refine own_iload (q := 63) A0 at_61 rfl ?_
      refine own_static (q := 66) (W := 0) (argsL := [(.int (2 : Int32)), (.int c1), (.int c2)]) (rest := []) A0 (H.k 0 rfl) (H.k 1 rfl) (H.k 2 rfl) (H.k 3 rfl) (by decide) (own_payN (rm_mk2 c1 c2 A0.old H hc10 hc11 hnc1 hc20 hc21 hnc2) (fun _ _ ⟨_, _, _, _, q, _⟩ => q) (H.k 3 rfl) (H.k 2 rfl) (by decide) (by decide)) own_nW (Nat.le_of_eq rfl) own_pd0 rfl rfl rfl at_63 (by decide) (by decide) ?_
      rintro v857 T858 h859 A860 ⟨b849, t850, k851, rfl, K852, E853, C854, V855, K856⟩
      show own_Run p e below Q m T858 66 #[.val (.int i0), .val (.int i1), .val (.int i2), .val (.int (2 : Int32)), .val (.int (2 : Int32)), .val (.int c1), .val (.int c2), .val (.int d1), .val (.int d2), .unset, .unset, .unset, .unset] [(.ref b849)]
      refine own_astore (q := 68) (L' := #[.val (.int i0), .val (.int i1), .val (.int i2), .val (.int (2 : Int32)), .val (.int (2 : Int32)), .val (.int c1), .val (.int c2), .val (.int d1), .val (.int d2), .val (.ref b849), .unset, .unset, .unset]) A860 at_66 rfl rfl ?_
      refine own_iload (q := 70) A860 at_68 rfl ?_
      refine own_iload (q := 72) A860 at_70 rfl ?_
      refine own_iload (q := 74) A860 at_72 rfl ?_
      refine own_static (q := 77) (W := 0) (argsL := [(.int (2 : Int32)), (.int d1), (.int d2)]) (rest := []) A860 (H.k 0 rfl) (H.k 1 rfl) (H.k 2 rfl) (H.k 3 rfl) (by decide) (own_payN (rm_mk2 d1 d2 A860.old H hd10 hd11 hnd1 hd20 hd21 hnd2) (fun _ _ ⟨_, _, _, _, q, _⟩ => q) (H.k 3 rfl) (H.k 2 rfl) (by decide) (by decide)) own_nW (Nat.le_of_eq rfl) own_pd0 rfl rfl rfl at_74 (by decide) (by decide) ?_
      rintro v869 T870 h871 A872 ⟨b861, t862, k863, rfl, K864, E865, C866, V867, K868⟩
      show own_Run p e below Q m T870 77 #[.val (.int i0), .val (.int i1), .val (.int i2), .val (.int (2 : Int32)), .val (.int (2 : Int32)), .val (.int c1), .val (.int c2), .val (.int d1), .val (.int d2), .val (.ref b849), .unset, .unset, .unset] [(.ref b861)]
      have f873 := E853.keep K864
      have f874 := C854.keep K864 nin0
      have f875 := V855.keep K864 nin0
      have f876 := K856.keep K864 nin0
      refine own_astore (q := 79) (L' := #[.val (.int i0), .val (.int i1), .val (.int i2), .val (.int (2 : Int32)), .val (.int (2 : Int32)), .val (.int c1), .val (.int c2), .val (.int d1), .val (.int d2), .val (.ref b849), .val (.ref b861), .unset, .unset]) A872 at_77 rfl rfl ?_
      refine own_newO (q := 82) A872 (H.k 37 rfl) (H.k 38 rfl) (H.k 39 rfl) at_79 (by decide) (by decide) ?_
      intro T877 h878 a879 g880 g881 A882 E883 X884 D885
      have z886 : b849 ≠ a879 := Nat.ne_of_lt (Nat.lt_of_lt_of_le f873.lt (Nat.le_of_eq g880))
      have z887 : t850 ≠ a879 := Nat.ne_of_lt (Nat.lt_of_lt_of_le f876.lt (Nat.le_of_eq g880))
      have z888 : b861 ≠ a879 := Nat.ne_of_lt (Nat.lt_of_lt_of_le E865.lt (Nat.le_of_eq g880))
      have z889 : t862 ≠ a879 := Nat.ne_of_lt (Nat.lt_of_lt_of_le K868.lt (Nat.le_of_eq g880))
      have f890 := f873.ext E883
      have f891 := f874.ext E883
      have f892 := f875.ext E883
      have f893 := f876.ext E883
      have f894 := E865.ext E883
      have f895 := C866.ext E883
      have f896 := V867.ext E883
      have f897 := K868.ext E883
      have f898 : Fld Z h878 a879 "com/example/hifadhi/hifadhi/project/NotAnalysed" "what" "Ljava/lang/String;" .null := D885 (Or.inr (H.k 45 rfl)) (ty := (.object "java/lang/String")) (by decide)
      have f899 : Fld Z h878 a879 "com/example/hifadhi/hifadhi/project/NotAnalysed" "reason" "Ljava/lang/String;" .null := D885 (Or.inr (H.k 47 rfl)) (ty := (.object "java/lang/String")) (by decide)
      refine own_dup (q := 83) A882 at_82 rfl ?_
      refine own_aload (q := 85) A882 at_83 rfl rfl ?_
      refine own_aload (q := 87) A882 at_85 rfl rfl ?_
      refine own_special (q := 90) (W := 1) (argsL := [(.ref b849), (.ref b861)]) (rest := [(.ref a879)]) A882 rfl (H.k 40 rfl) (H.k 41 rfl) (H.k 42 rfl) (by decide) (own_payN (rm_nai a879 b849 b861 A882.old H X884 f898 f899 g881) (fun _ _ q => q.2.1) (H.k 42 rfl) (H.k 39 rfl) (by decide) (by decide)) (by simp) (Nat.le_of_eq rfl) own_pd4 rfl rfl rfl at_87 (by decide) (by decide) ?_
      rintro v904 T905 h906 A907 ⟨rfl, K900, E901, F902, F903⟩
      show own_Run p e below Q m T905 90 #[.val (.int i0), .val (.int i1), .val (.int i2), .val (.int (2 : Int32)), .val (.int (2 : Int32)), .val (.int c1), .val (.int c2), .val (.int d1), .val (.int d2), .val (.ref b849), .val (.ref b861), .unset, .unset] [(.ref a879)]
      have f908 := f890.keep K900
      have f909 := f891.keep K900 (ninS z886 nin0)
      have f910 := f892.keep K900 (ninS z886 nin0)
      have f911 := f893.keep K900 (ninS z887 nin0)
      have f912 := f894.keep K900
      have f913 := f895.keep K900 (ninS z888 nin0)
      have f914 := f896.keep K900 (ninS z888 nin0)
      have f915 := f897.keep K900 (ninS z889 nin0)
      refine own_virtualW (q := 93) (W := 0) (argsL := []) (rest := []) A907 (H.k 48 rfl) (H.k 49 rfl) (H.k 51 rfl) (H.k 50 rfl) (by decide) (own_payW (rm_msg22 a879 b849 t850 b861 t862 k851 k863 (c1.toInt8.toInt32) (c2.toInt8.toInt32) (d1.toInt8.toInt32) (d2.toInt8.toInt32) A907.old hEL H E901 F902 F903 f908 f909 f910 f911 f912 f913 f914 f915) (H.k 52 rfl) (H.k 39 rfl) (by decide) (by decide)) own_nW (Nat.le_of_eq rfl) E901 own_pd5 rfl rfl rfl at_90 (by decide) (by decide) ?_
      rintro v923 T924 h925 A926 ⟨b916, t917, k918, rfl, E919, C920, V921, K922⟩
      show own_Run p e below Q m T924 93 #[.val (.int i0), .val (.int i1), .val (.int i2), .val (.int (2 : Int32)), .val (.int (2 : Int32)), .val (.int c1), .val (.int c2), .val (.int d1), .val (.int d2), .val (.ref b849), .val (.ref b861), .unset, .unset] [(.ref b916)]
      refine own_astore (q := 95) (L' := #[.val (.int i0), .val (.int i1), .val (.int i2), .val (.int (2 : Int32)), .val (.int (2 : Int32)), .val (.int c1), .val (.int c2), .val (.int d1), .val (.int d2), .val (.ref b849), .val (.ref b861), .val (.ref b916), .unset]) A926 at_93 rfl rfl ?_
      refine own_iloadN (q := 96) A926 at_95 rfl ?_
      refine own_iconst (q := 97) A926 (2 : Int32) at_96 rfl ?_
      refine own_iadd (q := 98) A926 at_97 ?_
      refine own_iload (q := 100) A926 at_98 rfl ?_
      refine own_iadd (q := 101) A926 at_100 ?_
      refine own_istore (q := 103) (L' := #[.val (.int i0), .val (.int i1), .val (.int i2), .val (.int (2 : Int32)), .val (.int (2 : Int32)), .val (.int c1), .val (.int c2), .val (.int d1), .val (.int d2), .val (.ref b849), .val (.ref b861), .val (.ref b916), .val (.int (((2 : Int32) + (2 : Int32)) + (2 : Int32)))]) A926 at_101 rfl ?_
      refine own_aload (q := 105) A926 at_103 rfl rfl ?_
      refine own_ifnullF (q := 108) A926 at_105 ?_
      refine own_aload (q := 110) A926 at_108 rfl rfl ?_
      refine own_virtual (q := 113) (W := 0) (argsL := []) (rest := []) A926 (H.k 164 rfl) (H.k 82 rfl) (H.k 84 rfl) (H.k 83 rfl) (by decide) (own_payLen (cs1 := [c1, c2, (58 : Int32), (32 : Int32), d1, d2]) (kI := 4) (own_wLen H.w) (H.k 5 rfl) A926.old E919 V921 C920 K922 (own_cod [c1, c2, (58 : Int32), (32 : Int32), d1, d2] (n := 6) rfl (fun yy hy => ((show ∀ yy ∈ [c1, c2, (58 : Int32), (32 : Int32), d1, d2], ¬ yy < 0 ∧ ¬ (255 : Int32) < yy from (own_fc ⟨hc10, hc11⟩ (own_fc ⟨hc20, hc21⟩ (own_fc (by decide) (own_fc (by decide) (own_fc ⟨hd10, hd11⟩ (own_fc ⟨hd20, hd21⟩ (fun _ z => nomatch z)))))))) yy hy).2) rfl rfl) (own_b16 (own_fc ⟨hc10, hc11⟩ (own_fc ⟨hc20, hc21⟩ (own_fc (by decide) (own_fc (by decide) (own_fc ⟨hd10, hd11⟩ (own_fc ⟨hd20, hd21⟩ (fun _ z => nomatch z)))))))) (Nat.le_of_ble_eq_true rfl) H.SC H.hz (by decide) (by decide)) own_nW (Nat.le_of_eq rfl) E919 own_pd10 rfl rfl rfl at_110 (by decide) (by decide) ?_
      rintro v927 T928 h929 A930 ⟨rfl, rfl⟩
      show own_Run p e below Q m T928 113 #[.val (.int i0), .val (.int i1), .val (.int i2), .val (.int (2 : Int32)), .val (.int (2 : Int32)), .val (.int c1), .val (.int c2), .val (.int d1), .val (.int d2), .val (.ref b849), .val (.ref b861), .val (.ref b916), .val (.int (((2 : Int32) + (2 : Int32)) + (2 : Int32)))] [(.int (6 : Int32))]
      refine own_iload (q := 115) A930 at_113 rfl ?_
      refine own_icmpT (q := 120) A930 at_115 (show (6 : Int32) = (((2 : Int32) + (2 : Int32)) + (2 : Int32)) from by decide) ?_
      refine own_aload (q := 122) A930 at_120 rfl rfl ?_
      refine own_iconst (q := 123) A930 (0 : Int32) at_122 rfl ?_
      refine own_iloadN (q := 124) A930 at_123 rfl ?_
      refine own_iload (q := 126) A930 at_124 rfl ?_
      refine own_iload (q := 128) A930 at_126 rfl ?_
      refine own_iload (q := 130) A930 at_128 rfl ?_
      refine own_iload (q := 132) A930 at_130 rfl ?_
      refine own_iload (q := 134) A930 at_132 rfl ?_
      refine own_static (q := 137) (W := 0) (argsL := [(.ref b916), (.int (0 : Int32)), (.int (2 : Int32)), (.int c1), (.int c2), (.int (2 : Int32)), (.int d1), (.int d2)]) (rest := []) A930 (H.k 165 rfl) (H.k 166 rfl) (H.k 2 rfl) (H.k 167 rfl) (by decide) (own_payN (rm_ok0_22 b916 t917 k918 c1 c2 d1 d2 A930.old H E919 C920 V921 K922 hc10 hc11 hnc1 hc20 hc21 hnc2 hd10 hd11 hnd1 hd20 hd21 hnd2) (fun _ _ q => own_keepE q.2) (H.k 167 rfl) (H.k 2 rfl) (by decide) (by decide)) own_nW (Nat.le_of_eq rfl) own_pd1 rfl rfl rfl at_134 (by decide) (by decide) ?_
      rintro v931 T932 h933 A934 ⟨rfl, rfl⟩
      show own_Run p e below Q m T932 137 #[.val (.int i0), .val (.int i1), .val (.int i2), .val (.int (2 : Int32)), .val (.int (2 : Int32)), .val (.int c1), .val (.int c2), .val (.int d1), .val (.int d2), .val (.ref b849), .val (.ref b861), .val (.ref b916), .val (.int (((2 : Int32) + (2 : Int32)) + (2 : Int32)))] [(.int (1 : Int32))]
      refine own_ifcF (q := 140) A934 at_137 (show ¬ (1 : Int32) = (0 : Int32) from by decide) ?_
      refine own_aload (q := 142) A934 at_140 rfl rfl ?_
      refine own_iconst (q := 143) A934 (1 : Int32) at_142 rfl ?_
      refine own_iloadN (q := 144) A934 at_143 rfl ?_
      refine own_iload (q := 146) A934 at_144 rfl ?_
      refine own_iload (q := 148) A934 at_146 rfl ?_
      refine own_iload (q := 150) A934 at_148 rfl ?_
      refine own_iload (q := 152) A934 at_150 rfl ?_
      refine own_iload (q := 154) A934 at_152 rfl ?_
      refine own_static (q := 157) (W := 0) (argsL := [(.ref b916), (.int (1 : Int32)), (.int (2 : Int32)), (.int c1), (.int c2), (.int (2 : Int32)), (.int d1), (.int d2)]) (rest := []) A934 (H.k 165 rfl) (H.k 166 rfl) (H.k 2 rfl) (H.k 167 rfl) (by decide) (own_payN (rm_ok1_22 b916 t917 k918 c1 c2 d1 d2 A934.old H E919 C920 V921 K922 hc10 hc11 hnc1 hc20 hc21 hnc2 hd10 hd11 hnd1 hd20 hd21 hnd2) (fun _ _ q => own_keepE q.2) (H.k 167 rfl) (H.k 2 rfl) (by decide) (by decide)) own_nW (Nat.le_of_eq rfl) own_pd1 rfl rfl rfl at_154 (by decide) (by decide) ?_
      rintro v935 T936 h937 A938 ⟨rfl, rfl⟩
      show own_Run p e below Q m T936 157 #[.val (.int i0), .val (.int i1), .val (.int i2), .val (.int (2 : Int32)), .val (.int (2 : Int32)), .val (.int c1), .val (.int c2), .val (.int d1), .val (.int d2), .val (.ref b849), .val (.ref b861), .val (.ref b916), .val (.int (((2 : Int32) + (2 : Int32)) + (2 : Int32)))] [(.int (1 : Int32))]
      refine own_ifcF (q := 160) A938 at_157 (show ¬ (1 : Int32) = (0 : Int32) from by decide) ?_
      refine own_aload (q := 162) A938 at_160 rfl rfl ?_
      refine own_iconst (q := 163) A938 (2 : Int32) at_162 rfl ?_
      refine own_iloadN (q := 164) A938 at_163 rfl ?_
      refine own_iload (q := 166) A938 at_164 rfl ?_
      refine own_iload (q := 168) A938 at_166 rfl ?_
      refine own_iload (q := 170) A938 at_168 rfl ?_
      refine own_iload (q := 172) A938 at_170 rfl ?_
      refine own_iload (q := 174) A938 at_172 rfl ?_
      refine own_static (q := 177) (W := 0) (argsL := [(.ref b916), (.int (2 : Int32)), (.int (2 : Int32)), (.int c1), (.int c2), (.int (2 : Int32)), (.int d1), (.int d2)]) (rest := []) A938 (H.k 165 rfl) (H.k 166 rfl) (H.k 2 rfl) (H.k 167 rfl) (by decide) (own_payN (rm_ok2_22 b916 t917 k918 c1 c2 d1 d2 A938.old H E919 C920 V921 K922 hc10 hc11 hnc1 hc20 hc21 hnc2 hd10 hd11 hnd1 hd20 hd21 hnd2) (fun _ _ q => own_keepE q.2) (H.k 167 rfl) (H.k 2 rfl) (by decide) (by decide)) own_nW (Nat.le_of_eq rfl) own_pd1 rfl rfl rfl at_174 (by decide) (by decide) ?_
      rintro v939 T940 h941 A942 ⟨rfl, rfl⟩
      show own_Run p e below Q m T940 177 #[.val (.int i0), .val (.int i1), .val (.int i2), .val (.int (2 : Int32)), .val (.int (2 : Int32)), .val (.int c1), .val (.int c2), .val (.int d1), .val (.int d2), .val (.ref b849), .val (.ref b861), .val (.ref b916), .val (.int (((2 : Int32) + (2 : Int32)) + (2 : Int32)))] [(.int (1 : Int32))]
      refine own_ifcF (q := 180) A942 at_177 (show ¬ (1 : Int32) = (0 : Int32) from by decide) ?_
      refine own_aload (q := 182) A942 at_180 rfl rfl ?_
      refine own_iconst (q := 183) A942 (3 : Int32) at_182 rfl ?_
      refine own_iloadN (q := 184) A942 at_183 rfl ?_
      refine own_iload (q := 186) A942 at_184 rfl ?_
      refine own_iload (q := 188) A942 at_186 rfl ?_
      refine own_iload (q := 190) A942 at_188 rfl ?_
      refine own_iload (q := 192) A942 at_190 rfl ?_
      refine own_iload (q := 194) A942 at_192 rfl ?_
      refine own_static (q := 197) (W := 0) (argsL := [(.ref b916), (.int (3 : Int32)), (.int (2 : Int32)), (.int c1), (.int c2), (.int (2 : Int32)), (.int d1), (.int d2)]) (rest := []) A942 (H.k 165 rfl) (H.k 166 rfl) (H.k 2 rfl) (H.k 167 rfl) (by decide) (own_payN (rm_ok3_22 b916 t917 k918 c1 c2 d1 d2 A942.old H E919 C920 V921 K922 hc10 hc11 hnc1 hc20 hc21 hnc2 hd10 hd11 hnd1 hd20 hd21 hnd2) (fun _ _ q => own_keepE q.2) (H.k 167 rfl) (H.k 2 rfl) (by decide) (by decide)) own_nW (Nat.le_of_eq rfl) own_pd1 rfl rfl rfl at_194 (by decide) (by decide) ?_
      rintro v943 T944 h945 A946 ⟨rfl, rfl⟩
      show own_Run p e below Q m T944 197 #[.val (.int i0), .val (.int i1), .val (.int i2), .val (.int (2 : Int32)), .val (.int (2 : Int32)), .val (.int c1), .val (.int c2), .val (.int d1), .val (.int d2), .val (.ref b849), .val (.ref b861), .val (.ref b916), .val (.int (((2 : Int32) + (2 : Int32)) + (2 : Int32)))] [(.int (1 : Int32))]
      refine own_ifcF (q := 200) A946 at_197 (show ¬ (1 : Int32) = (0 : Int32) from by decide) ?_
      refine own_aload (q := 202) A946 at_200 rfl rfl ?_
      refine own_iconst (q := 203) A946 (4 : Int32) at_202 rfl ?_
      refine own_iloadN (q := 204) A946 at_203 rfl ?_
      refine own_iload (q := 206) A946 at_204 rfl ?_
      refine own_iload (q := 208) A946 at_206 rfl ?_
      refine own_iload (q := 210) A946 at_208 rfl ?_
      refine own_iload (q := 212) A946 at_210 rfl ?_
      refine own_iload (q := 214) A946 at_212 rfl ?_
      refine own_static (q := 217) (W := 0) (argsL := [(.ref b916), (.int (4 : Int32)), (.int (2 : Int32)), (.int c1), (.int c2), (.int (2 : Int32)), (.int d1), (.int d2)]) (rest := []) A946 (H.k 165 rfl) (H.k 166 rfl) (H.k 2 rfl) (H.k 167 rfl) (by decide) (own_payN (rm_ok4_22 b916 t917 k918 c1 c2 d1 d2 A946.old H E919 C920 V921 K922 hc10 hc11 hnc1 hc20 hc21 hnc2 hd10 hd11 hnd1 hd20 hd21 hnd2) (fun _ _ q => own_keepE q.2) (H.k 167 rfl) (H.k 2 rfl) (by decide) (by decide)) own_nW (Nat.le_of_eq rfl) own_pd1 rfl rfl rfl at_214 (by decide) (by decide) ?_
      rintro v947 T948 h949 A950 ⟨rfl, rfl⟩
      show own_Run p e below Q m T948 217 #[.val (.int i0), .val (.int i1), .val (.int i2), .val (.int (2 : Int32)), .val (.int (2 : Int32)), .val (.int c1), .val (.int c2), .val (.int d1), .val (.int d2), .val (.ref b849), .val (.ref b861), .val (.ref b916), .val (.int (((2 : Int32) + (2 : Int32)) + (2 : Int32)))] [(.int (1 : Int32))]
      refine own_ifcF (q := 220) A950 at_217 (show ¬ (1 : Int32) = (0 : Int32) from by decide) ?_
      refine own_aload (q := 222) A950 at_220 rfl rfl ?_
      refine own_iconst (q := 223) A950 (5 : Int32) at_222 rfl ?_
      refine own_iloadN (q := 224) A950 at_223 rfl ?_
      refine own_iload (q := 226) A950 at_224 rfl ?_
      refine own_iload (q := 228) A950 at_226 rfl ?_
      refine own_iload (q := 230) A950 at_228 rfl ?_
      refine own_iload (q := 232) A950 at_230 rfl ?_
      refine own_iload (q := 234) A950 at_232 rfl ?_
      refine own_static (q := 237) (W := 0) (argsL := [(.ref b916), (.int (5 : Int32)), (.int (2 : Int32)), (.int c1), (.int c2), (.int (2 : Int32)), (.int d1), (.int d2)]) (rest := []) A950 (H.k 165 rfl) (H.k 166 rfl) (H.k 2 rfl) (H.k 167 rfl) (by decide) (own_payN (rm_ok5_22 b916 t917 k918 c1 c2 d1 d2 A950.old H E919 C920 V921 K922 hc10 hc11 hnc1 hc20 hc21 hnc2 hd10 hd11 hnd1 hd20 hd21 hnd2) (fun _ _ q => own_keepE q.2) (H.k 167 rfl) (H.k 2 rfl) (by decide) (by decide)) own_nW (Nat.le_of_eq rfl) own_pd1 rfl rfl rfl at_234 (by decide) (by decide) ?_
      rintro v951 T952 h953 A954 ⟨rfl, rfl⟩
      show own_Run p e below Q m T952 237 #[.val (.int i0), .val (.int i1), .val (.int i2), .val (.int (2 : Int32)), .val (.int (2 : Int32)), .val (.int c1), .val (.int c2), .val (.int d1), .val (.int d2), .val (.ref b849), .val (.ref b861), .val (.ref b916), .val (.int (((2 : Int32) + (2 : Int32)) + (2 : Int32)))] [(.int (1 : Int32))]
      refine own_ifcF (q := 240) A954 at_237 (show ¬ (1 : Int32) = (0 : Int32) from by decide) ?_
      refine own_iconst (q := 241) A954 (1 : Int32) at_240 rfl ?_
      refine own_goto (q := 245) A954 at_241 ?_
      exact own_retN A954 hQ (t := .boolean) (by simp) at_245 rfl
theorem rm_law (l : Launch) (Z : State) (a0 : Array Value) (hw : ∀ d ∈ tables_1, d.before a0 Z = true) (ws : List Jvm.Cond) (zc : Int32) (fm : Value) (i0 i1 i2 : Int32) (h0 : Heap) (n0 : Nat) (O0 : Old Z n0 h0) (hEL : EW Z a0 consts_1) (SC : Sta Z Z.heap "java/lang/String" "COMPACT_STRINGS" "Z" (.int zc)) (hz : ¬ zc = 0) (SF : Sta Z Z.heap "jdk/internal/util/Preconditions" "SIOOBE_FORMATTER" "Ljava/util/function/BiFunction;" fm) (rf : fm.isRef = true) :
    own_Met true l Z n0 consts_1 [] x code maxLocals ret ws room_1 #[.int i0, .int i1, .int i2] h0 (fun v _ => v = some (.int 1)) := rm_lawP ws i0 i1 i2 O0 hEL (own_H_mk hw SC hz SF rf)
theorem comes_1 {Post : Tables → Env → Array Value → State → Outcome → State → Prop} (hpost : ∀ tb e args s v u, (limb_1_1.after args s (.returned v) u = true ∧ limb_1_2.after args s (.returned v) u = true ∧ True) → ReturnedEndW s (.returned v) u (Jvm.fieldLocs frame_1_writes args s ++ Jvm.arrayLocs frame_1_arrays args s ++ Jvm.staticLocs frame_1_statics s) 40 2240 → Post tb e args s (.returned v) u) :
    ArmFor flags0 classFile x code maxLocals ret World_1 tables_1 room_1 Calls_1 rest_1 Pre_1 Post := by
  intro l hfl _ _ p e ha hc hk s m args below hf hA hF happ hP
  obtain ⟨hcalls, hrest, hpre⟩ := hP
  obtain ⟨-, -, -, hnamed, -, -, -, hat⟩ := (Spec.applies_iff hf).mp happ
  obtain ⟨hg, hn⟩ := and_e (Cond.before_iff.mp (show (Jvm.Cond.and given_1 narrow_1).before args s = true from hpre))
  obtain ⟨g0, hg0⟩ := and_e hg
  obtain ⟨g1, hg1⟩ := and_e hg0
  obtain ⟨g2, hg2⟩ := and_e hg1
  have g3 := hg2
  obtain ⟨w0, w1, w2, rfl⟩ : ∃ w0 w1 w2 : Value, args = #[w0, w1, w2] := by
    have hs : args.size = 3 := by simpa [Cond.value, given_1] using g0
    obtain ⟨L⟩ := args
    match L, hs with
    | [w0, w1, w2], _ => exact ⟨w0, w1, w2, rfl⟩
  have hw := fun d (hd : d ∈ tables_1) => atoms_spec (ws := Jvm.Cond.code x code maxLocals ret :: tables_1) hat d (List.mem_cons_of_mem _ hd)
  have hfit : Fit s := fun {y c} hc i hi => by
    obtain ⟨ha, rfl⟩ := Array.getElem?_eq_some_iff.mp hc
    have q := List.all_eq_true.mp ((Array.all_eq_true_iff_forall_mem.mp hF) _ (Array.getElem_mem ha)) i (List.mem_range.mpr hi)
    simpa [Array.getElem?_eq_getElem hi] using q
  obtain ⟨i0, ei0⟩ := is_v g1
  obtain rfl : w0 = (.int i0) := Option.some.inj ei0
  obtain ⟨i1, ei1⟩ := is_v g2
  obtain rfl : w1 = (.int i1) := Option.some.inj ei1
  obtain ⟨i2, ei2⟩ := is_v g3
  obtain rfl : w2 = (.int i2) := Option.some.inj ei2
  obtain ⟨hsets, hown0⟩ := atoms_of _ (rest_1_c_eq ▸ (show rest_1_c.before _ s = true from hrest))
  have q0 := hn
  have n2 := not_v (Cond.before_iff.mp (hsets _ (List.mem_of_getElem? (i := 2) rfl)))
  obtain ⟨zc, ez⟩ := is_v (Cond.before_iff.mp (hsets _ (List.mem_of_getElem? (i := 1) rfl)))
  have SC := Sta.start ez (Or.inl (hsets _ (List.mem_of_getElem? (i := 0) rfl)))
  have hz : ¬ zc = (0 : Int32) := gotF (Cond.eq_ints ez (Term.int_eval (0))) n2
  obtain ⟨fm, ef, rf⟩ := isR_v (Cond.before_iff.mp (hsets _ (List.mem_of_getElem? (i := 8) rfl)))
  have SF := Sta.start ef (Or.inl (hsets _ (List.mem_of_getElem? (i := 7) rfl)))
  have hEL : EW s _ consts_1 := (EW.cons (hw _ (own_wM 118 rfl)) (by decide +kernel) (EW.cons (hw _ (own_wM 34 rfl)) (by decide +kernel) EW.nil))
  have hCH : CHv s consts_1 s.vm s.heap := CHv.start hEL (fun p hp => hcalls.1 p hp) (hsets _ (List.mem_of_getElem? (i := 2) rfl)) (hw _ (own_wM 23 rfl)) (hw _ (own_wM 5 rfl))
  obtain ⟨n, o, h1, h2, h3, v, L, rfl, ⟨rfl, N, -, -⟩, -, hq⟩ := rm_law l s _ hw tables_1 zc fm i0 i1 i2 s.heap s.heap.size (Old.start s) hEL SC hz SF rf p e ha hc hk s m _ below hf ((Spec.applies_iff_loose hf).mp happ).1 ⟨rfl, State.Warmed39.refl s, rfl, hCH, fun _ z => nomatch z⟩ trivial
  have hq' : ReturnedEndW s _ _ L _ _ := hq
  refine ⟨n, _, h1, h2, h3, hpost _ _ _ _ _ _ ⟨Cond.after_iff.mpr rfl, Cond.after_iff.mpr (eq_i res_at (Term.int_eval (1)) rfl), trivial⟩ ⟨hq'.1, hq'.2.1, hq'.2.2.1, (hq'.2.2.2.sift fun y hy => Or.inr (N y hy)).mono (by decide) (by decide)⟩⟩
theorem main_1_1 : Claimed_1_1 := comes_1 fun _ _ _ _ _ _ h hF => ⟨h.1, hF⟩
theorem main_1_2 : Claimed_1_2 := comes_1 fun _ _ _ _ _ _ h hF => ⟨h.2.1, hF⟩
end Jvm.Pilot.@@N@@
namespace Jvm.Pilot.@@N@@
open Jvm Jvm.ClassFile Sem Op Lib Jvm.Free Jvm.Stand Jvm.Pilot.@@N@@.Jvm.D
/-! MADE BY PROGRAM (witnessworld.py) out of the Statement's table words and the real class files: 26 classes; the members and pool entries that the words name. The judged class is class 1, her method 1. -/
namespace start1
open Jvm.ClassFile
def u (s : String) : CpInfo := .utf8 (stringToUtf16 s)
/-- a pool by its gaps: so many unusable entries, then the entry; so many at the end -/
def gap : Nat → List CpInfo → List CpInfo
  | 0, r => r
  | n + 1, r => .unusable :: gap n r
def poolList (es : List (Nat × CpInfo)) (last : Nat) : List CpInfo := es.foldr (fun e r => gap e.1 (e.2 :: r)) (gap last [])
def pool (es : List (Nat × CpInfo)) (last : Nat) : Array CpInfo := ⟨poolList es last⟩
def fileOf (pool : Array CpInfo) (this : Nat) (attrs : Array Attribute := #[]) (ms : Array MethodInfo := #[]) (fl : Nat := 33) (sup : Nat := 0) (ifs : Array Nat := #[]) (fds : Array FieldInfo := #[]) : ClassFile where
  minorVersion := 0
  majorVersion := 65
  constantPool := pool
  accessFlags := fl
  thisClass := this
  superClass := sup
  interfaces := ifs
  fields := fds
  methods := ms
  attributes := attrs
def plain (name : String) (sup : Option ClassId) : Class where
  name := name
  kind := .ordinary
  loader := none
  accessFlags := 33
  super := sup
  interfaces := #[]
  cf := none
  fields := #[]
  methods := #[]
  instanceTypes := #[]
  staticTypes := #[]
  resolved := #[]
  callSites := []
  init := .initialized
  statics := none
  mirror := none

def pool0 : Array CpInfo := pool [(5, u "<init>"), (0, u "()V"), (1, .class_ 10), (1, u "java/lang/Object")] 113

def k0c0 : Code := { maxStack := 0, maxLocals := 1, code := object_method_1_code, exceptionTable := #[], attributes := #[] }
def k0m0 : Method := { name := "<init>", desc := "()V", sig := { parameters := [], returnType := none }, accessFlags := 1, code := some k0c0 }
/-- java/lang/Object -/
def k0 : Class := { plain "java/lang/Object" none with
  accessFlags := 33
  interfaces := #[]
  cf := some (fileOf pool0 8 #[] #[{ accessFlags := 1, nameIndex := 5, descriptorIndex := 6, attributes := #[] }] 33 0 #[] #[])
  fields := #[]
  methods := #[k0m0]
  instanceTypes := #[]
  staticTypes := #[]
  resolved := Array.replicate 124 none
  statics := none }

def pool1 : Array CpInfo := pool [(2, .class_ 4), (1, u "java/lang/Object"), (0, u "<init>"), (0, u "()V"), (0, .methodref 8 9), (0, .class_ 10), (0, .nameAndType 11 12), (0, u "com/example/hifadhi/hifadhi/project/NotAnalysedMessagePinLaw"), (0, u "mk"), (0, u "(ICC)Ljava/lang/String;"), (0, .class_ 14), (0, u "com/example/hifadhi/hifadhi/project/NotAnalysed"), (0, .methodref 13 16), (0, .nameAndType 5 17), (0, u "(Ljava/lang/String;Ljava/lang/String;)V"), (0, .methodref 13 19), (0, .nameAndType 20 21), (0, u "message"), (0, u "()Ljava/lang/String;"), (0, .methodref 23 24), (0, .class_ 25), (0, .nameAndType 26 27), (0, u "java/lang/String"), (0, u "length"), (0, u "()I"), (0, .methodref 8 29), (0, .nameAndType 30 31), (0, u "ok"), (0, u "(Ljava/lang/String;IICCICC)Z"), (0, .methodref 23 33), (0, .nameAndType 5 34), (0, u "([C)V"), (0, .methodref 23 36), (0, .nameAndType 37 38), (0, u "charAt"), (0, u "(I)C"), (2, u "law"), (0, u "(III)Z")] 3

def k1m0 : Method := { name := "<init>", desc := "()V", sig := { parameters := [], returnType := none }, accessFlags := 1, code := none }
def k1c1 : Code := { maxStack := 8, maxLocals := 13, code := code, exceptionTable := #[], attributes := #[] }
def k1m1 : Method := { name := "law", desc := "(III)Z", sig := { parameters := [.int, .int, .int], returnType := some .boolean }, accessFlags := 9, code := some k1c1 }
def k1c2 : Code := { maxStack := 6, maxLocals := 3, code := method_3_code, exceptionTable := #[], attributes := #[] }
def k1m2 : Method := { name := "mk", desc := "(ICC)Ljava/lang/String;", sig := { parameters := [.int, .char, .char], returnType := some (.object "java/lang/String") }, accessFlags := 10, code := some k1c2 }
def k1c3 : Code := { maxStack := 3, maxLocals := 11, code := method_4_code, exceptionTable := #[], attributes := #[] }
def k1m3 : Method := { name := "ok", desc := "(Ljava/lang/String;IICCICC)Z", sig := { parameters := [(.object "java/lang/String"), .int, .int, .char, .char, .int, .char, .char], returnType := some .boolean }, accessFlags := 10, code := some k1c3 }
/-- com/example/hifadhi/hifadhi/project/NotAnalysedMessagePinLaw -/
def k1 : Class := { plain "com/example/hifadhi/hifadhi/project/NotAnalysedMessagePinLaw" (some 0) with
  accessFlags := 49
  interfaces := #[]
  cf := some (fileOf pool1 8 #[] #[{ accessFlags := 1, nameIndex := 5, descriptorIndex := 6, attributes := #[] }, { accessFlags := 9, nameIndex := 41, descriptorIndex := 42, attributes := #[] }, { accessFlags := 10, nameIndex := 11, descriptorIndex := 12, attributes := #[] }, { accessFlags := 10, nameIndex := 30, descriptorIndex := 31, attributes := #[] }] 49 2 #[] #[])
  fields := #[]
  methods := #[k1m0, k1m1, k1m2, k1m3]
  instanceTypes := #[]
  staticTypes := #[]
  resolved := Array.replicate 46 none
  statics := none }

def pool2 : Array CpInfo := pool [(1, .class_ 2), (0, u "java/io/Serializable"), (0, .class_ 4), (0, u "java/lang/Object")] 2

/-- java/io/Serializable -/
def k2 : Class := { plain "java/io/Serializable" (some 0) with
  accessFlags := 1537
  interfaces := #[]
  cf := some (fileOf pool2 1 #[] #[] 1537 3 #[] #[])
  fields := #[]
  methods := #[]
  instanceTypes := #[]
  staticTypes := #[]
  resolved := Array.replicate 7 none
  statics := none }

def pool3 : Array CpInfo := pool [(1, .class_ 2), (0, u "java/lang/Comparable"), (0, .class_ 4), (0, u "java/lang/Object")] 7

/-- java/lang/Comparable -/
def k3 : Class := { plain "java/lang/Comparable" (some 0) with
  accessFlags := 1537
  interfaces := #[]
  cf := some (fileOf pool3 1 #[] #[] 1537 3 #[] #[])
  fields := #[]
  methods := #[]
  instanceTypes := #[]
  staticTypes := #[]
  resolved := Array.replicate 12 none
  statics := none }

def pool4 : Array CpInfo := pool [(2, .class_ 4), (1, u "java/lang/CharSequence"), (42, .class_ 48), (0, u "java/lang/CharSequence$1CodePointIterator"), (10, .class_ 60), (0, u "java/lang/CharSequence$1CharIterator"), (5, .class_ 67), (0, u "java/lang/Object")] 63

/-- java/lang/CharSequence -/
def k4 : Class := { plain "java/lang/CharSequence" (some 0) with
  accessFlags := 1537
  interfaces := #[]
  cf := some (fileOf pool4 2 #[.nestMembers #[47, 59]] #[] 1537 66 #[] #[])
  fields := #[]
  methods := #[]
  instanceTypes := #[]
  staticTypes := #[]
  resolved := Array.replicate 131 none
  statics := none }

def pool5 : Array CpInfo := pool [(1, .class_ 2), (0, u "java/lang/constant/Constable"), (0, .class_ 4), (0, u "java/lang/Object")] 6

/-- java/lang/constant/Constable -/
def k5 : Class := { plain "java/lang/constant/Constable" (some 0) with
  accessFlags := 1537
  interfaces := #[]
  cf := some (fileOf pool5 1 #[] #[] 1537 3 #[] #[])
  fields := #[]
  methods := #[]
  instanceTypes := #[]
  staticTypes := #[]
  resolved := Array.replicate 11 none
  statics := none }

def pool6 : Array CpInfo := pool [(1, .class_ 2), (0, u "java/lang/constant/ConstantDesc"), (0, .class_ 4), (0, u "java/lang/Object")] 32

/-- java/lang/constant/ConstantDesc -/
def k6 : Class := { plain "java/lang/constant/ConstantDesc" (some 0) with
  accessFlags := 1537
  interfaces := #[]
  cf := some (fileOf pool6 1 #[] #[] 1537 3 #[] #[])
  fields := #[]
  methods := #[]
  instanceTypes := #[]
  staticTypes := #[]
  resolved := Array.replicate 37 none
  statics := none }

def pool7 : Array CpInfo := pool [(1, .methodref 2 3), (0, .class_ 4), (0, .nameAndType 5 6), (0, u "java/lang/Object"), (0, u "<init>"), (0, u "()V"), (0, .string 8), (0, u ""), (0, .fieldref 10 11), (0, .class_ 12), (0, .nameAndType 13 14), (0, u "java/lang/String"), (0, u "value"), (0, u "[B"), (0, .fieldref 10 16), (0, .nameAndType 17 18), (0, u "coder"), (0, u "B"), (2, u "hash"), (0, u "I"), (2, u "hashIsZero"), (0, u "Z"), (0, .methodref 10 28), (0, .nameAndType 5 29), (0, u "([CIILjava/lang/Void;)V"), (8, .fieldref 10 39), (0, .nameAndType 40 26), (0, u "COMPACT_STRINGS"), (1, .class_ 44), (1, u "java/lang/StringUTF16"), (0, u "compress"), (1, .methodref 42 48), (0, .nameAndType 49 50), (0, u "coderFromArrayLen"), (0, u "([BI)B"), (3, .methodref 55 56), (0, .class_ 57), (0, .nameAndType 58 59), (0, u "java/util/Arrays"), (0, u "copyOfRange"), (0, u "([BII)[B"), (47, .class_ 109), (1, u "java/lang/StringLatin1"), (32, u "()Z"), (34, .methodref 42 178), (0, .nameAndType 45 179), (0, u "([CII)[B"), (13, .class_ 195), (1, u "java/lang/System"), (16, .methodref 193 213), (0, .nameAndType 214 215), (0, u "arraycopy"), (0, u "(Ljava/lang/Object;ILjava/lang/Object;II)V"), (118, u "()I"), (0, .methodref 10 336), (0, .nameAndType 17 337), (0, u "()B"), (2, u "()[B"), (22, u "([BI)C"), (27, u "(II)V"), (35, u "(I)C"), (61, .methodref 10 490), (0, .nameAndType 5 491), (0, u "(Ljava/lang/AbstractStringBuilder;Ljava/lang/Void;)V"), (0, .methodref 10 493), (0, .nameAndType 494 142), (0, u "isLatin1"), (0, .methodref 107 496), (0, .nameAndType 497 363), (0, u "charAt"), (3, u "checkIndex"), (4, .nameAndType 507 334), (0, u "length"), (24, u "getBytes"), (16, .methodref 550 506), (0, .class_ 551), (0, u "java/lang/AbstractStringBuilder"), (0, .methodref 550 553), (0, .nameAndType 554 340), (0, u "getValue"), (20, .class_ 576), (0, u "java/lang/CharSequence"), (22, u "CASE_INSENSITIVE_ORDER"), (0, u "Ljava/util/Comparator;"), (220, u "([BIB)V"), (188, u "([C)V"), (36, .methodref 550 493), (5, .fieldref 1054 1055), (0, .class_ 1056), (0, .nameAndType 1057 1058), (0, u "jdk/internal/util/Preconditions"), (0, u "SIOOBE_FORMATTER"), (0, u "Ljava/util/function/BiFunction;"), (0, .methodref 1054 1060), (0, .nameAndType 501 1061), (0, u "(IILjava/util/function/BiFunction;)I"), (39, u "serialPersistentFields"), (0, u "[Ljava/io/ObjectStreamField;"), (0, .class_ 1104), (0, u "java/lang/String$CaseInsensitiveComparator"), (1, .class_ 1107), (0, u "java/io/Serializable"), (0, .class_ 1109), (0, u "java/lang/Comparable"), (0, .class_ 1111), (0, u "java/lang/constant/Constable"), (0, .class_ 1113), (0, u "java/lang/constant/ConstantDesc"), (2, u "serialVersionUID"), (0, u "J"), (3, u "REPL"), (0, u "C"), (2, u "LATIN1"), (1, u "UTF16"), (105, u "(Ljava/lang/StringBuilder;)V")] 217

def k7m0 : Method := { name := "<init>", desc := "()V", sig := { parameters := [], returnType := none }, accessFlags := 1, code := none }
def k7c1 : Code := { maxStack := 5, maxLocals := 2, code := jdk_42_method_3_code, exceptionTable := #[], attributes := #[] }
def k7m1 : Method := { name := "<init>", desc := "([C)V", sig := { parameters := [(.array .char)], returnType := none }, accessFlags := 1, code := some k7c1 }
def k7c2 : Code := { maxStack := 3, maxLocals := 2, code := jdk_42_method_53_code, exceptionTable := #[], attributes := #[] }
def k7m2 : Method := { name := "<init>", desc := "(Ljava/lang/StringBuilder;)V", sig := { parameters := [(.object "java/lang/StringBuilder")], returnType := none }, accessFlags := 1, code := some k7c2 }
def k7c3 : Code := { maxStack := 2, maxLocals := 1, code := jdk_42_method_54_code, exceptionTable := #[], attributes := #[] }
def k7m3 : Method := { name := "length", desc := "()I", sig := { parameters := [], returnType := some .int }, accessFlags := 1, code := some k7c3 }
def k7c4 : Code := { maxStack := 2, maxLocals := 2, code := jdk_42_method_56_code, exceptionTable := #[], attributes := #[] }
def k7m4 : Method := { name := "charAt", desc := "(I)C", sig := { parameters := [.int], returnType := some .char }, accessFlags := 1, code := some k7c4 }
def k7c5 : Code := { maxStack := 5, maxLocals := 4, code := jdk_42_method_147_code, exceptionTable := #[], attributes := #[] }
def k7m5 : Method := { name := "getBytes", desc := "([BIB)V", sig := { parameters := [(.array .byte), .int, .byte], returnType := none }, accessFlags := 0, code := some k7c5 }
def k7c6 : Code := { maxStack := 4, maxLocals := 6, code := jdk_42_method_149_code, exceptionTable := #[], attributes := #[] }
def k7m6 : Method := { name := "<init>", desc := "([CIILjava/lang/Void;)V", sig := { parameters := [(.array .char), .int, .int, (.object "java/lang/Void")], returnType := none }, accessFlags := 2, code := some k7c6 }
def k7c7 : Code := { maxStack := 5, maxLocals := 5, code := jdk_42_method_150_code, exceptionTable := #[], attributes := #[] }
def k7m7 : Method := { name := "<init>", desc := "(Ljava/lang/AbstractStringBuilder;Ljava/lang/Void;)V", sig := { parameters := [(.object "java/lang/AbstractStringBuilder"), (.object "java/lang/Void")], returnType := none }, accessFlags := 0, code := some k7c7 }
def k7c8 : Code := { maxStack := 1, maxLocals := 1, code := jdk_42_method_152_code, exceptionTable := #[], attributes := #[] }
def k7m8 : Method := { name := "coder", desc := "()B", sig := { parameters := [], returnType := some .byte }, accessFlags := 0, code := some k7c8 }
def k7c9 : Code := { maxStack := 1, maxLocals := 1, code := jdk_42_method_154_code, exceptionTable := #[], attributes := #[] }
def k7m9 : Method := { name := "isLatin1", desc := "()Z", sig := { parameters := [], returnType := some .boolean }, accessFlags := 0, code := some k7c9 }
def k7c10 : Code := { maxStack := 3, maxLocals := 2, code := jdk_42_method_155_code, exceptionTable := #[], attributes := #[] }
def k7m10 : Method := { name := "checkIndex", desc := "(II)V", sig := { parameters := [.int, .int], returnType := none }, accessFlags := 8, code := some k7c10 }
/-- java/lang/String -/
def k7 : Class := { plain "java/lang/String" (some 0) with
  accessFlags := 49
  interfaces := #[2, 3, 4, 5, 6]
  cf := some (fileOf pool7 10 #[.nestMembers #[1103]] #[{ accessFlags := 1, nameIndex := 5, descriptorIndex := 6, attributes := #[] }, { accessFlags := 1, nameIndex := 5, descriptorIndex := 1010, attributes := #[] }, { accessFlags := 1, nameIndex := 5, descriptorIndex := 1233, attributes := #[] }, { accessFlags := 1, nameIndex := 507, descriptorIndex := 334, attributes := #[] }, { accessFlags := 1, nameIndex := 497, descriptorIndex := 427, attributes := #[] }, { accessFlags := 0, nameIndex := 532, descriptorIndex := 821, attributes := #[] }, { accessFlags := 2, nameIndex := 5, descriptorIndex := 29, attributes := #[] }, { accessFlags := 0, nameIndex := 5, descriptorIndex := 491, attributes := #[] }, { accessFlags := 0, nameIndex := 17, descriptorIndex := 337, attributes := #[] }, { accessFlags := 0, nameIndex := 494, descriptorIndex := 142, attributes := #[] }, { accessFlags := 8, nameIndex := 501, descriptorIndex := 391, attributes := #[] }] 49 2 #[1106, 1108, 575, 1110, 1112] #[{ accessFlags := 18, nameIndex := 13, descriptorIndex := 14, attributes := #[] }, { accessFlags := 18, nameIndex := 17, descriptorIndex := 18, attributes := #[] }, { accessFlags := 2, nameIndex := 21, descriptorIndex := 22, attributes := #[] }, { accessFlags := 2, nameIndex := 25, descriptorIndex := 26, attributes := #[] }, { accessFlags := 26, nameIndex := 1116, descriptorIndex := 1117, attributes := #[] }, { accessFlags := 24, nameIndex := 40, descriptorIndex := 26, attributes := #[] }, { accessFlags := 26, nameIndex := 1101, descriptorIndex := 1102, attributes := #[] }, { accessFlags := 26, nameIndex := 1121, descriptorIndex := 1122, attributes := #[] }, { accessFlags := 25, nameIndex := 599, descriptorIndex := 600, attributes := #[] }, { accessFlags := 24, nameIndex := 1125, descriptorIndex := 18, attributes := #[] }, { accessFlags := 24, nameIndex := 1127, descriptorIndex := 18, attributes := #[] }])
  fields := #[{ name := "value", type := (.array .byte), accessFlags := 18, slot := 0, constantValue := 0 }, { name := "coder", type := .byte, accessFlags := 18, slot := 1, constantValue := 0 }, { name := "hash", type := .int, accessFlags := 2, slot := 2, constantValue := 0 }, { name := "hashIsZero", type := .boolean, accessFlags := 2, slot := 3, constantValue := 0 }, { name := "serialVersionUID", type := .long, accessFlags := 26, slot := 0, constantValue := 0 }, { name := "COMPACT_STRINGS", type := .boolean, accessFlags := 24, slot := 1, constantValue := 0 }, { name := "serialPersistentFields", type := (.array (.object "java/io/ObjectStreamField")), accessFlags := 26, slot := 2, constantValue := 0 }, { name := "REPL", type := .char, accessFlags := 26, slot := 3, constantValue := 0 }, { name := "CASE_INSENSITIVE_ORDER", type := (.object "java/util/Comparator"), accessFlags := 25, slot := 4, constantValue := 0 }, { name := "LATIN1", type := .byte, accessFlags := 24, slot := 5, constantValue := 0 }, { name := "UTF16", type := .byte, accessFlags := 24, slot := 6, constantValue := 0 }]
  methods := #[k7m0, k7m1, k7m2, k7m3, k7m4, k7m5, k7m6, k7m7, k7m8, k7m9, k7m10]
  instanceTypes := #[(.array .byte), .byte, .int, .boolean]
  staticTypes := #[.long, .boolean, (.array (.object "java/io/ObjectStreamField")), .char, (.object "java/util/Comparator"), .byte, .byte]
  resolved := Array.replicate 1451 none
  statics := some 0 }

def pool8 : Array CpInfo := pool [(6, .class_ 8), (1, u "java/lang/Object"), (0, u "<init>"), (0, u "()V"), (1, .class_ 14), (1, u "java/lang/StringUTF16"), (31, u "$assertionsDisabled"), (0, u "Z"), (13, u "HI_BYTE_SHIFT"), (0, u "I"), (2, u "LO_BYTE_SHIFT"), (49, .methodref 12 116), (0, .nameAndType 117 118), (0, u "compress"), (0, u "([CI[BII)I"), (3, u "([CII)[B"), (138, u "coderFromArrayLen"), (0, u "([BI)B"), (106, .class_ 371), (1, u "java/lang/StringUTF16$LinesSpliterator"), (58, u "MAX_LENGTH"), (196, .class_ 628), (0, u "java/lang/StringUTF16$CodePointsSpliterator"), (0, .class_ 630), (0, u "java/lang/StringUTF16$CharsSpliterator")] 4

def k8m0 : Method := { name := "<init>", desc := "()V", sig := { parameters := [], returnType := none }, accessFlags := 0, code := none }
def k8c1 : Code := { maxStack := 2, maxLocals := 2, code := jdk_52_method_15_code, exceptionTable := #[], attributes := #[] }
def k8m1 : Method := { name := "coderFromArrayLen", desc := "([BI)B", sig := { parameters := [(.array .byte), .int], returnType := some .byte }, accessFlags := 8, code := some k8c1 }
def k8c2 : Code := { maxStack := 5, maxLocals := 6, code := jdk_52_method_16_code, exceptionTable := #[], attributes := #[] }
def k8m2 : Method := { name := "compress", desc := "([CII)[B", sig := { parameters := [(.array .char), .int, .int], returnType := some (.array .byte) }, accessFlags := 9, code := some k8c2 }
def k8c3 : Code := { maxStack := 3, maxLocals := 7, code := jdk_52_method_21_code, exceptionTable := #[], attributes := #[] }
def k8m3 : Method := { name := "compress", desc := "([CI[BII)I", sig := { parameters := [(.array .char), .int, (.array .byte), .int, .int], returnType := some .int }, accessFlags := 9, code := some k8c3 }
/-- java/lang/StringUTF16 -/
def k8 : Class := { plain "java/lang/StringUTF16" (some 0) with
  accessFlags := 48
  interfaces := #[]
  cf := some (fileOf pool8 12 #[.nestMembers #[627, 629, 369]] #[{ accessFlags := 0, nameIndex := 9, descriptorIndex := 10, attributes := #[] }, { accessFlags := 8, nameIndex := 261, descriptorIndex := 262, attributes := #[] }, { accessFlags := 9, nameIndex := 117, descriptorIndex := 122, attributes := #[] }, { accessFlags := 9, nameIndex := 117, descriptorIndex := 118, attributes := #[] }] 48 6 #[] #[{ accessFlags := 26, nameIndex := 61, descriptorIndex := 62, attributes := #[] }, { accessFlags := 26, nameIndex := 65, descriptorIndex := 62, attributes := #[] }, { accessFlags := 24, nameIndex := 430, descriptorIndex := 62, attributes := #[] }, { accessFlags := 4120, nameIndex := 46, descriptorIndex := 47, attributes := #[] }])
  fields := #[{ name := "HI_BYTE_SHIFT", type := .int, accessFlags := 26, slot := 0, constantValue := 0 }, { name := "LO_BYTE_SHIFT", type := .int, accessFlags := 26, slot := 1, constantValue := 0 }, { name := "MAX_LENGTH", type := .int, accessFlags := 24, slot := 2, constantValue := 0 }, { name := "$assertionsDisabled", type := .boolean, accessFlags := 4120, slot := 3, constantValue := 0 }]
  methods := #[k8m0, k8m1, k8m2, k8m3]
  instanceTypes := #[]
  staticTypes := #[.int, .int, .int, .boolean]
  resolved := Array.replicate 635 none
  statics := none }

def pool9 : Array CpInfo := pool [(1, .methodref 2 3), (0, .class_ 4), (0, .nameAndType 5 6), (0, u "java/lang/Object"), (0, u "<init>"), (0, u "()V"), (0, .fieldref 8 9), (0, .class_ 10), (0, .nameAndType 11 12), (0, u "com/example/hifadhi/hifadhi/project/NotAnalysed"), (0, u "what"), (0, u "Ljava/lang/String;"), (0, .fieldref 8 14), (0, .nameAndType 15 12), (0, u "reason"), (0, .class_ 17), (0, u "java/lang/StringBuilder"), (0, .methodref 16 3), (0, .methodref 16 20), (0, .nameAndType 21 22), (0, u "append"), (0, u "(Ljava/lang/String;)Ljava/lang/StringBuilder;"), (0, .string 24), (0, u ": "), (0, .methodref 16 26), (0, .nameAndType 27 28), (0, u "toString"), (0, u "()Ljava/lang/String;"), (16, u "ORDER"), (0, u "Ljava/util/Comparator;"), (2, u "(Ljava/lang/String;Ljava/lang/String;)V"), (2, u "message")] 27

def k9c0 : Code := { maxStack := 2, maxLocals := 3, code := prog_33_method_1_code, exceptionTable := #[], attributes := #[] }
def k9m0 : Method := { name := "<init>", desc := "(Ljava/lang/String;Ljava/lang/String;)V", sig := { parameters := [(.object "java/lang/String"), (.object "java/lang/String")], returnType := none }, accessFlags := 1, code := some k9c0 }
def k9c1 : Code := { maxStack := 2, maxLocals := 1, code := prog_33_method_4_code, exceptionTable := #[], attributes := #[] }
def k9m1 : Method := { name := "message", desc := "()Ljava/lang/String;", sig := { parameters := [], returnType := some (.object "java/lang/String") }, accessFlags := 1, code := some k9c1 }
/-- com/example/hifadhi/hifadhi/project/NotAnalysed -/
def k9 : Class := { plain "com/example/hifadhi/hifadhi/project/NotAnalysed" (some 0) with
  accessFlags := 49
  interfaces := #[]
  cf := some (fileOf pool9 8 #[] #[{ accessFlags := 1, nameIndex := 5, descriptorIndex := 49, attributes := #[] }, { accessFlags := 1, nameIndex := 52, descriptorIndex := 28, attributes := #[] }] 49 2 #[] #[{ accessFlags := 25, nameIndex := 45, descriptorIndex := 46, attributes := #[] }, { accessFlags := 18, nameIndex := 11, descriptorIndex := 12, attributes := #[] }, { accessFlags := 18, nameIndex := 15, descriptorIndex := 12, attributes := #[] }])
  fields := #[{ name := "ORDER", type := (.object "java/util/Comparator"), accessFlags := 25, slot := 0, constantValue := 0 }, { name := "what", type := (.object "java/lang/String"), accessFlags := 18, slot := 0, constantValue := 0 }, { name := "reason", type := (.object "java/lang/String"), accessFlags := 18, slot := 1, constantValue := 0 }]
  methods := #[k9m0, k9m1]
  instanceTypes := #[(.object "java/lang/String"), (.object "java/lang/String")]
  staticTypes := #[(.object "java/util/Comparator")]
  resolved := Array.replicate 80 none
  statics := none }

def pool10 : Array CpInfo := pool [(1, .class_ 2), (0, u "java/lang/Appendable"), (0, .class_ 4), (0, u "java/lang/Object")] 9

/-- java/lang/Appendable -/
def k10 : Class := { plain "java/lang/Appendable" (some 0) with
  accessFlags := 1537
  interfaces := #[]
  cf := some (fileOf pool10 1 #[] #[] 1537 3 #[] #[])
  fields := #[]
  methods := #[]
  instanceTypes := #[]
  staticTypes := #[]
  resolved := Array.replicate 14 none
  statics := none }

def pool11 : Array CpInfo := pool [(1, .class_ 2), (0, u "java/lang/String"), (0, .methodref 4 5), (0, .class_ 6), (0, .nameAndType 7 8), (0, u "java/lang/Object"), (0, u "<init>"), (0, u "()V"), (1, .class_ 12), (1, u "java/lang/AbstractStringBuilder"), (0, u "EMPTYVALUE"), (0, u "[B"), (0, .fieldref 10 16), (0, .nameAndType 17 14), (0, u "value"), (0, .fieldref 1 19), (0, .nameAndType 20 21), (0, u "COMPACT_STRINGS"), (0, u "Z"), (0, .fieldref 10 23), (0, .nameAndType 24 25), (0, u "coder"), (0, u "B"), (6, .methodref 1 33), (0, .nameAndType 34 35), (0, u "length"), (0, u "()I"), (4, .methodref 1 41), (0, .nameAndType 24 42), (0, u "()B"), (2, u "append"), (0, u "(Ljava/lang/String;)Ljava/lang/AbstractStringBuilder;"), (1, .class_ 49), (0, u "java/lang/CharSequence"), (19, u "(Ljava/lang/String;)V"), (5, u "maybeLatin1"), (3, .fieldref 10 80), (0, .nameAndType 81 82), (0, u "count"), (0, u "I"), (2, u "isLatin1"), (0, u "()Z"), (13, .methodref 10 101), (0, .nameAndType 102 103), (0, u "ensureCapacityInternal"), (0, u "(I)V"), (104, .methodref 10 209), (0, .nameAndType 210 211), (0, u "putStringAt"), (0, u "(ILjava/lang/String;)V"), (5, u "inflateIfNeededFor"), (2, .nameAndType 221 222), (0, u "getBytes"), (0, u "([BIB)V"), (174, .methodref 10 398), (0, .nameAndType 217 69), (0, .methodref 1 220), (3, u "()[B"), (40, .class_ 445), (0, u "java/lang/Appendable"), (106, u "getValue")] 56

def k11m0 : Method := { name := "<init>", desc := "()V", sig := { parameters := [], returnType := none }, accessFlags := 0, code := none }
def k11c1 : Code := { maxStack := 2, maxLocals := 2, code := jdk_68_method_2_code, exceptionTable := #[], attributes := #[] }
def k11m1 : Method := { name := "<init>", desc := "(I)V", sig := { parameters := [.int], returnType := none }, accessFlags := 0, code := some k11c1 }
def k11c2 : Code := { maxStack := 1, maxLocals := 1, code := jdk_68_method_6_code, exceptionTable := #[], attributes := #[] }
def k11m2 : Method := { name := "length", desc := "()I", sig := { parameters := [], returnType := some .int }, accessFlags := 1, code := some k11c2 }
def k11c3 : Code := { maxStack := 4, maxLocals := 3, code := jdk_68_method_9_code, exceptionTable := #[], attributes := #[] }
def k11m3 : Method := { name := "ensureCapacityInternal", desc := "(I)V", sig := { parameters := [.int], returnType := none }, accessFlags := 2, code := some k11c3 }
def k11c4 : Code := { maxStack := 3, maxLocals := 3, code := jdk_68_method_22_code, exceptionTable := #[], attributes := #[] }
def k11m4 : Method := { name := "append", desc := "(Ljava/lang/String;)Ljava/lang/AbstractStringBuilder;", sig := { parameters := [(.object "java/lang/String")], returnType := some (.object "java/lang/AbstractStringBuilder") }, accessFlags := 1, code := some k11c4 }
def k11c5 : Code := { maxStack := 1, maxLocals := 1, code := jdk_68_method_64_code, exceptionTable := #[], attributes := #[] }
def k11m5 : Method := { name := "getValue", desc := "()[B", sig := { parameters := [], returnType := some (.array .byte) }, accessFlags := 16, code := some k11c5 }
def k11c6 : Code := { maxStack := 1, maxLocals := 1, code := jdk_68_method_68_code, exceptionTable := #[], attributes := #[] }
def k11m6 : Method := { name := "isLatin1", desc := "()Z", sig := { parameters := [], returnType := some .boolean }, accessFlags := 16, code := some k11c6 }
def k11c7 : Code := { maxStack := 2, maxLocals := 2, code := jdk_68_method_71_code, exceptionTable := #[], attributes := #[] }
def k11m7 : Method := { name := "inflateIfNeededFor", desc := "(Ljava/lang/String;)V", sig := { parameters := [(.object "java/lang/String")], returnType := none }, accessFlags := 2, code := some k11c7 }
def k11c8 : Code := { maxStack := 4, maxLocals := 3, code := jdk_68_method_73_code, exceptionTable := #[], attributes := #[] }
def k11m8 : Method := { name := "putStringAt", desc := "(ILjava/lang/String;)V", sig := { parameters := [.int, (.object "java/lang/String")], returnType := none }, accessFlags := 2, code := some k11c8 }
/-- java/lang/AbstractStringBuilder -/
def k11 : Class := { plain "java/lang/AbstractStringBuilder" (some 0) with
  accessFlags := 1056
  interfaces := #[10, 4]
  cf := some (fileOf pool11 10 #[] #[{ accessFlags := 0, nameIndex := 7, descriptorIndex := 8, attributes := #[] }, { accessFlags := 0, nameIndex := 7, descriptorIndex := 103, attributes := #[] }, { accessFlags := 1, nameIndex := 34, descriptorIndex := 35, attributes := #[] }, { accessFlags := 2, nameIndex := 102, descriptorIndex := 103, attributes := #[] }, { accessFlags := 1, nameIndex := 45, descriptorIndex := 46, attributes := #[] }, { accessFlags := 16, nameIndex := 552, descriptorIndex := 403, attributes := #[] }, { accessFlags := 16, nameIndex := 85, descriptorIndex := 86, attributes := #[] }, { accessFlags := 2, nameIndex := 217, descriptorIndex := 69, attributes := #[] }, { accessFlags := 2, nameIndex := 210, descriptorIndex := 211, attributes := #[] }] 1056 4 #[444, 48] #[{ accessFlags := 0, nameIndex := 17, descriptorIndex := 14, attributes := #[] }, { accessFlags := 0, nameIndex := 24, descriptorIndex := 25, attributes := #[] }, { accessFlags := 0, nameIndex := 75, descriptorIndex := 21, attributes := #[] }, { accessFlags := 0, nameIndex := 81, descriptorIndex := 82, attributes := #[] }, { accessFlags := 26, nameIndex := 13, descriptorIndex := 14, attributes := #[] }])
  fields := #[{ name := "value", type := (.array .byte), accessFlags := 0, slot := 0, constantValue := 0 }, { name := "coder", type := .byte, accessFlags := 0, slot := 1, constantValue := 0 }, { name := "maybeLatin1", type := .boolean, accessFlags := 0, slot := 2, constantValue := 0 }, { name := "count", type := .int, accessFlags := 0, slot := 3, constantValue := 0 }, { name := "EMPTYVALUE", type := (.array .byte), accessFlags := 26, slot := 0, constantValue := 0 }]
  methods := #[k11m0, k11m1, k11m2, k11m3, k11m4, k11m5, k11m6, k11m7, k11m8]
  instanceTypes := #[(.array .byte), .byte, .boolean, .int]
  staticTypes := #[(.array .byte)]
  resolved := Array.replicate 609 none
  statics := none }

def pool12 : Array CpInfo := pool [(1, .methodref 2 3), (0, .class_ 4), (0, .nameAndType 5 6), (0, u "java/lang/AbstractStringBuilder"), (0, u "<init>"), (0, u "(I)V"), (11, .class_ 20), (1, u "java/lang/String"), (3, .class_ 26), (1, u "java/lang/StringBuilder"), (0, u "append"), (0, u "(Ljava/lang/String;)Ljava/lang/StringBuilder;"), (0, .methodref 2 30), (0, .nameAndType 27 31), (0, u "(Ljava/lang/String;)Ljava/lang/AbstractStringBuilder;"), (105, .methodref 18 138), (0, .nameAndType 5 139), (0, u "(Ljava/lang/StringBuilder;)V"), (5, u "()V"), (10, u "()I"), (186, .methodref 2 344), (0, .nameAndType 345 156), (0, u "length"), (3, .class_ 350), (0, u "java/lang/Appendable"), (0, .class_ 352), (0, u "java/io/Serializable"), (0, .class_ 354), (0, u "java/lang/Comparable"), (0, .class_ 356), (0, u "java/lang/CharSequence"), (0, u "serialVersionUID"), (0, u "J"), (40, u "toString"), (0, u "()Ljava/lang/String;")] 21

def k12c0 : Code := { maxStack := 2, maxLocals := 1, code := jdk_67_method_1_code, exceptionTable := #[], attributes := #[] }
def k12m0 : Method := { name := "<init>", desc := "()V", sig := { parameters := [], returnType := none }, accessFlags := 1, code := some k12c0 }
def k12c1 : Code := { maxStack := 2, maxLocals := 2, code := jdk_67_method_7_code, exceptionTable := #[], attributes := #[] }
def k12m1 : Method := { name := "append", desc := "(Ljava/lang/String;)Ljava/lang/StringBuilder;", sig := { parameters := [(.object "java/lang/String")], returnType := some (.object "java/lang/StringBuilder") }, accessFlags := 1, code := some k12c1 }
def k12c2 : Code := { maxStack := 3, maxLocals := 1, code := jdk_67_method_42_code, exceptionTable := #[], attributes := #[] }
def k12m2 : Method := { name := "toString", desc := "()Ljava/lang/String;", sig := { parameters := [], returnType := some (.object "java/lang/String") }, accessFlags := 1, code := some k12c2 }
def k12c3 : Code := { maxStack := 1, maxLocals := 1, code := jdk_67_method_93_code, exceptionTable := #[], attributes := #[] }
def k12m3 : Method := { name := "length", desc := "()I", sig := { parameters := [], returnType := some .int }, accessFlags := 4161, code := some k12c3 }
/-- java/lang/StringBuilder -/
def k12 : Class := { plain "java/lang/StringBuilder" (some 11) with
  accessFlags := 49
  interfaces := #[10, 2, 3, 4]
  cf := some (fileOf pool12 24 #[] #[{ accessFlags := 1, nameIndex := 5, descriptorIndex := 145, attributes := #[] }, { accessFlags := 1, nameIndex := 27, descriptorIndex := 28, attributes := #[] }, { accessFlags := 1, nameIndex := 399, descriptorIndex := 400, attributes := #[] }, { accessFlags := 4161, nameIndex := 345, descriptorIndex := 156, attributes := #[] }] 49 2 #[349, 351, 353, 355] #[{ accessFlags := 24, nameIndex := 357, descriptorIndex := 358, attributes := #[] }])
  fields := #[{ name := "serialVersionUID", type := .long, accessFlags := 24, slot := 0, constantValue := 0 }]
  methods := #[k12m0, k12m1, k12m2, k12m3]
  instanceTypes := #[(.array .byte), .byte, .boolean, .int]
  staticTypes := #[.long]
  resolved := Array.replicate 422 none
  statics := none }

def pool13 : Array CpInfo := pool [(2, .class_ 4), (1, u "java/lang/Object"), (0, u "<init>"), (0, u "()V"), (1, .class_ 10), (1, u "java/lang/System"), (0, u "allowSecurityManager"), (0, u "I"), (16, u "cons"), (0, u "Ljava/io/Console;"), (77, .class_ 110), (1, u "java/lang/System$CallersHolder"), (43, u "initialErrStream"), (0, u "Ljava/io/PrintStream;"), (19, u "security"), (0, u "Ljava/lang/SecurityManager;"), (31, .class_ 209), (0, u "java/lang/System$1"), (7, u "props"), (0, u "Ljava/util/Properties;"), (2, u "lineSeparator"), (0, u "Ljava/lang/String;"), (96, .class_ 321), (1, u "java/lang/System$LoggerFinder"), (5, .class_ 328), (0, u "java/lang/System$Logger"), (67, u "err"), (2, u "out"), (91, u "notSupportedJnuEncoding"), (15, u "in"), (17, u "initialIn"), (0, u "Ljava/io/InputStream;"), (35, u "bootLayer"), (0, u "Ljava/lang/ModuleLayer;"), (99, .class_ 664), (0, u "java/lang/System$2"), (9, u "NEVER"), (2, u "MAYBE"), (49, u "arraycopy"), (0, u "(Ljava/lang/Object;ILjava/lang/Object;II)V"), (72, .class_ 802), (0, u "java/lang/System$Logger$Level")] 31

def k13m0 : Method := { name := "<init>", desc := "()V", sig := { parameters := [], returnType := none }, accessFlags := 2, code := none }
def k13m1 : Method := { name := "arraycopy", desc := "(Ljava/lang/Object;ILjava/lang/Object;II)V", sig := { parameters := [(.object "java/lang/Object"), .int, (.object "java/lang/Object"), .int, .int], returnType := none }, accessFlags := 265, code := none }
/-- java/lang/System -/
def k13 : Class := { plain "java/lang/System" (some 0) with
  accessFlags := 49
  interfaces := #[]
  cf := some (fileOf pool13 8 #[.nestMembers #[319, 327, 801, 108, 663, 208]] #[{ accessFlags := 2, nameIndex := 5, descriptorIndex := 6, attributes := #[] }, { accessFlags := 265, nameIndex := 727, descriptorIndex := 728, attributes := #[] }] 49 2 #[] #[{ accessFlags := 25, nameIndex := 507, descriptorIndex := 526, attributes := #[] }, { accessFlags := 25, nameIndex := 399, descriptorIndex := 155, attributes := #[] }, { accessFlags := 25, nameIndex := 396, descriptorIndex := 155, attributes := #[] }, { accessFlags := 10, nameIndex := 525, descriptorIndex := 526, attributes := #[] }, { accessFlags := 26, nameIndex := 674, descriptorIndex := 12, attributes := #[] }, { accessFlags := 26, nameIndex := 677, descriptorIndex := 12, attributes := #[] }, { accessFlags := 10, nameIndex := 11, descriptorIndex := 12, attributes := #[] }, { accessFlags := 74, nameIndex := 175, descriptorIndex := 176, attributes := #[] }, { accessFlags := 10, nameIndex := 491, descriptorIndex := 222, attributes := #[] }, { accessFlags := 74, nameIndex := 29, descriptorIndex := 30, attributes := #[] }, { accessFlags := 74, nameIndex := 154, descriptorIndex := 155, attributes := #[] }, { accessFlags := 10, nameIndex := 217, descriptorIndex := 218, attributes := #[] }, { accessFlags := 10, nameIndex := 221, descriptorIndex := 222, attributes := #[] }, { accessFlags := 8, nameIndex := 562, descriptorIndex := 563, attributes := #[] }])
  fields := #[{ name := "in", type := (.object "java/io/InputStream"), accessFlags := 25, slot := 0, constantValue := 0 }, { name := "out", type := (.object "java/io/PrintStream"), accessFlags := 25, slot := 1, constantValue := 0 }, { name := "err", type := (.object "java/io/PrintStream"), accessFlags := 25, slot := 2, constantValue := 0 }, { name := "initialIn", type := (.object "java/io/InputStream"), accessFlags := 10, slot := 3, constantValue := 0 }, { name := "NEVER", type := .int, accessFlags := 26, slot := 4, constantValue := 0 }, { name := "MAYBE", type := .int, accessFlags := 26, slot := 5, constantValue := 0 }, { name := "allowSecurityManager", type := .int, accessFlags := 10, slot := 6, constantValue := 0 }, { name := "security", type := (.object "java/lang/SecurityManager"), accessFlags := 74, slot := 7, constantValue := 0 }, { name := "notSupportedJnuEncoding", type := (.object "java/lang/String"), accessFlags := 10, slot := 8, constantValue := 0 }, { name := "cons", type := (.object "java/io/Console"), accessFlags := 74, slot := 9, constantValue := 0 }, { name := "initialErrStream", type := (.object "java/io/PrintStream"), accessFlags := 74, slot := 10, constantValue := 0 }, { name := "props", type := (.object "java/util/Properties"), accessFlags := 10, slot := 11, constantValue := 0 }, { name := "lineSeparator", type := (.object "java/lang/String"), accessFlags := 10, slot := 12, constantValue := 0 }, { name := "bootLayer", type := (.object "java/lang/ModuleLayer"), accessFlags := 8, slot := 13, constantValue := 0 }]
  methods := #[k13m0, k13m1]
  instanceTypes := #[]
  staticTypes := #[(.object "java/io/InputStream"), (.object "java/io/PrintStream"), (.object "java/io/PrintStream"), (.object "java/io/InputStream"), .int, .int, .int, (.object "java/lang/SecurityManager"), (.object "java/lang/String"), (.object "java/io/Console"), (.object "java/io/PrintStream"), (.object "java/util/Properties"), (.object "java/lang/String"), (.object "java/lang/ModuleLayer")]
  resolved := Array.replicate 834 none
  statics := none }

def pool14 : Array CpInfo := pool [(2, .class_ 4), (1, u "java/lang/Object"), (0, u "<init>"), (0, u "()V"), (7, .class_ 16), (1, u "java/util/Arrays"), (57, .class_ 76), (1, u "java/util/Arrays$NaturalOrder"), (36, .class_ 115), (1, u "java/util/Arrays$LegacyMergeSort"), (1, u "Z"), (21, u "copyOfRange"), (10, .methodref 151 152), (0, .class_ 153), (0, .nameAndType 154 155), (0, u "java/lang/System"), (0, u "arraycopy"), (0, u "(Ljava/lang/Object;ILjava/lang/Object;II)V"), (148, .methodref 305 306), (0, .class_ 307), (0, .nameAndType 308 309), (0, u "java/lang/Math"), (0, u "min"), (0, u "(II)I"), (29, .methodref 14 340), (0, .nameAndType 341 342), (0, u "copyOfRangeByte"), (0, u "([BII)[B"), (0, .methodref 14 344), (0, .nameAndType 345 346), (0, u "checkLength"), (0, u "(II)V"), (28, .class_ 376), (0, u "java/util/Arrays$ArrayList"), (68, u "$assertionsDisabled"), (269, u "MIN_ARRAY_SORT_GRAN"), (0, u "I"), (2, u "INSERTIONSORT_THRESHOLD"), (255, .class_ 976), (0, u "java/util/Arrays$ArrayItr")] 52

def k14m0 : Method := { name := "<init>", desc := "()V", sig := { parameters := [], returnType := none }, accessFlags := 2, code := none }
def k14c1 : Code := { maxStack := 4, maxLocals := 2, code := jdk_65_method_131_code, exceptionTable := #[], attributes := #[] }
def k14m1 : Method := { name := "checkLength", desc := "(II)V", sig := { parameters := [.int, .int], returnType := none }, accessFlags := 10, code := some k14c1 }
def k14c2 : Code := { maxStack := 3, maxLocals := 3, code := jdk_65_method_132_code, exceptionTable := #[], attributes := #[] }
def k14m2 : Method := { name := "copyOfRange", desc := "([BII)[B", sig := { parameters := [(.array .byte), .int, .int], returnType := some (.array .byte) }, accessFlags := 9, code := some k14c2 }
def k14c3 : Code := { maxStack := 6, maxLocals := 5, code := jdk_65_method_133_code, exceptionTable := #[], attributes := #[] }
def k14m3 : Method := { name := "copyOfRangeByte", desc := "([BII)[B", sig := { parameters := [(.array .byte), .int, .int], returnType := some (.array .byte) }, accessFlags := 10, code := some k14c3 }
/-- java/util/Arrays -/
def k14 : Class := { plain "java/util/Arrays" (some 0) with
  accessFlags := 49
  interfaces := #[]
  cf := some (fileOf pool14 14 #[.nestMembers #[975, 375, 113, 74]] #[{ accessFlags := 2, nameIndex := 5, descriptorIndex := 6, attributes := #[] }, { accessFlags := 10, nameIndex := 345, descriptorIndex := 346, attributes := #[] }, { accessFlags := 9, nameIndex := 139, descriptorIndex := 342, attributes := #[] }, { accessFlags := 10, nameIndex := 341, descriptorIndex := 342, attributes := #[] }] 49 2 #[] #[{ accessFlags := 26, nameIndex := 715, descriptorIndex := 716, attributes := #[] }, { accessFlags := 26, nameIndex := 719, descriptorIndex := 716, attributes := #[] }, { accessFlags := 4120, nameIndex := 445, descriptorIndex := 117, attributes := #[] }])
  fields := #[{ name := "MIN_ARRAY_SORT_GRAN", type := .int, accessFlags := 26, slot := 0, constantValue := 0 }, { name := "INSERTIONSORT_THRESHOLD", type := .int, accessFlags := 26, slot := 1, constantValue := 0 }, { name := "$assertionsDisabled", type := .boolean, accessFlags := 4120, slot := 2, constantValue := 0 }]
  methods := #[k14m0, k14m1, k14m2, k14m3]
  instanceTypes := #[]
  staticTypes := #[.int, .int, .boolean]
  resolved := Array.replicate 1029 none
  statics := none }

def pool15 : Array CpInfo := pool [(1, .class_ 2), (0, u "java/lang/Math"), (1, .class_ 6), (1, u "java/lang/Object"), (0, u "<init>"), (0, u "()V"), (89, .class_ 100), (1, u "java/lang/Math$RandomNumberGeneratorHolder"), (71, u "negativeZeroFloatBits"), (0, u "J"), (2, u "negativeZeroDoubleBits"), (24, u "min"), (43, u "$assertionsDisabled"), (0, u "Z"), (88, u "(II)I"), (2, u "twoToTheDoubleScaleDown"), (0, u "D"), (4, u "twoToTheDoubleScaleUp"), (9, u "E"), (3, u "PI"), (2, u "TAU"), (2, u "DEGREES_TO_RADIANS"), (0, u "RADIANS_TO_DEGREES")] 94

def k15m0 : Method := { name := "<init>", desc := "()V", sig := { parameters := [], returnType := none }, accessFlags := 2, code := none }
def k15c1 : Code := { maxStack := 2, maxLocals := 2, code := jdk_29_method_69_code, exceptionTable := #[], attributes := #[] }
def k15m1 : Method := { name := "min", desc := "(II)I", sig := { parameters := [.int, .int], returnType := some .int }, accessFlags := 9, code := some k15c1 }
/-- java/lang/Math -/
def k15 : Class := { plain "java/lang/Math" (some 0) with
  accessFlags := 49
  interfaces := #[]
  cf := some (fileOf pool15 1 #[.nestMembers #[98]] #[{ accessFlags := 2, nameIndex := 7, descriptorIndex := 8, attributes := #[] }, { accessFlags := 9, nameIndex := 201, descriptorIndex := 335, attributes := #[] }] 49 4 #[] #[{ accessFlags := 25, nameIndex := 354, descriptorIndex := 339, attributes := #[] }, { accessFlags := 25, nameIndex := 358, descriptorIndex := 339, attributes := #[] }, { accessFlags := 25, nameIndex := 361, descriptorIndex := 339, attributes := #[] }, { accessFlags := 26, nameIndex := 364, descriptorIndex := 339, attributes := #[] }, { accessFlags := 26, nameIndex := 365, descriptorIndex := 339, attributes := #[] }, { accessFlags := 26, nameIndex := 172, descriptorIndex := 173, attributes := #[] }, { accessFlags := 26, nameIndex := 176, descriptorIndex := 173, attributes := #[] }, { accessFlags := 8, nameIndex := 344, descriptorIndex := 339, attributes := #[] }, { accessFlags := 8, nameIndex := 338, descriptorIndex := 339, attributes := #[] }, { accessFlags := 4120, nameIndex := 245, descriptorIndex := 246, attributes := #[] }])
  fields := #[{ name := "E", type := .double, accessFlags := 25, slot := 0, constantValue := 0 }, { name := "PI", type := .double, accessFlags := 25, slot := 1, constantValue := 0 }, { name := "TAU", type := .double, accessFlags := 25, slot := 2, constantValue := 0 }, { name := "DEGREES_TO_RADIANS", type := .double, accessFlags := 26, slot := 3, constantValue := 0 }, { name := "RADIANS_TO_DEGREES", type := .double, accessFlags := 26, slot := 4, constantValue := 0 }, { name := "negativeZeroFloatBits", type := .long, accessFlags := 26, slot := 5, constantValue := 0 }, { name := "negativeZeroDoubleBits", type := .long, accessFlags := 26, slot := 6, constantValue := 0 }, { name := "twoToTheDoubleScaleUp", type := .double, accessFlags := 8, slot := 7, constantValue := 0 }, { name := "twoToTheDoubleScaleDown", type := .double, accessFlags := 8, slot := 8, constantValue := 0 }, { name := "$assertionsDisabled", type := .boolean, accessFlags := 4120, slot := 9, constantValue := 0 }]
  methods := #[k15m0, k15m1]
  instanceTypes := #[]
  staticTypes := #[.double, .double, .double, .double, .double, .long, .long, .double, .double, .boolean]
  resolved := Array.replicate 460 none
  statics := none }

def pool16 : Array CpInfo := pool [(1, .class_ 2), (0, u "java/lang/String"), (1, .class_ 6), (1, u "java/lang/Object"), (0, u "<init>"), (0, u "()V"), (0, .methodref 1 10), (0, .nameAndType 11 12), (0, u "checkIndex"), (0, u "(II)V"), (1, .class_ 16), (1, u "java/lang/StringLatin1"), (36, u "([BI)C"), (67, u "$assertionsDisabled"), (0, u "Z"), (98, .class_ 223), (1, u "java/lang/StringLatin1$LinesSpliterator"), (28, u "charAt"), (137, .class_ 391), (0, u "java/lang/StringLatin1$CharsSpliterator")] 3

def k16m0 : Method := { name := "<init>", desc := "()V", sig := { parameters := [], returnType := none }, accessFlags := 0, code := none }
def k16c1 : Code := { maxStack := 2, maxLocals := 2, code := jdk_43_method_2_code, exceptionTable := #[], attributes := #[] }
def k16m1 : Method := { name := "charAt", desc := "([BI)C", sig := { parameters := [(.array .byte), .int], returnType := some .char }, accessFlags := 9, code := some k16c1 }
/-- java/lang/StringLatin1 -/
def k16 : Class := { plain "java/lang/StringLatin1" (some 0) with
  accessFlags := 48
  interfaces := #[]
  cf := some (fileOf pool16 14 #[.nestMembers #[390, 221]] #[{ accessFlags := 0, nameIndex := 7, descriptorIndex := 8, attributes := #[] }, { accessFlags := 9, nameIndex := 252, descriptorIndex := 53, attributes := #[] }] 48 4 #[] #[{ accessFlags := 4120, nameIndex := 121, descriptorIndex := 122, attributes := #[] }])
  fields := #[{ name := "$assertionsDisabled", type := .boolean, accessFlags := 4120, slot := 0, constantValue := 0 }]
  methods := #[k16m0, k16m1]
  instanceTypes := #[]
  staticTypes := #[.boolean]
  resolved := Array.replicate 395 none
  statics := none }

def pool17 : Array CpInfo := pool [(2, .class_ 4), (1, u "java/lang/Object"), (0, u "<init>"), (0, u "()V"), (17, .class_ 26), (1, u "jdk/internal/util/Preconditions"), (6, u "checkIndex"), (21, .class_ 56), (0, u "jdk/internal/util/Preconditions$4"), (57, .class_ 115), (0, u "jdk/internal/util/Preconditions$1"), (7, u "SIOOBE_FORMATTER"), (0, u "Ljava/util/function/BiFunction;"), (0, .class_ 126), (0, u "jdk/internal/util/Preconditions$2"), (3, u "AIOOBE_FORMATTER"), (0, .class_ 132), (0, u "jdk/internal/util/Preconditions$3"), (3, u "IOOBE_FORMATTER"), (41, u "(IILjava/util/function/BiFunction;)I")] 15

def k17m0 : Method := { name := "<init>", desc := "()V", sig := { parameters := [], returnType := none }, accessFlags := 1, code := none }
def k17c1 : Code := { maxStack := 3, maxLocals := 3, code := jdk_41_method_11_code, exceptionTable := #[], attributes := #[] }
def k17m1 : Method := { name := "checkIndex", desc := "(IILjava/util/function/BiFunction;)I", sig := { parameters := [.int, .int, (.object "java/util/function/BiFunction")], returnType := some .int }, accessFlags := 9, code := some k17c1 }
/-- jdk/internal/util/Preconditions -/
def k17 : Class := { plain "jdk/internal/util/Preconditions" (some 0) with
  accessFlags := 33
  interfaces := #[]
  cf := some (fileOf pool17 24 #[.nestMembers #[55, 131, 125, 114]] #[{ accessFlags := 1, nameIndex := 5, descriptorIndex := 6, attributes := #[] }, { accessFlags := 9, nameIndex := 33, descriptorIndex := 178, attributes := #[] }] 33 2 #[] #[{ accessFlags := 25, nameIndex := 123, descriptorIndex := 124, attributes := #[] }, { accessFlags := 25, nameIndex := 130, descriptorIndex := 124, attributes := #[] }, { accessFlags := 25, nameIndex := 136, descriptorIndex := 124, attributes := #[] }])
  fields := #[{ name := "SIOOBE_FORMATTER", type := (.object "java/util/function/BiFunction"), accessFlags := 25, slot := 0, constantValue := 0 }, { name := "AIOOBE_FORMATTER", type := (.object "java/util/function/BiFunction"), accessFlags := 25, slot := 1, constantValue := 0 }, { name := "IOOBE_FORMATTER", type := (.object "java/util/function/BiFunction"), accessFlags := 25, slot := 2, constantValue := 0 }]
  methods := #[k17m0, k17m1]
  instanceTypes := #[]
  staticTypes := #[(.object "java/util/function/BiFunction"), (.object "java/util/function/BiFunction"), (.object "java/util/function/BiFunction")]
  resolved := Array.replicate 194 none
  statics := some 1 }

def pool18 : Array CpInfo := pool [(9, u "<init>"), (6, .class_ 18), (1, u "java/lang/Object"), (0, u "()V"), (1, .class_ 23), (1, u "jdk/internal/util/ArraysSupport"), (0, u "LOG2_ARRAY_LONG_INDEX_SCALE"), (0, u "I"), (2, u "U"), (0, u "Ljdk/internal/misc/Unsafe;"), (8, u "BIG_ENDIAN"), (0, u "Z"), (8, u "LOG2_BYTE_BIT_SIZE"), (4, u "LOG2_ARRAY_INT_INDEX_SCALE"), (54, u "JLA"), (0, u "Ljdk/internal/access/JavaLangAccess;"), (11, u "LOG2_ARRAY_BOOLEAN_INDEX_SCALE"), (9, u "LOG2_ARRAY_BYTE_INDEX_SCALE"), (5, u "LOG2_ARRAY_CHAR_INDEX_SCALE"), (5, u "LOG2_ARRAY_SHORT_INDEX_SCALE"), (18, u "LOG2_ARRAY_FLOAT_INDEX_SCALE"), (24, u "LOG2_ARRAY_DOUBLE_INDEX_SCALE"), (89, u "T_BOOLEAN"), (2, u "T_CHAR"), (1, u "T_FLOAT"), (1, u "T_DOUBLE"), (1, u "T_BYTE"), (1, u "T_SHORT"), (1, u "T_INT"), (1, u "T_LONG"), (1, u "SOFT_MAX_ARRAY_LENGTH")] 83

def k18m0 : Method := { name := "<init>", desc := "()V", sig := { parameters := [], returnType := none }, accessFlags := 2, code := none }
/-- jdk/internal/util/ArraysSupport -/
def k18 : Class := { plain "jdk/internal/util/ArraysSupport" (some 0) with
  accessFlags := 33
  interfaces := #[]
  cf := some (fileOf pool18 21 #[] #[{ accessFlags := 2, nameIndex := 9, descriptorIndex := 19, attributes := #[] }] 33 16 #[] #[{ accessFlags := 24, nameIndex := 28, descriptorIndex := 29, attributes := #[] }, { accessFlags := 26, nameIndex := 38, descriptorIndex := 39, attributes := #[] }, { accessFlags := 25, nameIndex := 121, descriptorIndex := 25, attributes := #[] }, { accessFlags := 25, nameIndex := 131, descriptorIndex := 25, attributes := #[] }, { accessFlags := 25, nameIndex := 137, descriptorIndex := 25, attributes := #[] }, { accessFlags := 25, nameIndex := 143, descriptorIndex := 25, attributes := #[] }, { accessFlags := 25, nameIndex := 53, descriptorIndex := 25, attributes := #[] }, { accessFlags := 25, nameIndex := 24, descriptorIndex := 25, attributes := #[] }, { accessFlags := 25, nameIndex := 162, descriptorIndex := 25, attributes := #[] }, { accessFlags := 25, nameIndex := 187, descriptorIndex := 25, attributes := #[] }, { accessFlags := 26, nameIndex := 48, descriptorIndex := 25, attributes := #[] }, { accessFlags := 25, nameIndex := 277, descriptorIndex := 25, attributes := #[] }, { accessFlags := 25, nameIndex := 280, descriptorIndex := 25, attributes := #[] }, { accessFlags := 25, nameIndex := 282, descriptorIndex := 25, attributes := #[] }, { accessFlags := 25, nameIndex := 284, descriptorIndex := 25, attributes := #[] }, { accessFlags := 25, nameIndex := 286, descriptorIndex := 25, attributes := #[] }, { accessFlags := 25, nameIndex := 288, descriptorIndex := 25, attributes := #[] }, { accessFlags := 25, nameIndex := 290, descriptorIndex := 25, attributes := #[] }, { accessFlags := 25, nameIndex := 292, descriptorIndex := 25, attributes := #[] }, { accessFlags := 26, nameIndex := 108, descriptorIndex := 109, attributes := #[] }, { accessFlags := 25, nameIndex := 294, descriptorIndex := 25, attributes := #[] }])
  fields := #[{ name := "U", type := (.object "jdk/internal/misc/Unsafe"), accessFlags := 24, slot := 0, constantValue := 0 }, { name := "BIG_ENDIAN", type := .boolean, accessFlags := 26, slot := 1, constantValue := 0 }, { name := "LOG2_ARRAY_BOOLEAN_INDEX_SCALE", type := .int, accessFlags := 25, slot := 2, constantValue := 0 }, { name := "LOG2_ARRAY_BYTE_INDEX_SCALE", type := .int, accessFlags := 25, slot := 3, constantValue := 0 }, { name := "LOG2_ARRAY_CHAR_INDEX_SCALE", type := .int, accessFlags := 25, slot := 4, constantValue := 0 }, { name := "LOG2_ARRAY_SHORT_INDEX_SCALE", type := .int, accessFlags := 25, slot := 5, constantValue := 0 }, { name := "LOG2_ARRAY_INT_INDEX_SCALE", type := .int, accessFlags := 25, slot := 6, constantValue := 0 }, { name := "LOG2_ARRAY_LONG_INDEX_SCALE", type := .int, accessFlags := 25, slot := 7, constantValue := 0 }, { name := "LOG2_ARRAY_FLOAT_INDEX_SCALE", type := .int, accessFlags := 25, slot := 8, constantValue := 0 }, { name := "LOG2_ARRAY_DOUBLE_INDEX_SCALE", type := .int, accessFlags := 25, slot := 9, constantValue := 0 }, { name := "LOG2_BYTE_BIT_SIZE", type := .int, accessFlags := 26, slot := 10, constantValue := 0 }, { name := "T_BOOLEAN", type := .int, accessFlags := 25, slot := 11, constantValue := 0 }, { name := "T_CHAR", type := .int, accessFlags := 25, slot := 12, constantValue := 0 }, { name := "T_FLOAT", type := .int, accessFlags := 25, slot := 13, constantValue := 0 }, { name := "T_DOUBLE", type := .int, accessFlags := 25, slot := 14, constantValue := 0 }, { name := "T_BYTE", type := .int, accessFlags := 25, slot := 15, constantValue := 0 }, { name := "T_SHORT", type := .int, accessFlags := 25, slot := 16, constantValue := 0 }, { name := "T_INT", type := .int, accessFlags := 25, slot := 17, constantValue := 0 }, { name := "T_LONG", type := .int, accessFlags := 25, slot := 18, constantValue := 0 }, { name := "JLA", type := (.object "jdk/internal/access/JavaLangAccess"), accessFlags := 26, slot := 19, constantValue := 0 }, { name := "SOFT_MAX_ARRAY_LENGTH", type := .int, accessFlags := 25, slot := 20, constantValue := 0 }]
  methods := #[k18m0]
  instanceTypes := #[]
  staticTypes := #[(.object "jdk/internal/misc/Unsafe"), .boolean, .int, .int, .int, .int, .int, .int, .int, .int, .int, .int, .int, .int, .int, .int, .int, .int, .int, (.object "jdk/internal/access/JavaLangAccess"), .int]
  resolved := Array.replicate 378 none
  statics := none }

def pool19 : Array CpInfo := pool [(1, u "java/lang/Cloneable"), (0, .class_ 1), (0, u "java/lang/Object"), (0, .class_ 3)] 3

/-- java/lang/Cloneable -/
def k19 : Class := { plain "java/lang/Cloneable" (some 0) with
  accessFlags := 1537
  interfaces := #[]
  cf := some (fileOf pool19 2 #[] #[] 1537 4 #[] #[])
  fields := #[]
  methods := #[]
  instanceTypes := #[]
  staticTypes := #[]
  resolved := Array.replicate 8 none
  statics := none }

/-- the primitive byte -/
def k20 : Class := { plain "byte" none with kind := .primitive 'B', accessFlags := 0x411 }
/-- [B -/
def k21 : Class := { plain "[B" (some 0) with kind := .array 20 .byte, interfaces := #[19, 2], accessFlags := 1041 }

/-- the primitive char -/
def k22 : Class := { plain "char" none with kind := .primitive 'C', accessFlags := 0x411 }
/-- [C -/
def k23 : Class := { plain "[C" (some 0) with kind := .array 22 .char, interfaces := #[19, 2], accessFlags := 1041 }

/-- the primitive int -/
def k24 : Class := { plain "int" none with kind := .primitive 'I', accessFlags := 0x411 }
/-- [I -/
def k25 : Class := { plain "[I" (some 0) with kind := .array 24 .int, interfaces := #[19, 2], accessFlags := 1041 }

def heap : Heap := #[{ cls := 7, slots := #[.long 0, .int 1, .null, .int 0, .null, .int 0, .int 0], vm := .statics 7 },
  { cls := 17, slots := #[.null, .null, .null], vm := .statics 17 }]
def classes : Array Class := #[k0, k1, k2, k3, k4, k5, k6, k7, k8, k9, k10, k11, k12, k13, k14, k15, k16, k17, k18, k19, k20, k21, k22, k23, k24, k25]
def interned : List (Array UInt16 × Addr) := []
def slotsUsed : Nat := 10
def theMethod : MethodId := ⟨1, 1⟩
def args0 : Array Value := #[.int 25185, .int 25700, .int 258]
def aboutOver (below : List Frame) : State where
  vm := { classes := classes, interned := interned.toArray }
  heap := heap
  slotsUsed := slotsUsed
  threads := #[{ frames := .invoking theMethod args0 :: below }]
def below0 : List Frame := [.native { method := ⟨0, 0⟩, args := #[] }]
def about1 : State := aboutOver below0
def p0 : Program := .bare "" "" ""
def e0 : Env := launch0.env 0 0 0
theorem w_frames : about1.frames = Frame.invoking theMethod args0 :: below0 := rfl
set_option maxRecDepth 65536 in
theorem w_args : argsFit about1.vm theMethod args0 = true := by decide +kernel
set_option maxRecDepth 65536 in
theorem w_heap : heapFits about1 = true := by decide +kernel
set_option maxRecDepth 65536 in
theorem w_runnable : about1.curStatus? = some .runnable := by decide +kernel
set_option maxRecDepth 65536 in
theorem w_alone : about1.alone = true := by decide +kernel
set_option maxRecDepth 65536 in
theorem w_named : about1.methodNamed? x = some theMethod := by decide +kernel
set_option maxRecDepth 65536 in
theorem w_hears : about1.hears theMethod below0 = true := by decide +kernel
set_option maxRecDepth 65536 in
theorem w_ripe : about1.ripe theMethod args0 below0 = true := by decide +kernel
theorem w_running : about1.status = .running := rfl
set_option maxRecDepth 65536 in
theorem w_room : about1.hasRoom e0.platform room_1 = true :=
  launch0.hasRoom_least _ room_1 (by decide +kernel) (by decide +kernel) (by decide +kernel) (by decide +kernel) (by decide +kernel) (by decide +kernel)
theorem allAtoms_all (ts : List Jvm.Cond) (a : Array Jvm.Value) (st : Jvm.State) : (allAtoms ts).before a st = ts.all (fun c => c.before a st) := by
  induction ts with
  | nil => rfl
  | cons c t ih =>
    show (Jvm.Cond.and c (allAtoms t)).before a st = _
    rw [Jvm.Cond.before_and, ih, List.all_cons]
def words1 : List Jvm.Cond := Jvm.Cond.code x code maxLocals ret :: tables_1
/-- a 'code' word, met by the world's own term for the bytes: nothing is compared byte by byte -/
theorem code_word {y : MethodName} {bytes : ByteArray} {mx : Nat} {rt : Option FieldType} {a : Array Value} {s : State} {m : MethodId} {meth : Method} {c : Code} (h1 : s.methodNamed? y = some m) (h2 : s.vm.method? m = some meth) (h3 : meth.code = some c) (h4 : c.code = bytes)
    (h5 : (c.maxLocals == mx && c.exceptionTable.isEmpty && decide (c.maxStack ≤ mostOperands) && decide (meth.sig.returnType = rt) && !meth.locks && decide (parseMethodDescriptor y.desc = some meth.sig)) = true) : (Jvm.Cond.code y bytes mx rt).before a s = true := by
  simp only [Bool.and_eq_true, beq_iff_eq, Bool.not_eq_true', decide_eq_true_eq] at h5
  obtain ⟨⟨⟨⟨⟨g1, g2⟩, g3⟩, g4⟩, g5⟩, g6⟩ := h5
  simp [Cond.before, Cond.holds, Cond.value, h1, h2, h3, h4, g1, g2, g3, g4, g5, g6]
def isCode : Jvm.Cond → Bool
  | .code _ _ _ _ => true
  | _ => false
theorem all_split {L : List Jvm.Cond} {P : Jvm.Cond → Bool} (h1 : L.all (fun c => isCode c || P c) = true) (h2 : ∀ c ∈ L.filter isCode, P c = true) : L.all P = true := by
  refine List.all_eq_true.mpr fun c hc => ?_
  have h := List.all_eq_true.mp h1 c hc
  rcases Bool.eq_false_or_eq_true (isCode c) with hi | hi
  · exact h2 c (List.mem_filter.mpr ⟨hc, hi⟩)
  · simpa [hi] using h
set_option maxRecDepth 65536 in
theorem w_c0 : (Jvm.Cond.code x code maxLocals ret).before args0 about1 = true := code_word (m := ⟨1, 1⟩) (meth := k1m1) (c := k1c1) (by decide +kernel) rfl rfl rfl (by decide +kernel)
set_option maxRecDepth 65536 in
theorem w_c1 : (Jvm.Cond.code ({ cls := "com/example/hifadhi/hifadhi/project/NotAnalysedMessagePinLaw", name := "mk", desc := "(ICC)Ljava/lang/String;" } : Jvm.MethodName) method_3_code (3 : Nat) (Option.some (Jvm.ClassFile.FieldType.object "java/lang/String"))).before args0 about1 = true := code_word (m := ⟨1, 2⟩) (meth := k1m2) (c := k1c2) (by decide +kernel) rfl rfl rfl (by decide +kernel)
set_option maxRecDepth 65536 in
theorem w_c2 : (Jvm.Cond.code ({ cls := "java/lang/String", name := "<init>", desc := "([C)V" } : Jvm.MethodName) jdk_42_method_3_code (2 : Nat) (Option.none : Option Jvm.ClassFile.FieldType)).before args0 about1 = true := code_word (m := ⟨7, 1⟩) (meth := k7m1) (c := k7c1) (by decide +kernel) rfl rfl rfl (by decide +kernel)
set_option maxRecDepth 65536 in
theorem w_c3 : (Jvm.Cond.code ({ cls := "java/lang/String", name := "<init>", desc := "([CIILjava/lang/Void;)V" } : Jvm.MethodName) jdk_42_method_149_code (6 : Nat) (Option.none : Option Jvm.ClassFile.FieldType)).before args0 about1 = true := code_word (m := ⟨7, 6⟩) (meth := k7m6) (c := k7c6) (by decide +kernel) rfl rfl rfl (by decide +kernel)
set_option maxRecDepth 65536 in
theorem w_c4 : (Jvm.Cond.code ({ cls := "java/lang/Object", name := "<init>", desc := "()V" } : Jvm.MethodName) object_method_1_code (1 : Nat) (Option.none : Option Jvm.ClassFile.FieldType)).before args0 about1 = true := code_word (m := ⟨0, 0⟩) (meth := k0m0) (c := k0c0) (by decide +kernel) rfl rfl rfl (by decide +kernel)
set_option maxRecDepth 65536 in
theorem w_c5 : (Jvm.Cond.code ({ cls := "java/lang/StringUTF16", name := "compress", desc := "([CII)[B" } : Jvm.MethodName) jdk_52_method_16_code (6 : Nat) (Option.some (Jvm.ClassFile.FieldType.array Jvm.ClassFile.FieldType.byte))).before args0 about1 = true := code_word (m := ⟨8, 2⟩) (meth := k8m2) (c := k8c2) (by decide +kernel) rfl rfl rfl (by decide +kernel)
set_option maxRecDepth 65536 in
theorem w_c6 : (Jvm.Cond.code ({ cls := "java/lang/StringUTF16", name := "compress", desc := "([CI[BII)I" } : Jvm.MethodName) jdk_52_method_21_code (7 : Nat) (Option.some Jvm.ClassFile.FieldType.int)).before args0 about1 = true := code_word (m := ⟨8, 3⟩) (meth := k8m3) (c := k8c3) (by decide +kernel) rfl rfl rfl (by decide +kernel)
set_option maxRecDepth 65536 in
theorem w_c7 : (Jvm.Cond.code ({ cls := "java/lang/StringUTF16", name := "coderFromArrayLen", desc := "([BI)B" } : Jvm.MethodName) jdk_52_method_15_code (2 : Nat) (Option.some Jvm.ClassFile.FieldType.byte)).before args0 about1 = true := code_word (m := ⟨8, 1⟩) (meth := k8m1) (c := k8c1) (by decide +kernel) rfl rfl rfl (by decide +kernel)
set_option maxRecDepth 65536 in
theorem w_c8 : (Jvm.Cond.code ({ cls := "com/example/hifadhi/hifadhi/project/NotAnalysed", name := "<init>", desc := "(Ljava/lang/String;Ljava/lang/String;)V" } : Jvm.MethodName) prog_33_method_1_code (3 : Nat) (Option.none : Option Jvm.ClassFile.FieldType)).before args0 about1 = true := code_word (m := ⟨9, 0⟩) (meth := k9m0) (c := k9c0) (by decide +kernel) rfl rfl rfl (by decide +kernel)
set_option maxRecDepth 65536 in
theorem w_c9 : (Jvm.Cond.code ({ cls := "com/example/hifadhi/hifadhi/project/NotAnalysed", name := "message", desc := "()Ljava/lang/String;" } : Jvm.MethodName) prog_33_method_4_code (1 : Nat) (Option.some (Jvm.ClassFile.FieldType.object "java/lang/String"))).before args0 about1 = true := code_word (m := ⟨9, 1⟩) (meth := k9m1) (c := k9c1) (by decide +kernel) rfl rfl rfl (by decide +kernel)
set_option maxRecDepth 65536 in
theorem w_c10 : (Jvm.Cond.code ({ cls := "java/lang/StringBuilder", name := "<init>", desc := "()V" } : Jvm.MethodName) jdk_67_method_1_code (1 : Nat) (Option.none : Option Jvm.ClassFile.FieldType)).before args0 about1 = true := code_word (m := ⟨12, 0⟩) (meth := k12m0) (c := k12c0) (by decide +kernel) rfl rfl rfl (by decide +kernel)
set_option maxRecDepth 65536 in
theorem w_c11 : (Jvm.Cond.code ({ cls := "java/lang/AbstractStringBuilder", name := "<init>", desc := "(I)V" } : Jvm.MethodName) jdk_68_method_2_code (2 : Nat) (Option.none : Option Jvm.ClassFile.FieldType)).before args0 about1 = true := code_word (m := ⟨11, 1⟩) (meth := k11m1) (c := k11c1) (by decide +kernel) rfl rfl rfl (by decide +kernel)
set_option maxRecDepth 65536 in
theorem w_c12 : (Jvm.Cond.code ({ cls := "java/lang/StringBuilder", name := "append", desc := "(Ljava/lang/String;)Ljava/lang/StringBuilder;" } : Jvm.MethodName) jdk_67_method_7_code (2 : Nat) (Option.some (Jvm.ClassFile.FieldType.object "java/lang/StringBuilder"))).before args0 about1 = true := code_word (m := ⟨12, 1⟩) (meth := k12m1) (c := k12c1) (by decide +kernel) rfl rfl rfl (by decide +kernel)
set_option maxRecDepth 65536 in
theorem w_c13 : (Jvm.Cond.code ({ cls := "java/lang/AbstractStringBuilder", name := "append", desc := "(Ljava/lang/String;)Ljava/lang/AbstractStringBuilder;" } : Jvm.MethodName) jdk_68_method_22_code (3 : Nat) (Option.some (Jvm.ClassFile.FieldType.object "java/lang/AbstractStringBuilder"))).before args0 about1 = true := code_word (m := ⟨11, 4⟩) (meth := k11m4) (c := k11c4) (by decide +kernel) rfl rfl rfl (by decide +kernel)
set_option maxRecDepth 65536 in
theorem w_c14 : (Jvm.Cond.code ({ cls := "java/lang/String", name := "length", desc := "()I" } : Jvm.MethodName) jdk_42_method_54_code (1 : Nat) (Option.some Jvm.ClassFile.FieldType.int)).before args0 about1 = true := code_word (m := ⟨7, 3⟩) (meth := k7m3) (c := k7c3) (by decide +kernel) rfl rfl rfl (by decide +kernel)
set_option maxRecDepth 65536 in
theorem w_c15 : (Jvm.Cond.code ({ cls := "java/lang/String", name := "coder", desc := "()B" } : Jvm.MethodName) jdk_42_method_152_code (1 : Nat) (Option.some Jvm.ClassFile.FieldType.byte)).before args0 about1 = true := code_word (m := ⟨7, 8⟩) (meth := k7m8) (c := k7c8) (by decide +kernel) rfl rfl rfl (by decide +kernel)
set_option maxRecDepth 65536 in
theorem w_c16 : (Jvm.Cond.code ({ cls := "java/lang/AbstractStringBuilder", name := "ensureCapacityInternal", desc := "(I)V" } : Jvm.MethodName) jdk_68_method_9_code (3 : Nat) (Option.none : Option Jvm.ClassFile.FieldType)).before args0 about1 = true := code_word (m := ⟨11, 3⟩) (meth := k11m3) (c := k11c3) (by decide +kernel) rfl rfl rfl (by decide +kernel)
set_option maxRecDepth 65536 in
theorem w_c17 : (Jvm.Cond.code ({ cls := "java/lang/AbstractStringBuilder", name := "putStringAt", desc := "(ILjava/lang/String;)V" } : Jvm.MethodName) jdk_68_method_73_code (3 : Nat) (Option.none : Option Jvm.ClassFile.FieldType)).before args0 about1 = true := code_word (m := ⟨11, 8⟩) (meth := k11m8) (c := k11c8) (by decide +kernel) rfl rfl rfl (by decide +kernel)
set_option maxRecDepth 65536 in
theorem w_c18 : (Jvm.Cond.code ({ cls := "java/lang/AbstractStringBuilder", name := "inflateIfNeededFor", desc := "(Ljava/lang/String;)V" } : Jvm.MethodName) jdk_68_method_71_code (2 : Nat) (Option.none : Option Jvm.ClassFile.FieldType)).before args0 about1 = true := code_word (m := ⟨11, 7⟩) (meth := k11m7) (c := k11c7) (by decide +kernel) rfl rfl rfl (by decide +kernel)
set_option maxRecDepth 65536 in
theorem w_c19 : (Jvm.Cond.code ({ cls := "java/lang/String", name := "getBytes", desc := "([BIB)V" } : Jvm.MethodName) jdk_42_method_147_code (4 : Nat) (Option.none : Option Jvm.ClassFile.FieldType)).before args0 about1 = true := code_word (m := ⟨7, 5⟩) (meth := k7m5) (c := k7c5) (by decide +kernel) rfl rfl rfl (by decide +kernel)
set_option maxRecDepth 65536 in
theorem w_c20 : (Jvm.Cond.code ({ cls := "java/lang/StringBuilder", name := "toString", desc := "()Ljava/lang/String;" } : Jvm.MethodName) jdk_67_method_42_code (1 : Nat) (Option.some (Jvm.ClassFile.FieldType.object "java/lang/String"))).before args0 about1 = true := code_word (m := ⟨12, 2⟩) (meth := k12m2) (c := k12c2) (by decide +kernel) rfl rfl rfl (by decide +kernel)
set_option maxRecDepth 65536 in
theorem w_c21 : (Jvm.Cond.code ({ cls := "java/lang/String", name := "<init>", desc := "(Ljava/lang/StringBuilder;)V" } : Jvm.MethodName) jdk_42_method_53_code (2 : Nat) (Option.none : Option Jvm.ClassFile.FieldType)).before args0 about1 = true := code_word (m := ⟨7, 2⟩) (meth := k7m2) (c := k7c2) (by decide +kernel) rfl rfl rfl (by decide +kernel)
set_option maxRecDepth 65536 in
theorem w_c22 : (Jvm.Cond.code ({ cls := "java/lang/String", name := "<init>", desc := "(Ljava/lang/AbstractStringBuilder;Ljava/lang/Void;)V" } : Jvm.MethodName) jdk_42_method_150_code (5 : Nat) (Option.none : Option Jvm.ClassFile.FieldType)).before args0 about1 = true := code_word (m := ⟨7, 7⟩) (meth := k7m7) (c := k7c7) (by decide +kernel) rfl rfl rfl (by decide +kernel)
set_option maxRecDepth 65536 in
theorem w_c23 : (Jvm.Cond.code ({ cls := "java/lang/AbstractStringBuilder", name := "getValue", desc := "()[B" } : Jvm.MethodName) jdk_68_method_64_code (1 : Nat) (Option.some (Jvm.ClassFile.FieldType.array Jvm.ClassFile.FieldType.byte))).before args0 about1 = true := code_word (m := ⟨11, 5⟩) (meth := k11m5) (c := k11c5) (by decide +kernel) rfl rfl rfl (by decide +kernel)
set_option maxRecDepth 65536 in
theorem w_c24 : (Jvm.Cond.code ({ cls := "java/lang/StringBuilder", name := "length", desc := "()I" } : Jvm.MethodName) jdk_67_method_93_code (1 : Nat) (Option.some Jvm.ClassFile.FieldType.int)).before args0 about1 = true := code_word (m := ⟨12, 3⟩) (meth := k12m3) (c := k12c3) (by decide +kernel) rfl rfl rfl (by decide +kernel)
set_option maxRecDepth 65536 in
theorem w_c25 : (Jvm.Cond.code ({ cls := "java/lang/AbstractStringBuilder", name := "length", desc := "()I" } : Jvm.MethodName) jdk_68_method_6_code (1 : Nat) (Option.some Jvm.ClassFile.FieldType.int)).before args0 about1 = true := code_word (m := ⟨11, 2⟩) (meth := k11m2) (c := k11c2) (by decide +kernel) rfl rfl rfl (by decide +kernel)
set_option maxRecDepth 65536 in
theorem w_c26 : (Jvm.Cond.code ({ cls := "java/lang/AbstractStringBuilder", name := "isLatin1", desc := "()Z" } : Jvm.MethodName) jdk_68_method_68_code (1 : Nat) (Option.some Jvm.ClassFile.FieldType.boolean)).before args0 about1 = true := code_word (m := ⟨11, 6⟩) (meth := k11m6) (c := k11c6) (by decide +kernel) rfl rfl rfl (by decide +kernel)
set_option maxRecDepth 65536 in
theorem w_c27 : (Jvm.Cond.code ({ cls := "java/util/Arrays", name := "copyOfRange", desc := "([BII)[B" } : Jvm.MethodName) jdk_65_method_132_code (3 : Nat) (Option.some (Jvm.ClassFile.FieldType.array Jvm.ClassFile.FieldType.byte))).before args0 about1 = true := code_word (m := ⟨14, 2⟩) (meth := k14m2) (c := k14c2) (by decide +kernel) rfl rfl rfl (by decide +kernel)
set_option maxRecDepth 65536 in
theorem w_c28 : (Jvm.Cond.code ({ cls := "java/util/Arrays", name := "copyOfRangeByte", desc := "([BII)[B" } : Jvm.MethodName) jdk_65_method_133_code (5 : Nat) (Option.some (Jvm.ClassFile.FieldType.array Jvm.ClassFile.FieldType.byte))).before args0 about1 = true := code_word (m := ⟨14, 3⟩) (meth := k14m3) (c := k14c3) (by decide +kernel) rfl rfl rfl (by decide +kernel)
set_option maxRecDepth 65536 in
theorem w_c29 : (Jvm.Cond.code ({ cls := "java/util/Arrays", name := "checkLength", desc := "(II)V" } : Jvm.MethodName) jdk_65_method_131_code (2 : Nat) (Option.none : Option Jvm.ClassFile.FieldType)).before args0 about1 = true := code_word (m := ⟨14, 1⟩) (meth := k14m1) (c := k14c1) (by decide +kernel) rfl rfl rfl (by decide +kernel)
set_option maxRecDepth 65536 in
theorem w_c30 : (Jvm.Cond.code ({ cls := "java/lang/Math", name := "min", desc := "(II)I" } : Jvm.MethodName) jdk_29_method_69_code (2 : Nat) (Option.some Jvm.ClassFile.FieldType.int)).before args0 about1 = true := code_word (m := ⟨15, 1⟩) (meth := k15m1) (c := k15c1) (by decide +kernel) rfl rfl rfl (by decide +kernel)
set_option maxRecDepth 65536 in
theorem w_c31 : (Jvm.Cond.code ({ cls := "com/example/hifadhi/hifadhi/project/NotAnalysedMessagePinLaw", name := "ok", desc := "(Ljava/lang/String;IICCICC)Z" } : Jvm.MethodName) method_4_code (11 : Nat) (Option.some Jvm.ClassFile.FieldType.boolean)).before args0 about1 = true := code_word (m := ⟨1, 3⟩) (meth := k1m3) (c := k1c3) (by decide +kernel) rfl rfl rfl (by decide +kernel)
set_option maxRecDepth 65536 in
theorem w_c32 : (Jvm.Cond.code ({ cls := "java/lang/String", name := "charAt", desc := "(I)C" } : Jvm.MethodName) jdk_42_method_56_code (2 : Nat) (Option.some Jvm.ClassFile.FieldType.char)).before args0 about1 = true := code_word (m := ⟨7, 4⟩) (meth := k7m4) (c := k7c4) (by decide +kernel) rfl rfl rfl (by decide +kernel)
set_option maxRecDepth 65536 in
theorem w_c33 : (Jvm.Cond.code ({ cls := "java/lang/String", name := "isLatin1", desc := "()Z" } : Jvm.MethodName) jdk_42_method_154_code (1 : Nat) (Option.some Jvm.ClassFile.FieldType.boolean)).before args0 about1 = true := code_word (m := ⟨7, 9⟩) (meth := k7m9) (c := k7c9) (by decide +kernel) rfl rfl rfl (by decide +kernel)
set_option maxRecDepth 65536 in
theorem w_c34 : (Jvm.Cond.code ({ cls := "java/lang/StringLatin1", name := "charAt", desc := "([BI)C" } : Jvm.MethodName) jdk_43_method_2_code (2 : Nat) (Option.some Jvm.ClassFile.FieldType.char)).before args0 about1 = true := code_word (m := ⟨16, 1⟩) (meth := k16m1) (c := k16c1) (by decide +kernel) rfl rfl rfl (by decide +kernel)
set_option maxRecDepth 65536 in
theorem w_c35 : (Jvm.Cond.code ({ cls := "java/lang/String", name := "checkIndex", desc := "(II)V" } : Jvm.MethodName) jdk_42_method_155_code (2 : Nat) (Option.none : Option Jvm.ClassFile.FieldType)).before args0 about1 = true := code_word (m := ⟨7, 10⟩) (meth := k7m10) (c := k7c10) (by decide +kernel) rfl rfl rfl (by decide +kernel)
set_option maxRecDepth 65536 in
theorem w_c36 : (Jvm.Cond.code ({ cls := "jdk/internal/util/Preconditions", name := "checkIndex", desc := "(IILjava/util/function/BiFunction;)I" } : Jvm.MethodName) jdk_41_method_11_code (3 : Nat) (Option.some Jvm.ClassFile.FieldType.int)).before args0 about1 = true := code_word (m := ⟨17, 1⟩) (meth := k17m1) (c := k17c1) (by decide +kernel) rfl rfl rfl (by decide +kernel)
def codes1 : List Jvm.Cond := [Jvm.Cond.code x code maxLocals ret, Jvm.Cond.code ({ cls := "com/example/hifadhi/hifadhi/project/NotAnalysedMessagePinLaw", name := "mk", desc := "(ICC)Ljava/lang/String;" } : Jvm.MethodName) method_3_code (3 : Nat) (Option.some (Jvm.ClassFile.FieldType.object "java/lang/String")), Jvm.Cond.code ({ cls := "java/lang/String", name := "<init>", desc := "([C)V" } : Jvm.MethodName) jdk_42_method_3_code (2 : Nat) (Option.none : Option Jvm.ClassFile.FieldType), Jvm.Cond.code ({ cls := "java/lang/String", name := "<init>", desc := "([CIILjava/lang/Void;)V" } : Jvm.MethodName) jdk_42_method_149_code (6 : Nat) (Option.none : Option Jvm.ClassFile.FieldType), Jvm.Cond.code ({ cls := "java/lang/Object", name := "<init>", desc := "()V" } : Jvm.MethodName) object_method_1_code (1 : Nat) (Option.none : Option Jvm.ClassFile.FieldType), Jvm.Cond.code ({ cls := "java/lang/StringUTF16", name := "compress", desc := "([CII)[B" } : Jvm.MethodName) jdk_52_method_16_code (6 : Nat) (Option.some (Jvm.ClassFile.FieldType.array Jvm.ClassFile.FieldType.byte)), Jvm.Cond.code ({ cls := "java/lang/StringUTF16", name := "compress", desc := "([CI[BII)I" } : Jvm.MethodName) jdk_52_method_21_code (7 : Nat) (Option.some Jvm.ClassFile.FieldType.int), Jvm.Cond.code ({ cls := "java/lang/StringUTF16", name := "coderFromArrayLen", desc := "([BI)B" } : Jvm.MethodName) jdk_52_method_15_code (2 : Nat) (Option.some Jvm.ClassFile.FieldType.byte), Jvm.Cond.code ({ cls := "com/example/hifadhi/hifadhi/project/NotAnalysed", name := "<init>", desc := "(Ljava/lang/String;Ljava/lang/String;)V" } : Jvm.MethodName) prog_33_method_1_code (3 : Nat) (Option.none : Option Jvm.ClassFile.FieldType), Jvm.Cond.code ({ cls := "com/example/hifadhi/hifadhi/project/NotAnalysed", name := "message", desc := "()Ljava/lang/String;" } : Jvm.MethodName) prog_33_method_4_code (1 : Nat) (Option.some (Jvm.ClassFile.FieldType.object "java/lang/String")), Jvm.Cond.code ({ cls := "java/lang/StringBuilder", name := "<init>", desc := "()V" } : Jvm.MethodName) jdk_67_method_1_code (1 : Nat) (Option.none : Option Jvm.ClassFile.FieldType), Jvm.Cond.code ({ cls := "java/lang/AbstractStringBuilder", name := "<init>", desc := "(I)V" } : Jvm.MethodName) jdk_68_method_2_code (2 : Nat) (Option.none : Option Jvm.ClassFile.FieldType), Jvm.Cond.code ({ cls := "java/lang/StringBuilder", name := "append", desc := "(Ljava/lang/String;)Ljava/lang/StringBuilder;" } : Jvm.MethodName) jdk_67_method_7_code (2 : Nat) (Option.some (Jvm.ClassFile.FieldType.object "java/lang/StringBuilder")), Jvm.Cond.code ({ cls := "java/lang/AbstractStringBuilder", name := "append", desc := "(Ljava/lang/String;)Ljava/lang/AbstractStringBuilder;" } : Jvm.MethodName) jdk_68_method_22_code (3 : Nat) (Option.some (Jvm.ClassFile.FieldType.object "java/lang/AbstractStringBuilder")), Jvm.Cond.code ({ cls := "java/lang/String", name := "length", desc := "()I" } : Jvm.MethodName) jdk_42_method_54_code (1 : Nat) (Option.some Jvm.ClassFile.FieldType.int), Jvm.Cond.code ({ cls := "java/lang/String", name := "coder", desc := "()B" } : Jvm.MethodName) jdk_42_method_152_code (1 : Nat) (Option.some Jvm.ClassFile.FieldType.byte), Jvm.Cond.code ({ cls := "java/lang/AbstractStringBuilder", name := "ensureCapacityInternal", desc := "(I)V" } : Jvm.MethodName) jdk_68_method_9_code (3 : Nat) (Option.none : Option Jvm.ClassFile.FieldType), Jvm.Cond.code ({ cls := "java/lang/AbstractStringBuilder", name := "putStringAt", desc := "(ILjava/lang/String;)V" } : Jvm.MethodName) jdk_68_method_73_code (3 : Nat) (Option.none : Option Jvm.ClassFile.FieldType), Jvm.Cond.code ({ cls := "java/lang/AbstractStringBuilder", name := "inflateIfNeededFor", desc := "(Ljava/lang/String;)V" } : Jvm.MethodName) jdk_68_method_71_code (2 : Nat) (Option.none : Option Jvm.ClassFile.FieldType), Jvm.Cond.code ({ cls := "java/lang/String", name := "getBytes", desc := "([BIB)V" } : Jvm.MethodName) jdk_42_method_147_code (4 : Nat) (Option.none : Option Jvm.ClassFile.FieldType), Jvm.Cond.code ({ cls := "java/lang/StringBuilder", name := "toString", desc := "()Ljava/lang/String;" } : Jvm.MethodName) jdk_67_method_42_code (1 : Nat) (Option.some (Jvm.ClassFile.FieldType.object "java/lang/String")), Jvm.Cond.code ({ cls := "java/lang/String", name := "<init>", desc := "(Ljava/lang/StringBuilder;)V" } : Jvm.MethodName) jdk_42_method_53_code (2 : Nat) (Option.none : Option Jvm.ClassFile.FieldType), Jvm.Cond.code ({ cls := "java/lang/String", name := "<init>", desc := "(Ljava/lang/AbstractStringBuilder;Ljava/lang/Void;)V" } : Jvm.MethodName) jdk_42_method_150_code (5 : Nat) (Option.none : Option Jvm.ClassFile.FieldType), Jvm.Cond.code ({ cls := "java/lang/AbstractStringBuilder", name := "getValue", desc := "()[B" } : Jvm.MethodName) jdk_68_method_64_code (1 : Nat) (Option.some (Jvm.ClassFile.FieldType.array Jvm.ClassFile.FieldType.byte)), Jvm.Cond.code ({ cls := "java/lang/StringBuilder", name := "length", desc := "()I" } : Jvm.MethodName) jdk_67_method_93_code (1 : Nat) (Option.some Jvm.ClassFile.FieldType.int), Jvm.Cond.code ({ cls := "java/lang/AbstractStringBuilder", name := "length", desc := "()I" } : Jvm.MethodName) jdk_68_method_6_code (1 : Nat) (Option.some Jvm.ClassFile.FieldType.int), Jvm.Cond.code ({ cls := "java/lang/AbstractStringBuilder", name := "isLatin1", desc := "()Z" } : Jvm.MethodName) jdk_68_method_68_code (1 : Nat) (Option.some Jvm.ClassFile.FieldType.boolean), Jvm.Cond.code ({ cls := "java/util/Arrays", name := "copyOfRange", desc := "([BII)[B" } : Jvm.MethodName) jdk_65_method_132_code (3 : Nat) (Option.some (Jvm.ClassFile.FieldType.array Jvm.ClassFile.FieldType.byte)), Jvm.Cond.code ({ cls := "java/util/Arrays", name := "copyOfRangeByte", desc := "([BII)[B" } : Jvm.MethodName) jdk_65_method_133_code (5 : Nat) (Option.some (Jvm.ClassFile.FieldType.array Jvm.ClassFile.FieldType.byte)), Jvm.Cond.code ({ cls := "java/util/Arrays", name := "checkLength", desc := "(II)V" } : Jvm.MethodName) jdk_65_method_131_code (2 : Nat) (Option.none : Option Jvm.ClassFile.FieldType), Jvm.Cond.code ({ cls := "java/lang/Math", name := "min", desc := "(II)I" } : Jvm.MethodName) jdk_29_method_69_code (2 : Nat) (Option.some Jvm.ClassFile.FieldType.int), Jvm.Cond.code ({ cls := "com/example/hifadhi/hifadhi/project/NotAnalysedMessagePinLaw", name := "ok", desc := "(Ljava/lang/String;IICCICC)Z" } : Jvm.MethodName) method_4_code (11 : Nat) (Option.some Jvm.ClassFile.FieldType.boolean), Jvm.Cond.code ({ cls := "java/lang/String", name := "charAt", desc := "(I)C" } : Jvm.MethodName) jdk_42_method_56_code (2 : Nat) (Option.some Jvm.ClassFile.FieldType.char), Jvm.Cond.code ({ cls := "java/lang/String", name := "isLatin1", desc := "()Z" } : Jvm.MethodName) jdk_42_method_154_code (1 : Nat) (Option.some Jvm.ClassFile.FieldType.boolean), Jvm.Cond.code ({ cls := "java/lang/StringLatin1", name := "charAt", desc := "([BI)C" } : Jvm.MethodName) jdk_43_method_2_code (2 : Nat) (Option.some Jvm.ClassFile.FieldType.char), Jvm.Cond.code ({ cls := "java/lang/String", name := "checkIndex", desc := "(II)V" } : Jvm.MethodName) jdk_42_method_155_code (2 : Nat) (Option.none : Option Jvm.ClassFile.FieldType), Jvm.Cond.code ({ cls := "jdk/internal/util/Preconditions", name := "checkIndex", desc := "(IILjava/util/function/BiFunction;)I" } : Jvm.MethodName) jdk_41_method_11_code (3 : Nat) (Option.some Jvm.ClassFile.FieldType.int)]
set_option maxRecDepth 65536 in
theorem codes_eq : words1.filter isCode = codes1 := rfl
theorem w_codes : ∀ c ∈ words1.filter isCode, c.before args0 about1 = true := by
  rw [codes_eq]
  intro c hc
  simp only [codes1, List.mem_cons, List.not_mem_nil, or_false] at hc
  rcases hc with rfl | rfl | rfl | rfl | rfl | rfl | rfl | rfl | rfl | rfl | rfl | rfl | rfl | rfl | rfl | rfl | rfl | rfl | rfl | rfl | rfl | rfl | rfl | rfl | rfl | rfl | rfl | rfl | rfl | rfl | rfl | rfl | rfl | rfl | rfl | rfl | rfl
  · exact w_c0
  · exact w_c1
  · exact w_c2
  · exact w_c3
  · exact w_c4
  · exact w_c5
  · exact w_c6
  · exact w_c7
  · exact w_c8
  · exact w_c9
  · exact w_c10
  · exact w_c11
  · exact w_c12
  · exact w_c13
  · exact w_c14
  · exact w_c15
  · exact w_c16
  · exact w_c17
  · exact w_c18
  · exact w_c19
  · exact w_c20
  · exact w_c21
  · exact w_c22
  · exact w_c23
  · exact w_c24
  · exact w_c25
  · exact w_c26
  · exact w_c27
  · exact w_c28
  · exact w_c29
  · exact w_c30
  · exact w_c31
  · exact w_c32
  · exact w_c33
  · exact w_c34
  · exact w_c35
  · exact w_c36
set_option maxRecDepth 65536 in
theorem w_t1 : (words1.take 24).all (fun c => isCode c || c.before args0 about1) = true := by decide +kernel
set_option maxRecDepth 65536 in
theorem w_t2 : ((words1.drop 24).take 24).all (fun c => isCode c || c.before args0 about1) = true := by decide +kernel
set_option maxRecDepth 65536 in
theorem w_t3 : (((words1.drop 24).drop 24).take 24).all (fun c => isCode c || c.before args0 about1) = true := by decide +kernel
set_option maxRecDepth 65536 in
theorem w_t4 : ((((words1.drop 24).drop 24).drop 24).take 24).all (fun c => isCode c || c.before args0 about1) = true := by decide +kernel
set_option maxRecDepth 65536 in
theorem w_t5 : (((((words1.drop 24).drop 24).drop 24).drop 24).take 24).all (fun c => isCode c || c.before args0 about1) = true := by decide +kernel
set_option maxRecDepth 65536 in
theorem w_t6 : ((((((words1.drop 24).drop 24).drop 24).drop 24).drop 24).take 24).all (fun c => isCode c || c.before args0 about1) = true := by decide +kernel
set_option maxRecDepth 65536 in
theorem w_t7 : (((((((words1.drop 24).drop 24).drop 24).drop 24).drop 24).drop 24).take 24).all (fun c => isCode c || c.before args0 about1) = true := by decide +kernel
set_option maxRecDepth 65536 in
theorem w_t8 : (((((((words1.drop 24).drop 24).drop 24).drop 24).drop 24).drop 24).drop 24).all (fun c => isCode c || c.before args0 about1) = true := by decide +kernel
theorem w_tables : (allAtoms (Jvm.Cond.code x code maxLocals ret :: tables_1)).before args0 about1 = true := by
  rw [allAtoms_all]
  show words1.all (fun c => c.before args0 about1) = true
  refine all_split ?_ w_codes
  rw [← List.take_append_drop 24 words1, List.all_append, w_t1, ← List.take_append_drop 24 (words1.drop 24), List.all_append, w_t2, ← List.take_append_drop 24 ((words1.drop 24).drop 24), List.all_append, w_t3, ← List.take_append_drop 24 (((words1.drop 24).drop 24).drop 24), List.all_append, w_t4, ← List.take_append_drop 24 ((((words1.drop 24).drop 24).drop 24).drop 24), List.all_append, w_t5, ← List.take_append_drop 24 (((((words1.drop 24).drop 24).drop 24).drop 24).drop 24), List.all_append, w_t6, ← List.take_append_drop 24 ((((((words1.drop 24).drop 24).drop 24).drop 24).drop 24).drop 24), List.all_append, w_t7, w_t8]
  rfl
set_option maxRecDepth 65536 in
theorem w_rest : rest_1_c.before args0 about1 = true := by decide +kernel
set_option maxRecDepth 65536 in
theorem w_case : (Jvm.Cond.and given_1 narrow_1).before args0 about1 = true := by decide +kernel
set_option maxRecDepth 65536 in
theorem w_consts : constsHeld consts_1 about1 := Jvm.Lit.constsHeldB_iff.mp (by decide +kernel)
theorem w_applies : (headSpec (Jvm.Cond.code x code maxLocals ret :: tables_1) room_1).applies x e0.platform about1 = true :=
  (Spec.applies_iff w_frames).mpr ⟨w_running, w_runnable, w_alone, w_named, w_hears, w_ripe, w_room, w_tables⟩
theorem atStart : AtStart classFile x code maxLocals ret World_1 tables_1 room_1 Calls_1 rest_1 Pre_1 launch0 p0 e0 about1 theMethod args0 below0 :=
  ⟨lists_1, trivial, launch0.admits_env _ _ _, launch0.least_env, fairChoices_fair.cas, fairChoices_fair.clock, w_frames, w_args, w_heap, w_applies, ⟨w_consts, trivial⟩, w_rest, w_case⟩
end start1
theorem witness_1 : WitnessClaimed_1 := ⟨start1.p0, start1.e0, start1.about1, start1.theMethod, start1.args0, start1.below0, start1.atStart⟩
end Jvm.Pilot.@@N@@
