import JvmDerived
import JvmDerived.Pilot.@@N@@Statement
import JvmDerived.Pilot.@@N@@Code
set_option linter.unusedVariables false
set_option maxRecDepth 65536
set_option maxHeartbeats 40000000
set_option linter.unusedSimpArgs false
/- laws to paste: Road.eqW, Road.codOf (cut by pick.py; bodies as the Statement names them) -/
namespace Jvm.Pilot.@@N@@
namespace StrChars
open Jvm Sem ClassFile Op Lib Jvm.Stand Jvm.Free.XT Jvm.Free.ALB Jvm.Free.JM Jvm.Free
open Jvm.Lib.Cold (StaticIs)
/-- a char array whose places are chars -/
def Ch (a : Addr) (A : Cell) (U : State) : Prop := Arr .char a A U ∧ Typed .char A
theorem Ch.mv {a : Addr} {A : Cell} {U U' : State} (h : Ch a A U) (hal : U.vm.Alike U'.vm) (hh : U'.heap = U.heap) : Ch a A U' := ⟨h.1.mv hal hh, h.2⟩
theorem Ch.keep {a : Addr} {A : Cell} {U U' : State} (h : Ch a A U) (hal : U.vm.Alike U'.vm) (hk : U'.heap[a]? = some A) : Ch a A U' := ⟨h.1.keep hal hk, h.2⟩
/-- what place i of a char[]'s cell holds -/
def cv (A : Cell) (i : Nat) : Int32 := match A.slots[i]? with | some (.int x) => x | _ => 0
theorem Ch.get {a : Addr} {A : Cell} {U : State} (h : Ch a A U) {i : Nat} (hi : i < A.slots.size) : A.slots[i]? = some (.int (cv A i)) := by
  have e := Array.getElem?_eq_getElem hi
  have f := h.2 i _ e
  unfold cv; rw [e]
  generalize A.slots[i] = v at f
  cases v <;> simp [fits] at f ⊢
/-- the byte that i2b leaves of a char -/
def lo8 (x : Int32) : Int32 := x.toInt8.toInt32
theorem fits_lo8 (y : Int32) : fits .byte (.int (lo8 y)) = true := by
  have h1 := y.toInt8.le_toInt
  have h2 := y.toInt8.toInt_lt
  simp only [lo8, fits, Bool.and_eq_true, decide_eq_true_eq, Int32.le_iff_toInt_le, Int8.toInt_toInt32, show (-128 : Int32).toInt = -128 from by decide, show (127 : Int32).toInt = 127 from by decide]
  omega
/-- A' is A but that each place j of lo .. hi - 1 holds f j -/
def Laid (A A' : Cell) (lo hi : Nat) (f : Nat → Value) : Prop := A'.cls = A.cls ∧ A'.vm = A.vm ∧ A'.slots.size = A.slots.size ∧ ∀ i, A'.slots[i]? = if lo ≤ i ∧ i < hi then some (f i) else A.slots[i]?
theorem Laid.zero (A : Cell) (lo : Nat) (f : Nat → Value) : Laid A A lo (lo + 0) f := ⟨rfl, rfl, rfl, fun i => by rw [if_neg (by omega)]⟩
theorem Laid.step {A Ak : Cell} {lo k : Nat} {f : Nat → Value} {v : Value} (h : Laid A Ak lo k f) (hlo : lo ≤ k) (hk : k < Ak.slots.size) (hv : v = f k) : Laid A (Ak.setSlot k v) lo (k + 1) f := by
  refine ⟨h.1, h.2.1, by simpa [Cell.setSlot] using h.2.2.1, fun i => ?_⟩
  by_cases e : k = i
  · subst e; rw [Cell.slots_setSlot_self v hk, if_pos (by omega), hv]
  · rw [Cell.slots_setSlot_ne v e, h.2.2.2 i]
    by_cases q : lo ≤ i ∧ i < k
    · rw [if_pos q, if_pos (by omega)]
    · rw [if_neg q, if_neg (by omega)]
def U16 : String := "java/lang/StringUTF16"
namespace Cmp5
def yN : MethodName := ⟨"java/lang/StringUTF16", "compress", "([CI[BII)I"⟩
abbrev yB : ByteArray := jdk_52_method_21_code
theorem d0 : decode yB 0 = .ok (.iconst 0, 1) := by decide +kernel
theorem d1 : decode yB 1 = .ok (.istore 5, 2) := by decide +kernel
theorem d3 : decode yB 3 = .ok (.iload 5, 2) := by decide +kernel
theorem d5 : decode yB 5 = .ok (.iload 4, 2) := by decide +kernel
theorem d7 : decode yB 7 = .ok (.if_icmp (.ge) 37, 3) := by decide +kernel
theorem d10 : decode yB 10 = .ok (.aload_n 0, 1) := by decide +kernel
theorem d11 : decode yB 11 = .ok (.iload_n 1, 1) := by decide +kernel
theorem d12 : decode yB 12 = .ok (.caload, 1) := by decide +kernel
theorem d13 : decode yB 13 = .ok (.istore 6, 2) := by decide +kernel
theorem d15 : decode yB 15 = .ok (.iload 6, 2) := by decide +kernel
theorem d17 : decode yB 17 = .ok (.sipush 255, 3) := by decide +kernel
theorem d20 : decode yB 20 = .ok (.if_icmp (.le) 6, 3) := by decide +kernel
theorem d26 : decode yB 26 = .ok (.aload_n 2, 1) := by decide +kernel
theorem d27 : decode yB 27 = .ok (.iload_n 3, 1) := by decide +kernel
theorem d28 : decode yB 28 = .ok (.iload 6, 2) := by decide +kernel
theorem d30 : decode yB 30 = .ok (.i2b, 1) := by decide +kernel
theorem d31 : decode yB 31 = .ok (.bastore, 1) := by decide +kernel
theorem d32 : decode yB 32 = .ok (.iinc 1 1, 3) := by decide +kernel
theorem d35 : decode yB 35 = .ok (.iinc 3 1, 3) := by decide +kernel
theorem d38 : decode yB 38 = .ok (.iinc 5 1, 3) := by decide +kernel
theorem d41 : decode yB 41 = .ok (.goto (-38), 3) := by decide +kernel
theorem d44 : decode yB 44 = .ok (.iload 4, 2) := by decide +kernel
theorem d46 : decode yB 46 = .ok (.ireturn, 1) := by decide +kernel
def site : List Cond := []
def tab : Cond := tabOf yN yB 7 (some .int) site
def P (b : Addr) (A : Cell) (d : Addr) (B : Cell) (o q len : Nat) (args : Array Value) (s : State) : Prop := args = #[.ref b, .int (Int32.ofNat o), .ref d, .int (Int32.ofNat q), .int (Int32.ofNat len)] ∧ Ch b A s ∧ Arr .byte d B s ∧ b ≠ d ∧ o + len ≤ A.slots.size ∧ q + len ≤ B.slots.size ∧ ∀ i, i < len → ¬ 255 < cv A (o + i)
def E (b : Addr) (A : Cell) (d : Addr) (B : Cell) (o q len : Nat) (r : Option Value) (s u : State) : Prop := r = some (.int (Int32.ofNat len)) ∧ ∃ B', Put d B' s u ∧ Laid B B' q (q + len) (fun j => Value.int (lo8 (cv A (o + (j - q)))))
/-- no char of the range above 255: len; the places written hold each char's low byte -/
theorem law (l : Launch) (b : Addr) (A : Cell) (d : Addr) (B : Cell) (o q len : Nat) : Law l yN 5 5 0 0 yB 7 (some .int) site (P b A d B o q len) (E b A d B o q len) (copyLocs d q len) 0 0 := by
  refine Law.of_walk (plainFor_of_name (by decide +kernel)) (by decide +kernel) (by decide +kernel) (by decide) (fun _ _ h => by rw [h.1]; rfl) (fun _ U U' hal hh h => ⟨h.1, h.2.1.mv hal hh, h.2.2.1.mv hal hh, h.2.2.2⟩) (fun r U U' V V' h1 hal h2 h => ⟨h.1, h.2.elim fun B' q => ⟨B', q.1.mv h1 h2, q.2⟩⟩) ?_
  intro p e s m args below meth c s₁ X0 hexec hbytes hml hret hlk hnm hown hh0 W hP
  obtain ⟨rfl, hA, hB, hne, l1, l2, hp⟩ := hP
  have c1 : Steps p.tables e below (s₁.setTop (entryFrame m #[.ref b, .int (Int32.ofNat o), .ref d, .int (Int32.ofNat q), .int (Int32.ofNat len)] 7)) (s₁.setTop (mkF m 0 #[.val (.ref b), .val (.int (Int32.ofNat o)), .val (.ref d), .val (.int (Int32.ofNat q)), .val (.int (Int32.ofNat len)), .unset, .unset] [])) := entry rfl
  have hA0 := hA.1.mv X0.warmed.alike hh0
  have hB0 := hB.mv X0.warmed.alike hh0
  have a31 := hA.1.2.2.2
  have c2 : Steps p.tables e below (s₁.setTop (entryFrame m #[.ref b, .int (Int32.ofNat o), .ref d, .int (Int32.ofNat q), .int (Int32.ofNat len)] 7)) (s₁.setTop (mkF m 3 #[.val (.ref b), .val (.int (Int32.ofNat o)), .val (.ref d), .val (.int (Int32.ofNat q)), .val (.int (Int32.ofNat len)), .val (.int 0), .unset] [])) := c1.trans (by
    refine iconstV X0.here hexec rfl 0 (hb hbytes d0) (by decide) ?_
    refine XS.istore X0.here hexec rfl (hb hbytes d1) rfl rfl ?_
    exact Steps.refl _)
  have loop : ∀ (r i : Nat), i + r = len → ∀ (z : Slot), (z = .unset ∨ ∃ w, z = .val w ∧ w.category = 1) → ∀ (Tl : State) (Bk : Cell), Stand p l e { frames := 0, locals := 0, cells := 0, slots := 0 } s m #[.ref b, .int (Int32.ofNat o), .ref d, .int (Int32.ofNat q), .int (Int32.ofNat len)] below meth c Tl ([] ++ copyLocs d q i) 0 0 → Put d Bk s₁ Tl → Laid B Bk q (q + i) (fun j => Value.int (lo8 (cv A (o + (j - q))))) →
      Steps p.tables e below (s₁.setTop (entryFrame m #[.ref b, .int (Int32.ofNat o), .ref d, .int (Int32.ofNat q), .int (Int32.ofNat len)] 7)) (Tl.setTop (mkF m 3 #[.val (.ref b), .val (.int (Int32.ofNat (o + i))), .val (.ref d), .val (.int (Int32.ofNat (q + i))), .val (.int (Int32.ofNat len)), .val (.int (Int32.ofNat i)), z] [])) → ∃ (T' : State) (B' : Cell) (z' : Slot), Stand p l e { frames := 0, locals := 0, cells := 0, slots := 0 } s m #[.ref b, .int (Int32.ofNat o), .ref d, .int (Int32.ofNat q), .int (Int32.ofNat len)] below meth c T' ([] ++ copyLocs d q len) 0 0 ∧ Put d B' s₁ T' ∧ Laid B B' q (q + len) (fun j => Value.int (lo8 (cv A (o + (j - q))))) ∧
      Steps p.tables e below (s₁.setTop (entryFrame m #[.ref b, .int (Int32.ofNat o), .ref d, .int (Int32.ofNat q), .int (Int32.ofNat len)] 7)) (T'.setTop (mkF m 3 #[.val (.ref b), .val (.int (Int32.ofNat (o + len))), .val (.ref d), .val (.int (Int32.ofNat (q + len))), .val (.int (Int32.ofNat len)), .val (.int (Int32.ofNat len)), z'] [])) := by
    intro r
    induction r with
    | zero =>
      intro i hi z hz Tl Bk Xl pl fl cl
      have hil : i = len := by omega
      rw [hil] at Xl fl cl
      exact ⟨Tl, Bk, z, Xl, pl, fl, cl⟩
    | succ r ih =>
      intro i hi z hz Tl Bk Xl pl fl cl
      have all := X0.warmed.alike.symm.trans Xl.warmed.alike
      have hAl := hA0.keep all (pl.other hne hA0.1)
      have hBk := hB0.like all pl.1 fl.1 fl.2.1 fl.2.2.1
      have hlt : q + i < Bk.slots.size := by rw [fl.2.2.1]; omega
      have c3 : Steps p.tables e below (s₁.setTop (entryFrame m #[.ref b, .int (Int32.ofNat o), .ref d, .int (Int32.ofNat q), .int (Int32.ofNat len)] 7)) (Tl.setTop (mkF m 12 #[.val (.ref b), .val (.int (Int32.ofNat (o + i))), .val (.ref d), .val (.int (Int32.ofNat (q + i))), .val (.int (Int32.ofNat len)), .val (.int (Int32.ofNat i)), z] [.int (Int32.ofNat (o + i)), .ref b])) := cl.trans (by
        refine XS.iload Xl.here hexec rfl (hb hbytes d3) rfl ?_
        refine XS.iload Xl.here hexec rfl (hb hbytes d5) rfl ?_
        refine XS.icmpNo Xl.here hexec rfl (hb hbytes d7) rfl (ii_ge_f (lt32 (by omega) (by omega))) ?_
        refine XS.aloadN Xl.here hexec rfl (hb hbytes d10) rfl rfl ?_
        refine XS.iloadN Xl.here hexec rfl (hb hbytes d11) rfl ?_
        exact Steps.refl _)
      have c4 : Steps p.tables e below (s₁.setTop (entryFrame m #[.ref b, .int (Int32.ofNat o), .ref d, .int (Int32.ofNat q), .int (Int32.ofNat len)] 7)) (Tl.setTop (mkF m 13 #[.val (.ref b), .val (.int (Int32.ofNat (o + i))), .val (.ref d), .val (.int (Int32.ofNat (q + i))), .val (.int (Int32.ofNat len)), .val (.int (Int32.ofNat i)), z] [.int (cv A (o + i))])) := c3.trans (by
        refine Xl.aget hexec hAl rfl (hA.get (i := o + i) (by omega)) rfl rfl (hb hbytes d12) ?_
        exact Steps.refl _)
      have c5 : Steps p.tables e below (s₁.setTop (entryFrame m #[.ref b, .int (Int32.ofNat o), .ref d, .int (Int32.ofNat q), .int (Int32.ofNat len)] 7)) (Tl.setTop (mkF m 15 #[.val (.ref b), .val (.int (Int32.ofNat (o + i))), .val (.ref d), .val (.int (Int32.ofNat (q + i))), .val (.int (Int32.ofNat len)), .val (.int (Int32.ofNat i)), .val (.int (cv A (o + i)))] [])) := c4.trans (by
        refine XS.istoreS Xl.here hexec rfl (hb hbytes d13) rfl rfl hz ?_
        exact Steps.refl _)
      have c6 : Steps p.tables e below (s₁.setTop (entryFrame m #[.ref b, .int (Int32.ofNat o), .ref d, .int (Int32.ofNat q), .int (Int32.ofNat len)] 7)) (Tl.setTop (mkF m 31 #[.val (.ref b), .val (.int (Int32.ofNat (o + i))), .val (.ref d), .val (.int (Int32.ofNat (q + i))), .val (.int (Int32.ofNat len)), .val (.int (Int32.ofNat i)), .val (.int (cv A (o + i)))] [.int (lo8 (cv A (o + i))), .int (Int32.ofNat (q + i)), .ref d])) := c5.trans (by
        refine XS.iload Xl.here hexec rfl (hb hbytes d15) rfl ?_
        refine sipushV Xl.here hexec rfl 255 (hb hbytes d17) (by decide) ?_
        refine XS.icmpYes Xl.here hexec rfl (pc0 := 20) rfl (hb hbytes d20) rfl (ii_le_t (hp i (by omega))) (by decide) rfl ?_
        refine XS.aloadN Xl.here hexec rfl (hb hbytes d26) rfl rfl ?_
        refine XS.iloadN Xl.here hexec rfl (hb hbytes d27) rfl ?_
        refine XS.iload Xl.here hexec rfl (hb hbytes d28) rfl ?_
        refine i2b Xl.here hexec rfl (hb hbytes d30) rfl ?_
        exact Steps.refl _)
      obtain ⟨T7, X7, p7, st7⟩ := Xl.aput hexec hBk rfl hlt rfl (fits_lo8 (cv A (o + i))) (g := (mkF m 31 #[.val (.ref b), .val (.int (Int32.ofNat (o + i))), .val (.ref d), .val (.int (Int32.ofNat (q + i))), .val (.int (Int32.ofNat len)), .val (.int (Int32.ofNat i)), .val (.int (cv A (o + i)))] [.int (lo8 (cv A (o + i))), .int (Int32.ofNat (q + i)), .ref d])) rfl (rest := []) rfl (hb hbytes d31)
      have c8 : Steps p.tables e below (s₁.setTop (entryFrame m #[.ref b, .int (Int32.ofNat o), .ref d, .int (Int32.ofNat q), .int (Int32.ofNat len)] 7)) (T7.setTop (mkF m 32 #[.val (.ref b), .val (.int (Int32.ofNat (o + i))), .val (.ref d), .val (.int (Int32.ofNat (q + i))), .val (.int (Int32.ofNat len)), .val (.int (Int32.ofNat i)), .val (.int (cv A (o + i)))] [])) := c6.trans (st7 _ (Steps.refl _))
      have c9 : Steps p.tables e below (s₁.setTop (entryFrame m #[.ref b, .int (Int32.ofNat o), .ref d, .int (Int32.ofNat q), .int (Int32.ofNat len)] 7)) (T7.setTop (mkF m 3 #[.val (.ref b), .val (.int (Int32.ofNat (o + i) + 1)), .val (.ref d), .val (.int (Int32.ofNat (q + i) + 1)), .val (.int (Int32.ofNat len)), .val (.int (Int32.ofNat i + 1)), .val (.int (cv A (o + i)))] [])) := c8.trans (by
        refine iincV X7.here hexec rfl 1 (hb hbytes d32) (by decide) rfl rfl ?_
        refine iincV X7.here hexec rfl 1 (hb hbytes d35) (by decide) rfl rfl ?_
        refine iincV X7.here hexec rfl 1 (hb hbytes d38) (by decide) rfl rfl ?_
        refine XS.goto X7.here hexec rfl (pc0 := 41) rfl (hb hbytes d41) (by decide) rfl ?_
        exact Steps.refl _)
      have c10 : Steps p.tables e below (s₁.setTop (entryFrame m #[.ref b, .int (Int32.ofNat o), .ref d, .int (Int32.ofNat q), .int (Int32.ofNat len)] 7)) (T7.setTop (mkF m 3 #[.val (.ref b), .val (.int (Int32.ofNat (o + (i + 1)))), .val (.ref d), .val (.int (Int32.ofNat (q + (i + 1)))), .val (.int (Int32.ofNat len)), .val (.int (Int32.ofNat (i + 1))), .val (.int (cv A (o + i)))] [])) := by
        have := c9
        rw [succ32, succ32, succ32] at this
        exact this
      exact ih (i + 1) (by omega) _ (Or.inr ⟨_, rfl, rfl⟩) T7 _ (by rw [copyLocs_step, ← List.append_assoc]; exact X7) (pl.trans p7) (fl.step (by omega) hlt (by simp)) c10
  obtain ⟨T9, B9, z9, X9, p9, f9, g9⟩ := loop len 0 (by omega) .unset (Or.inl rfl) s₁ B (by simpa [copyLocs] using X0) ⟨hB0.1, fun _ _ => rfl, rfl⟩ (Laid.zero _ _ _) c2
  have c11 : Steps p.tables e below (s₁.setTop (entryFrame m #[.ref b, .int (Int32.ofNat o), .ref d, .int (Int32.ofNat q), .int (Int32.ofNat len)] 7)) (T9.setTop (mkF m 46 #[.val (.ref b), .val (.int (Int32.ofNat (o + len))), .val (.ref d), .val (.int (Int32.ofNat (q + len))), .val (.int (Int32.ofNat len)), .val (.int (Int32.ofNat len)), z9] [.int (Int32.ofNat len)])) := g9.trans (by
    refine XS.iload X9.here hexec rfl (hb hbytes d3) rfl ?_
    refine XS.iload X9.here hexec rfl (hb hbytes d5) rfl ?_
    refine XS.icmpYes X9.here hexec rfl (pc0 := 7) rfl (hb hbytes d7) rfl (ii_ge_t (nlt32 (by omega) (Nat.le_refl _))) (by decide) rfl ?_
    refine XS.iload X9.here hexec rfl (hb hbytes d44) rfl ?_
    exact Steps.refl _)
  exact ⟨T9, some (.int (Int32.ofNat len)), _, _, _, X9, by simp, rfl, rfl, (fun h => by cases h), ⟨rfl, B9, p9.from hh0, f9⟩, fun fs hl => c11.trans (X9.ireturnOut hexec hret rfl (Or.inl rfl) (hb hbytes d46) hl)⟩
end Cmp5
namespace Cmp3
def yN : MethodName := ⟨"java/lang/StringUTF16", "compress", "([CII)[B"⟩
abbrev yB : ByteArray := jdk_52_method_16_code
theorem d0 : decode yB 0 = .ok (.iload_n 2, 1) := by decide +kernel
theorem d1 : decode yB 1 = .ok (.newarray .byte, 2) := by decide +kernel
theorem d3 : decode yB 3 = .ok (.astore_n 3, 1) := by decide +kernel
theorem d4 : decode yB 4 = .ok (.aload_n 0, 1) := by decide +kernel
theorem d5 : decode yB 5 = .ok (.iload_n 1, 1) := by decide +kernel
theorem d6 : decode yB 6 = .ok (.aload_n 3, 1) := by decide +kernel
theorem d7 : decode yB 7 = .ok (.iconst 0, 1) := by decide +kernel
theorem d8 : decode yB 8 = .ok (.iload_n 2, 1) := by decide +kernel
theorem d9 : decode yB 9 = .ok (.invokestatic 115, 3) := by decide +kernel
theorem d12 : decode yB 12 = .ok (.istore 4, 2) := by decide +kernel
theorem d14 : decode yB 14 = .ok (.iload 4, 2) := by decide +kernel
theorem d16 : decode yB 16 = .ok (.iload_n 2, 1) := by decide +kernel
theorem d17 : decode yB 17 = .ok (.if_icmp (.eq) 40, 3) := by decide +kernel
theorem d57 : decode yB 57 = .ok (.aload_n 3, 1) := by decide +kernel
theorem d58 : decode yB 58 = .ok (.areturn, 1) := by decide +kernel
def site : List Cond := [.arrayClass .byte, Cmp5.tab] ++ staticW U16 115 Cmp5.yN
def tab : Cond := tabOf yN yB 6 (some (.array .byte)) site
def P (b : Addr) (A : Cell) (o len : Nat) (args : Array Value) (s : State) : Prop := args = #[.ref b, .int (Int32.ofNat o), .int (Int32.ofNat len)] ∧ Ch b A s ∧ o + len ≤ A.slots.size ∧ len ≤ 536870912 ∧ ∀ i, i < len → ¬ 255 < cv A (o + i)
def E (b : Addr) (A : Cell) (o len : Nat) (r : Option Value) (s u : State) : Prop := NewArr .byte "[B" len (fun j => .int (lo8 (cv A (o + j)))) r s u ∧ u.heap.size = s.heap.size + 1
/-- no char of the range above 255: a new byte[] of their low bytes -/
theorem law (l : Launch) (b : Addr) (A : Cell) (o len : Nat) : Law l yN 3 3 1 18 yB 6 (some (.array .byte)) site (P b A o len) (E b A o len) [] 1 len := by
  refine Law.of_walk (plainFor_of_name (by decide +kernel)) (by decide +kernel) (by decide +kernel) (by decide) (fun _ _ h => by rw [h.1]; rfl) (fun _ U U' hal hh h => ⟨h.1, h.2.1.mv hal hh, h.2.2⟩) (fun r U U' V V' h1 hal h2 h => ⟨NewArr.mv r U U' V V' h1 hal h2 h.1, by rw [h1, h2]; exact h.2⟩) ?_
  intro p e s m args below meth c s₁ X0 hexec hbytes hml hret hlk hnm hown hh0 W hP
  obtain ⟨rfl, hA, l1, l2, hp⟩ := hP
  have a31 := hA.1.2.2.2
  have c1 : Steps p.tables e below (s₁.setTop (entryFrame m #[.ref b, .int (Int32.ofNat o), .int (Int32.ofNat len)] 6)) (s₁.setTop (mkF m 0 #[.val (.ref b), .val (.int (Int32.ofNat o)), .val (.int (Int32.ofNat len)), .unset, .unset, .unset] [])) := entry rfl
  have c2 : Steps p.tables e below (s₁.setTop (entryFrame m #[.ref b, .int (Int32.ofNat o), .int (Int32.ofNat len)] 6)) (s₁.setTop (mkF m 1 #[.val (.ref b), .val (.int (Int32.ofNat o)), .val (.int (Int32.ofNat len)), .unset, .unset, .unset] [.int (Int32.ofNat len)])) := c1.trans (by
    refine XS.iloadN X0.here hexec rfl (hb hbytes d0) rfl ?_
    exact Steps.refl _)
  obtain ⟨T3, B3, X3, ba3, bs3, bv3, bh3, bf3, st3⟩ := X0.anew hexec (atype := .byte) (wk W (.arrayClass .byte)) rfl (by show len * 1 ≤ _; omega) (by omega) (g := (mkF m 1 #[.val (.ref b), .val (.int (Int32.ofNat o)), .val (.int (Int32.ofNat len)), .unset, .unset, .unset] [.int (Int32.ofNat len)])) rfl (hb hbytes d1) (rest := []) rfl (Nat.le_refl _) (by show 0 + len ≤ len; omega)
  rw [hh0] at ba3 st3
  have kp3 : XT.Kept s T3 := (XT.Kept.of_eq hh0).push bh3
  have hA3 := hA.keep X3.warmed.alike (kp3 _ _ hA.1.1)
  have hne : b ≠ s.heap.size := hA.1.ne
  have c4 : Steps p.tables e below (s₁.setTop (entryFrame m #[.ref b, .int (Int32.ofNat o), .int (Int32.ofNat len)] 6)) (T3.setTop (mkF m 3 #[.val (.ref b), .val (.int (Int32.ofNat o)), .val (.int (Int32.ofNat len)), .unset, .unset, .unset] [.ref s.heap.size])) := c2.trans (st3 _ (Steps.refl _))
  have c5 : Steps p.tables e below (s₁.setTop (entryFrame m #[.ref b, .int (Int32.ofNat o), .int (Int32.ofNat len)] 6)) (T3.setTop (mkF m 9 #[.val (.ref b), .val (.int (Int32.ofNat o)), .val (.int (Int32.ofNat len)), .val (.ref s.heap.size), .unset, .unset] [.int (Int32.ofNat len), .int 0, .ref s.heap.size, .int (Int32.ofNat o), .ref b])) := c4.trans (by
    refine XS.astoreN X3.here hexec rfl (hb hbytes d3) rfl rfl rfl ?_
    refine XS.aloadN X3.here hexec rfl (hb hbytes d4) rfl rfl ?_
    refine XS.iloadN X3.here hexec rfl (hb hbytes d5) rfl ?_
    refine XS.aloadN X3.here hexec rfl (hb hbytes d6) rfl rfl ?_
    refine iconstV X3.here hexec rfl 0 (hb hbytes d7) (by decide) ?_
    refine XS.iloadN X3.here hexec rfl (hb hbytes d8) rfl ?_
    exact Steps.refl _)
  obtain ⟨v6, T6, X6, E6, g6⟩ := X3.callS hexec (Cmp5.law l b A s.heap.size B3 o 0 len) hown (wks W (staticW U16 115 Cmp5.yN)) (wk W Cmp5.tab) (W := 0) (Nat.le_of_ble_eq_true rfl) (Nat.le_of_ble_eq_true rfl) (Nat.le_refl _) (by show 0 + len + 0 ≤ len; omega) (g := (mkF m 9 #[.val (.ref b), .val (.int (Int32.ofNat o)), .val (.int (Int32.ofNat len)), .val (.ref s.heap.size), .unset, .unset] [.int (Int32.ofNat len), .int (Int32.ofNat 0), .ref s.heap.size, .int (Int32.ofNat o), .ref b])) rfl (by rw [hml]; rfl) c5 (argsL := [.ref b, .int (Int32.ofNat o), .ref s.heap.size, .int (Int32.ofNat 0), .int (Int32.ofNat len)]) (rest := []) rfl rfl (by show 2 * 0 + 0 ≤ _; decide) (hb hbytes d9) (⟨rfl, hA3, ba3, hne, l1, by rw [bs3]; simp, hp⟩)
  obtain ⟨rfl, B6, p6, f6⟩ := E6
  have c7 : Steps p.tables e below (s₁.setTop (entryFrame m #[.ref b, .int (Int32.ofNat o), .int (Int32.ofNat len)] 6)) (T6.setTop (mkF m 12 #[.val (.ref b), .val (.int (Int32.ofNat o)), .val (.int (Int32.ofNat len)), .val (.ref s.heap.size), .unset, .unset] [.int (Int32.ofNat len)])) := g6
  have c8 : Steps p.tables e below (s₁.setTop (entryFrame m #[.ref b, .int (Int32.ofNat o), .int (Int32.ofNat len)] 6)) (T6.setTop (mkF m 58 #[.val (.ref b), .val (.int (Int32.ofNat o)), .val (.int (Int32.ofNat len)), .val (.ref s.heap.size), .val (.int (Int32.ofNat len)), .unset] [.ref s.heap.size])) := c7.trans (by
    refine XS.istore X6.here hexec rfl (hb hbytes d12) rfl rfl ?_
    refine XS.iload X6.here hexec rfl (hb hbytes d14) rfl ?_
    refine XS.iloadN X6.here hexec rfl (hb hbytes d16) rfl ?_
    refine XS.icmpYes X6.here hexec rfl (pc0 := 17) rfl (hb hbytes d17) rfl (ii_eq_t rfl) (by decide) rfl ?_
    refine XS.aloadN X6.here hexec rfl (hb hbytes d57) rfl rfl ?_
    exact Steps.refl _)
  have X8 := X6.wide (L' := []) (cells' := 1) (slots' := len) (fun x hx hlt => by
    simp only [List.nil_append, copyLocs, List.mem_map, List.mem_range] at hx
    obtain ⟨i, -, rfl⟩ := hx
    exact absurd hlt (Nat.lt_irrefl _)) (Nat.le_refl _) (by omega)
  exact ⟨T6, some (.ref s.heap.size), _, _, _, X8, rfl, rfl, rfl, (fun h => by cases h), ⟨⟨rfl, B6, ba3.like (X3.warmed.alike.symm.trans X6.warmed.alike) p6.1 f6.1 f6.2.1 f6.2.2.1, f6.2.1.trans bv3, by rw [X6.warmed.alike.findClass, f6.1]; exact bf3, by rw [f6.2.2.1, bs3]; simp, fun j hj => by rw [f6.2.2.2 j, if_pos (by omega)]; rfl, kp3.put p6 (Nat.le_refl _)⟩, by rw [p6.2.2, bh3, hh0]; simp⟩, fun fs hl => c8.trans (X8.areturnOut hexec rfl hret rfl (hb hbytes d58) hl)⟩
end Cmp3
namespace CodL
def yN : MethodName := ⟨"java/lang/StringUTF16", "coderFromArrayLen", "([BI)B"⟩
abbrev yB : ByteArray := jdk_52_method_15_code
theorem d0 : decode yB 0 = .ok (.iload_n 1, 1) := by decide +kernel
theorem d1 : decode yB 1 = .ok (.aload_n 0, 1) := by decide +kernel
theorem d2 : decode yB 2 = .ok (.arraylength, 1) := by decide +kernel
theorem d3 : decode yB 3 = .ok (.isub, 1) := by decide +kernel
theorem d4 : decode yB 4 = .ok (.bipush 31, 2) := by decide +kernel
theorem d6 : decode yB 6 = .ok (.iushr, 1) := by decide +kernel
theorem d7 : decode yB 7 = .ok (.i2b, 1) := by decide +kernel
theorem d8 : decode yB 8 = .ok (.ireturn, 1) := by decide +kernel
def site : List Cond := []
def tab : Cond := tabOf yN yB 2 (some .byte) site
def P (d : Addr) (B : Cell) (args : Array Value) (s : State) : Prop := args = #[.ref d, .int (Int32.ofNat B.slots.size)] ∧ Arr .byte d B s
def E (r : Option Value) (s u : State) : Prop := XT.PureE (some (.int 0)) r s u
/-- an array as long as the number of chars: LATIN1 -/
theorem law (l : Launch) (d : Addr) (B : Cell) : Law l yN 2 2 0 0 yB 2 (some .byte) site (P d B) E [] 0 0 := by
  refine Law.of_walk (plainFor_of_name (by decide +kernel)) (by decide +kernel) (by decide +kernel) (by decide) (fun _ _ h => by rw [h.1]; rfl) (fun _ U U' hal hh h => ⟨h.1, h.2.mv hal hh⟩) (fun r U U' V V' h1 hal h2 h => XT.PureE.mv r U U' V V' h1 hal h2 h) ?_
  intro p e s m args below meth c s₁ X0 hexec hbytes hml hret hlk hnm hown hh0 W hP
  obtain ⟨rfl, hB⟩ := hP
  have hB0 := hB.mv X0.warmed.alike hh0
  have c1 : Steps p.tables e below (s₁.setTop (entryFrame m #[.ref d, .int (Int32.ofNat B.slots.size)] 2)) (s₁.setTop (mkF m 0 #[.val (.ref d), .val (.int (Int32.ofNat B.slots.size))] [])) := entry rfl
  have c2 : Steps p.tables e below (s₁.setTop (entryFrame m #[.ref d, .int (Int32.ofNat B.slots.size)] 2)) (s₁.setTop (mkF m 2 #[.val (.ref d), .val (.int (Int32.ofNat B.slots.size))] [.ref d, .int (Int32.ofNat B.slots.size)])) := c1.trans (by
    refine XS.iloadN X0.here hexec rfl (hb hbytes d0) rfl ?_
    refine XS.aloadN X0.here hexec rfl (hb hbytes d1) rfl rfl ?_
    exact Steps.refl _)
  have c3 : Steps p.tables e below (s₁.setTop (entryFrame m #[.ref d, .int (Int32.ofNat B.slots.size)] 2)) (s₁.setTop (mkF m 8 #[.val (.ref d), .val (.int (Int32.ofNat B.slots.size))] [.int (lo8 (ushr (Int32.ofNat B.slots.size - Int32.ofNat B.slots.size) 31))])) := c2.trans (by
    refine X0.alen hexec hB0 rfl rfl (hb hbytes d2) ?_
    refine XS.isub X0.here hexec rfl (hb hbytes d3) rfl ?_
    refine bipushV X0.here hexec rfl 31 (hb hbytes d4) (by decide) ?_
    refine iushr X0.here hexec rfl (hb hbytes d6) rfl ?_
    refine i2b X0.here hexec rfl (hb hbytes d7) rfl ?_
    exact Steps.refl _)
  have e0 : lo8 (ushr (Int32.ofNat B.slots.size - Int32.ofNat B.slots.size) 31) = 0 := by rw [Int32.sub_self]; decide
  rw [e0] at c3
  exact ⟨s₁, some (.int 0), _, _, _, X0, rfl, rfl, rfl, (fun h => by cases h), ⟨rfl, hh0⟩, fun fs hl => c3.trans (X0.ireturnOut hexec hret rfl (Or.inr (Or.inr (Or.inl rfl))) (hb hbytes d8) hl)⟩
end CodL
/-- the String at a is Latin-1 over a new byte[] (the heap's one new cell): the low bytes of the len chars of A from o on; every cell but a is kept -/
def Got (a : Addr) (D : Cell) (fV fC : Field) (A : Cell) (o len : Nat) (r : Option Value) (s u : State) : Prop := r = none ∧ ∃ D' V : Cell, Blank "java/lang/String" a D' u ∧ Same D D' [fV.slot, fC.slot] ∧ D'.slots[fV.slot]? = some (.ref s.heap.size) ∧ D'.slots[fC.slot]? = some (.int 0) ∧ Arr .byte s.heap.size V u ∧ V.vm = .none ∧ u.vm.findClass "[B" = some V.cls ∧ V.slots.size = len ∧ (∀ j, j < len → V.slots[j]? = some (.int (lo8 (cv A (o + j))))) ∧ (∀ (y : Addr) (c : Cell), y ≠ a → s.heap[y]? = some c → u.heap[y]? = some c) ∧ u.heap.size = s.heap.size + 1
theorem Got.mv {a : Addr} {D A : Cell} {fV fC : Field} {o len : Nat} : ∀ r (U U' V V' : State), U'.heap = U.heap → V.vm.Alike V'.vm → V'.heap = V.heap → Got a D fV fC A o len r U V → Got a D fV fC A o len r U' V' :=
  fun r U U' V V' h1 hal h2 ⟨e0, D', X, a1, a2, a3, a4, a5, a6, a7, a8, a9, a10, a11⟩ => ⟨e0, D', X, a1.mv hal h2, a2, by rw [h1]; exact a3, a4, by rw [h1]; exact a5.mv hal h2, a6, by rw [hal.findClass]; exact a7, a8, a9, by rw [h1, h2]; exact a10, by rw [h1, h2]; exact a11⟩
namespace New4
def yN : MethodName := ⟨"java/lang/String", "<init>", "([CIILjava/lang/Void;)V"⟩
abbrev yB : ByteArray := jdk_42_method_149_code
theorem d0 : decode yB 0 = .ok (.aload_n 0, 1) := by decide +kernel
theorem d1 : decode yB 1 = .ok (.invokespecial 1, 3) := by decide +kernel
theorem d4 : decode yB 4 = .ok (.iload_n 3, 1) := by decide +kernel
theorem d5 : decode yB 5 = .ok (.ifCond (.ne) 22, 3) := by decide +kernel
theorem d27 : decode yB 27 = .ok (.getstatic 38, 3) := by decide +kernel
theorem d30 : decode yB 30 = .ok (.ifCond (.eq) 28, 3) := by decide +kernel
theorem d33 : decode yB 33 = .ok (.aload_n 1, 1) := by decide +kernel
theorem d34 : decode yB 34 = .ok (.iload_n 2, 1) := by decide +kernel
theorem d35 : decode yB 35 = .ok (.iload_n 3, 1) := by decide +kernel
theorem d36 : decode yB 36 = .ok (.invokestatic 177, 3) := by decide +kernel
theorem d39 : decode yB 39 = .ok (.astore 5, 2) := by decide +kernel
theorem d41 : decode yB 41 = .ok (.aload_n 0, 1) := by decide +kernel
theorem d42 : decode yB 42 = .ok (.aload 5, 2) := by decide +kernel
theorem d44 : decode yB 44 = .ok (.iload_n 3, 1) := by decide +kernel
theorem d45 : decode yB 45 = .ok (.invokestatic 47, 3) := by decide +kernel
theorem d48 : decode yB 48 = .ok (.putfield 15, 3) := by decide +kernel
theorem d51 : decode yB 51 = .ok (.aload_n 0, 1) := by decide +kernel
theorem d52 : decode yB 52 = .ok (.aload 5, 2) := by decide +kernel
theorem d54 : decode yB 54 = .ok (.putfield 9, 3) := by decide +kernel
theorem d57 : decode yB 57 = .ok (.return_, 1) := by decide +kernel
def site : List Cond := [.fieldLink "java/lang/String" 38 "java/lang/String" "COMPACT_STRINGS" "Z", Cmp3.tab, CodL.tab, .laysFinal "java/lang/String" "java/lang/String" "value" "[B", .fieldLink "java/lang/String" 9 "java/lang/String" "value" "[B", .laysFinal "java/lang/String" "java/lang/String" "coder" "B", .fieldLink "java/lang/String" 15 "java/lang/String" "coder" "B"] ++ objW "java/lang/String" 1 ++ staticW "java/lang/String" 177 Cmp3.yN ++ staticW "java/lang/String" 47 CodL.yN
def tab : Cond := tabOf yN yB 6 none site
def P (a : Addr) (D : Cell) (fV fC : Field) (b : Addr) (A : Cell) (z : Int32) (o len : Nat) (args : Array Value) (s : State) : Prop := args = #[.ref a, .ref b, .int (Int32.ofNat o), .int (Int32.ofNat len), .null] ∧ Blank "java/lang/String" a D s ∧ Found "java/lang/String" "value" "[B" fV s ∧ Found "java/lang/String" "coder" "B" fC s ∧ Ch b A s ∧ StaticIs s "java/lang/String" "COMPACT_STRINGS" "Z" (.int z) ∧ ¬ z = 0 ∧ 0 < len ∧ o + len ≤ A.slots.size ∧ len ≤ 536870912 ∧ ∀ i, i < len → ¬ 255 < cv A (o + i)
def E (a : Addr) (D : Cell) (fV fC : Field) (A : Cell) (o len : Nat) (r : Option Value) (s u : State) : Prop := Got a D fV fC A o len r s u
/-- len > 0, no char of the range above 255: a Latin-1 String of their low bytes -/
theorem law (l : Launch) (a : Addr) (D : Cell) (fV fC : Field) (b : Addr) (A : Cell) (z : Int32) (o len : Nat) : Law l yN 5 4 2 35 yB 6 none site (P a D fV fC b A z o len) (E a D fV fC A o len) [⟨a, fC.slot⟩, ⟨a, fV.slot⟩] 1 len := by
  refine Law.of_walk (plainFor_of_name (by decide +kernel)) (by decide +kernel) (by decide +kernel) (by decide) (fun _ _ h => by rw [h.1]; rfl) (fun _ U U' hal hh h => ⟨h.1, h.2.1.mv hal hh, h.2.2.1.al hal, h.2.2.2.1.al hal, h.2.2.2.2.1.mv hal hh, h.2.2.2.2.2.1.there hal hh, h.2.2.2.2.2.2⟩) (fun r U U' V V' h1 hal h2 h => Got.mv r U U' V V' h1 hal h2 h) ?_
  intro p e s m args below meth c s₁ X0 hexec hbytes hml hret hlk hnm hown hh0 W hP
  obtain ⟨rfl, hB, f1, f2, hA, s1, hz, l0, l1, l2, hp⟩ := hP
  have a31 := hA.1.2.2.2
  have c1 : Steps p.tables e below (s₁.setTop (entryFrame m #[.ref a, .ref b, .int (Int32.ofNat o), .int (Int32.ofNat len), .null] 6)) (s₁.setTop (mkF m 0 #[.val (.ref a), .val (.ref b), .val (.int (Int32.ofNat o)), .val (.int (Int32.ofNat len)), .val .null, .unset] [])) := entry rfl
  have c2 : Steps p.tables e below (s₁.setTop (entryFrame m #[.ref a, .ref b, .int (Int32.ofNat o), .int (Int32.ofNat len), .null] 6)) (s₁.setTop (mkF m 1 #[.val (.ref a), .val (.ref b), .val (.int (Int32.ofNat o)), .val (.int (Int32.ofNat len)), .val .null, .unset] [.ref a])) := c1.trans (by
    refine XS.aloadN X0.here hexec rfl (hb hbytes d0) rfl rfl ?_
    exact Steps.refl _)
  obtain ⟨T3, X3, q3, st3⟩ := X0.oinit hexec hown (wks W (objW "java/lang/String" 1)) (g := (mkF m 1 #[.val (.ref a), .val (.ref b), .val (.int (Int32.ofNat o)), .val (.int (Int32.ofNat len)), .val .null, .unset] [.ref a])) rfl (by rw [hml]; rfl) (rest := []) rfl (hb hbytes d1) (W := 0) (by show 2 * 0 + 0 ≤ _; decide) (Nat.le_of_ble_eq_true rfl) (Nat.le_of_ble_eq_true rfl)
  have hh3 := q3.trans hh0
  have c4 : Steps p.tables e below (s₁.setTop (entryFrame m #[.ref a, .ref b, .int (Int32.ofNat o), .int (Int32.ofNat len), .null] 6)) (T3.setTop (mkF m 27 #[.val (.ref a), .val (.ref b), .val (.int (Int32.ofNat o)), .val (.int (Int32.ofNat len)), .val .null, .unset] [])) := (c2.trans (st3 _ (Steps.refl _))).trans (by
    refine XS.iloadN X3.here hexec rfl (hb hbytes d4) rfl ?_
    refine XS.ifYes X3.here hexec rfl (pc0 := 5) rfl (hb hbytes d5) rfl (i0_ne_t (nz32 (by omega) l0)) (by decide) rfl ?_
    exact Steps.refl _)
  obtain ⟨T5, X5, q5, st5⟩ := X3.sget hexec hown (wk W (.fieldLink "java/lang/String" 38 "java/lang/String" "COMPACT_STRINGS" "Z")) s1 (fun _ _ h => by rw [hh3]; exact h) (g := (mkF m 27 #[.val (.ref a), .val (.ref b), .val (.int (Int32.ofNat o)), .val (.int (Int32.ofNat len)), .val .null, .unset] [])) rfl (hb hbytes d27)
  have hh5 := q5.trans hh3
  have c6 : Steps p.tables e below (s₁.setTop (entryFrame m #[.ref a, .ref b, .int (Int32.ofNat o), .int (Int32.ofNat len), .null] 6)) (T5.setTop (mkF m 30 #[.val (.ref a), .val (.ref b), .val (.int (Int32.ofNat o)), .val (.int (Int32.ofNat len)), .val .null, .unset] [.int z])) := c4.trans (st5 _ (Steps.refl _))
  have c7 : Steps p.tables e below (s₁.setTop (entryFrame m #[.ref a, .ref b, .int (Int32.ofNat o), .int (Int32.ofNat len), .null] 6)) (T5.setTop (mkF m 36 #[.val (.ref a), .val (.ref b), .val (.int (Int32.ofNat o)), .val (.int (Int32.ofNat len)), .val .null, .unset] [.int (Int32.ofNat len), .int (Int32.ofNat o), .ref b])) := c6.trans (by
    refine XS.ifNo X5.here hexec rfl (hb hbytes d30) rfl (i0_eq_f hz) ?_
    refine XS.aloadN X5.here hexec rfl (hb hbytes d33) rfl rfl ?_
    refine XS.iloadN X5.here hexec rfl (hb hbytes d34) rfl ?_
    refine XS.iloadN X5.here hexec rfl (hb hbytes d35) rfl ?_
    exact Steps.refl _)
  obtain ⟨v8, T8, X8, E8, g8⟩ := X5.callS hexec (Cmp3.law l b A o len) hown (wks W (staticW "java/lang/String" 177 Cmp3.yN)) (wk W Cmp3.tab) (W := 0) (Nat.le_of_ble_eq_true rfl) (Nat.le_of_ble_eq_true rfl) (Nat.le_refl _) (by show 0 + len ≤ len; omega) (g := (mkF m 36 #[.val (.ref a), .val (.ref b), .val (.int (Int32.ofNat o)), .val (.int (Int32.ofNat len)), .val .null, .unset] [.int (Int32.ofNat len), .int (Int32.ofNat o), .ref b])) rfl (by rw [hml]; rfl) c7 (argsL := [.ref b, .int (Int32.ofNat o), .int (Int32.ofNat len)]) (rest := []) rfl rfl (by show 2 * 0 + 0 ≤ _; decide) (hb hbytes d36) (⟨rfl, hA.mv X5.warmed.alike hh5, l1, l2, hp⟩)
  obtain ⟨e8, z8⟩ := E8
  obtain ⟨rfl, N, n1, n2, n3, n4, n5, n6⟩ := NewArr.mv _ T5 s _ _ hh5.symm (Vm.Alike.refl _) rfl e8
  rw [hh5] at z8
  have hB1 := hB.keep X8.warmed.alike (n6 _ _ hB.1)
  have hne : s.heap.size ≠ a := (Nat.ne_of_lt (Array.getElem?_eq_some_iff.mp hB.1).1).symm
  have c9 : Steps p.tables e below (s₁.setTop (entryFrame m #[.ref a, .ref b, .int (Int32.ofNat o), .int (Int32.ofNat len), .null] 6)) (T8.setTop (mkF m 39 #[.val (.ref a), .val (.ref b), .val (.int (Int32.ofNat o)), .val (.int (Int32.ofNat len)), .val .null, .unset] [.ref s.heap.size])) := g8
  have c10 : Steps p.tables e below (s₁.setTop (entryFrame m #[.ref a, .ref b, .int (Int32.ofNat o), .int (Int32.ofNat len), .null] 6)) (T8.setTop (mkF m 45 #[.val (.ref a), .val (.ref b), .val (.int (Int32.ofNat o)), .val (.int (Int32.ofNat len)), .val .null, .val (.ref s.heap.size)] [.int (Int32.ofNat N.slots.size), .ref s.heap.size, .ref a])) := by
    have hc : Steps p.tables e below (s₁.setTop (entryFrame m #[.ref a, .ref b, .int (Int32.ofNat o), .int (Int32.ofNat len), .null] 6)) (T8.setTop (mkF m 45 #[.val (.ref a), .val (.ref b), .val (.int (Int32.ofNat o)), .val (.int (Int32.ofNat len)), .val .null, .val (.ref s.heap.size)] [.int (Int32.ofNat len), .ref s.heap.size, .ref a])) := c9.trans (by
      refine XS.astore X8.here hexec rfl (hb hbytes d39) rfl rfl rfl ?_
      refine XS.aloadN X8.here hexec rfl (hb hbytes d41) rfl rfl ?_
      refine XS.aload X8.here hexec rfl (hb hbytes d42) rfl rfl ?_
      refine XS.iloadN X8.here hexec rfl (hb hbytes d44) rfl ?_
      exact Steps.refl _)
    rw [n4]; exact hc
  obtain ⟨v11, T11, X11, E11, g11⟩ := X8.callS hexec (CodL.law l s.heap.size N) hown (wks W (staticW "java/lang/String" 47 CodL.yN)) (wk W CodL.tab) (W := 1) (Nat.le_of_ble_eq_true rfl) (Nat.le_of_ble_eq_true rfl) (Nat.le_refl _) (by show 0 + len + 0 ≤ len; omega) (g := (mkF m 45 #[.val (.ref a), .val (.ref b), .val (.int (Int32.ofNat o)), .val (.int (Int32.ofNat len)), .val .null, .val (.ref s.heap.size)] [.int (Int32.ofNat N.slots.size), .ref s.heap.size, .ref a])) rfl (by rw [hml]; rfl) c10 (argsL := [.ref s.heap.size, .int (Int32.ofNat N.slots.size)]) (rest := [.ref a]) rfl rfl (by show 2 * 0 + (1 + 0) ≤ _; decide) (hb hbytes d45) (⟨rfl, n1⟩)
  obtain ⟨rfl, q11⟩ := E11
  have hB11 := hB1.mv (X8.warmed.alike.symm.trans X11.warmed.alike) q11
  have c12 : Steps p.tables e below (s₁.setTop (entryFrame m #[.ref a, .ref b, .int (Int32.ofNat o), .int (Int32.ofNat len), .null] 6)) (T11.setTop (mkF m 48 #[.val (.ref a), .val (.ref b), .val (.int (Int32.ofNat o)), .val (.int (Int32.ofNat len)), .val .null, .val (.ref s.heap.size)] [.int 0, .ref a])) := g11
  obtain ⟨T13, X13, p13, bl13, sl13, st13⟩ := X11.finit hexec hown (wk W (.fieldLink "java/lang/String" 15 "java/lang/String" "coder" "B")) (Or.inr ⟨_, (wk W (.laysFinal "java/lang/String" "java/lang/String" "coder" "B"))⟩) (Or.inl ⟨rfl, hnm⟩) f2 (Or.inl rfl) hB11 (t := .byte) (by decide +kernel) rfl (g := (mkF m 48 #[.val (.ref a), .val (.ref b), .val (.int (Int32.ofNat o)), .val (.int (Int32.ofNat len)), .val .null, .val (.ref s.heap.size)] [.int 0, .ref a])) rfl (rest := []) rfl (hb hbytes d48)
  have c14 : Steps p.tables e below (s₁.setTop (entryFrame m #[.ref a, .ref b, .int (Int32.ofNat o), .int (Int32.ofNat len), .null] 6)) (T13.setTop (mkF m 54 #[.val (.ref a), .val (.ref b), .val (.int (Int32.ofNat o)), .val (.int (Int32.ofNat len)), .val .null, .val (.ref s.heap.size)] [.ref s.heap.size, .ref a])) := (c12.trans (st13 _ (Steps.refl _))).trans (by
    refine XS.aloadN X13.here hexec rfl (hb hbytes d51) rfl rfl ?_
    refine XS.aload X13.here hexec rfl (hb hbytes d52) rfl rfl ?_
    exact Steps.refl _)
  obtain ⟨T15, X15, p15, bl15, sl15, st15⟩ := X13.finit hexec hown (wk W (.fieldLink "java/lang/String" 9 "java/lang/String" "value" "[B")) (Or.inr ⟨_, (wk W (.laysFinal "java/lang/String" "java/lang/String" "value" "[B"))⟩) (Or.inl ⟨rfl, hnm⟩) f1 (Or.inl rfl) bl13 (t := (.array .byte)) (by decide +kernel) rfl (g := (mkF m 54 #[.val (.ref a), .val (.ref b), .val (.int (Int32.ofNat o)), .val (.int (Int32.ofNat len)), .val .null, .val (.ref s.heap.size)] [.ref s.heap.size, .ref a])) rfl (rest := []) rfl (hb hbytes d54)
  have c16 : Steps p.tables e below (s₁.setTop (entryFrame m #[.ref a, .ref b, .int (Int32.ofNat o), .int (Int32.ofNat len), .null] 6)) (T15.setTop (mkF m 57 #[.val (.ref a), .val (.ref b), .val (.int (Int32.ofNat o)), .val (.int (Int32.ofNat len)), .val .null, .val (.ref s.heap.size)] [])) := c14.trans (st15 _ (Steps.refl _))
  have ap := apart (Or.inr ⟨_, (wk W (.laysFinal "java/lang/String" "java/lang/String" "value" "[B"))⟩) (Or.inr ⟨_, (wk W (.laysFinal "java/lang/String" "java/lang/String" "coder" "B"))⟩) f1 f2 (t₁ := .array .byte) (t₂ := .byte) (by decide +kernel) (by decide +kernel) (by decide)
  have al := X8.warmed.alike.symm.trans X15.warmed.alike
  have n7 : T11.heap[s.heap.size]? = some N := by rw [q11]; exact n1.1
  exact ⟨T15, none, _, _, _, X15, by simp, rfl, by omega, (fun _ => rfl), ⟨rfl, _, N, bl15, ((Same.refl D _).set _ (by simp)).set _ (by simp), sl15, (Cell.slots_setSlot_ne _ ap).trans sl13, n1.keep al (p15.other hne (p13.other hne n7)), n2, by rw [al.findClass]; exact n3, n4, n5, fun y c h1 h2 => p15.other h1 (p13.other h1 (by rw [q11]; exact n6 y c h2)), by rw [p15.2.2, p13.2.2, q11]; exact z8⟩, fun fs hl => c16.trans (X15.returnOut hexec hret (hb hbytes d57) hl)⟩
end New4
namespace New1
def yN : MethodName := ⟨"java/lang/String", "<init>", "([C)V"⟩
abbrev yB : ByteArray := jdk_42_method_3_code
theorem d0 : decode yB 0 = .ok (.aload_n 0, 1) := by decide +kernel
theorem d1 : decode yB 1 = .ok (.aload_n 1, 1) := by decide +kernel
theorem d2 : decode yB 2 = .ok (.iconst 0, 1) := by decide +kernel
theorem d3 : decode yB 3 = .ok (.aload_n 1, 1) := by decide +kernel
theorem d4 : decode yB 4 = .ok (.arraylength, 1) := by decide +kernel
theorem d5 : decode yB 5 = .ok (.aconst_null, 1) := by decide +kernel
theorem d6 : decode yB 6 = .ok (.invokespecial 27, 3) := by decide +kernel
theorem d9 : decode yB 9 = .ok (.return_, 1) := by decide +kernel
def site : List Cond := [New4.tab] ++ initW "java/lang/String" 27 New4.yN
def tab : Cond := tabOf yN yB 2 none site
def P (a : Addr) (D : Cell) (fV fC : Field) (b : Addr) (A : Cell) (z : Int32) (args : Array Value) (s : State) : Prop := args = #[.ref a, .ref b] ∧ Blank "java/lang/String" a D s ∧ Found "java/lang/String" "value" "[B" fV s ∧ Found "java/lang/String" "coder" "B" fC s ∧ Ch b A s ∧ StaticIs s "java/lang/String" "COMPACT_STRINGS" "Z" (.int z) ∧ ¬ z = 0 ∧ 0 < A.slots.size ∧ A.slots.size ≤ 536870912 ∧ ∀ i, i < A.slots.size → ¬ 255 < cv A i
def E (a : Addr) (D : Cell) (fV fC : Field) (A : Cell) (r : Option Value) (s u : State) : Prop := Got a D fV fC A 0 A.slots.size r s u
/-- new String(chars), not empty, no char above 255: a Latin-1 String of their low bytes -/
theorem law (l : Launch) (a : Addr) (D : Cell) (fV fC : Field) (b : Addr) (A : Cell) (z : Int32) : Law l yN 2 1 3 52 yB 2 none site (P a D fV fC b A z) (E a D fV fC A) [⟨a, fC.slot⟩, ⟨a, fV.slot⟩] 1 A.slots.size := by
  refine Law.of_walk (plainFor_of_name (by decide +kernel)) (by decide +kernel) (by decide +kernel) (by decide) (fun _ _ h => by rw [h.1]; rfl) (fun _ U U' hal hh h => ⟨h.1, h.2.1.mv hal hh, h.2.2.1.al hal, h.2.2.2.1.al hal, h.2.2.2.2.1.mv hal hh, h.2.2.2.2.2.1.there hal hh, h.2.2.2.2.2.2⟩) (fun r U U' V V' h1 hal h2 h => Got.mv r U U' V V' h1 hal h2 h) ?_
  intro p e s m args below meth c s₁ X0 hexec hbytes hml hret hlk hnm hown hh0 W hP
  obtain ⟨rfl, hB, f1, f2, hA, s1, hz, l0, l2, hp⟩ := hP
  have c1 : Steps p.tables e below (s₁.setTop (entryFrame m #[.ref a, .ref b] 2)) (s₁.setTop (mkF m 0 #[.val (.ref a), .val (.ref b)] [])) := entry rfl
  have c2 : Steps p.tables e below (s₁.setTop (entryFrame m #[.ref a, .ref b] 2)) (s₁.setTop (mkF m 6 #[.val (.ref a), .val (.ref b)] [.null, .int (Int32.ofNat A.slots.size), .int 0, .ref b, .ref a])) := c1.trans (by
    refine XS.aloadN X0.here hexec rfl (hb hbytes d0) rfl rfl ?_
    refine XS.aloadN X0.here hexec rfl (hb hbytes d1) rfl rfl ?_
    refine iconstV X0.here hexec rfl 0 (hb hbytes d2) (by decide) ?_
    refine XS.aloadN X0.here hexec rfl (hb hbytes d3) rfl rfl ?_
    refine X0.alen hexec (hA.1.mv X0.warmed.alike hh0) rfl rfl (hb hbytes d4) ?_
    refine XS.aconstNull X0.here hexec rfl (hb hbytes d5) ?_
    exact Steps.refl _)
  obtain ⟨v3, T3, X3, E3, g3⟩ := X0.callN hexec (New4.law l a D fV fC b A z 0 A.slots.size) rfl hown (wks W (initW "java/lang/String" 27 New4.yN)) (W New4.tab (by simp only [site, List.mem_cons, List.mem_append, true_or, or_true])) (W := 0) (Nat.le_of_ble_eq_true rfl) (Nat.le_of_ble_eq_true rfl) (Nat.le_refl _) (by show 0 + A.slots.size ≤ A.slots.size; omega) (g := (mkF m 6 #[.val (.ref a), .val (.ref b)] [.null, .int (Int32.ofNat A.slots.size), .int (Int32.ofNat 0), .ref b, .ref a])) rfl (by rw [hml]; rfl) c2 (argsL := [.ref b, .int (Int32.ofNat 0), .int (Int32.ofNat A.slots.size), .null]) (rest := []) rfl rfl (by show 2 * 0 + 0 ≤ _; decide) (hb hbytes d6) (⟨rfl, hB.mv X0.warmed.alike hh0, f1.al X0.warmed.alike, f2.al X0.warmed.alike, hA.mv X0.warmed.alike hh0, s1.there X0.warmed.alike hh0, hz, l0, by omega, l2, fun i hi => by rw [Nat.zero_add]; exact hp i hi⟩)
  have e0 := Got.mv _ s₁ s _ _ hh0.symm (Vm.Alike.refl _) rfl E3
  obtain rfl := e0.1
  have c4 : Steps p.tables e below (s₁.setTop (entryFrame m #[.ref a, .ref b] 2)) (T3.setTop (mkF m 9 #[.val (.ref a), .val (.ref b)] [])) := g3
  exact ⟨T3, none, _, _, _, X3, by simp, rfl, by omega, (fun _ => rfl), e0, fun fs hl => c4.trans (X3.returnOut hexec hret (hb hbytes d9) hl)⟩
theorem pays {l : Launch} {R : Room} {p : Program} {e : Env} {below : List Frame} {s : State} {sargs : Array Value} {len W : Nat} (a : Addr) (D : Cell) (fV fC : Field) (b : Addr) (A : Cell) (z : Int32) (htab : tab.before sargs s = true) (hfr : 4 ≤ R.frames) (hlo : W + 65 ≤ R.locals) :
    Back l R p e below s sargs yN len W (fun A₁ a₁ => A₁.cells + 1 ≤ R.cells ∧ A₁.slots + A.slots.size ≤ R.slots ∧ P a D fV fC b A z a₁ A₁.U) (fun A₁ _ v₁ B₁ => E a D fV fC A v₁ A₁.U B₁.U ∧ B₁.locs = A₁.locs ++ [⟨a, fC.slot⟩, ⟨a, fV.slot⟩] ∧ B₁.cells = A₁.cells + 1 ∧ B₁.slots = A₁.slots + A.slots.size) :=
  (law l a D fV fC b A z).pays htab hfr (by omega)
end New1
/-- the byte, read back as charAt reads it, is the char -/
theorem lo8_mask {x : Int32} (h0 : ¬ x < 0) (h1 : ¬ 255 < x) : lo8 x &&& 255 = x := by
  have t : ∀ k : Fin 256, lo8 (Int32.ofNat k.val) &&& 255 = Int32.ofNat k.val := by decide +kernel
  rw [Int32.lt_iff_toInt_lt] at h0 h1
  have e0 : (0 : Int32).toInt = 0 := rfl
  have e1 : (255 : Int32).toInt = 255 := rfl
  obtain ⟨k, hk⟩ : ∃ k : Nat, x.toInt = k := ⟨x.toInt.toNat, by omega⟩
  have hx : x = Int32.ofNat k := Int32.toInt_inj.mp (by rw [hk, Int32.toInt_ofNat_small (by omega)])
  rw [hx]
  exact t ⟨k, by omega⟩
end StrChars
namespace StrChars.Road
open Jvm Sem ClassFile Op Lib Jvm.Stand Jvm.Free Jvm.Free.XT
open Jvm.Lib.Cold (StaticIs)
abbrev ST : String := "java/lang/String"
/-- every table word that New1's law asks, flat -/
abbrev words : List Jvm.Cond := [.code New1.yN New1.yB 2 none, .initialized ST, .methodLink ST 27 New4.yN, .instanceMethod New4.yN,
  .code New4.yN New4.yB 6 none, .fieldLink ST 38 ST "COMPACT_STRINGS" "Z", .laysFinal ST ST "value" "[B", .fieldLink ST 9 ST "value" "[B", .laysFinal ST ST "coder" "B", .fieldLink ST 15 ST "coder" "B",
  .methodLink ST 1 Lib.objectInit, .instanceMethod Lib.objectInit, .code Lib.objectInit ⟨#[0xb1]⟩ 1 none, .methodLink ST 177 Cmp3.yN, .static Cmp3.yN, .methodLink ST 47 CodL.yN, .static CodL.yN,
  .code Cmp3.yN Cmp3.yB 6 (some (.array .byte)), .initialized U16, .arrayClass .byte, .methodLink U16 115 Cmp5.yN, .static Cmp5.yN, .code Cmp5.yN Cmp5.yB 7 (some .int), .code CodL.yN CodL.yB 2 (some .byte)]
theorem tab_of {a : Array Value} {s : State} (h : ∀ w ∈ words, w.before a s = true) : New1.tab.before a s = true := by
  have h5 : Cmp5.tab.before a s = true := unparts (wk h (.code Cmp5.yN Cmp5.yB 7 (some .int))) (wks h (.initialized Cmp5.yN.cls :: Cmp5.site))
  have hc : CodL.tab.before a s = true := unparts (wk h (.code CodL.yN CodL.yB 2 (some .byte))) (wks h (.initialized CodL.yN.cls :: CodL.site))
  have q5 : ∀ w ∈ Cmp5.tab :: words, w.before a s = true := fun w hw => (List.mem_cons.mp hw).elim (fun e => e ▸ h5) (h w)
  have h3 : Cmp3.tab.before a s = true := unparts (wk q5 (.code Cmp3.yN Cmp3.yB 6 (some (.array .byte)))) (wks q5 (.initialized Cmp3.yN.cls :: Cmp3.site))
  have q3 : ∀ w ∈ Cmp3.tab :: CodL.tab :: words, w.before a s = true := fun w hw => (List.mem_cons.mp hw).elim (fun e => e ▸ h3) fun hw => (List.mem_cons.mp hw).elim (fun e => e ▸ hc) (h w)
  have h4 : New4.tab.before a s = true := unparts (wk q3 (.code New4.yN New4.yB 6 none)) (wks q3 (.initialized New4.yN.cls :: New4.site))
  have q4 : ∀ w ∈ New4.tab :: words, w.before a s = true := fun w hw => (List.mem_cons.mp hw).elim (fun e => e ▸ h4) (h w)
  exact unparts (wk q4 (.code New1.yN New1.yB 2 none)) (wks q4 (.initialized New1.yN.cls :: New1.site))
/-- the words ride from the start Z to the walk's own state -/
theorem moved {Z s : State} {a0 args : Array Value} (hZ : Z.Warmed39 s.vm) (hw : ∀ d ∈ words, d.before a0 Z = true) : ∀ d ∈ words, d.before args s = true := fun d hd => by
  have q := hw d hd
  have t : ∀ d ∈ words, d = .arrayClass .byte ∨ (d.onTables && d.keepsFace) = true := by decide +kernel
  rcases t d hd with rfl | t
  · exact RoadKit.mvA hZ q
  · exact RoadKit.mv hZ q t
/-- WHAT COMES BACK, over the tables of the start Z: h the heap at the call, h' behind it -/
def Q (Z : State) (x : Addr) (A : Cell) (h : Heap) (v : Option Value) (h' : Heap) (L : List Loc) : Prop := v = none ∧ (∀ y ∈ L, y.base = x) ∧ RoadKit.Keep h h' [x] ∧ h'.size = h.size + 1 ∧ RoadKit.Exa Z h' x ST ∧ RoadKit.Fld Z h' x ST "value" "[B" (.ref h.size) ∧ RoadKit.Fld Z h' x ST "coder" "B" (.int 0) ∧
  (∃ V : Cell, RoadKit.Arr Z h' h.size V .byte ∧ V.vm = .none ∧ Z.vm.findClass "[B" = some V.cls ∧ V.slots.size = A.slots.size ∧ ∀ j, j < A.slots.size → V.slots[j]? = some (.int (lo8 (cv A j)))) ∧
  ∀ (O n d : String) (w : Value), RoadKit.Fld Z h x O n d w → RoadKit.slotOf Z O n d ≠ RoadKit.slotOf Z ST "value" "[B" → RoadKit.slotOf Z O n d ≠ RoadKit.slotOf Z ST "coder" "B" → RoadKit.Fld Z h' x O n d w
/-- **new String(chars) AT A CALL, IN THE ROAD'S FORM**: for specialBack behind newO: x the fresh String, b the char[] with the cell A -/
theorem back {p : Program} {l : Launch} {e : Env} {R : Room} {s : State} {args : Array Value} {below : List Frame} {len W : Nat} {Z : State} {a0 : Array Value} {h : Heap} (hZ : Z.Warmed39 s.vm) (hw : ∀ d ∈ words, d.before a0 Z = true) {kI : Nat} (wi : (Jvm.Cond.instantiable ST kI).before a0 Z = true)
    {x b : Addr} {A : Cell} {z : Int32} {v0 c0 : Value} (E : RoadKit.Exa Z h x ST) (V : RoadKit.Fld Z h x ST "value" "[B" v0) (C : RoadKit.Fld Z h x ST "coder" "B" c0) (K : RoadKit.Arr Z h b A .char) (hty : Typed .char A) (S : RoadKit.Sta Z h ST "COMPACT_STRINGS" "Z" (.int z)) (hz : ¬ z = 0)
    (l0 : 0 < A.slots.size) (l2 : A.slots.size ≤ 536870912) (hp : ∀ i, i < A.slots.size → ¬ 255 < cv A i) (hfr : 4 ≤ R.frames) (hlo : W + 65 ≤ R.locals) :
    Back l R p e below s args New1.yN len W (fun P a => a = #[.ref x, .ref b] ∧ P.U.heap = h ∧ P.cells + 1 ≤ R.cells ∧ P.slots + A.slots.size ≤ R.slots)
      (fun P _ v B => ∃ L, Q Z x A h v B.U.heap L ∧ B.locs = P.locs ++ L ∧ B.cells = P.cells + 1 ∧ B.slots = P.slots + A.slots.size) := by
  intro m meth c P g ig mk a X hg hsize hdg hW hn hp'
  obtain ⟨rfl, rfl, r1, r2⟩ := hp'
  have al : Z.vm.Alike P.U.vm := hZ.alike.trans X.warmed.alike
  obtain ⟨D, cfV, kV, iV, fV, hD, gV, stV, knV, obV, asV, slV⟩ := id V
  obtain ⟨D', cfC, kC, iC, fC, hD', gC, stC, -, -, asC, slC⟩ := id C
  cases hD.symm.trans hD'
  obtain ⟨D2, kD, e1, e2, e3, e4, e5⟩ := id E
  cases hD.symm.trans e1
  obtain ⟨c2, k2, i1, i2, i3, -⟩ := Cond.instantiable_spec wi
  cases e2.symm.trans i1
  cases e3.symm.trans i2
  obtain ⟨kU, u1, u2⟩ := al.2.2 _ _ e3
  have hB : Blank ST x D P.U := ⟨hD, ⟨knV, fun q hq => by rw [hq] at obV; cases obV⟩, by rw [al.findClass]; exact e2, kU, u1, by rw [u2]; exact i3, by rw [u2]; exact e5 i3⟩
  have F1 : Found ST "value" "[B" fV P.U := ⟨SBG.found_only al ⟨cfV, kV, iV, gV⟩, stV⟩
  have F2 : Found ST "coder" "B" fC P.U := ⟨SBG.found_only al ⟨cfC, kC, iC, gC⟩, stC⟩
  have hA : Ch b A P.U := ⟨⟨K.1, State.isArrayOf_alike al K.2.1, K.2.2, by omega⟩, hty⟩
  have hS : StaticIs P.U ST "COMPACT_STRINGS" "Z" (.int z) := by
    obtain ⟨cfS, iS, kS, fS, st, cS, t1, t2, t3, t4, t5, t6, t7⟩ := S
    exact StaticIs.there (s := { Z with heap := P.U.heap }) ⟨cfS, iS, kS, fS, st, cS, t1, t2, t3, t4, t5, (fun q => by rw [q] at t6; cases t6), t7⟩ al rfl
  obtain ⟨v, B, X', ⟨⟨hv, E', V', q1, q2, q3, q4, q5, q6, q7, q8, q9, q10, q11⟩, hl, hc, hs⟩, st⟩ := New1.pays x D fV fC b A z (tab_of (moved hZ hw)) hfr hlo m meth c P g ig mk _ X hg hsize hdg hW hn ⟨r1, r2, rfl, hB, F1, F2, hA, hS, hz, l0, l2, hp⟩
  have al' : Z.vm.Alike B.U.vm := hZ.alike.trans X'.warmed.alike
  have hsz : E'.slots.size = D.slots.size := by
    obtain ⟨-, -, -, kB, w1, w2, w3⟩ := q1
    obtain ⟨kB', y1, y2⟩ := al'.2.2 _ _ e3
    rw [q2.2.1] at w1
    cases w1.symm.trans y1
    rw [w3, e5 i3, y2]
  refine ⟨v, B, X', ⟨_, ⟨hv, ?_, ⟨by omega, fun y cy hy hn' => q10 y cy (by simpa using hn') hy, fun y cy hy => ?_⟩, q11, ⟨E', _, q1.1, by rw [q2.2.1]; exact e2, by rw [q2.2.1]; exact e3, by rw [q2.1]; exact obV, fun _ => by rw [hsz]; exact e5 i3⟩,
    ⟨E', cfV, kV, iV, fV, q1.1, gV, stV, by rw [q2.1]; exact knV, by rw [q2.1]; exact obV, by rw [q2.2.1]; exact asV, q3⟩, ⟨E', cfC, kC, iC, fC, q1.1, gC, stC, by rw [q2.1]; exact knV, by rw [q2.1]; exact obV, by rw [q2.2.1]; exact asC, q4⟩,
    ⟨V', ⟨q5.1, State.isArrayOf_alike al'.symm q5.2.1, q5.2.2.1⟩, q6, by rw [← al'.findClass]; exact q7, q8, fun j hj => by have := q9 j hj; rwa [Nat.zero_add] at this⟩, fun O n d w F n1 n2 => ?_⟩, hl, hc, hs⟩, st⟩
  · intro y hy
    simp only [List.mem_cons, List.not_mem_nil, or_false] at hy
    rcases hy with rfl | rfl <;> rfl
  · by_cases q : y = x
    · subst q
      cases hD.symm.trans hy
      exact ⟨E', q1.1, q2.2.1, q2.1, hsz⟩
    · exact ⟨cy, q10 y cy q hy, rfl, rfl, rfl⟩
  · obtain ⟨D3, cf, k, i, f, g1, g2, g3, g4, g5, g6, g7⟩ := F
    cases hD.symm.trans g1
    simp only [RoadKit.slotOf, g2, gV, gC, Option.map_some, Option.getD_some] at n1 n2
    exact ⟨E', cf, k, i, f, q1.1, g2, g3, by rw [q2.1]; exact g4, by rw [q2.1]; exact g5, by rw [q2.2.1]; exact g6, by rw [q2.2.2 f.slot (by simp [n1, n2])]; exact g7⟩
end StrChars.Road
namespace StrChars.Road
open Jvm Sem ClassFile Op Lib Jvm.Stand Jvm.Free Jvm.Free.XT
/-- WHAT COMES BACK, the byte[] as a list of values -/
def QA (Z : State) (x : Addr) (zn : Int32) (cs : List Int32) (h : Heap) (v : Option Value) (h' : Heap) (L : List Loc) : Prop := v = none ∧ (∀ y ∈ L, y.base = x) ∧ RoadKit.Keep h h' [x] ∧ h'.size = h.size + 1 ∧ RoadKit.Exa Z h' x ST ∧ RoadKit.Fld Z h' x ST "value" "[B" (.ref h.size) ∧ RoadKit.Fld Z h' x ST "coder" "B" (.int 0) ∧
  (∃ kb, Z.vm.findClass "[B" = some kb ∧ RoadKit.Arv Z h' h.size kb .byte zn (cs.map fun c => .int (lo8 c)) (.int 0)) ∧
  ∀ (O n d : String) (w : Value), RoadKit.Fld Z h x O n d w → RoadKit.slotOf Z O n d ≠ RoadKit.slotOf Z ST "value" "[B" → RoadKit.slotOf Z O n d ≠ RoadKit.slotOf Z ST "coder" "B" → RoadKit.Fld Z h' x O n d w
/-- **new String(chars) AT A CALL, THE ARRAYS AS LISTS**: the char[] at b holds cs, not empty, no char above 255 -/
theorem backArv {p : Program} {l : Launch} {e : Env} {R : Room} {s : State} {args : Array Value} {below : List Frame} {len W : Nat} {Z : State} {a0 : Array Value} {h : Heap} (hZ : Z.Warmed39 s.vm) (hw : ∀ d ∈ words, d.before a0 Z = true) {kI : Nat} (wi : (Jvm.Cond.instantiable ST kI).before a0 Z = true)
    {x b : Addr} {k : ClassId} {zn z : Int32} {cs : List Int32} {dv v0 c0 : Value} (E : RoadKit.Exa Z h x ST) (V : RoadKit.Fld Z h x ST "value" "[B" v0) (C : RoadKit.Fld Z h x ST "coder" "B" c0) (K : RoadKit.Arv Z h b k .char zn (cs.map Value.int) dv) (S : RoadKit.Sta Z h ST "COMPACT_STRINGS" "Z" (.int z)) (hz : ¬ z = 0)
    (hlen : zn.toNatClampNeg = cs.length) (h0 : 0 < cs.length) (hbig : cs.length ≤ 536870912) (hall : ∀ c ∈ cs, ¬ 255 < c) (hfr : 4 ≤ R.frames) (hlo : W + 65 ≤ R.locals) :
    Back l R p e below s args New1.yN len W (fun P a => a = #[.ref x, .ref b] ∧ P.U.heap = h ∧ P.cells + 1 ≤ R.cells ∧ P.slots + cs.length ≤ R.slots)
      (fun P _ v B => ∃ L, QA Z x zn cs h v B.U.heap L ∧ B.locs = P.locs ++ L ∧ B.cells = P.cells + 1 ∧ B.slots = P.slots + cs.length) := by
  obtain ⟨A, K1, K2, K3, K4, K5, K6⟩ := K
  have e : A.slots.size = cs.length := K3.trans hlen
  have hat : ∀ (i : Nat) (hi : i < cs.length), A.slots[i]? = some (.int cs[i]) := fun i hi => by rw [K5 i (by omega)]; simp [List.getD_eq_getElem?_getD, hi]
  have hcv : ∀ (i : Nat) (hi : i < cs.length), cv A i = cs[i] := fun i hi => by unfold cv; rw [hat i hi]
  have hty : Typed .char A := fun i v hv => by
    have hi : i < A.slots.size := (Array.getElem?_eq_some_iff.mp hv).1
    have q := K5 i hi
    rw [hv] at q
    rw [Option.some.inj q]
    exact K6 i hi
  refine Back.mono (back hZ hw wi E V C K1 hty S hz (by omega) (by omega) (fun i hi => by rw [hcv i (by omega)]; exact hall _ (List.getElem_mem _)) hfr hlo) (fun P a hp => ⟨hp.1, hp.2.1, hp.2.2.1, by rw [e]; exact hp.2.2.2⟩) (fun P a v B hp hq => ?_)
  obtain ⟨L, ⟨q1, q2, q3, q4, q5, q6, q7, ⟨V', v1, v2, v3, v4, v5⟩, q9⟩, hl, hc, hs⟩ := hq
  refine ⟨L, ⟨q1, q2, q3, q4, q5, q6, q7, ⟨V'.cls, v3, V', v1, rfl, by rw [v4, e, hlen], K4, fun i hi => ?_, fun i hi => ?_⟩, q9⟩, hl, hc, by rw [hs, e]⟩
  · have hi' : i < cs.length := by omega
    rw [v5 i (by omega), hcv i hi']; simp [List.getD_eq_getElem?_getD, hi']
  · have hi' : i < cs.length := by omega
    simp only [List.getD_eq_getElem?_getD, List.getElem?_map, List.getElem?_eq_getElem hi', Option.map_some, Option.getD_some]
    exact fits_lo8 _
end StrChars.Road
namespace StrChars.Road
open Jvm Sem ClassFile Op Lib Jvm.Stand Jvm.Free Jvm.Free.XT
/-- WHAT COMES BACK, in the writer's own shape -/
def QV (Z : State) (x : Addr) (N : Int32) (bs : List Int32) (h : Heap) (n0 : Nat) (v : Option Value) (h' : Heap) (L : List Loc) : Prop := v = none ∧ RoadKit.Fr n0 L ∧ RoadKit.Keep h h' [x] ∧ RoadKit.Exa Z h' x ST ∧ RoadKit.Fld Z h' x ST "coder" "B" (.int 0) ∧
  ∃ (t : Addr) (kb : ClassId), n0 ≤ t ∧ h.size ≤ t ∧ ¬ t = x ∧ RoadKit.Fld Z h' x ST "value" "[B" (.ref t) ∧ RoadKit.Arv Z h' t kb .byte N (bs.map Value.int) (.int 0)
/-- **new String(chars) AT A CALL, FOR THE WRITER**: a char[] of n known ints, each 0 to 255 -/
theorem backV {p : Program} {l : Launch} {e : Env} {R : Room} {s : State} {args : Array Value} {below : List Frame} {len W : Nat} {Z : State} {a0 : Array Value} {h : Heap} (hZ : Z.Warmed39 s.vm) (hw : ∀ d ∈ words, d.before a0 Z = true) {kI : Nat} (wi : (Jvm.Cond.instantiable ST kI).before a0 Z = true)
    {x b : Addr} {kC : ClassId} {cs bs : List Int32} {d v0 c0 : Value} {z N : Int32} {n n0 : Nat} (hx0 : n0 ≤ x) (hh0 : n0 ≤ h.size) (E : RoadKit.Exa Z h x ST) (V : RoadKit.Fld Z h x ST "value" "[B" v0) (C : RoadKit.Fld Z h x ST "coder" "B" c0) (K : RoadKit.Arv Z h b kC .char N (cs.map Value.int) d) (S : RoadKit.Sta Z h ST "COMPACT_STRINGS" "Z" (.int z)) (hz : ¬ z = 0)
    (hn : cs.length = n) (hN : N = Int32.ofNat n) (l0 : 0 < n) (l2 : n ≤ 4000) (hp : ∀ c ∈ cs, ¬ c < 0 ∧ ¬ (255 : Int32) < c) (hb : bs = cs.map (fun c => c.toInt8.toInt32)) (hfr : 4 ≤ R.frames) (hlo : W + 65 ≤ R.locals) :
    Back l R p e below s args (⟨"java/lang/String", "<init>", "([C)V"⟩ : MethodName) len W (fun P a => a = #[.ref x, .ref b] ∧ P.U.heap = h ∧ P.cells + 1 ≤ R.cells ∧ P.slots + n ≤ R.slots)
      (fun P _ v B => ∃ L, QV Z x N bs h n0 v B.U.heap L ∧ B.locs = P.locs ++ L ∧ B.cells = P.cells + 1 ∧ B.slots = P.slots + n) := by
  subst hn hN hb
  refine Back.mono (backArv hZ hw wi E V C K S hz (n32 (by omega)) l0 (by omega) (fun c hc => (hp c hc).2) hfr hlo) (fun P a hp => hp) (fun P a v B hp hq => ?_)
  obtain ⟨L, ⟨q1, q2, q3, q4, q5, q6, q7, ⟨kb, v1, v2⟩, q9⟩, hl, hc, hs⟩ := hq
  exact ⟨L, ⟨q1, fun y hy => by rw [q2 y hy]; exact hx0, q3, q5, q7, h.size, kb, hh0, Nat.le_refl _, Nat.ne_of_gt E.lt, q6, by rw [List.map_map]; exact v2⟩, hl, hc, hs⟩
end StrChars.Road
namespace StrChars
open Jvm Sem ClassFile Op Lib Jvm.Stand Jvm.Free.XT Jvm.Free.ALB Jvm.Free.JM Jvm.Free
open Jvm.Lib.Cold (StaticIs)
def hi8 (x : Int32) : Int32 := lo8 (x >>> ((8 : Int32) &&& 31))
/-- what StringUTF16.getChar makes of two bytes -/
def pairCh (u v : Int32) : Int32 := (((u &&& 255) <<< ((0 : Int32) &&& 31)) ||| ((v &&& 255) <<< ((8 : Int32) &&& 31))).toUInt32.toUInt16.toUInt32.toInt32
theorem lo8_and (x : Int32) : (lo8 x &&& 255).toBitVec.toNat = x.toBitVec.toNat % 256 := by
  have h : (lo8 x).toBitVec = (x.toBitVec.signExtend 8).signExtend 32 := by rw [lo8, Int8.toBitVec_toInt32, Int32.toBitVec_toInt8]
  rw [Int32.toBitVec_and, BitVec.toNat_and, h]
  have e : ((x.toBitVec.signExtend 8).signExtend 32).toNat % 256 = x.toBitVec.toNat % 256 := by
    rw [BitVec.toNat_signExtend]
    have hlt := x.toBitVec.isLt
    simp only [BitVec.toNat_setWidth, BitVec.toNat_signExtend]
    split <;> split <;> omega
  rw [← e]
  exact Nat.and_two_pow_sub_one_eq_mod _ 8
theorem pair_says {c : Int32} (h0 : ¬ c < 0) (h1 : ¬ 65535 < c) : pairCh (lo8 c) (hi8 c) = c := by
  rw [Int32.lt_iff_toInt_lt] at h0 h1
  have e0 : (0 : Int32).toInt = 0 := rfl
  have e1 : (65535 : Int32).toInt = 65535 := rfl
  have hc : c.toInt = c.toBitVec.toNat := by
    have := c.toBitVec.isLt
    have e : c.toInt = c.toBitVec.toInt := rfl
    rw [e] at h0 h1
    rw [e]
    rw [BitVec.toInt_eq_toNat_cond] at h0 h1 ⊢
    split at h0 <;> split <;> omega
  have hn : c.toBitVec.toNat < 65536 := by omega
  have a1 := lo8_and c
  have a2 : (hi8 c &&& 255).toBitVec.toNat = c.toBitVec.toNat / 256 := by
    rw [hi8, lo8_and]
    have e : ((8 : Int32) &&& 31) = 8 := by decide
    rw [e, Int32.toBitVec_shiftRight]
    have e2 : ((8 : Int32).toBitVec.smod 32) = 8#32 := by decide
    rw [e2, BitVec.sshiftRight_eq', BitVec.toNat_sshiftRight_of_msb_false (by rw [BitVec.msb_eq_false_iff_two_mul_lt]; omega)]
    show c.toBitVec.toNat >>> 8 % 256 = _
    rw [Nat.shiftRight_eq_div_pow]
    omega
  unfold pairCh
  apply Int32.toBitVec_inj.mp
  apply BitVec.eq_of_toNat_eq
  have f0 : ((0 : Int32) &&& 31) = 0 := by decide
  have f8 : ((8 : Int32) &&& 31) = 8 := by decide
  rw [f0, f8]
  have g : (((lo8 c &&& 255) <<< (0 : Int32)) ||| ((hi8 c &&& 255) <<< (8 : Int32))).toBitVec.toNat = c.toBitVec.toNat := by
    rw [Int32.toBitVec_or, Int32.toBitVec_shiftLeft, Int32.toBitVec_shiftLeft]
    have s0 : ((0 : Int32).toBitVec.smod 32) = 0#32 := by decide
    have s8 : ((8 : Int32).toBitVec.smod 32) = 8#32 := by decide
    rw [s0, s8, BitVec.toNat_or]
    simp only [BitVec.shiftLeft_eq', BitVec.toNat_shiftLeft, a1, a2]
    show (c.toBitVec.toNat % 256) <<< 0 % 2 ^ 32 ||| (c.toBitVec.toNat / 256) <<< 8 % 2 ^ 32 = _
    rw [Nat.shiftLeft_zero, Nat.mod_eq_of_lt (show c.toBitVec.toNat % 256 < 2 ^ 32 by omega), Nat.mod_eq_of_lt (show (c.toBitVec.toNat / 256) <<< 8 < 2 ^ 32 by rw [Nat.shiftLeft_eq]; omega), Nat.or_comm, ← Nat.shiftLeft_add_eq_or_of_lt (by omega), Nat.shiftLeft_eq]
    omega
  show BitVec.toNat (((((lo8 c &&& 255) <<< (0 : Int32)) ||| ((hi8 c &&& 255) <<< (8 : Int32))).toBitVec.setWidth 16).setWidth 32) = _
  rw [BitVec.toNat_setWidth, BitVec.toNat_setWidth, g]
  omega
end StrChars
namespace StrChars
open Jvm Sem ClassFile Op Lib Jvm.Stand Jvm.Free.XT Jvm.Free.ALB Jvm.Free.JM Jvm.Free
open Jvm.Lib.Cold (StaticIs)
/-- the array's cell V codes the n chars f 0 .. f (n - 1) by the coder cd, as the JDK does: coder 1 just where some char is above 255 -/
def Cod (cd : Int32) (n : Nat) (f : Nat → Int32) (V : Cell) : Prop := (cd = 0 ∧ V.slots.size = n ∧ ∀ j, j < n → V.slots[j]? = some (.int (lo8 (f j))) ∧ ¬ 255 < f j) ∨ (cd = 1 ∧ V.slots.size = 2 * n ∧ (∀ j, j < n → V.slots[2 * j]? = some (.int (lo8 (f j))) ∧ V.slots[2 * j + 1]? = some (.int (hi8 (f j)))) ∧ ∃ j, j < n ∧ 255 < f j)
/-- **x is a String of the n chars f 0 .. f (n - 1)**, Latin-1 or UTF-16; its array at t has the cell V -/
def Txt (x t : Addr) (V : Cell) (cd : Int32) (n : Nat) (f : Nat → Int32) (U : State) : Prop := Exact "java/lang/String" x U ∧ Has x "java/lang/String" "value" "[B" (.ref t) U ∧ Has x "java/lang/String" "coder" "B" (.int cd) U ∧ XT.Arr .byte t V U ∧ Cod cd n f V ∧ ∀ j, j < n → ¬ f j < 0 ∧ ¬ 65535 < f j
theorem Txt.mv {x t : Addr} {V : Cell} {cd : Int32} {n : Nat} {f : Nat → Int32} {U U' : State} (h : Txt x t V cd n f U) (hal : U.vm.Alike U'.vm) (hh : U'.heap = U.heap) : Txt x t V cd n f U' := ⟨h.1.mv hal hh, h.2.1.mv hal hh, h.2.2.1.mv hal hh, h.2.2.2.1.mv hal hh, h.2.2.2.2⟩
end StrChars
namespace StrChars.Road
open Jvm Sem ClassFile Op Lib Jvm.Stand Jvm.Free Jvm.Free.XT
open Jvm.Lib.Cold (StaticIs)
theorem consq {a : Array Value} {s : State} {c : Jvm.Cond} {L : List Jvm.Cond} (h0 : c.before a s = true) (h : ∀ w ∈ L, w.before a s = true) : ∀ w ∈ c :: L, w.before a s = true := fun w hw => (List.mem_cons.mp hw).elim (fun e => e ▸ h0) (h w)
/-- the bytes of the chars cs, low before high -/
def wideBytes : List Int32 → List Value
  | [] => []
  | c :: cs => .int (lo8 c) :: .int (hi8 c) :: wideBytes cs
theorem wide_lo (d : Value) : ∀ (cs : List Int32) (j : Nat), j < cs.length → (wideBytes cs).getD (2 * j) d = .int (lo8 (cs.getD j 0))
  | [], j, h => absurd h (Nat.not_lt_zero j)
  | c :: cs, 0, _ => rfl
  | c :: cs, j + 1, h => by
    have q := wide_lo d cs j (by simpa using h)
    rw [show 2 * (j + 1) = 2 * j + 1 + 1 from by omega]
    simpa [wideBytes] using q
theorem wide_hi (d : Value) : ∀ (cs : List Int32) (j : Nat), j < cs.length → (wideBytes cs).getD (2 * j + 1) d = .int (hi8 (cs.getD j 0))
  | [], j, h => absurd h (Nat.not_lt_zero j)
  | c :: cs, 0, _ => rfl
  | c :: cs, j + 1, h => by
    have q := wide_hi d cs j (by simpa using h)
    rw [show 2 * (j + 1) + 1 = 2 * j + 1 + 1 + 1 from by omega]
    simpa [wideBytes] using q
theorem low_at (d : Value) (cs : List Int32) (j : Nat) (h : j < cs.length) : (cs.map fun c => Value.int (lo8 c)).getD j d = .int (lo8 (cs.getD j 0)) := by
  simp [List.getD_eq_getElem?_getD, h]
/-- an array of N2 bytes vs codes the chars cs by the coder cd -/
def CodA (cs : List Int32) (cd N2 : Int32) (vs : List Value) : Prop := (cd = 0 ∧ N2 = Int32.ofNat cs.length ∧ vs = (cs.map fun c => Value.int (lo8 c)) ∧ ∀ c ∈ cs, ¬ 255 < c) ∨ (cd = 1 ∧ N2 = Int32.ofNat (2 * cs.length) ∧ vs = wideBytes cs ∧ ∃ c ∈ cs, 255 < c)
theorem CodA.cod {cs : List Int32} {cd N2 : Int32} {vs : List Value} {V : Cell} (h : CodA cs cd N2 vs) (hn : 2 * cs.length < 2 ^ 31) (hs : V.slots.size = N2.toNatClampNeg) (hv : RoadKit.Has V vs (.int 0)) : Cod cd cs.length (fun j => cs.getD j 0) V := by
  rcases h with ⟨rfl, rfl, rfl, h⟩ | ⟨rfl, rfl, rfl, c, hc, hw⟩
  · rw [n32 (by omega)] at hs
    exact Or.inl ⟨rfl, hs, fun j hj => ⟨by rw [hv j (by omega), low_at _ _ _ hj], by
      have e : cs.getD j 0 = cs[j] := by simp [List.getD_eq_getElem?_getD, hj]
      show ¬ 255 < cs.getD j 0
      rw [e]; exact h _ (List.getElem_mem _)⟩⟩
  · rw [n32 (by omega)] at hs
    obtain ⟨j, hj, rfl⟩ := List.getElem_of_mem hc
    exact Or.inr ⟨rfl, hs, fun j hj => ⟨by rw [hv _ (by omega), wide_lo _ _ _ hj], by rw [hv _ (by omega), wide_hi _ _ _ hj]⟩, j, hj, by
      have e : cs.getD j 0 = cs[j] := by simp [List.getD_eq_getElem?_getD, hj]
      show 255 < cs.getD j 0
      rw [e]; exact hw⟩
/-- an object of exactly java/lang/String, its two fields found: as the laws ask it -/
theorem strObj {Z U : State} {a0 : Array Value} {kI : Nat} (wi : (Jvm.Cond.instantiable ST kI).before a0 Z = true) (al : Z.vm.Alike U.vm) {x : Addr} {v0 c0 : Value} (E : RoadKit.Exa Z U.heap x ST) (V : RoadKit.Fld Z U.heap x ST "value" "[B" v0) (C : RoadKit.Fld Z U.heap x ST "coder" "B" c0) :
    ∃ (D : Cell) (fV fC : Field), Blank ST x D U ∧ Found ST "value" "[B" fV U ∧ Found ST "coder" "B" fC U ∧ D.slots[fV.slot]? = some v0 ∧ D.slots[fC.slot]? = some c0 ∧ RoadKit.slotOf Z ST "value" "[B" = fV.slot ∧ RoadKit.slotOf Z ST "coder" "B" = fC.slot := by
  obtain ⟨D, cfV, kV, iV, fV, hD, gV, stV, knV, obV, asV, slV⟩ := V
  obtain ⟨D', cfC, kC, iC, fC, hD', gC, stC, -, -, asC, slC⟩ := C
  cases hD.symm.trans hD'
  obtain ⟨D2, kD, e1, e2, e3, e4, e5⟩ := E
  cases hD.symm.trans e1
  obtain ⟨c2, k2, i1, i2, i3, -⟩ := Cond.instantiable_spec wi
  cases e2.symm.trans i1
  cases e3.symm.trans i2
  obtain ⟨kU, u1, u2⟩ := al.2.2 _ _ e3
  exact ⟨D, fV, fC, ⟨hD, ⟨knV, fun q hq => by rw [hq] at obV; cases obV⟩, by rw [al.findClass]; exact e2, kU, u1, by rw [u2]; exact i3, by rw [u2]; exact e5 i3⟩, ⟨SBG.found_only al ⟨cfV, kV, iV, gV⟩, stV⟩, ⟨SBG.found_only al ⟨cfC, kC, iC, gC⟩, stC⟩, slV, slC, by simp [RoadKit.slotOf, gV], by simp [RoadKit.slotOf, gC]⟩
theorem sta_is {Z U : State} (al : Z.vm.Alike U.vm) {C n d : String} {v : Value} (S : RoadKit.Sta Z U.heap C n d v) : StaticIs U C n d v := by
  obtain ⟨cfS, iS, kS, fS, st, cS, t1, t2, t3, t4, t5, t6, t7⟩ := S
  exact StaticIs.there (s := { Z with heap := U.heap }) ⟨cfS, iS, kS, fS, st, cS, t1, t2, t3, t4, t5, (fun q => by rw [q] at t6; cases t6), t7⟩ al rfl
end StrChars.Road
namespace StrChars
open Jvm Sem ClassFile Op Lib Jvm.Stand Jvm.Free.XT Jvm.Free.ALB Jvm.Free.JM Jvm.Free
open Jvm.Lib.Cold (StaticIs)
/-- what place i of a byte[]'s cell holds -/
def yv (A : Cell) (i : Nat) : Int32 := match A.slots[i]? with | some (.int x) => x | _ => 0
theorem yv_get {a : Addr} {A : Cell} {U : State} (h : XT.Arr .byte a A U) (ht : Typed .byte A) {i : Nat} (hi : i < A.slots.size) : A.slots[i]? = some (.int (yv A i)) := by
  have e := Array.getElem?_eq_getElem hi
  have f := ht i _ e
  unfold yv; rw [e]
  generalize A.slots[i] = v at f
  cases v <;> simp [fits] at f ⊢
/-- the two arrays are equal, place for place -/
def EqC (A B : Cell) : Prop := A.slots.size = B.slots.size ∧ ∀ i, i < A.slots.size → yv A i = yv B i
/-- a boolean that says whether p -/
def Says01 (q : Prop) (r : Option Value) (s u : State) : Prop := ∃ v : Int32, r = some (.int v) ∧ u.heap = s.heap ∧ ((v = 1 ∧ q) ∨ (v = 0 ∧ ¬ q))
theorem Says01.mv {q : Prop} : ∀ r (U U' V V' : State), U'.heap = U.heap → V.vm.Alike V'.vm → V'.heap = V.heap → Says01 q r U V → Says01 q r U' V' :=
  fun r U U' V V' h1 _ h2 ⟨v, a, b, c⟩ => ⟨v, a, by rw [h1, h2]; exact b, c⟩
namespace LEq
def yN : MethodName := ⟨"java/lang/StringLatin1", "equals", "([B[B)Z"⟩
abbrev yB : ByteArray := jdk_43_method_13_code
theorem d0 : decode yB 0 = .ok (.aload_n 0, 1) := by decide +kernel
theorem d1 : decode yB 1 = .ok (.arraylength, 1) := by decide +kernel
theorem d2 : decode yB 2 = .ok (.aload_n 1, 1) := by decide +kernel
theorem d3 : decode yB 3 = .ok (.arraylength, 1) := by decide +kernel
theorem d4 : decode yB 4 = .ok (.if_icmp (.ne) 30, 3) := by decide +kernel
theorem d7 : decode yB 7 = .ok (.iconst 0, 1) := by decide +kernel
theorem d8 : decode yB 8 = .ok (.istore_n 2, 1) := by decide +kernel
theorem d9 : decode yB 9 = .ok (.iload_n 2, 1) := by decide +kernel
theorem d10 : decode yB 10 = .ok (.aload_n 0, 1) := by decide +kernel
theorem d11 : decode yB 11 = .ok (.arraylength, 1) := by decide +kernel
theorem d12 : decode yB 12 = .ok (.if_icmp (.ge) 20, 3) := by decide +kernel
theorem d15 : decode yB 15 = .ok (.aload_n 0, 1) := by decide +kernel
theorem d16 : decode yB 16 = .ok (.iload_n 2, 1) := by decide +kernel
theorem d17 : decode yB 17 = .ok (.baload, 1) := by decide +kernel
theorem d18 : decode yB 18 = .ok (.aload_n 1, 1) := by decide +kernel
theorem d19 : decode yB 19 = .ok (.iload_n 2, 1) := by decide +kernel
theorem d20 : decode yB 20 = .ok (.baload, 1) := by decide +kernel
theorem d21 : decode yB 21 = .ok (.if_icmp (.eq) 5, 3) := by decide +kernel
theorem d24 : decode yB 24 = .ok (.iconst 0, 1) := by decide +kernel
theorem d25 : decode yB 25 = .ok (.ireturn, 1) := by decide +kernel
theorem d26 : decode yB 26 = .ok (.iinc 2 1, 3) := by decide +kernel
theorem d29 : decode yB 29 = .ok (.goto (-20), 3) := by decide +kernel
theorem d32 : decode yB 32 = .ok (.iconst 1, 1) := by decide +kernel
theorem d33 : decode yB 33 = .ok (.ireturn, 1) := by decide +kernel
theorem d34 : decode yB 34 = .ok (.iconst 0, 1) := by decide +kernel
theorem d35 : decode yB 35 = .ok (.ireturn, 1) := by decide +kernel
def site : List Cond := []
def tab : Cond := tabOf yN yB 3 (some .boolean) site
def P (a : Addr) (A : Cell) (b : Addr) (B : Cell) (args : Array Value) (s : State) : Prop := args = #[.ref a, .ref b] ∧ XT.Arr .byte a A s ∧ Typed .byte A ∧ XT.Arr .byte b B s ∧ Typed .byte B
/-- whether two byte[] are equal, place for place -/
theorem law (l : Launch) (a : Addr) (A : Cell) (b : Addr) (B : Cell) : Law l yN 2 2 0 0 yB 3 (some .boolean) site (P a A b B) (Says01 (EqC A B)) [] 0 0 := by
  refine Law.of_walk (plainFor_of_name (by decide +kernel)) (by decide +kernel) (by decide +kernel) (by decide) (fun _ _ h => by rw [h.1]; rfl) (fun _ U U' hal hh h => ⟨h.1, h.2.1.mv hal hh, h.2.2.1, h.2.2.2.1.mv hal hh, h.2.2.2.2⟩) (fun r U U' V V' h1 hal h2 h => Says01.mv r U U' V V' h1 hal h2 h) ?_
  intro p e s m args below meth c s₁ X0 hexec hbytes hml hret hlk hnm hown hh0 W hP
  obtain ⟨rfl, hA, tA, hB, tB⟩ := hP
  have a31 := hA.2.2.2
  have b31 := hB.2.2.2
  have hA0 := hA.mv X0.warmed.alike hh0
  have hB0 := hB.mv X0.warmed.alike hh0
  have c1 : Steps p.tables e below (s₁.setTop (entryFrame m #[.ref a, .ref b] 3)) (s₁.setTop (mkF m 0 #[.val (.ref a), .val (.ref b), .unset] [])) := entry rfl
  have c2 : Steps p.tables e below (s₁.setTop (entryFrame m #[.ref a, .ref b] 3)) (s₁.setTop (mkF m 4 #[.val (.ref a), .val (.ref b), .unset] [.int (Int32.ofNat B.slots.size), .int (Int32.ofNat A.slots.size)])) := c1.trans (by
    refine XS.aloadN X0.here hexec rfl (hb hbytes d0) rfl rfl ?_
    refine X0.alen hexec hA0 rfl rfl (hb hbytes d1) ?_
    refine XS.aloadN X0.here hexec rfl (hb hbytes d2) rfl rfl ?_
    refine X0.alen hexec hB0 rfl rfl (hb hbytes d3) ?_
    exact Steps.refl _)
  by_cases hs : A.slots.size = B.slots.size
  · have c3 : Steps p.tables e below (s₁.setTop (entryFrame m #[.ref a, .ref b] 3)) (s₁.setTop (mkF m 9 #[.val (.ref a), .val (.ref b), .val (.int 0)] [])) := c2.trans (by
      refine XS.icmpNo X0.here hexec rfl (hb hbytes d4) rfl (ii_ne_f (by rw [hs])) ?_
      refine iconstV X0.here hexec rfl 0 (hb hbytes d7) (by decide) ?_
      refine XS.istoreN X0.here hexec rfl (hb hbytes d8) rfl rfl ?_
      exact Steps.refl _)
    have loop : ∀ (r i : Nat), i + r = A.slots.size → (∀ j, j < i → yv A j = yv B j) → Steps p.tables e below (s₁.setTop (entryFrame m #[.ref a, .ref b] 3)) (s₁.setTop (mkF m 9 #[.val (.ref a), .val (.ref b), .val (.int (Int32.ofNat i))] [])) → ∃ (pc : Nat) (Ls : Array Slot) (v : Int32), (pc = 25 ∨ pc = 33) ∧ ((v = 1 ∧ EqC A B) ∨ (v = 0 ∧ ¬ EqC A B)) ∧ Steps p.tables e below (s₁.setTop (entryFrame m #[.ref a, .ref b] 3)) (s₁.setTop (mkF m pc Ls [.int v])) := by
      intro r
      induction r with
      | zero =>
        intro i hi he cl
        exact ⟨33, _, 1, Or.inr rfl, Or.inl ⟨rfl, hs, fun j hj => he j (by omega)⟩, cl.trans (by
          refine XS.iloadN X0.here hexec rfl (hb hbytes d9) rfl ?_
          refine XS.aloadN X0.here hexec rfl (hb hbytes d10) rfl rfl ?_
          refine X0.alen hexec hA0 rfl rfl (hb hbytes d11) ?_
          refine XS.icmpYes X0.here hexec rfl (pc0 := 12) rfl (hb hbytes d12) rfl (ii_ge_t (nlt32 (by omega) (by omega))) (by decide) rfl ?_
          refine iconstV X0.here hexec rfl 1 (hb hbytes d32) (by decide) ?_
          exact Steps.refl _)⟩
      | succ r ih =>
        intro i hi he cl
        have c4 : Steps p.tables e below (s₁.setTop (entryFrame m #[.ref a, .ref b] 3)) (s₁.setTop (mkF m 21 #[.val (.ref a), .val (.ref b), .val (.int (Int32.ofNat i))] [.int (yv B i), .int (yv A i)])) := cl.trans (by
          refine XS.iloadN X0.here hexec rfl (hb hbytes d9) rfl ?_
          refine XS.aloadN X0.here hexec rfl (hb hbytes d10) rfl rfl ?_
          refine X0.alen hexec hA0 rfl rfl (hb hbytes d11) ?_
          refine XS.icmpNo X0.here hexec rfl (hb hbytes d12) rfl (ii_ge_f (lt32 (by omega) (by omega))) ?_
          refine XS.aloadN X0.here hexec rfl (hb hbytes d15) rfl rfl ?_
          refine XS.iloadN X0.here hexec rfl (hb hbytes d16) rfl ?_
          refine X0.aget hexec hA0 rfl (yv_get hA tA (i := i) (by omega)) rfl rfl (hb hbytes d17) ?_
          refine XS.aloadN X0.here hexec rfl (hb hbytes d18) rfl rfl ?_
          refine XS.iloadN X0.here hexec rfl (hb hbytes d19) rfl ?_
          refine X0.aget hexec hB0 rfl (yv_get hB tB (i := i) (by omega)) rfl rfl (hb hbytes d20) ?_
          exact Steps.refl _)
        by_cases hv : yv A i = yv B i
        · have c5 : Steps p.tables e below (s₁.setTop (entryFrame m #[.ref a, .ref b] 3)) (s₁.setTop (mkF m 9 #[.val (.ref a), .val (.ref b), .val (.int (Int32.ofNat i + 1))] [])) := c4.trans (by
            refine XS.icmpYes X0.here hexec rfl (pc0 := 21) rfl (hb hbytes d21) rfl (ii_eq_t hv) (by decide) rfl ?_
            refine iincV X0.here hexec rfl 1 (hb hbytes d26) (by decide) rfl rfl ?_
            refine XS.goto X0.here hexec rfl (pc0 := 29) rfl (hb hbytes d29) (by decide) rfl ?_
            exact Steps.refl _)
          rw [succ32] at c5
          exact ih (i + 1) (by omega) (fun j hj => by
            by_cases e : j = i
            · rw [e]; exact hv
            · exact he j (by omega)) c5
        · exact ⟨25, _, 0, Or.inl rfl, Or.inr ⟨rfl, fun q => hv (q.2 i (by omega))⟩, c4.trans (by
            refine XS.icmpNo X0.here hexec rfl (hb hbytes d21) rfl (ii_eq_f hv) ?_
            refine iconstV X0.here hexec rfl 0 (hb hbytes d24) (by decide) ?_
            exact Steps.refl _)⟩
    obtain ⟨pc, Ls, v, hpc, hv, cz⟩ := loop A.slots.size 0 (by omega) (fun j hj => absurd hj (Nat.not_lt_zero j)) c3
    have nv : narrow .boolean (.int v) = .int v := by rcases hv with ⟨rfl, -⟩ | ⟨rfl, -⟩ <;> rfl
    rcases hpc with rfl | rfl
    · exact ⟨s₁, some (.int v), _, _, _, X0, rfl, rfl, rfl, (fun h => by cases h), ⟨v, rfl, hh0, hv⟩, fun fs hl => cz.trans (X0.ireturnOut hexec hret nv (Or.inr (Or.inl rfl)) (hb hbytes d25) hl)⟩
    · exact ⟨s₁, some (.int v), _, _, _, X0, rfl, rfl, rfl, (fun h => by cases h), ⟨v, rfl, hh0, hv⟩, fun fs hl => cz.trans (X0.ireturnOut hexec hret nv (Or.inr (Or.inl rfl)) (hb hbytes d33) hl)⟩
  · have c3 : Steps p.tables e below (s₁.setTop (entryFrame m #[.ref a, .ref b] 3)) (s₁.setTop (mkF m 35 #[.val (.ref a), .val (.ref b), .unset] [.int 0])) := c2.trans (by
      refine XS.icmpYes X0.here hexec rfl (pc0 := 4) rfl (hb hbytes d4) rfl (ii_ne_t (ne32 a31 b31 hs)) (by decide) rfl ?_
      refine iconstV X0.here hexec rfl 0 (hb hbytes d34) (by decide) ?_
      exact Steps.refl _)
    exact ⟨s₁, some (.int 0), _, _, _, X0, rfl, rfl, rfl, (fun h => by cases h), ⟨0, rfl, hh0, Or.inr ⟨rfl, fun q => hs q.1⟩⟩, fun fs hl => c3.trans (X0.ireturnOut hexec hret rfl (Or.inr (Or.inl rfl)) (hb hbytes d35) hl)⟩
end LEq
theorem Cod.ty {cd : Int32} {n : Nat} {f : Nat → Int32} {V : Cell} (h : Cod cd n f V) : Typed .byte V := fun i v hv => by
  have hi : i < V.slots.size := (Array.getElem?_eq_some_iff.mp hv).1
  rcases h with ⟨-, k1, k2⟩ | ⟨-, k1, k2, -⟩
  · rw [(k2 i (by omega)).1] at hv; cases hv; exact fits_lo8 _
  · rcases Nat.mod_two_eq_zero_or_one i with e | e
    · obtain ⟨j, rfl⟩ : ∃ j, i = 2 * j := ⟨i / 2, by omega⟩
      rw [(k2 j (by omega)).1] at hv; cases hv; exact fits_lo8 _
    · obtain ⟨j, rfl⟩ : ∃ j, i = 2 * j + 1 := ⟨i / 2, by omega⟩
      rw [(k2 j (by omega)).2] at hv; cases hv; exact fits_lo8 _
/-- the same text -/
def SameT (n : Nat) (f : Nat → Int32) (k : Nat) (g : Nat → Int32) : Prop := n = k ∧ ∀ j, j < n → f j = g j
theorem lo8_inj {x y : Int32} (h0 : ¬ x < 0) (h1 : ¬ 255 < x) (k0 : ¬ y < 0) (k1 : ¬ 255 < y) (h : lo8 x = lo8 y) : x = y := by
  rw [← lo8_mask h0 h1, ← lo8_mask k0 k1, h]
/-- arrays coded by one coder are equal just where the texts are -/
theorem Cod.eqv {cd : Int32} {n k : Nat} {f g : Nat → Int32} {V V' : Cell} (h : Cod cd n f V) (h' : Cod cd k g V') (hf : ∀ j, j < n → ¬ f j < 0 ∧ ¬ 65535 < f j) (hg : ∀ j, j < k → ¬ g j < 0 ∧ ¬ 65535 < g j) : EqC V V' ↔ SameT n f k g := by
  have yvv : ∀ {W : Cell} {i : Nat} {x : Int32}, W.slots[i]? = some (.int x) → yv W i = x := fun q => by unfold yv; rw [q]
  rcases h with ⟨rfl, k1, k2⟩ | ⟨rfl, k1, k2, -⟩
  · rcases h' with ⟨-, m1, m2⟩ | ⟨e, -⟩
    · constructor
      · rintro ⟨e1, e2⟩
        refine ⟨by omega, fun j hj => ?_⟩
        have q := e2 j (by omega)
        rw [yvv (k2 j hj).1, yvv (m2 j (by omega)).1] at q
        exact lo8_inj (hf j hj).1 (k2 j hj).2 (hg j (by omega)).1 (m2 j (by omega)).2 q
      · rintro ⟨rfl, e2⟩
        refine ⟨by omega, fun j hj => ?_⟩
        rw [yvv (k2 j (by omega)).1, yvv (m2 j (by omega)).1, e2 j (by omega)]
    · exact absurd e (by decide)
  · rcases h' with ⟨e, -⟩ | ⟨-, m1, m2, -⟩
    · exact absurd e (by decide)
    · constructor
      · rintro ⟨e1, e2⟩
        refine ⟨by omega, fun j hj => ?_⟩
        have q1 := e2 (2 * j) (by omega)
        have q2 := e2 (2 * j + 1) (by omega)
        rw [yvv (k2 j hj).1, yvv (m2 j (by omega)).1] at q1
        rw [yvv (k2 j hj).2, yvv (m2 j (by omega)).2] at q2
        rw [← pair_says (hf j hj).1 (hf j hj).2, ← pair_says (hg j (by omega)).1 (hg j (by omega)).2, q1, q2]
      · rintro ⟨rfl, e2⟩
        refine ⟨by omega, fun i hi => ?_⟩
        rcases Nat.mod_two_eq_zero_or_one i with e | e
        · obtain ⟨j, rfl⟩ : ∃ j, i = 2 * j := ⟨i / 2, by omega⟩
          rw [yvv (k2 j (by omega)).1, yvv (m2 j (by omega)).1, e2 j (by omega)]
        · obtain ⟨j, rfl⟩ : ∃ j, i = 2 * j + 1 := ⟨i / 2, by omega⟩
          rw [yvv (k2 j (by omega)).2, yvv (m2 j (by omega)).2, e2 j (by omega)]
/-- two codings differ: so do the texts -/
theorem Cod.dif {cd cd' : Int32} {n k : Nat} {f g : Nat → Int32} {V V' : Cell} (h : Cod cd n f V) (h' : Cod cd' k g V') (hne : ¬ cd = cd') : ¬ SameT n f k g := by
  rintro ⟨rfl, e⟩
  rcases h with ⟨rfl, -, k2⟩ | ⟨rfl, -, -, j, hj, hw⟩
  · rcases h' with ⟨rfl, -⟩ | ⟨-, -, -, j, hj, hw⟩
    · exact hne rfl
    · exact (k2 j hj).2 (by rw [e j hj]; exact hw)
  · rcases h' with ⟨-, -, m2⟩ | ⟨rfl, -⟩
    · exact (m2 j hj).2 (by rw [← e j hj]; exact hw)
    · exact hne rfl
/-- an object of exactly C is an instance of C -/
theorem cinst {p : Program} {l : Launch} {e : Env} {R : Room} {s : State} {m : MethodId} {args : Array Value} {below : List Frame} {meth : Method} {c : Code} {T : State} {locs : List Loc} {cells slots : Nat} (X : Stand p l e R s m args below meth c T locs cells slots) (hexec : p.tables.exec = Jvm.exec) {own C : String} {index : Nat} (hown : s.vm.findClass own = some m.cls) (hlink : (Cond.classLink own index C).before args s = true) {a : Addr} (hE : Exact C a T)
    {g : JFrame} (hg : g.method = m) {rest : List Value} (hstack : g.stack = .ref a :: rest) (hdg : decode c.code g.pc = .ok (.instanceof index, 3)) :
    ∃ T', Stand p l e R s m args below meth c T' locs cells slots ∧ T'.heap = T.heap ∧ ∀ target, Steps p.tables e below (T'.setTop { g with pc := g.pc + 3, stack := .int 1 :: rest }) target → Steps p.tables e below (T.setTop g) target := by
  obtain ⟨cB, h1, D, h2, h3, h4⟩ := hE
  have h1' : s.vm.findClass C = some cB := by rw [← X.warmed.alike.findClass]; exact h1
  obtain ⟨vm', X', st⟩ := X.instanceofYes hexec hown hlink h2 h4 h1' (by rw [h3]; exact Jvm.Free.SB.assignable_self _ _) hg hstack hdg
  exact ⟨_, X', rfl, st⟩
theorem cself {p : Program} {l : Launch} {e : Env} {R : Room} {s : State} {m : MethodId} {args : Array Value} {below : List Frame} {meth : Method} {c : Code} {T : State} {locs : List Loc} {cells slots : Nat} (X : Stand p l e R s m args below meth c T locs cells slots) (hexec : p.tables.exec = Jvm.exec) {own C : String} {index : Nat} (hown : s.vm.findClass own = some m.cls) (hlink : (Cond.classLink own index C).before args s = true) {a : Addr} (hE : Exact C a T)
    {g : JFrame} (hg : g.method = m) {rest : List Value} (hstack : g.stack = .ref a :: rest) (hdg : decode c.code g.pc = .ok (.checkcast index, 3)) :
    ∃ T', Stand p l e R s m args below meth c T' locs cells slots ∧ T'.heap = T.heap ∧ ∀ target, Steps p.tables e below (T'.setTop { g with pc := g.pc + 3, stack := .ref a :: rest }) target → Steps p.tables e below (T.setTop g) target := by
  obtain ⟨cB, h1, D, h2, h3, h4⟩ := hE
  have h1' : s.vm.findClass C = some cB := by rw [← X.warmed.alike.findClass]; exact h1
  obtain ⟨vm', X', st⟩ := X.checkcastYes hexec hown hlink h2 h4 h1' (by rw [h3]; exact Jvm.Free.SB.assignable_self _ _) hg hstack hdg
  exact ⟨_, X', rfl, fun t h => st t (by rw [← hstack] at h; exact h)⟩
namespace SEq
def yN : MethodName := ⟨"java/lang/String", "equals", "(Ljava/lang/Object;)Z"⟩
abbrev yB : ByteArray := jdk_42_method_66_code
theorem d0 : decode yB 0 = .ok (.aload_n 0, 1) := by decide +kernel
theorem d1 : decode yB 1 = .ok (.aload_n 1, 1) := by decide +kernel
theorem d2 : decode yB 2 = .ok (.if_acmp (.ne) 5, 3) := by decide +kernel
theorem d5 : decode yB 5 = .ok (.iconst 1, 1) := by decide +kernel
theorem d6 : decode yB 6 = .ok (.ireturn, 1) := by decide +kernel
theorem d7 : decode yB 7 = .ok (.aload_n 1, 1) := by decide +kernel
theorem d8 : decode yB 8 = .ok (.instanceof 10, 3) := by decide +kernel
theorem d11 : decode yB 11 = .ok (.ifCond (.eq) 43, 3) := by decide +kernel
theorem d14 : decode yB 14 = .ok (.aload_n 1, 1) := by decide +kernel
theorem d15 : decode yB 15 = .ok (.checkcast 10, 3) := by decide +kernel
theorem d18 : decode yB 18 = .ok (.astore_n 2, 1) := by decide +kernel
theorem d19 : decode yB 19 = .ok (.getstatic 38, 3) := by decide +kernel
theorem d22 : decode yB 22 = .ok (.ifCond (.eq) 14, 3) := by decide +kernel
theorem d25 : decode yB 25 = .ok (.aload_n 0, 1) := by decide +kernel
theorem d26 : decode yB 26 = .ok (.getfield 15, 3) := by decide +kernel
theorem d29 : decode yB 29 = .ok (.aload_n 2, 1) := by decide +kernel
theorem d30 : decode yB 30 = .ok (.getfield 15, 3) := by decide +kernel
theorem d33 : decode yB 33 = .ok (.if_icmp (.ne) 21, 3) := by decide +kernel
theorem d36 : decode yB 36 = .ok (.aload_n 0, 1) := by decide +kernel
theorem d37 : decode yB 37 = .ok (.getfield 9, 3) := by decide +kernel
theorem d40 : decode yB 40 = .ok (.aload_n 2, 1) := by decide +kernel
theorem d41 : decode yB 41 = .ok (.getfield 9, 3) := by decide +kernel
theorem d44 : decode yB 44 = .ok (.invokestatic 541, 3) := by decide +kernel
theorem d47 : decode yB 47 = .ok (.ifCond (.eq) 7, 3) := by decide +kernel
theorem d50 : decode yB 50 = .ok (.iconst 1, 1) := by decide +kernel
theorem d51 : decode yB 51 = .ok (.goto 4, 3) := by decide +kernel
theorem d54 : decode yB 54 = .ok (.iconst 0, 1) := by decide +kernel
theorem d55 : decode yB 55 = .ok (.ireturn, 1) := by decide +kernel
def site : List Cond := [.classLink "java/lang/String" 10 "java/lang/String", .fieldLink "java/lang/String" 38 "java/lang/String" "COMPACT_STRINGS" "Z", .fieldLink "java/lang/String" 15 "java/lang/String" "coder" "B", .fieldLink "java/lang/String" 9 "java/lang/String" "value" "[B", LEq.tab] ++ staticW "java/lang/String" 541 LEq.yN
def tab : Cond := tabOf yN yB 3 (some .boolean) site
def P (x t : Addr) (V : Cell) (cd : Int32) (n : Nat) (f : Nat → Int32) (y t' : Addr) (V' : Cell) (cd' : Int32) (k : Nat) (g : Nat → Int32) (z : Int32) (args : Array Value) (s : State) : Prop := args = #[.ref x, .ref y] ∧ Txt x t V cd n f s ∧ Txt y t' V' cd' k g s ∧ StaticIs s "java/lang/String" "COMPACT_STRINGS" "Z" (.int z) ∧ ¬ z = 0
/-- equals(Object) of two Strings: whether the texts are the same -/
theorem law (l : Launch) (x t : Addr) (V : Cell) (cd : Int32) (n : Nat) (f : Nat → Int32) (y t' : Addr) (V' : Cell) (cd' : Int32) (k : Nat) (g : Nat → Int32) (z : Int32) : Law l yN 2 1 1 14 yB 3 (some .boolean) site (P x t V cd n f y t' V' cd' k g z) (Says01 (SameT n f k g)) [] 0 0 := by
  refine Law.of_walk (plainFor_of_name (by decide +kernel)) (by decide +kernel) (by decide +kernel) (by decide) (fun _ _ h => by rw [h.1]; rfl) (fun _ U U' hal hh h => ⟨h.1, h.2.1.mv hal hh, h.2.2.1.mv hal hh, h.2.2.2.1.there hal hh, h.2.2.2.2⟩) (fun r U U' V V' h1 hal h2 h => Says01.mv r U U' V V' h1 hal h2 h) ?_
  intro p e s m args below meth c s₁ X0 hexec hbytes hml hret hlk hnm hown hh0 W hP
  obtain ⟨rfl, hx, hy, s1, hz⟩ := hP
  have c1 : Steps p.tables e below (s₁.setTop (entryFrame m #[.ref x, .ref y] 3)) (s₁.setTop (mkF m 2 #[.val (.ref x), .val (.ref y), .unset] [.ref y, .ref x])) := Steps.trans (entry rfl) (by
    show Steps p.tables e below (s₁.setTop (mkF m 0 #[.val (.ref x), .val (.ref y), .unset] [])) _
    refine XS.aloadN X0.here hexec rfl (hb hbytes d0) rfl rfl ?_
    refine XS.aloadN X0.here hexec rfl (hb hbytes d1) rfl rfl ?_
    exact Steps.refl _)
  by_cases hxy : x = y
  · have c2 : Steps p.tables e below (s₁.setTop (entryFrame m #[.ref x, .ref y] 3)) (s₁.setTop (mkF m 6 #[.val (.ref x), .val (.ref y), .unset] [.int 1])) := c1.trans (by
      refine acmpNo X0.here hexec rfl (hb hbytes d2) rfl rfl rfl (by simp [acmp, hxy]) ?_
      refine iconstV X0.here hexec rfl 1 (hb hbytes d5) (by decide) ?_
      exact Steps.refl _)
    subst hxy
    have ec : cd = cd' := by
      obtain ⟨D, fd, a1, a2, a3⟩ := hx.2.2.1
      obtain ⟨D', fd', b1, b2, b3⟩ := hy.2.2.1
      cases a1.symm.trans b1
      obtain ⟨q1, q2, q3, q4⟩ := a2.1
      obtain ⟨r1, r2, r3, r4⟩ := b2.1
      cases q4.symm.trans r4
      cases a3.symm.trans b3; rfl
    have et : t = t' := by
      obtain ⟨D, fd, a1, a2, a3⟩ := hx.2.1
      obtain ⟨D', fd', b1, b2, b3⟩ := hy.2.1
      cases a1.symm.trans b1
      obtain ⟨q1, q2, q3, q4⟩ := a2.1
      obtain ⟨r1, r2, r3, r4⟩ := b2.1
      cases q4.symm.trans r4
      cases a3.symm.trans b3; rfl
    subst ec et
    have ev : V = V' := by cases hx.2.2.2.1.1.symm.trans hy.2.2.2.1.1; rfl
    subst ev
    have hs : SameT n f k g := (Cod.eqv hx.2.2.2.2.1 hy.2.2.2.2.1 hx.2.2.2.2.2 hy.2.2.2.2.2).mp ⟨rfl, fun _ _ => rfl⟩
    exact ⟨s₁, some (.int 1), _, _, _, X0, rfl, rfl, rfl, (fun h => by cases h), ⟨1, rfl, hh0, Or.inl ⟨rfl, hs⟩⟩, fun fs hl => c2.trans (X0.ireturnOut hexec hret rfl (Or.inr (Or.inl rfl)) (hb hbytes d6) hl)⟩
  · have c2 : Steps p.tables e below (s₁.setTop (entryFrame m #[.ref x, .ref y] 3)) (s₁.setTop (mkF m 8 #[.val (.ref x), .val (.ref y), .unset] [.ref y])) := c1.trans (by
      refine acmpYes X0.here hexec rfl (pc0 := 2) rfl (hb hbytes d2) rfl rfl rfl (by simp [acmp, hxy]) (by decide) rfl ?_
      refine XS.aloadN X0.here hexec rfl (hb hbytes d7) rfl rfl ?_
      exact Steps.refl _)
    obtain ⟨T3, X3, q3, st3⟩ := cinst X0 hexec hown (wk W (.classLink "java/lang/String" 10 "java/lang/String")) (hy.mv X0.warmed.alike hh0).1 (g := (mkF m 8 #[.val (.ref x), .val (.ref y), .unset] [.ref y])) rfl (rest := []) rfl (hb hbytes d8)
    have hh3 := q3.trans hh0
    have c4 : Steps p.tables e below (s₁.setTop (entryFrame m #[.ref x, .ref y] 3)) (T3.setTop (mkF m 15 #[.val (.ref x), .val (.ref y), .unset] [.ref y])) := (c2.trans (st3 _ (Steps.refl _))).trans (by
      refine XS.ifNo X3.here hexec rfl (hb hbytes d11) rfl (i0_eq_f (by decide)) ?_
      refine XS.aloadN X3.here hexec rfl (hb hbytes d14) rfl rfl ?_
      exact Steps.refl _)
    obtain ⟨T5, X5, q5, st5⟩ := cself X3 hexec hown (wk W (.classLink "java/lang/String" 10 "java/lang/String")) (hy.mv X3.warmed.alike hh3).1 (g := (mkF m 15 #[.val (.ref x), .val (.ref y), .unset] [.ref y])) rfl (rest := []) rfl (hb hbytes d15)
    have hh5 := q5.trans hh3
    have c6 : Steps p.tables e below (s₁.setTop (entryFrame m #[.ref x, .ref y] 3)) (T5.setTop (mkF m 19 #[.val (.ref x), .val (.ref y), .val (.ref y)] [])) := (c4.trans (st5 _ (Steps.refl _))).trans (by
      refine XS.astoreN X5.here hexec rfl (hb hbytes d18) rfl rfl rfl ?_
      exact Steps.refl _)
    obtain ⟨T7, X7, q7, st7⟩ := X5.sget hexec hown (wk W (.fieldLink "java/lang/String" 38 "java/lang/String" "COMPACT_STRINGS" "Z")) s1 (fun _ _ h => by rw [hh5]; exact h) (g := (mkF m 19 #[.val (.ref x), .val (.ref y), .val (.ref y)] [])) rfl (hb hbytes d19)
    have hh7 := q7.trans hh5
    have c8 : Steps p.tables e below (s₁.setTop (entryFrame m #[.ref x, .ref y] 3)) (T7.setTop (mkF m 26 #[.val (.ref x), .val (.ref y), .val (.ref y)] [.ref x])) := (c6.trans (st7 _ (Steps.refl _))).trans (by
      refine XS.ifNo X7.here hexec rfl (hb hbytes d22) rfl (i0_eq_f hz) ?_
      refine XS.aloadN X7.here hexec rfl (hb hbytes d25) rfl rfl ?_
      exact Steps.refl _)
    obtain ⟨T9, X9, q9, st9⟩ := X7.hget hexec hown (wk W (.fieldLink "java/lang/String" 15 "java/lang/String" "coder" "B")) (hx.mv X7.warmed.alike hh7).2.2.1 (g := (mkF m 26 #[.val (.ref x), .val (.ref y), .val (.ref y)] [.ref x])) rfl (rest := []) rfl (hb hbytes d26)
    have hh9 := q9.trans hh7
    have c10 : Steps p.tables e below (s₁.setTop (entryFrame m #[.ref x, .ref y] 3)) (T9.setTop (mkF m 30 #[.val (.ref x), .val (.ref y), .val (.ref y)] [.ref y, .int cd])) := (c8.trans (st9 _ (Steps.refl _))).trans (by
      refine XS.aloadN X9.here hexec rfl (hb hbytes d29) rfl rfl ?_
      exact Steps.refl _)
    obtain ⟨T11, X11, q11, st11⟩ := X9.hget hexec hown (wk W (.fieldLink "java/lang/String" 15 "java/lang/String" "coder" "B")) (hy.mv X9.warmed.alike hh9).2.2.1 (g := (mkF m 30 #[.val (.ref x), .val (.ref y), .val (.ref y)] [.ref y, .int cd])) rfl (rest := [.int cd]) rfl (hb hbytes d30)
    have hh11 := q11.trans hh9
    have c12 : Steps p.tables e below (s₁.setTop (entryFrame m #[.ref x, .ref y] 3)) (T11.setTop (mkF m 33 #[.val (.ref x), .val (.ref y), .val (.ref y)] [.int cd', .int cd])) := c10.trans (st11 _ (Steps.refl _))
    by_cases hcd : cd = cd'
    · subst hcd
      have c13 : Steps p.tables e below (s₁.setTop (entryFrame m #[.ref x, .ref y] 3)) (T11.setTop (mkF m 37 #[.val (.ref x), .val (.ref y), .val (.ref y)] [.ref x])) := c12.trans (by
        refine XS.icmpNo X11.here hexec rfl (hb hbytes d33) rfl (ii_ne_f rfl) ?_
        refine XS.aloadN X11.here hexec rfl (hb hbytes d36) rfl rfl ?_
        exact Steps.refl _)
      obtain ⟨T14, X14, q14, st14⟩ := X11.hget hexec hown (wk W (.fieldLink "java/lang/String" 9 "java/lang/String" "value" "[B")) (hx.mv X11.warmed.alike hh11).2.1 (g := (mkF m 37 #[.val (.ref x), .val (.ref y), .val (.ref y)] [.ref x])) rfl (rest := []) rfl (hb hbytes d37)
      have hh14 := q14.trans hh11
      have c15 : Steps p.tables e below (s₁.setTop (entryFrame m #[.ref x, .ref y] 3)) (T14.setTop (mkF m 41 #[.val (.ref x), .val (.ref y), .val (.ref y)] [.ref y, .ref t])) := (c13.trans (st14 _ (Steps.refl _))).trans (by
        refine XS.aloadN X14.here hexec rfl (hb hbytes d40) rfl rfl ?_
        exact Steps.refl _)
      obtain ⟨T16, X16, q16, st16⟩ := X14.hget hexec hown (wk W (.fieldLink "java/lang/String" 9 "java/lang/String" "value" "[B")) (hy.mv X14.warmed.alike hh14).2.1 (g := (mkF m 41 #[.val (.ref x), .val (.ref y), .val (.ref y)] [.ref y, .ref t])) rfl (rest := [.ref t]) rfl (hb hbytes d41)
      have hh16 := q16.trans hh14
      have c17 : Steps p.tables e below (s₁.setTop (entryFrame m #[.ref x, .ref y] 3)) (T16.setTop (mkF m 44 #[.val (.ref x), .val (.ref y), .val (.ref y)] [.ref t', .ref t])) := c15.trans (st16 _ (Steps.refl _))
      obtain ⟨v18, T18, X18, E18, g18⟩ := X16.callS hexec (LEq.law l t V t' V') hown (wks W (staticW "java/lang/String" 541 LEq.yN)) (wk W LEq.tab) (W := 0) (Nat.le_of_ble_eq_true rfl) (Nat.le_of_ble_eq_true rfl) (Nat.le_refl _) (Nat.le_refl _) (g := (mkF m 44 #[.val (.ref x), .val (.ref y), .val (.ref y)] [.ref t', .ref t])) rfl (by rw [hml]; rfl) c17 (argsL := [.ref t, .ref t']) (rest := []) rfl rfl (by show 2 * 0 + 0 ≤ _; decide) (hb hbytes d44) (⟨rfl, hx.2.2.2.1.mv X16.warmed.alike hh16, hx.2.2.2.2.1.ty, hy.2.2.2.1.mv X16.warmed.alike hh16, hy.2.2.2.2.1.ty⟩)
      obtain ⟨v, rfl, q18, hv⟩ := E18
      have iff := Cod.eqv hx.2.2.2.2.1 hy.2.2.2.2.1 hx.2.2.2.2.2 hy.2.2.2.2.2
      rcases hv with ⟨rfl, he⟩ | ⟨rfl, he⟩
      · have c19 : Steps p.tables e below (s₁.setTop (entryFrame m #[.ref x, .ref y] 3)) (T18.setTop (mkF m 55 #[.val (.ref x), .val (.ref y), .val (.ref y)] [.int 1])) := Steps.trans g18 (by
          refine XS.ifNo X18.here hexec rfl (hb hbytes d47) rfl (i0_eq_f (by decide)) ?_
          refine iconstV X18.here hexec rfl 1 (hb hbytes d50) (by decide) ?_
          refine XS.goto X18.here hexec rfl (pc0 := 51) rfl (hb hbytes d51) (by decide) rfl ?_
          exact Steps.refl _)
        exact ⟨T18, some (.int 1), _, _, _, X18, rfl, rfl, rfl, (fun h => by cases h), ⟨1, rfl, q18.trans hh16, Or.inl ⟨rfl, iff.mp he⟩⟩, fun fs hl => c19.trans (X18.ireturnOut hexec hret rfl (Or.inr (Or.inl rfl)) (hb hbytes d55) hl)⟩
      · have c19 : Steps p.tables e below (s₁.setTop (entryFrame m #[.ref x, .ref y] 3)) (T18.setTop (mkF m 55 #[.val (.ref x), .val (.ref y), .val (.ref y)] [.int 0])) := Steps.trans g18 (by
          refine XS.ifYes X18.here hexec rfl (pc0 := 47) rfl (hb hbytes d47) rfl (i0_eq_t rfl) (by decide) rfl ?_
          refine iconstV X18.here hexec rfl 0 (hb hbytes d54) (by decide) ?_
          exact Steps.refl _)
        exact ⟨T18, some (.int 0), _, _, _, X18, rfl, rfl, rfl, (fun h => by cases h), ⟨0, rfl, q18.trans hh16, Or.inr ⟨rfl, fun q => he (iff.mpr q)⟩⟩, fun fs hl => c19.trans (X18.ireturnOut hexec hret rfl (Or.inr (Or.inl rfl)) (hb hbytes d55) hl)⟩
    · have c13 : Steps p.tables e below (s₁.setTop (entryFrame m #[.ref x, .ref y] 3)) (T11.setTop (mkF m 55 #[.val (.ref x), .val (.ref y), .val (.ref y)] [.int 0])) := c12.trans (by
        refine XS.icmpYes X11.here hexec rfl (pc0 := 33) rfl (hb hbytes d33) rfl (ii_ne_t hcd) (by decide) rfl ?_
        refine iconstV X11.here hexec rfl 0 (hb hbytes d54) (by decide) ?_
        exact Steps.refl _)
      exact ⟨T11, some (.int 0), _, _, _, X11, rfl, rfl, rfl, (fun h => by cases h), ⟨0, rfl, hh11, Or.inr ⟨rfl, Cod.dif hx.2.2.2.2.1 hy.2.2.2.2.1 hcd⟩⟩, fun fs hl => c13.trans (X11.ireturnOut hexec hret rfl (Or.inr (Or.inl rfl)) (hb hbytes d55) hl)⟩
theorem pays {l : Launch} {R : Room} {p : Program} {e : Env} {below : List Frame} {s : State} {sargs : Array Value} {len W : Nat} (x t : Addr) (V : Cell) (cd : Int32) (n : Nat) (f : Nat → Int32) (y t' : Addr) (V' : Cell) (cd' : Int32) (k : Nat) (g : Nat → Int32) (z : Int32) (htab : tab.before sargs s = true) (hfr : 2 ≤ R.frames) (hlo : W + 28 ≤ R.locals) :
    Back l R p e below s sargs yN len W (fun A₁ a₁ => A₁.cells + 0 ≤ R.cells ∧ A₁.slots + 0 ≤ R.slots ∧ P x t V cd n f y t' V' cd' k g z a₁ A₁.U) (fun A₁ _ v₁ B₁ => Says01 (SameT n f k g) v₁ A₁.U B₁.U ∧ B₁.locs = A₁.locs ++ [] ∧ B₁.cells = A₁.cells + 0 ∧ B₁.slots = A₁.slots + 0) :=
  (law l x t V cd n f y t' V' cd' k g z).pays htab hfr (by omega)
end SEq
end StrChars
namespace StrChars.Road
open Jvm Sem ClassFile Op Lib Jvm.Stand Jvm.Free Jvm.Free.XT
open Jvm.Lib.Cold (StaticIs)
/-- the words of String.equals(Object) -/
abbrev wordsEq : List Jvm.Cond := [.code SEq.yN SEq.yB 3 (some .boolean), .initialized ST, .classLink ST 10 ST, .fieldLink ST 38 ST "COMPACT_STRINGS" "Z", .fieldLink ST 15 ST "coder" "B", .fieldLink ST 9 ST "value" "[B", .methodLink ST 541 LEq.yN, .static LEq.yN, .code LEq.yN LEq.yB 3 (some .boolean), .initialized "java/lang/StringLatin1"]
theorem tabEq_of {a : Array Value} {s : State} (h : ∀ w ∈ wordsEq, w.before a s = true) : SEq.tab.before a s = true := by
  have hl : LEq.tab.before a s = true := unparts (wk h (.code LEq.yN LEq.yB 3 (some .boolean))) (wks h (.initialized LEq.yN.cls :: LEq.site))
  have q := consq hl h
  exact unparts (wk q (.code SEq.yN SEq.yB 3 (some .boolean))) (wks q (.initialized SEq.yN.cls :: SEq.site))
theorem movedEq {Z s : State} {a0 args : Array Value} (hZ : Z.Warmed39 s.vm) (hw : ∀ d ∈ wordsEq, d.before a0 Z = true) : ∀ d ∈ wordsEq, d.before args s = true := fun d hd => by
  have t : ∀ d ∈ wordsEq, (d.onTables && d.keepsFace) = true := by decide +kernel
  exact RoadKit.mv hZ (hw d hd) (t d hd)
/-- the road's facts of a String, as the laws ask it -/
theorem txt_of {Z U : State} {a0 : Array Value} {kI : Nat} (wi : (Jvm.Cond.instantiable ST kI).before a0 Z = true) (al : Z.vm.Alike U.vm) {x t : Addr} {kb : ClassId} {cs : List Int32} {cd N2 : Int32} {vs : List Value} (E : RoadKit.Exa Z U.heap x ST) (V : RoadKit.Fld Z U.heap x ST "value" "[B" (.ref t)) (C : RoadKit.Fld Z U.heap x ST "coder" "B" (.int cd)) (K : RoadKit.Arv Z U.heap t kb .byte N2 vs (.int 0)) (hc : CodA cs cd N2 vs) (hb : ∀ c ∈ cs, ¬ c < 0 ∧ ¬ (65535 : Int32) < c) (l2 : cs.length ≤ 4000) :
    ∃ A, Txt x t A cd cs.length (fun j => cs.getD j 0) U := by
  obtain ⟨A, K1, K2, K3, K4, K5, K6⟩ := K
  have hcod := hc.cod (by omega) K3 K5
  obtain ⟨D, fV, fC, hB, F1, F2, g1, g2, -, -⟩ := strObj wi al E V C
  exact ⟨A, ⟨_, hB.2.2.1, D, hB.1, rfl, by cases q : D.vm <;> first | rfl | exact absurd q (hB.2.1.2 _)⟩, Has.of hB F1 g1, Has.of hB F2 g2, ⟨K1.1, State.isArrayOf_alike al K1.2.1, K1.2.2, by rcases hcod with ⟨-, q, -⟩ | ⟨-, q, -⟩ <;> omega⟩, hcod, fun j hj => by
    have e : cs.getD j 0 = cs[j] := by simp [List.getD_eq_getElem?_getD, hj]
    show ¬ cs.getD j 0 < 0 ∧ ¬ 65535 < cs.getD j 0
    rw [e]; exact hb _ (List.getElem_mem _)⟩
theorem same_list (cs ds : List Int32) : SameT cs.length (fun j => cs.getD j 0) ds.length (fun j => ds.getD j 0) ↔ cs = ds := by
  constructor
  · rintro ⟨e, q⟩
    refine List.ext_getElem e fun j h1 h2 => ?_
    have := q j h1
    simpa [List.getD_eq_getElem?_getD, h1, h2] using this
  · rintro rfl
    exact ⟨rfl, fun _ _ => rfl⟩
/-- **equals(Object) OF TWO SUCH STRINGS**: 1 just where the chars are the same -/
theorem eqW {p : Program} {l : Launch} {e : Env} {R : Room} {s : State} {args : Array Value} {below : List Frame} {len W : Nat} {Z : State} {a0 : Array Value} {h : Heap} (hZ : Z.Warmed39 s.vm) (hw : ∀ d ∈ wordsEq, d.before a0 Z = true) {kI : Nat} (wi : (Jvm.Cond.instantiable ST kI).before a0 Z = true)
    {x t : Addr} {kb : ClassId} {cs : List Int32} {cd N2 : Int32} {vs : List Value} (E : RoadKit.Exa Z h x ST) (V : RoadKit.Fld Z h x ST "value" "[B" (.ref t)) (C : RoadKit.Fld Z h x ST "coder" "B" (.int cd)) (K : RoadKit.Arv Z h t kb .byte N2 vs (.int 0)) (hc : CodA cs cd N2 vs) (hb : ∀ c ∈ cs, ¬ c < 0 ∧ ¬ (65535 : Int32) < c) (l2 : cs.length ≤ 4000)
    {y t' : Addr} {kb' : ClassId} {ds : List Int32} {cd' N2' : Int32} {vs' : List Value} (E' : RoadKit.Exa Z h y ST) (V' : RoadKit.Fld Z h y ST "value" "[B" (.ref t')) (C' : RoadKit.Fld Z h y ST "coder" "B" (.int cd')) (K' : RoadKit.Arv Z h t' kb' .byte N2' vs' (.int 0)) (hc' : CodA ds cd' N2' vs') (hb' : ∀ c ∈ ds, ¬ c < 0 ∧ ¬ (65535 : Int32) < c) (l2' : ds.length ≤ 4000)
    {z : Int32} (S : RoadKit.Sta Z h ST "COMPACT_STRINGS" "Z" (.int z)) (hz : ¬ z = 0) (hfr : 2 ≤ R.frames) (hlo : W + 28 ≤ R.locals) :
    Back l R p e below s args (⟨"java/lang/String", "equals", "(Ljava/lang/Object;)Z"⟩ : MethodName) len W (fun P a => a = #[.ref x, .ref y] ∧ P.U.heap = h ∧ P.cells + 0 ≤ R.cells ∧ P.slots + 0 ≤ R.slots)
      (fun P _ v B => ∃ L, (((v = some (.int 1) ∧ cs = ds) ∨ (v = some (.int 0) ∧ ¬ cs = ds)) ∧ L = [] ∧ B.U.heap = h) ∧ B.locs = P.locs ++ L ∧ B.cells = P.cells + 0 ∧ B.slots = P.slots + 0) := by
  intro m meth c P g ig mk a X hg hsize hdg hW hn hp'
  obtain ⟨rfl, rfl, r1, r2⟩ := hp'
  have al : Z.vm.Alike P.U.vm := hZ.alike.trans X.warmed.alike
  obtain ⟨A, hx⟩ := txt_of wi al E V C K hc hb l2
  obtain ⟨A', hy⟩ := txt_of wi al E' V' C' K' hc' hb' l2'
  obtain ⟨v, B, X', ⟨⟨w, hv, hh, hq⟩, hl, hk, hs⟩, st⟩ := SEq.pays x t A cd cs.length (fun j => cs.getD j 0) y t' A' cd' ds.length (fun j => ds.getD j 0) z (tabEq_of (movedEq hZ hw)) hfr hlo m meth c P g ig mk _ X hg hsize hdg hW hn ⟨r1, r2, rfl, hx, hy, sta_is al S, hz⟩
  refine ⟨v, B, X', ⟨[], ⟨?_, rfl, hh⟩, hl, hk, hs⟩, st⟩
  rcases hq with ⟨rfl, q⟩ | ⟨rfl, q⟩
  · exact Or.inl ⟨hv, (same_list cs ds).mp q⟩
  · exact Or.inr ⟨hv, fun e => q ((same_list cs ds).mpr e)⟩
end StrChars.Road
namespace StrChars.Road
open Jvm Sem ClassFile Op Lib Jvm.Stand Jvm.Free Jvm.Free.XT
open Jvm.Lib.Cold (StaticIs)
/-- what backV says of its String, as the contracts of this text ask it: cs's low bytes, coder 0 -/
theorem codOf {cs : List Int32} {n : Nat} (hn : cs.length = n) (hb : ∀ c ∈ cs, ¬ 255 < c) : CodA cs 0 (Int32.ofNat n) ((cs.map lo8).map Value.int) := Or.inl ⟨rfl, by rw [hn], by simp [List.map_map, Function.comp_def], hb⟩
end StrChars.Road
end Jvm.Pilot.@@N@@
namespace Jvm.Pilot.@@N@@
open Jvm Jvm.ClassFile Sem Op Lib Jvm.Free Jvm.Stand Jvm.LawKit Jvm.RoadKit Bundle Jvm.Pilot.@@N@@.Jvm.D
theorem own_nW {sf : List Addr} : ∀ x ∈ ([] : List Addr), x ∈ sf := fun _ z => nomatch z
theorem own_wM (i : Nat) {d : Jvm.Cond} (h : tables_1[i]? = some d) : d ∈ tables_1 := List.mem_of_getElem? h
section Own
variable {w : Bool} {p : Program} {l : Launch} {e : Env} {R : Room} {s : State} {m : MethodId} {args : Array Value} {below : List Frame} {meth : Method} {c : Code} {T : State} {cells slots n0 mx : Nat} {Z : State} {a0 : Array Value} {h : Heap} {bytes : ByteArray} {ret : Option FieldType} {own nm : String} {EL : List (String × Nat)} {sf : List Addr} {Q : Outcome → State → Prop} {pc q : Nat} {Ls : Array Slot} {st rest : List Value}
def own_Base (w : Bool) (s : State) (vm0 : Vm) (h : Heap) : Prop := (w = false ∧ vm0 = s.vm) ∨ (w = true ∧ ∃ k0, s.Since vm0 k0 ∧ k0 ≤ h.size)
/-- addresses that the walk has made and that are no literal's -/
def own_Sf (Z : State) (EL : List (String × Nat)) (vm : Vm) (h : Heap) (sf : List Addr) : Prop := ∀ x ∈ sf, Safe Z EL vm h x ∧ x < h.size
def own_At (w : Bool) (p : Program) (l : Launch) (e : Env) (R : Room) (s : State) (m : MethodId) (args : Array Value) (below : List Frame) (meth : Method) (c : Code) (bytes : ByteArray) (ret : Option FieldType) (own nm : String) (mx : Nat) (Z : State) (n0 : Nat) (a0 : Array Value) (EL : List (String × Nat)) (sf : List Addr) (T : State) (h : Heap) (cells slots : Nat) : Prop :=
  (p.tables.exec = Jvm.exec ∧ c.code = bytes ∧ meth.sig.returnType = ret ∧ meth.locks = false ∧ meth.name = nm ∧ c.maxLocals = mx) ∧
  ∃ (vm0 : Vm) (locs : List Loc), Stand p l e R (s.setVm vm0) m args below meth c T locs cells slots ∧ own_Base w s vm0 h ∧ Z.Warmed39 vm0 ∧ vm0.findClass own = some m.cls ∧ T.heap = h ∧ Fr n0 locs ∧ Old Z n0 h ∧ EW Z a0 EL ∧ CHr Z EL s.vm s.heap vm0 h ∧ own_Sf Z EL vm0 h sf
def own_Run (p : Program) (e : Env) (below : List Frame) (Q : Outcome → State → Prop) (m : MethodId) (T : State) (pc : Nat) (Ls : Array Slot) (st : List Value) : Prop :=
  ∃ s₂ o, Steps p.tables e below (T.setTop (mkF m pc Ls st)) s₂ ∧ s₂.status = .running ∧ Ended s₂ below o ∧ Q o s₂
def own_End : Bool → State → Outcome → State → List Loc → Nat → Nat → Prop
  | true, s, o, t, L, k, n => ReturnedEndW s o t L k n
  | false, s, o, t, L, k, n => FrameEnd s o t L k n
/-- what an invocation leaves: Qc of the value returned and the heap -/
def own_Q (w : Bool) (s : State) (rm : Room) (n0 : Nat) (Z : State) (EL : List (String × Nat)) (Qc : Option Value → Heap → Prop) (o : Outcome) (t : State) : Prop :=
  ∃ v L, o = .returned v ∧ (Qc v t.heap ∧ Fr n0 L ∧ Old Z n0 t.heap ∧ s.heap.size ≤ t.heap.size) ∧ CHr Z EL s.vm s.heap t.vm t.heap ∧ own_End w s o t L rm.cells rm.slots
def own_Met (w : Bool) (l : Launch) (Z : State) (n0 : Nat) (EL : List (String × Nat)) (sf : List Addr) (y : MethodName) (bytes : ByteArray) (mx : Nat) (ret : Option FieldType) (ws : List Jvm.Cond) (rm : Room) (as' : Array Value) (h : Heap) (Qc : Option Value → Heap → Prop) : Prop :=
  MetFree l y (head1 (Jvm.Cond.code y bytes mx ret :: ws) rm) (fun a U => a = as' ∧ Z.Warmed39 U.vm ∧ U.heap = h ∧ CHv Z EL U.vm h ∧ own_Sf Z EL U.vm h sf) (fun _ _ _ _ _ => True) (fun _ U o U' => own_Q w U rm n0 Z EL Qc o U')
theorem own_by {T' : State} {Ls' : Array Slot} {st' : List Value} (hs : ∀ t, Steps p.tables e below (T'.setTop (mkF m q Ls' st')) t → Steps p.tables e below (T.setTop (mkF m pc Ls st)) t) (k : own_Run p e below Q m T' q Ls' st') : own_Run p e below Q m T pc Ls st := by
  obtain ⟨a, o, h1, r⟩ := k
  exact ⟨a, o, hs _ h1, r⟩
theorem own_At.old (A : own_At w p l e R s m args below meth c bytes ret own nm mx Z n0 a0 EL sf T h cells slots) : Old Z n0 h := by obtain ⟨-, _, _, -, -, -, -, -, -, O, -⟩ := A; exact O
theorem own_At.fr (A : own_At w p l e R s m args below meth c bytes ret own nm mx Z n0 a0 EL sf T h cells slots) : n0 ≤ h.size := by have O := A.old; exact O.1 ▸ O.2.1
theorem own_Base.le {vm0 : Vm} {h h' : Heap} (B : own_Base w s vm0 h) (g : h.size ≤ h'.size) : own_Base w s vm0 h' := by
  rcases B with B | ⟨B, k0, B1, B2⟩
  · exact Or.inl B
  · exact Or.inr ⟨B, k0, B1, Nat.le_trans B2 g⟩
theorem own_ch0 {vm vm1 : Vm} {h h' : Heap} (g : h.size ≤ h'.size) : CHr Z [] vm h vm1 h' := by
  refine ⟨fun p hp => ?_, g, fun y B => ?_⟩
  · cases hp
  · obtain ⟨p, hp, -⟩ := B
    cases hp
theorem own_Sf.ext {vm : Vm} {h h' : Heap} (S : own_Sf Z EL vm h sf) (H : CHv Z EL vm h) (E : Ext h h') : own_Sf Z EL vm h' sf := fun x hx => ⟨(S x hx).1.ext E H, Nat.lt_of_lt_of_le (S x hx).2 E.1⟩
theorem own_Sf.new {vm : Vm} {h h' : Heap} (S : own_Sf Z EL vm h sf) (H : CHv Z EL vm h) (E : Ext h h') (g : h.size < h'.size) : own_Sf Z EL vm h' (h.size :: sf) := fun x hx => by
  rcases List.mem_cons.mp hx with rfl | hx
  · exact ⟨(Safe.new (Nat.le_refl _)).ext E H, g⟩
  · exact S.ext H E x hx
theorem own_Sf.wr {vm : Vm} {h h' : Heap} {a : Addr} {sl : Nat} {v : Value} (S : own_Sf Z EL vm h sf) (H : CHv Z EL vm h) (W : Wr h h' a sl v) (Sa : Safe Z EL vm h a) : own_Sf Z EL vm h' sf := fun x hx => ⟨Safe.wr W Sa H (S x hx).1, by rw [W.size]; exact (S x hx).2⟩
theorem own_Sf.ch {vm vm1 : Vm} {h h' : Heap} (S : own_Sf Z EL vm h sf) (C : CHr Z EL vm h vm1 h') : own_Sf Z EL vm1 h' sf := fun x hx => ⟨C.safe (S x hx).2 (S x hx).1, Nat.lt_of_lt_of_le (S x hx).2 C.2.1⟩
/-- what may be written: a made object, anything where there are no literals, no String and no byte[] -/
def own_Wok (Z : State) (EL : List (String × Nat)) (sf : List Addr) (h : Heap) (a : Addr) : Prop := a ∈ sf ∨ EL = [] ∨ (∃ C, Exa Z h a C ∧ C ≠ "java/lang/String" ∧ C ≠ "[B") ∨ ∃ cl ty, Arr Z h a cl ty ∧ ty ≠ .byte
theorem own_Wok.safe {vm : Vm} {a : Addr} (W : own_Wok Z EL sf h a) (hZ : Z.Warmed39 vm) (S : own_Sf Z EL vm h sf) : Safe Z EL vm h a := by
  rcases W with W | rfl | ⟨C, E, h1, h2⟩ | ⟨cl, ty, Ar, ht⟩
  · exact (S a W).1
  · exact fun B => by
      obtain ⟨p, hp, -⟩ := B
      cases hp
  · exact Safe.exa hZ.alike E h1 h2
  · exact Safe.arr hZ.alike Ar ht
/-- the entry -/
theorem own_enter {y : MethodName} {mx : Nat} {ws : List Jvm.Cond} {rm : Room} {as' : Array Value} {Qc : Option Value → Heap → Prop} (hpl : plainName own = true) (O : Old Z n0 h) (hEL : EW Z a0 EL) (hef : ∀ m, entryFrame m as' mx = mkF m 0 Ls [])
    (body : ∀ p e s m args below meth c T Q, Q = own_Q w s rm n0 Z EL Qc → own_At w p l e rm s m args below meth c bytes ret own nm mx Z n0 a0 EL sf T h 0 0 → own_Run p e below Q m T 0 Ls []) (ho : y.cls = own := by rfl) (hn : y.name = nm := by rfl) : own_Met w l Z n0 EL sf y bytes mx ret ws rm as' h Qc := by
  subst ho hn
  refine MetFree.of_bodySF (plainFor_of_name hpl) hisR ?_
  intro p e s m args below meth c s₁ Bd hml0 hP hK
  obtain ⟨rfl, hZ, hh, hCH, hSf⟩ := hP
  have X0 : Stand p l e rm s m args below meth c s₁ [] 0 0 := Stand.of_body Bd
  have e0 : s₁.heap = h := by rw [← hh, Bd.state]; rfl
  have hown : s.vm.findClass y.cls = some m.cls := findClass_of_methodNamed Bd.named
  have A : own_At w p l e rm s m args below meth c bytes ret y.cls y.name mx Z n0 a0 EL sf s₁ h 0 0 :=
    ⟨⟨Bd.exec, Bd.bytes, Bd.returns, Bd.notSynchronized, (name_of_methodNamed Bd.named Bd.method).1, hml0⟩, s.vm, [], X0, (by
      cases w
      · exact Or.inl ⟨rfl, rfl⟩
      · exact Or.inr ⟨rfl, 0, (State.WarmedH.refl s).since 0, Nat.zero_le _⟩), hZ, hown, e0, Fr.nil n0, O, hEL, (by rw [hh]; exact CHr.refl hCH), hSf⟩
  obtain ⟨s₂, o, h1, h2, h3, h4⟩ := body p e s m args below meth c s₁ _ rfl A
  exact ⟨s₂, o, castTop (hef m) h1, h2, h3, h4⟩
/-- the end of a walk, whatever the returning instruction -/
theorem own_end {rm : Room} {Qc : Option Value → Heap → Prop} (A : own_At w p l e R s m args below meth c bytes ret own nm mx Z n0 a0 EL sf T h cells slots) (hQ : Q = own_Q w s rm n0 Z EL Qc) (v : Option Value) (hv : ret = none → v = none) (hq : Qc v h) (hk : cells ≤ rm.cells) (hn : slots ≤ rm.slots)
    (hs : ∀ fs, (∀ (f : JFrame) (acts : List Action), f.method = m → f.locked = none → f.entered = [] → (doReturn e (T.setTop f) acts v).1 = T.setFrames fs) → Steps p.tables e below (T.setTop (mkF m pc Ls st)) (T.setFrames fs)) : own_Run p e below Q m T pc Ls st := by
  subst hQ
  obtain ⟨⟨hx, hby, hret, hlk, hnm, hml⟩, vm0, locs, X, B, hZ, hown, hT, N, O, hEL, Ch, Sf⟩ := A
  subst hT
  have Ch' := Ch.trans (CHv.at X hZ hEL Ch.1)
  rcases B with ⟨rfl, rfl⟩ | ⟨rfl, k0, B1, B2⟩
  · have X' : Stand p l e R s m args below meth c T locs cells slots := X
    obtain ⟨fs, hr, hrun, hended, hW, hsame⟩ := X'.leave (v := v) (fun z => hv (hret ▸ z)) hlk
    exact ⟨_, _, hs fs hr, hrun, hended, v, locs, rfl, ⟨hq, N, O, X'.same.2.1⟩, Ch', ⟨_, rfl⟩, hW, hsame.mono hk hn⟩
  · obtain ⟨fs, hr, hrun, hended, hW⟩ := X.leaveW B1 B2 (v := v) (fun z => hv (hret ▸ z)) hlk
    exact ⟨_, _, hs fs hr, hrun, hended, v, locs, rfl, ⟨hq, N, O, X.same.2.1⟩, Ch', hW.1, hW.2.1, hW.2.2.1, hW.2.2.2.mono hk hn⟩
theorem own_retN {z : Int32} {t : FieldType} {rm : Room} {Qc : Option Value → Heap → Prop} (A : own_At w p l e R s m args below meth c bytes (some t) own nm mx Z n0 a0 EL sf T h cells slots) (hQ : Q = own_Q w s rm n0 Z EL Qc) (ht : t = .boolean ∨ t = .byte ∨ t = .char ∨ t = .short) (hd : decode bytes pc = .ok (.ireturn, 1)) (hq : Qc (some (.int (nar t z))) h) (hk : cells ≤ rm.cells := by decide) (hn : slots ≤ rm.slots := by decide) : own_Run p e below Q m T pc Ls (.int z :: rest) := by
  obtain ⟨⟨hx, hby, hret, hlk, hnm, hml⟩, vm0, locs, X, r⟩ := id A
  subst hby
  exact own_end A hQ (some (.int (nar t z))) (fun z => by cases z) hq hk hn (fun fs hr => RoadKit.retN X hx hret ht hd hr)
theorem own_retI {z : Int32} {rm : Room} {Qc : Option Value → Heap → Prop} (A : own_At w p l e R s m args below meth c bytes (some .int) own nm mx Z n0 a0 EL sf T h cells slots) (hQ : Q = own_Q w s rm n0 Z EL Qc)  (hd : decode bytes pc = .ok (.ireturn, 1)) (hq : Qc (some (.int z)) h) (hk : cells ≤ rm.cells := by decide) (hn : slots ≤ rm.slots := by decide) : own_Run p e below Q m T pc Ls (.int z :: rest) := by
  obtain ⟨⟨hx, hby, hret, hlk, hnm, hml⟩, vm0, locs, X, r⟩ := id A
  subst hby
  exact own_end A hQ (some (.int z)) (fun z => by cases z) hq hk hn (fun fs hr => RoadKit.retOut X hx hret rfl (Or.inl ⟨rfl, Or.inl rfl, z, rfl⟩) hd hr)
theorem own_retA {z : Value} {t : FieldType} {rm : Room} {Qc : Option Value → Heap → Prop} (A : own_At w p l e R s m args below meth c bytes (some t) own nm mx Z n0 a0 EL sf T h cells slots) (hQ : Q = own_Q w s rm n0 Z EL Qc) (ht : t.isReference = true) (hz : z.isRef = true) (hnz : narrow t z = z) (hd : decode bytes pc = .ok (.areturn, 1)) (hq : Qc (some z) h) (hk : cells ≤ rm.cells := by decide) (hn : slots ≤ rm.slots := by decide) : own_Run p e below Q m T pc Ls (z :: rest) := by
  obtain ⟨⟨hx, hby, hret, hlk, hnm, hml⟩, vm0, locs, X, r⟩ := id A
  subst hby
  exact own_end A hQ (some z) (fun z => by cases z) hq hk hn (fun fs hr => RoadKit.retOut X hx hret hnz (Or.inr (Or.inr (Or.inr (Or.inr ⟨rfl, ht, hz⟩)))) hd hr)
theorem own_ret0 {rm : Room} {Qc : Option Value → Heap → Prop} (A : own_At w p l e R s m args below meth c bytes none own nm mx Z n0 a0 EL sf T h cells slots) (hQ : Q = own_Q w s rm n0 Z EL Qc) (hd : decode bytes pc = .ok (.return_, 1)) (hq : Qc none h) (hk : cells ≤ rm.cells := by decide) (hn : slots ≤ rm.slots := by decide) : own_Run p e below Q m T pc Ls [] := by
  obtain ⟨⟨hx, hby, hret, hlk, hnm, hml⟩, vm0, locs, X, r⟩ := id A
  subst hby
  exact own_end A hQ none (fun _ => rfl) hq hk hn (fun fs hr => X.returnOut hx hret hd hr)
theorem own_aloadN (A : own_At w p l e R s m args below meth c bytes ret own nm mx Z n0 a0 EL sf T h cells slots) {i : Fin 4} {v : Value} (hd : decode bytes pc = .ok (.aload_n i, 1)) (hl : Ls[i.val]? = some (.val v)) (hv : v.isRef = true) (k : own_Run p e below Q m T q Ls (v :: st)) (hq : pc + 1 = q := by rfl) : own_Run p e below Q m T pc Ls st := by
  obtain ⟨⟨hx, hby, -⟩, vm0, locs, X, -⟩ := A
  subst hby hq
  refine own_by (fun t z => ?_) k
  exact XS.aloadN X.here hx rfl hd hl hv z
theorem own_aload (A : own_At w p l e R s m args below meth c bytes ret own nm mx Z n0 a0 EL sf T h cells slots) {i : Nat} {v : Value} (hd : decode bytes pc = .ok (.aload i, 2)) (hl : Ls[i]? = some (.val v)) (hv : v.isRef = true) (k : own_Run p e below Q m T q Ls (v :: st)) (hq : pc + 2 = q := by rfl) : own_Run p e below Q m T pc Ls st := by
  obtain ⟨⟨hx, hby, -⟩, vm0, locs, X, -⟩ := A
  subst hby hq
  refine own_by (fun t z => ?_) k
  exact XS.aload X.here hx rfl hd hl hv z
theorem own_iloadN (A : own_At w p l e R s m args below meth c bytes ret own nm mx Z n0 a0 EL sf T h cells slots) {i : Fin 4} {v : Int32} (hd : decode bytes pc = .ok (.iload_n i, 1)) (hl : Ls[i.val]? = some (.val (.int v))) (k : own_Run p e below Q m T q Ls (.int v :: st)) (hq : pc + 1 = q := by rfl) : own_Run p e below Q m T pc Ls st := by
  obtain ⟨⟨hx, hby, -⟩, vm0, locs, X, -⟩ := A
  subst hby hq
  refine own_by (fun t z => ?_) k
  exact XS.iloadN X.here hx rfl hd hl z
theorem own_iload (A : own_At w p l e R s m args below meth c bytes ret own nm mx Z n0 a0 EL sf T h cells slots) {i : Nat} {v : Int32} (hd : decode bytes pc = .ok (.iload i, 2)) (hl : Ls[i]? = some (.val (.int v))) (k : own_Run p e below Q m T q Ls (.int v :: st)) (hq : pc + 2 = q := by rfl) : own_Run p e below Q m T pc Ls st := by
  obtain ⟨⟨hx, hby, -⟩, vm0, locs, X, -⟩ := A
  subst hby hq
  refine own_by (fun t z => ?_) k
  exact XS.iload X.here hx rfl hd hl z
theorem own_istoreN (A : own_At w p l e R s m args below meth c bytes ret own nm mx Z n0 a0 EL sf T h cells slots) {i : Fin 4} {v : Int32} {L' : Array Slot} (hd : decode bytes pc = .ok (.istore_n i, 1)) (hl : storeLocals Ls i.val (.int v) = some L') (k : own_Run p e below Q m T q L' rest) (hq : pc + 1 = q := by rfl) : own_Run p e below Q m T pc Ls (.int v :: rest) := by
  obtain ⟨⟨hx, hby, -⟩, vm0, locs, X, -⟩ := A
  subst hby hq
  refine own_by (fun t z => ?_) k
  exact XS.istoreN X.here hx rfl hd rfl hl z
theorem own_istore (A : own_At w p l e R s m args below meth c bytes ret own nm mx Z n0 a0 EL sf T h cells slots) {i : Nat} {v : Int32} {L' : Array Slot} (hd : decode bytes pc = .ok (.istore i, 2)) (hl : storeLocals Ls i (.int v) = some L') (k : own_Run p e below Q m T q L' rest) (hq : pc + 2 = q := by rfl) : own_Run p e below Q m T pc Ls (.int v :: rest) := by
  obtain ⟨⟨hx, hby, -⟩, vm0, locs, X, -⟩ := A
  subst hby hq
  refine own_by (fun t z => ?_) k
  exact XS.istore X.here hx rfl hd rfl hl z
theorem own_astoreN (A : own_At w p l e R s m args below meth c bytes ret own nm mx Z n0 a0 EL sf T h cells slots) {i : Fin 4} {v : Value} {L' : Array Slot} (hd : decode bytes pc = .ok (.astore_n i, 1)) (hv : v.isRef = true) (hl : storeLocals Ls i.val v = some L') (k : own_Run p e below Q m T q L' rest) (hq : pc + 1 = q := by rfl) : own_Run p e below Q m T pc Ls (v :: rest) := by
  obtain ⟨⟨hx, hby, -⟩, vm0, locs, X, -⟩ := A
  subst hby hq
  refine own_by (fun t z => ?_) k
  exact XS.astoreN X.here hx rfl hd rfl hv hl z
theorem own_astore (A : own_At w p l e R s m args below meth c bytes ret own nm mx Z n0 a0 EL sf T h cells slots) {i : Nat} {v : Value} {L' : Array Slot} (hd : decode bytes pc = .ok (.astore i, 2)) (hv : v.isRef = true) (hl : storeLocals Ls i v = some L') (k : own_Run p e below Q m T q L' rest) (hq : pc + 2 = q := by rfl) : own_Run p e below Q m T pc Ls (v :: rest) := by
  obtain ⟨⟨hx, hby, -⟩, vm0, locs, X, -⟩ := A
  subst hby hq
  refine own_by (fun t z => ?_) k
  exact XS.astore X.here hx rfl hd rfl hv hl z
theorem own_iconst (A : own_At w p l e R s m args below meth c bytes ret own nm mx Z n0 a0 EL sf T h cells slots) {i : Int} (v : Int32) (hd : decode bytes pc = .ok (.iconst i, 1)) (hv : Int32.ofInt i = v) (k : own_Run p e below Q m T q Ls (.int v :: st)) (hq : pc + 1 = q := by rfl) : own_Run p e below Q m T pc Ls st := by
  obtain ⟨⟨hx, hby, -⟩, vm0, locs, X, -⟩ := A
  subst hby hq hv
  refine own_by (fun t z => ?_) k
  exact XS.iconst X.here hx rfl hd z
theorem own_bipush (A : own_At w p l e R s m args below meth c bytes ret own nm mx Z n0 a0 EL sf T h cells slots) {i : Int} (v : Int32) (hd : decode bytes pc = .ok (.bipush i, 2)) (hv : (Int8.ofInt i).toInt32 = v) (k : own_Run p e below Q m T q Ls (.int v :: st)) (hq : pc + 2 = q := by rfl) : own_Run p e below Q m T pc Ls st := by
  obtain ⟨⟨hx, hby, -⟩, vm0, locs, X, -⟩ := A
  subst hby hq hv
  refine own_by (fun t z => ?_) k
  exact XS.bipush X.here hx rfl hd z
theorem own_sipush (A : own_At w p l e R s m args below meth c bytes ret own nm mx Z n0 a0 EL sf T h cells slots) {i : Int} (v : Int32) (hd : decode bytes pc = .ok (.sipush i, 3)) (hv : (Int16.ofInt i).toInt32 = v) (k : own_Run p e below Q m T q Ls (.int v :: st)) (hq : pc + 3 = q := by rfl) : own_Run p e below Q m T pc Ls st := by
  obtain ⟨⟨hx, hby, -⟩, vm0, locs, X, -⟩ := A
  subst hby hq hv
  refine own_by (fun t z => ?_) k
  exact XS.sipush X.here hx rfl hd z
theorem own_aconstNull (A : own_At w p l e R s m args below meth c bytes ret own nm mx Z n0 a0 EL sf T h cells slots)  (hd : decode bytes pc = .ok (.aconst_null, 1))  (k : own_Run p e below Q m T q Ls (.null :: st)) (hq : pc + 1 = q := by rfl) : own_Run p e below Q m T pc Ls st := by
  obtain ⟨⟨hx, hby, -⟩, vm0, locs, X, -⟩ := A
  subst hby hq
  refine own_by (fun t z => ?_) k
  exact XS.aconstNull X.here hx rfl hd  z
theorem own_iadd (A : own_At w p l e R s m args below meth c bytes ret own nm mx Z n0 a0 EL sf T h cells slots) {x y : Int32} (hd : decode bytes pc = .ok (.iadd, 1))  (k : own_Run p e below Q m T q Ls (.int (x + y) :: rest)) (hq : pc + 1 = q := by rfl) : own_Run p e below Q m T pc Ls (.int y :: .int x :: rest) := by
  obtain ⟨⟨hx, hby, -⟩, vm0, locs, X, -⟩ := A
  subst hby hq
  refine own_by (fun t z => ?_) k
  exact XS.iadd X.here hx rfl hd rfl z
theorem own_isub (A : own_At w p l e R s m args below meth c bytes ret own nm mx Z n0 a0 EL sf T h cells slots) {x y : Int32} (hd : decode bytes pc = .ok (.isub, 1))  (k : own_Run p e below Q m T q Ls (.int (x - y) :: rest)) (hq : pc + 1 = q := by rfl) : own_Run p e below Q m T pc Ls (.int y :: .int x :: rest) := by
  obtain ⟨⟨hx, hby, -⟩, vm0, locs, X, -⟩ := A
  subst hby hq
  refine own_by (fun t z => ?_) k
  exact XS.isub X.here hx rfl hd rfl z
theorem own_iand (A : own_At w p l e R s m args below meth c bytes ret own nm mx Z n0 a0 EL sf T h cells slots) {x y : Int32} (hd : decode bytes pc = .ok (.iand, 1))  (k : own_Run p e below Q m T q Ls (.int (x &&& y) :: rest)) (hq : pc + 1 = q := by rfl) : own_Run p e below Q m T pc Ls (.int y :: .int x :: rest) := by
  obtain ⟨⟨hx, hby, -⟩, vm0, locs, X, -⟩ := A
  subst hby hq
  refine own_by (fun t z => ?_) k
  exact XS.iand X.here hx rfl hd rfl z
theorem own_ior (A : own_At w p l e R s m args below meth c bytes ret own nm mx Z n0 a0 EL sf T h cells slots) {x y : Int32} (hd : decode bytes pc = .ok (.ior, 1))  (k : own_Run p e below Q m T q Ls (.int (x ||| y) :: rest)) (hq : pc + 1 = q := by rfl) : own_Run p e below Q m T pc Ls (.int y :: .int x :: rest) := by
  obtain ⟨⟨hx, hby, -⟩, vm0, locs, X, -⟩ := A
  subst hby hq
  refine own_by (fun t z => ?_) k
  exact XS.ior X.here hx rfl hd rfl z
theorem own_ishl (A : own_At w p l e R s m args below meth c bytes ret own nm mx Z n0 a0 EL sf T h cells slots) {x y : Int32} (hd : decode bytes pc = .ok (.ishl, 1))  (k : own_Run p e below Q m T q Ls (.int (x <<< (y &&& 31)) :: rest)) (hq : pc + 1 = q := by rfl) : own_Run p e below Q m T pc Ls (.int y :: .int x :: rest) := by
  obtain ⟨⟨hx, hby, -⟩, vm0, locs, X, -⟩ := A
  subst hby hq
  refine own_by (fun t z => ?_) k
  exact XS.ishl X.here hx rfl hd rfl z
theorem own_ishr (A : own_At w p l e R s m args below meth c bytes ret own nm mx Z n0 a0 EL sf T h cells slots) {x y : Int32} (hd : decode bytes pc = .ok (.ishr, 1))  (k : own_Run p e below Q m T q Ls (.int (x >>> (y &&& 31)) :: rest)) (hq : pc + 1 = q := by rfl) : own_Run p e below Q m T pc Ls (.int y :: .int x :: rest) := by
  obtain ⟨⟨hx, hby, -⟩, vm0, locs, X, -⟩ := A
  subst hby hq
  refine own_by (fun t z => ?_) k
  exact XS.ishr X.here hx rfl hd rfl z
theorem own_iushr (A : own_At w p l e R s m args below meth c bytes ret own nm mx Z n0 a0 EL sf T h cells slots) {x y : Int32} (hd : decode bytes pc = .ok (.iushr, 1))  (k : own_Run p e below Q m T q Ls (.int ((x.toUInt32 >>> (y &&& 31).toUInt32).toInt32) :: rest)) (hq : pc + 1 = q := by rfl) : own_Run p e below Q m T pc Ls (.int y :: .int x :: rest) := by
  obtain ⟨⟨hx, hby, -⟩, vm0, locs, X, -⟩ := A
  subst hby hq
  refine own_by (fun t z => ?_) k
  exact XS.iushr X.here hx rfl hd rfl z
theorem own_irem (A : own_At w p l e R s m args below meth c bytes ret own nm mx Z n0 a0 EL sf T h cells slots) {x y : Int32} (hd : decode bytes pc = .ok (.irem, 1)) (hy : y ≠ 0) (k : own_Run p e below Q m T q Ls (.int (x % y) :: rest)) (hq : pc + 1 = q := by rfl) : own_Run p e below Q m T pc Ls (.int y :: .int x :: rest) := by
  obtain ⟨⟨hx, hby, -⟩, vm0, locs, X, -⟩ := A
  subst hby hq
  refine own_by (fun t z => ?_) k
  exact iremM X hx rfl hd rfl hy z
theorem own_i2b (A : own_At w p l e R s m args below meth c bytes ret own nm mx Z n0 a0 EL sf T h cells slots) {x : Int32} (hd : decode bytes pc = .ok (.i2b, 1))  (k : own_Run p e below Q m T q Ls (.int (x.toInt8.toInt32) :: rest)) (hq : pc + 1 = q := by rfl) : own_Run p e below Q m T pc Ls (.int x :: rest) := by
  obtain ⟨⟨hx, hby, -⟩, vm0, locs, X, -⟩ := A
  subst hby hq
  refine own_by (fun t z => ?_) k
  exact XS.i2b X.here hx rfl hd rfl z
theorem own_i2c (A : own_At w p l e R s m args below meth c bytes ret own nm mx Z n0 a0 EL sf T h cells slots) {x : Int32} (hd : decode bytes pc = .ok (.i2c, 1))  (k : own_Run p e below Q m T q Ls (.int (x.toUInt32.toUInt16.toUInt32.toInt32) :: rest)) (hq : pc + 1 = q := by rfl) : own_Run p e below Q m T pc Ls (.int x :: rest) := by
  obtain ⟨⟨hx, hby, -⟩, vm0, locs, X, -⟩ := A
  subst hby hq
  refine own_by (fun t z => ?_) k
  exact XS.i2c X.here hx rfl hd rfl z
theorem own_dup (A : own_At w p l e R s m args below meth c bytes ret own nm mx Z n0 a0 EL sf T h cells slots) {x : Value} (hd : decode bytes pc = .ok (.dup, 1)) (hc : x.category = 1) (k : own_Run p e below Q m T q Ls (x :: x :: rest)) (hq : pc + 1 = q := by rfl) : own_Run p e below Q m T pc Ls (x :: rest) := by
  obtain ⟨⟨hx, hby, -⟩, vm0, locs, X, -⟩ := A
  subst hby hq
  refine own_by (fun t z => ?_) k
  exact XS.dup X.here hx rfl hd rfl hc z
theorem own_pop (A : own_At w p l e R s m args below meth c bytes ret own nm mx Z n0 a0 EL sf T h cells slots) {x : Value} (hd : decode bytes pc = .ok (.pop, 1)) (hc : x.category = 1) (k : own_Run p e below Q m T q Ls rest) (hq : pc + 1 = q := by rfl) : own_Run p e below Q m T pc Ls (x :: rest) := by
  obtain ⟨⟨hx, hby, -⟩, vm0, locs, X, -⟩ := A
  subst hby hq
  refine own_by (fun t z => ?_) k
  exact XS.pop X.here hx rfl hd rfl hc z
theorem own_dupX1 (A : own_At w p l e R s m args below meth c bytes ret own nm mx Z n0 a0 EL sf T h cells slots) {x y : Value} (hd : decode bytes pc = .ok (.dup_x1, 1)) (hc : x.category = 1) (hc2 : y.category = 1) (k : own_Run p e below Q m T q Ls (x :: y :: x :: rest)) (hq : pc + 1 = q := by rfl) : own_Run p e below Q m T pc Ls (x :: y :: rest) := by
  obtain ⟨⟨hx, hby, -⟩, vm0, locs, X, -⟩ := A
  subst hby hq
  refine own_by (fun t z => ?_) k
  exact XS.dupX1 X.here hx rfl hd rfl hc hc2 z
theorem own_iinc (A : own_At w p l e R s m args below meth c bytes ret own nm mx Z n0 a0 EL sf T h cells slots) {i : Nat} {cst : Int} {x v : Int32} {L' : Array Slot} (hd : decode bytes pc = .ok (.iinc i cst, 3)) (hl : Ls[i]? = some (.val (.int x))) (hv : Int32.ofInt cst = v) (hl' : storeLocals Ls i (.int (x + v)) = some L') (k : own_Run p e below Q m T q L' st) (hq : pc + 3 = q := by rfl) : own_Run p e below Q m T pc Ls st := by
  obtain ⟨⟨hx, hby, -⟩, vm0, locs, X, -⟩ := A
  subst hby hq hv
  refine own_by (fun t z => ?_) k
  exact XS.iinc X.here hx rfl hd hl hl' z
theorem own_goto (A : own_At w p l e R s m args below meth c bytes ret own nm mx Z n0 a0 EL sf T h cells slots) {o : Int} (hd : decode bytes pc = .ok (.goto o, 3)) (k : own_Run p e below Q m T q Ls st) (ho : 0 ≤ (pc : Int) + o := by decide) (hq : ((pc : Int) + o).toNat = q := by decide) : own_Run p e below Q m T pc Ls st := by
  obtain ⟨⟨hx, hby, -⟩, vm0, locs, X, -⟩ := A
  subst hby
  refine own_by (fun t z => ?_) k
  exact XS.goto X.here hx rfl (pc0 := pc) rfl hd ho hq z
def own_cp : ClassFile.Cond → Int32 → Int32 → Prop
  | .eq, x, y => x = y
  | .ne, x, y => ¬ x = y
  | .lt, x, y => x < y
  | .ge, x, y => ¬ x < y
  | .gt, x, y => y < x
  | .le, x, y => ¬ y < x
def own_cn : ClassFile.Cond → Int32 → Int32 → Prop
  | .eq, x, y => ¬ x = y
  | .ne, x, y => x = y
  | .lt, x, y => ¬ x < y
  | .ge, x, y => x < y
  | .gt, x, y => ¬ y < x
  | .le, x, y => y < x
theorem own_cpT {cd : ClassFile.Cond} {x y : Int32} (h : own_cp cd x y) : if_icmp.holds cd x y = true := by
  cases cd
  all_goals simp only [own_cp] at h
  · exact (teq h).1
  · exact (feq h).2
  · exact (tlt h).1
  · exact (flt h).2.1
  · exact (tlt h).2.2.1
  · exact (flt h).2.2.2
theorem own_cnF {cd : ClassFile.Cond} {x y : Int32} (h : own_cn cd x y) : if_icmp.holds cd x y = false := by
  cases cd
  all_goals simp only [own_cn] at h
  · exact (feq h).1
  · exact (teq h).2
  · exact (flt h).1
  · exact (tlt h).2.1
  · exact (flt h).2.2.1
  · exact (tlt h).2.2.2
theorem own_cpn (cd : ClassFile.Cond) (x y : Int32) : own_cp cd x y ∨ own_cn cd x y := by
  cases cd <;> simp only [own_cp, own_cn]
  · exact Classical.em _
  · exact (Classical.em _).symm
  · exact Classical.em _
  · exact (Classical.em _).symm
  · exact Classical.em _
  · exact (Classical.em _).symm
theorem own_ifcT (A : own_At w p l e R s m args below meth c bytes ret own nm mx Z n0 a0 EL sf T h cells slots) {cd : ClassFile.Cond} {x : Int32} {o : Int} (hd : decode bytes pc = .ok (.ifCond cd o, 3)) (hc : own_cp cd x (0 : Int32)) (k : own_Run p e below Q m T q Ls rest) (ho : 0 ≤ (pc : Int) + o := by decide) (hq : ((pc : Int) + o).toNat = q := by decide) : own_Run p e below Q m T pc Ls (.int x :: rest) := by
  obtain ⟨⟨hx, hby, -⟩, vm0, locs, X, -⟩ := A
  subst hby
  refine own_by (fun t z => ?_) k
  exact XS.ifYes X.here hx rfl (pc0 := pc) rfl hd rfl (by rw [if0]; exact own_cpT hc) ho hq z
theorem own_ifcF (A : own_At w p l e R s m args below meth c bytes ret own nm mx Z n0 a0 EL sf T h cells slots) {cd : ClassFile.Cond} {x : Int32} {o : Int} (hd : decode bytes pc = .ok (.ifCond cd o, 3)) (hc : own_cn cd x (0 : Int32)) (k : own_Run p e below Q m T q Ls rest) (hq : pc + 3 = q := by rfl) : own_Run p e below Q m T pc Ls (.int x :: rest) := by
  obtain ⟨⟨hx, hby, -⟩, vm0, locs, X, -⟩ := A
  subst hby hq
  refine own_by (fun t z => ?_) k
  exact XS.ifNo X.here hx rfl hd rfl (by rw [if0]; exact own_cnF hc) z
theorem own_ifc (A : own_At w p l e R s m args below meth c bytes ret own nm mx Z n0 a0 EL sf T h cells slots) {cd : ClassFile.Cond} {x : Int32} {o : Int} {q' : Nat} (hd : decode bytes pc = .ok (.ifCond cd o, 3)) (kt : own_cp cd x (0 : Int32) → own_Run p e below Q m T q Ls rest) (kf : own_cn cd x (0 : Int32) → own_Run p e below Q m T q' Ls rest) (ho : 0 ≤ (pc : Int) + o := by decide) (hq : ((pc : Int) + o).toNat = q := by decide) (hq' : pc + 3 = q' := by rfl) : own_Run p e below Q m T pc Ls (.int x :: rest) :=
  (own_cpn cd x (0 : Int32)).elim (fun z => own_ifcT A hd z (kt z) ho hq) (fun z => own_ifcF A hd z (kf z) hq')
theorem own_icmpT (A : own_At w p l e R s m args below meth c bytes ret own nm mx Z n0 a0 EL sf T h cells slots) {cd : ClassFile.Cond} {x y : Int32} {o : Int} (hd : decode bytes pc = .ok (.if_icmp cd o, 3)) (hc : own_cp cd x y) (k : own_Run p e below Q m T q Ls rest) (ho : 0 ≤ (pc : Int) + o := by decide) (hq : ((pc : Int) + o).toNat = q := by decide) : own_Run p e below Q m T pc Ls (.int y :: .int x :: rest) := by
  obtain ⟨⟨hx, hby, -⟩, vm0, locs, X, -⟩ := A
  subst hby
  refine own_by (fun t z => ?_) k
  exact XS.icmpYes X.here hx rfl (pc0 := pc) rfl hd rfl (own_cpT hc) ho hq z
theorem own_icmpF (A : own_At w p l e R s m args below meth c bytes ret own nm mx Z n0 a0 EL sf T h cells slots) {cd : ClassFile.Cond} {x y : Int32} {o : Int} (hd : decode bytes pc = .ok (.if_icmp cd o, 3)) (hc : own_cn cd x y) (k : own_Run p e below Q m T q Ls rest) (hq : pc + 3 = q := by rfl) : own_Run p e below Q m T pc Ls (.int y :: .int x :: rest) := by
  obtain ⟨⟨hx, hby, -⟩, vm0, locs, X, -⟩ := A
  subst hby hq
  refine own_by (fun t z => ?_) k
  exact XS.icmpNo X.here hx rfl hd rfl (own_cnF hc) z
theorem own_icmp (A : own_At w p l e R s m args below meth c bytes ret own nm mx Z n0 a0 EL sf T h cells slots) {cd : ClassFile.Cond} {x y : Int32} {o : Int} {q' : Nat} (hd : decode bytes pc = .ok (.if_icmp cd o, 3)) (kt : own_cp cd x y → own_Run p e below Q m T q Ls rest) (kf : own_cn cd x y → own_Run p e below Q m T q' Ls rest) (ho : 0 ≤ (pc : Int) + o := by decide) (hq : ((pc : Int) + o).toNat = q := by decide) (hq' : pc + 3 = q' := by rfl) : own_Run p e below Q m T pc Ls (.int y :: .int x :: rest) :=
  (own_cpn cd x y).elim (fun z => own_icmpT A hd z (kt z) ho hq) (fun z => own_icmpF A hd z (kf z) hq')
theorem own_ifnonnullT (A : own_At w p l e R s m args below meth c bytes ret own nm mx Z n0 a0 EL sf T h cells slots) {b : Addr} {o : Int} (hd : decode bytes pc = .ok (.ifnonnull o, 3)) (k : own_Run p e below Q m T q Ls rest) (ho : 0 ≤ (pc : Int) + o := by decide) (hq : ((pc : Int) + o).toNat = q := by decide) : own_Run p e below Q m T pc Ls (.ref b :: rest) := by
  obtain ⟨⟨hx, hby, -⟩, vm0, locs, X, -⟩ := A
  subst hby
  refine own_by (fun t z => ?_) k
  exact XS.ifnonnullYes X.here hx rfl (pc0 := pc) rfl hd rfl ho hq z
theorem own_ldcI (A : own_At w p l e R s m args below meth c bytes ret own nm mx Z n0 a0 EL sf T h cells slots) {i : Nat} {v : Int32} (wc : (Jvm.Cond.constant own i v).before a0 Z = true) (hd : decode bytes pc = .ok (.ldc i, 2)) (k : own_Run p e below Q m T q Ls (.int v :: st)) (hq : pc + 2 = q := by rfl) : own_Run p e below Q m T pc Ls st := by
  obtain ⟨⟨hx, hby, -⟩, vm0, locs, X, B, hZ, hown, hT, N, Od, hEL, Ch, Sf⟩ := A
  subst hby hq
  refine own_by (fun t z => ?_) k
  exact X.ldcI hx (s := s.setVm vm0) hown (mv (s := s.setVm vm0) hZ wc) rfl hd z
theorem own_getF (A : own_At w p l e R s m args below meth c bytes ret own nm mx Z n0 a0 EL sf T h cells slots) {i : Nat} {R0 O n d host : String} {a : Addr} {v : Value} (wl : (Jvm.Cond.fieldLink own i R0 n d).before a0 Z = true ∨ (Jvm.Cond.fieldLinkNest own i R0 n d host).before a0 Z = true) (via : Via Z R0 O n d) (F : Fld Z h a O n d v) (hd : decode bytes pc = .ok (.getfield i, 3))
    (k : ∀ T', own_At w p l e R s m args below meth c bytes ret own nm mx Z n0 a0 EL sf T' h cells slots → own_Run p e below Q m T' q Ls (v :: rest)) (hq : pc + 3 = q := by rfl) : own_Run p e below Q m T pc Ls (.ref a :: rest) := by
  obtain ⟨⟨hx, hby, r⟩, vm0, locs, X, B, hZ, hown, hT, N, Od, hEL, Ch, Sf⟩ := A
  subst hby hq
  obtain ⟨T', X', e', st'⟩ := getF X hx (s := s.setVm vm0) hZ hown wl via hT F (g := mkF m pc Ls (.ref a :: rest)) rfl rfl hd
  exact own_by st' (k T' ⟨⟨hx, rfl, r⟩, vm0, locs, X', B, hZ, hown, e', N, Od, hEL, Ch, Sf⟩)
theorem own_getS (A : own_At w p l e R s m args below meth c bytes ret own nm mx Z n0 a0 EL sf T h cells slots) {i : Nat} {R0 O n d : String} {v : Value} (wl : (Jvm.Cond.fieldLink own i R0 n d).before a0 Z = true) (via : Via Z R0 O n d) (F : Sta Z Z.heap O n d v) (hd : decode bytes pc = .ok (.getstatic i, 3))
    (k : ∀ T', own_At w p l e R s m args below meth c bytes ret own nm mx Z n0 a0 EL sf T' h cells slots → own_Run p e below Q m T' q Ls (v :: st)) (hq : pc + 3 = q := by rfl) : own_Run p e below Q m T pc Ls st := by
  obtain ⟨⟨hx, hby, r⟩, vm0, locs, X, B, hZ, hown, hT, N, Od, hEL, Ch, Sf⟩ := A
  subst hby hq
  obtain ⟨T', X', e', st'⟩ := getS X hx (s := s.setVm vm0) (host := "") hZ hown wl via hT (F.ext Od.2) (g := mkF m pc Ls st) rfl hd
  exact own_by st' (k T' ⟨⟨hx, rfl, r⟩, vm0, locs, X', B, hZ, hown, e', N, Od, hEL, Ch, Sf⟩)
theorem own_putF (A : own_At w p l e R s m args below meth c bytes ret own nm mx Z n0 a0 EL sf T h cells slots) {i kk : Nat} {R0 O n d host C : String} {ty : FieldType} {a : Addr} {v old : Value} (wl : (Jvm.Cond.fieldLink own i R0 n d).before a0 Z = true ∨ (Jvm.Cond.fieldLinkNest own i R0 n d host).before a0 Z = true) (via : Via Z R0 O n d) (F : Fld Z h a O n d old) (E : Exa Z h a C) (L : (Jvm.Cond.lays C O n d).before a0 Z = true ∨ ((Jvm.Cond.laysFinal C O n d).before a0 Z = true ∧ own = O ∧ nm = "<init>")) (wi : (Jvm.Cond.instantiable C kk).before a0 Z = true)
    (hty : parseFieldDescriptor d = some ty) (hn : narrow ty v = v) (hf : fits ty v = true) (ha : n0 ≤ a) (hwo : own_Wok Z EL sf h a) (hd : decode bytes pc = .ok (.putfield i, 3)) (k : ∀ T' h', own_At w p l e R s m args below meth c bytes ret own nm mx Z n0 a0 EL sf T' h' cells slots → Wr h h' a (RoadKit.slotOf Z O n d) v → own_Run p e below Q m T' q Ls rest) (hq : pc + 3 = q := by rfl) : own_Run p e below Q m T pc Ls (v :: .ref a :: rest) := by
  obtain ⟨⟨hx, hby, r1, r2, r3, r4⟩, vm0, locs, X, B, hZ, hown, hT, N, Od, hEL, Ch, Sf⟩ := A
  subst hby hq
  obtain ⟨T', h', X', e', W, st'⟩ := putF X hx (s := s.setVm vm0) hZ hown wl via hT F E (L.imp id fun z => ⟨z.1, z.2.1, r3.trans z.2.2⟩) wi hty hn hf (g := mkF m pc Ls (v :: .ref a :: rest)) rfl rfl hd
  exact own_by st' (k T' h' ⟨⟨hx, rfl, r1, r2, r3, r4⟩, vm0, _, X', B.le (Nat.le_of_eq W.size.symm), hZ, hown, e', Fr.snoc X' N ha, Od.wr W ha, hEL, Ch.trans (CHr.wr W (hwo.safe hZ Sf) Ch.1), Sf.wr Ch.1 W (hwo.safe hZ Sf)⟩ W)
theorem own_newO (A : own_At w p l e R s m args below meth c bytes ret own nm mx Z n0 a0 EL sf T h cells slots) {i n : Nat} {C : String} (w1 : (Jvm.Cond.classLink own i C).before a0 Z = true) (wi : (Jvm.Cond.instantiable C n).before a0 Z = true) (wz : (Jvm.Cond.initialized C).before a0 Z = true) (hd : decode bytes pc = .ok (.new i, 3)) (hc : cells + 1 ≤ R.cells) (hl : slots + n ≤ R.slots)
    (k : ∀ T' h' a, h.size = a → n0 ≤ a → own_At w p l e R s m args below meth c bytes ret own nm mx Z n0 a0 EL (a :: sf) T' h' (cells + 1) (slots + n) → Ext h h' → Exa Z h' a C → (∀ {O nm d : String} {ty : FieldType}, Laid Z a0 C O nm d → parseFieldDescriptor d = some ty → Fld Z h' a O nm d (defaultValue ty)) → own_Run p e below Q m T' q Ls (.ref a :: st)) (hq : pc + 3 = q := by rfl) : own_Run p e below Q m T pc Ls st := by
  have g0 := A.fr
  obtain ⟨⟨hx, hby, r⟩, vm0, locs, X, B, hZ, hown, hT, N, Od, hEL, Ch, Sf⟩ := A
  subst hby hq
  obtain ⟨T', h', X', e', E, Ex, D, -, st'⟩ := newO X hx (s := s.setVm vm0) hZ hown w1 wi wz hT (g := mkF m pc Ls st) rfl hd hc hl
  exact own_by st' (k T' h' h.size rfl g0 ⟨⟨hx, rfl, r⟩, vm0, _, X', B.le E.1, hZ, hown, e', N, Od.ext E, hEL, Ch.trans (CHr.ext E Ch.1), Sf.new Ch.1 E Ex.lt⟩ E Ex D)
theorem own_newP (A : own_At w p l e R s m args below meth c bytes ret own nm mx Z n0 a0 EL sf T h cells slots) {aty : ArrayType} (w1 : (Jvm.Cond.arrayClass (newarray.typeOf aty)).before a0 Z = true) (hd : decode bytes pc = .ok (.newarray aty, 2)) {n : Int32} (cap : Nat) (hn : ¬ n < 0) (hcap : n.toNatClampNeg ≤ cap) (hb : cap * 8 ≤ 536870912) (hc : cells + 1 ≤ R.cells) (hl : slots + cap ≤ R.slots)
    (k : ∀ T' h' a cA, h.size = a → n0 ≤ a → own_At w p l e R s m args below meth c bytes ret own nm mx Z n0 a0 EL (a :: sf) T' h' (cells + 1) (slots + cap) → Ext h h' → Arr Z h' a (newA cA (newarray.typeOf aty) n) (newarray.typeOf aty) → own_Run p e below Q m T' q Ls (.ref a :: rest)) (hq : pc + 2 = q := by rfl) : own_Run p e below Q m T pc Ls (.int n :: rest) := by
  have g0 := A.fr
  obtain ⟨⟨hx, hby, r⟩, vm0, locs, X, B, hZ, hown, hT, N, Od, hEL, Ch, Sf⟩ := A
  subst hby hq
  obtain ⟨T', h', cA, X', e', E, Ar, st'⟩ := newP X hx (s := s.setVm vm0) hZ w1 hT (g := mkF m pc Ls (.int n :: rest)) rfl hd rfl hn hcap hb hc hl
  exact own_by st' (k T' h' h.size cA rfl g0 ⟨⟨hx, rfl, r⟩, vm0, _, X', B.le E.1, hZ, hown, e', N, Od.ext E, hEL, Ch.trans (CHr.ext E Ch.1), Sf.new Ch.1 E Ar.lt⟩ E Ar)
theorem own_initO (A : own_At w p l e R s m args below meth c bytes ret own nm mx Z n0 a0 EL sf T h cells slots) {i : Nat} {a : Addr} (w1 : (Jvm.Cond.methodLink own i Lib.objectInit).before a0 Z = true) (w2 : (Jvm.Cond.instanceMethod Lib.objectInit).before a0 Z = true) (w3 : (Jvm.Cond.code Lib.objectInit ⟨#[0xb1]⟩ 1 none).before a0 Z = true) (hd : decode bytes pc = .ok (.invokespecial i, 3)) (hsz : Ls.size = mx) {W : Nat} (hf : 1 ≤ R.frames) (hW : (rest.map fun v => v.category).sum ≤ W) (hl : W + 12 ≤ R.locals)
    (k : ∀ T', own_At w p l e R s m args below meth c bytes ret own nm mx Z n0 a0 EL sf T' h cells slots → own_Run p e below Q m T' q Ls rest) (hq : pc + 3 = q := by rfl) : own_Run p e below Q m T pc Ls (.ref a :: rest) := by
  obtain ⟨⟨hx, hby, r1, r2, r3, r4⟩, vm0, locs, X, B, hZ, hown, hT, N, Od, hEL, Ch, Sf⟩ := A
  subst hby hq
  obtain ⟨T', X', e', st'⟩ := initO X hx (s := s.setVm vm0) hZ hown w1 w2 w3 hT (g := mkF m pc Ls (.ref a :: rest)) rfl (hsz.trans r4.symm) rfl hd hf (W := W) (by show 2 * 0 + _ ≤ _; rw [Nat.mul_zero, Nat.zero_add]; exact hW) hl
  exact own_by st' (k T' ⟨⟨hx, rfl, r1, r2, r3, r4⟩, vm0, _, X', B, hZ, hown, e', N, Od, hEL, Ch, Sf⟩)
theorem own_stC (A : own_At w p l e R s m args below meth c bytes ret own nm mx Z n0 a0 EL sf T h cells slots) {a : Addr} {cl : Cell} {j x : Int32} (Ar : Arr Z h a cl .char) (hj : ¬ (j < 0 ∨ cl.slots.size ≤ j.toNatClampNeg)) (ha : n0 ≤ a) (hwo : own_Wok Z EL sf h a) (hd : decode bytes pc = .ok (.castore, 1)) (k : ∀ T' h', own_At w p l e R s m args below meth c bytes ret own nm mx Z n0 a0 EL sf T' h' cells slots → Wr h h' a j.toNatClampNeg (.int (nar .char x)) → own_Run p e below Q m T' q Ls rest) (hq : pc + 1 = q := by rfl) : own_Run p e below Q m T pc Ls (.int x :: .int j :: .ref a :: rest) := by
  obtain ⟨⟨hx, hby, r⟩, vm0, locs, X, B, hZ, hown, hT, N, Od, hEL, Ch, Sf⟩ := A
  subst hby hq
  obtain ⟨T', h', X', e', W, st'⟩ := RoadKit.stC X hx (s := s.setVm vm0) hZ hT Ar hj (g := mkF m pc Ls (.int x :: .int j :: .ref a :: rest)) rfl rfl hd
  exact own_by st' (k T' h' ⟨⟨hx, rfl, r⟩, vm0, _, X', B.le (Nat.le_of_eq W.size.symm), hZ, hown, e', Fr.snoc X' N ha, Od.wr W ha, hEL, Ch.trans (CHr.wr W (hwo.safe hZ Sf) Ch.1), Sf.wr Ch.1 W (hwo.safe hZ Sf)⟩ W)
theorem own_stB (A : own_At w p l e R s m args below meth c bytes ret own nm mx Z n0 a0 EL sf T h cells slots) {a : Addr} {cl : Cell} {j x : Int32} (Ar : Arr Z h a cl .byte) (hj : ¬ (j < 0 ∨ cl.slots.size ≤ j.toNatClampNeg)) (ha : n0 ≤ a) (hwo : own_Wok Z EL sf h a) (hd : decode bytes pc = .ok (.bastore, 1)) (k : ∀ T' h', own_At w p l e R s m args below meth c bytes ret own nm mx Z n0 a0 EL sf T' h' cells slots → Wr h h' a j.toNatClampNeg (.int (nar .byte x)) → own_Run p e below Q m T' q Ls rest) (hq : pc + 1 = q := by rfl) : own_Run p e below Q m T pc Ls (.int x :: .int j :: .ref a :: rest) := by
  obtain ⟨⟨hx, hby, r⟩, vm0, locs, X, B, hZ, hown, hT, N, Od, hEL, Ch, Sf⟩ := A
  subst hby hq
  obtain ⟨T', h', X', e', W, st'⟩ := RoadKit.stB X hx (s := s.setVm vm0) hZ hT Ar hj (g := mkF m pc Ls (.int x :: .int j :: .ref a :: rest)) rfl rfl hd
  exact own_by st' (k T' h' ⟨⟨hx, rfl, r⟩, vm0, _, X', B.le (Nat.le_of_eq W.size.symm), hZ, hown, e', Fr.snoc X' N ha, Od.wr W ha, hEL, Ch.trans (CHr.wr W (hwo.safe hZ Sf) Ch.1), Sf.wr Ch.1 W (hwo.safe hZ Sf)⟩ W)
theorem own_arrlen (A : own_At w p l e R s m args below meth c bytes ret own nm mx Z n0 a0 EL sf T h cells slots) {a : Addr} {cl : Cell} {ty : FieldType} (Ar : Arr Z h a cl ty) (hd : decode bytes pc = .ok (.arraylength, 1)) (k : own_Run p e below Q m T q Ls (.int cl.slots.size.toInt32 :: rest)) (hq : pc + 1 = q := by rfl) : own_Run p e below Q m T pc Ls (.ref a :: rest) := by
  obtain ⟨⟨hx, hby, r⟩, vm0, locs, X, B, hZ, hown, hT, N, Od, hEL, Ch, Sf⟩ := A
  subst hby hq hT
  exact own_by (fun t z => X.arraylength hx Ar.1 (State.isArrayOf_alike (T := s.setVm vm0) hZ.alike Ar.2.1) (g := mkF m pc Ls (.ref a :: rest)) rfl rfl hd t z) k
theorem own_caload (A : own_At w p l e R s m args below meth c bytes ret own nm mx Z n0 a0 EL sf T h cells slots) {a : Addr} {cl : Cell} {j : Int32} {v : Value} (Ar : Arr Z h a cl .char) (hj : ¬ (j < 0 ∨ cl.slots.size ≤ j.toNatClampNeg)) (hv : cl.slots[j.toNatClampNeg]? = some v) (hd : decode bytes pc = .ok (.caload, 1)) (k : own_Run p e below Q m T q Ls (v :: rest)) (hq : pc + 1 = q := by rfl) : own_Run p e below Q m T pc Ls (.int j :: .ref a :: rest) := by
  obtain ⟨⟨hx, hby, r⟩, vm0, locs, X, B, hZ, hown, hT, N, Od, hEL, Ch, Sf⟩ := A
  subst hby hq hT
  exact own_by (fun t z => X.caload hx Ar.1 (State.isArrayOf_alike (T := s.setVm vm0) hZ.alike Ar.2.1) Ar.2.2 hj hv (g := mkF m pc Ls (.int j :: .ref a :: rest)) rfl rfl hd t z) k
theorem own_baload (A : own_At w p l e R s m args below meth c bytes ret own nm mx Z n0 a0 EL sf T h cells slots) {a : Addr} {cl : Cell} {j : Int32} {v : Value} (Ar : Arr Z h a cl .byte) (hj : ¬ (j < 0 ∨ cl.slots.size ≤ j.toNatClampNeg)) (hv : cl.slots[j.toNatClampNeg]? = some v) (hd : decode bytes pc = .ok (.baload, 1)) (k : own_Run p e below Q m T q Ls (v :: rest)) (hq : pc + 1 = q := by rfl) : own_Run p e below Q m T pc Ls (.int j :: .ref a :: rest) := by
  obtain ⟨⟨hx, hby, r⟩, vm0, locs, X, B, hZ, hown, hT, N, Od, hEL, Ch, Sf⟩ := A
  subst hby hq hT
  exact own_by (fun t z => X.baloadBytes hx Ar.1 (State.isArrayOf_alike (T := s.setVm vm0) hZ.alike Ar.2.1) Ar.2.2 hj hv (g := mkF m pc Ls (.int j :: .ref a :: rest)) rfl rfl hd t z) k
/-- a callee that a library or own law pays, narrow (it interns nothing; ws: what it may write) -/
def own_Pays (l : Launch) (R : Room) (p : Program) (e : Env) (below : List Frame) (s : State) (args : Array Value) (Z : State) (n0 : Nat) (EL : List (String × Nat)) (ws : List Addr) (y : MethodName) (len W k n : Nat) (as' : Array Value) (h : Heap) (Qc : Option Value → Heap → Prop) : Prop :=
  ∀ vm0, Z.Warmed39 vm0 → Back l R p e below (s.setVm vm0) args y len W (fun A a => a = as' ∧ A.U.heap = h ∧ A.cells + k ≤ R.cells ∧ A.slots + n ≤ R.slots)
    (fun A _ v B => ∃ L, (Qc v B.U.heap ∧ Fr n0 L ∧ Old Z n0 B.U.heap ∧ h.size ≤ B.U.heap.size ∧ (EL = [] ∨ Keep h B.U.heap ws)) ∧ B.locs = A.locs ++ L ∧ B.cells = A.cells + k ∧ B.slots = A.slots + n)
theorem own_pay {y : MethodName} {bytes : ByteArray} {mx len W : Nat} {ret : Option FieldType} {rm : Room} {as' : Array Value} {Qc : Option Value → Heap → Prop} (M : own_Met false l Z n0 [] [] y bytes mx ret [] rm as' h Qc) (wc : (Jvm.Cond.code y bytes mx ret).before a0 Z = true) (wz : (Jvm.Cond.initialized y.cls).before a0 Z = true) (hf : rm.frames + 1 ≤ R.frames) (hl : W + (mx + 11) + rm.locals ≤ R.locals) :
    own_Pays l R p e below s args Z n0 [] [] y len W rm.cells rm.slots as' h Qc := fun vm0 hZ => by
  have M' : MetFree l y (head1 [Jvm.Cond.code y bytes mx ret] rm) (fun a U => a = as' ∧ Z.Warmed39 U.vm ∧ U.heap = h) (fun _ _ _ _ _ => True) (fun _ U o U' => ∃ v L, o = .returned v ∧ (fun v h' L => Qc v h' ∧ Fr n0 L ∧ Old Z n0 h' ∧ h.size ≤ h'.size ∧ (([] : List (String × Nat)) = [] ∨ Keep h h' [])) v U'.heap L ∧ FrameEnd U o U' L rm.cells rm.slots) :=
    MetFree.mono M (fun _ U z => ⟨z.1, z.2.1, z.2.2, (own_ch0 (vm := U.vm) (h := h) (Nat.le_refl _)).1, fun x hx => nomatch hx⟩) (fun _ _ _ _ _ z => z) (fun a U o U' hp ⟨v, L, h1, ⟨h2, h3, h4, h5⟩, _, h6⟩ => ⟨v, L, h1, ⟨h2, h3, h4, hp.2.2 ▸ h5, Or.inl rfl⟩, h6⟩)
  exact backOf (s := s.setVm vm0) (Q := fun v h' L => Qc v h' ∧ Fr n0 L ∧ Old Z n0 h' ∧ h.size ≤ h'.size ∧ (([] : List (String × Nat)) = [] ∨ Keep h h' [])) M' hZ wc wz hf hl
/-- a callee that may intern; sf': what it asks to be made and no literal's -/
def own_PaysW (l : Launch) (R : Room) (p : Program) (e : Env) (below : List Frame) (s : State) (args : Array Value) (Z : State) (n0 : Nat) (a0 : Array Value) (EL : List (String × Nat)) (ws : List Addr) (y : MethodName) (len W k n : Nat) (as' : Array Value) (h : Heap) (Qc : Option Value → Heap → Prop) : Prop :=
  ∀ vm0, EW Z a0 EL → Z.Warmed39 vm0 → CHv Z EL vm0 h → own_Sf Z EL vm0 h ws → BackS l R p e below (s.setVm vm0) args y len W (fun A a => a = as' ∧ A.U.heap = h ∧ A.cells + k ≤ R.cells ∧ A.slots + n ≤ R.slots)
    (fun A _ v B => ∃ L, (Qc v B.U.heap ∧ Fr n0 L ∧ Old Z n0 B.U.heap ∧ CHr Z EL vm0 h B.U.vm B.U.heap) ∧ B.locs = A.locs ++ L ∧ B.cells = A.cells + k ∧ B.slots = A.slots + n)
theorem own_payW {ws : List Addr} {y : MethodName} {bytes : ByteArray} {mx len W : Nat} {ret : Option FieldType} {rm : Room} {as' : Array Value} {Qc : Option Value → Heap → Prop} (M : own_Met true l Z n0 EL ws y bytes mx ret [] rm as' h Qc) (wc : (Jvm.Cond.code y bytes mx ret).before a0 Z = true) (wz : (Jvm.Cond.initialized y.cls).before a0 Z = true) (hf : rm.frames + 1 ≤ R.frames) (hl : W + (mx + 11) + rm.locals ≤ R.locals) :
    own_PaysW l R p e below s args Z n0 a0 EL ws y len W rm.cells rm.slots as' h Qc := fun vm0 hEL hZ H S => by
  refine BackS.of_freeW (bytes := bytes) (maxL := mx) (ret := ret) (E := fun _ first o t L k n => k = rm.cells ∧ n = rm.slots ∧ (∃ v, o = .returned v ∧ Qc v t.heap ∧ Fr n0 L ∧ Old Z n0 t.heap) ∧ CHr Z EL first.vm first.heap t.vm t.heap) M hf hl ?_ ?_ (fun _ _ _ _ _ _ _ _ _ => trivial) ?_ ?_
  · intro m meth c A a Y hp
    have hU : Z.Warmed39 A.U.vm := wtrans (s := s.setVm vm0) hZ Y.warmed
    exact ⟨by show (Cond.and _ .tt).before a A.U = true; rw [Cond.before_and, mv hU wc]; rfl, mv hU wc, mv hU wz, hp.2.2.1, hp.2.2.2⟩
  · intro m meth c A a g mk Y hp
    have C := CHv.at Y hZ hEL H
    exact ⟨hp.1, wtrans (s := s.setVm vm0) hZ Y.warmed, hp.2.1, C.1, fun x hx => ⟨C.safe (S x hx).2 (S x hx).1, (S x hx).2⟩⟩
  · rintro a first o t ⟨v, L, h1, ⟨h2, h3, h4, h5⟩, h6, h7⟩
    exact ⟨L, _, _, h7, rfl, rfl, ⟨v, h1, h2, h3, h4⟩, h6⟩
  · rintro m meth c A a g mk v t L k n Y hp - - ⟨e1, e2, ⟨v', e3, e4, e5, e6⟩, e7⟩
    cases e3
    subst e1 e2
    refine ⟨L, ⟨e4, e5, e6, (CHv.at Y hZ hEL H).trans ?_⟩, rfl, rfl, rfl⟩
    rw [← hp.2.1]
    exact e7
theorem own_static (A : own_At w p l e R s m args below meth c bytes ret own nm mx Z n0 a0 EL sf T h cells slots) {i mxy : Nat} {y : MethodName} {by' : ByteArray} {rt : Option FieldType} {k n W : Nat} {argsL : List Value} {Qc : Option Value → Heap → Prop} (w1 : (Jvm.Cond.methodLink own i y).before a0 Z = true) (w2 : (Jvm.Cond.static y).before a0 Z = true) (w3 : (Jvm.Cond.initialized y.cls).before a0 Z = true) (w4 : (Jvm.Cond.code y by' mxy rt).before a0 Z = true) (hy : y.cls ≠ "java/lang/invoke/MethodHandle" ∧ y.cls ≠ "java/lang/invoke/VarHandle") {ws : List Addr} (M : own_Pays l R p e below s args Z n0 EL ws y 3 W k n argsL.toArray h Qc) (hws : ∀ x ∈ ws, x ∈ sf) (hW : (rest.map fun v => v.category).sum ≤ W)  {sig : MethodDescriptor} (hds : parseMethodDescriptor y.desc = some sig) (hlen : argsL.length = sig.parameters.length) (hst : st = argsL.reverse ++ rest) (hsz : Ls.size = mx) (hd : decode bytes pc = .ok (.invokestatic i, 3)) (hc : cells + k ≤ R.cells) (hs : slots + n ≤ R.slots)
    (kk : ∀ v T' h', own_At w p l e R s m args below meth c bytes ret own nm mx Z n0 a0 EL sf T' h' (cells + k) (slots + n) → Qc v h' → own_Run p e below Q m T' q Ls (v.toList ++ rest)) (hq : pc + 3 = q := by rfl) : own_Run p e below Q m T pc Ls st := by
  obtain ⟨⟨hx, hby, r1, r2, r3, r4⟩, vm0, locs, X, B, hZ, hown, hT, N, Od, hEL, Ch, Sf⟩ := A
  subst hby hq hst hT
  obtain ⟨v, vm1, ⟨T', L', k', n'⟩, -, X', ⟨L, ⟨hQ, N', O', gr, hK⟩, l1, l2, l3⟩, st'⟩ := Jvm.LawKit.callS X hx hown (mvT (s := s.setVm vm0) hZ w1) (mvT (s := s.setVm vm0) hZ w2) (mvT (s := s.setVm vm0) hZ w3) (mvT (s := s.setVm vm0) hZ w4) hy (M vm0 hZ) (g := mkF m pc Ls (argsL.reverse ++ rest)) rfl (hsz.trans r4.symm)  (argsL := argsL) (rest := rest) (lenOf (ps := sig.parameters) (r := sig.returnType) hds hlen) rfl (by show 2 * 0 + _ ≤ _; rw [Nat.mul_zero, Nat.zero_add]; exact hW) hd (fun _ _ => ⟨rfl, rfl, hc, hs⟩)
  dsimp only [Pt.U, Pt.locs, Pt.cells, Pt.slots] at X' l1 l2 l3 st' hQ O' gr hK
  subst l1 l2 l3
  have C : CHr Z EL vm0 T.heap vm0 T'.heap := by
    rcases hK with rfl | hK
    · exact own_ch0 gr
    · exact CHr.keep hK (fun x hx => (Sf x (hws x hx)).1) Ch.1
  exact own_by (st') (kk v T' T'.heap ⟨⟨hx, rfl, r1, r2, r3, r4⟩, vm0, _, X', B.le gr, hZ, hown, rfl, N.app N', O', hEL, Ch.trans C, Sf.ch C⟩ hQ)
theorem own_staticW (A : own_At true p l e R s m args below meth c bytes ret own nm mx Z n0 a0 EL sf T h cells slots) {i mxy : Nat} {y : MethodName} {by' : ByteArray} {rt : Option FieldType} {k n W : Nat} {argsL : List Value} {Qc : Option Value → Heap → Prop} (w1 : (Jvm.Cond.methodLink own i y).before a0 Z = true) (w2 : (Jvm.Cond.static y).before a0 Z = true) (w3 : (Jvm.Cond.initialized y.cls).before a0 Z = true) (w4 : (Jvm.Cond.code y by' mxy rt).before a0 Z = true) (hy : y.cls ≠ "java/lang/invoke/MethodHandle" ∧ y.cls ≠ "java/lang/invoke/VarHandle") {ws : List Addr} (M : own_PaysW l R p e below s args Z n0 a0 EL ws y 3 W k n argsL.toArray h Qc) (hws : ∀ x ∈ ws, x ∈ sf) (hW : (rest.map fun v => v.category).sum ≤ W)  {sig : MethodDescriptor} (hds : parseMethodDescriptor y.desc = some sig) (hlen : argsL.length = sig.parameters.length) (hst : st = argsL.reverse ++ rest) (hsz : Ls.size = mx) (hd : decode bytes pc = .ok (.invokestatic i, 3)) (hc : cells + k ≤ R.cells) (hs : slots + n ≤ R.slots)
    (kk : ∀ v T' h', own_At true p l e R s m args below meth c bytes ret own nm mx Z n0 a0 EL sf T' h' (cells + k) (slots + n) → Qc v h' → own_Run p e below Q m T' q Ls (v.toList ++ rest)) (hq : pc + 3 = q := by rfl) : own_Run p e below Q m T pc Ls st := by
  obtain ⟨⟨hx, hby, r1, r2, r3, r4⟩, vm0, locs, X, B, hZ, hown, hT, N, Od, hEL, Ch, Sf⟩ := A
  subst hby hq hst hT
  obtain ⟨v, vm1, ⟨T', L', k', n'⟩, -, X', hS, gr, ⟨L, ⟨hQ, N', O', C⟩, l1, l2, l3⟩, st'⟩ := callSS X hx hown (mvT (s := s.setVm vm0) hZ w1) (mvT (s := s.setVm vm0) hZ w2) (mvT (s := s.setVm vm0) hZ w3) (mvT (s := s.setVm vm0) hZ w4) hy (M vm0 hEL hZ Ch.1 (fun x hx => Sf x (hws x hx))) (g := mkF m pc Ls (argsL.reverse ++ rest)) rfl (hsz.trans r4.symm)  (argsL := argsL) (rest := rest) (lenOf (ps := sig.parameters) (r := sig.returnType) hds hlen) rfl (by show 2 * 0 + _ ≤ _; rw [Nat.mul_zero, Nat.zero_add]; exact hW) hd (fun _ _ => ⟨rfl, rfl, hc, hs⟩)
  dsimp only [Pt.U, Pt.locs, Pt.cells, Pt.slots] at X' l1 l2 l3 st' hQ O' hS gr C
  subst l1 l2 l3
  have hZ' : Z.Warmed39 T'.vm := State.Warmed39.trans (t := s.setVm vm0) hZ hS.1
  have hown' : T'.vm.findClass own = some m.cls := by rw [hS.1.alike.findClass]; exact hown
  obtain ⟨k0, B1, B2⟩ : ∃ k0, s.Since vm0 k0 ∧ k0 ≤ T.heap.size := by
    rcases B with ⟨B, -⟩ | ⟨-, B⟩
    · cases B
    · exact B
  exact own_by (fun _ z => st'.trans z) (kk v T' T'.heap ⟨⟨hx, rfl, r1, r2, r3, r4⟩, T'.vm, _, X', Or.inr ⟨rfl, _, B1.trans hS (Nat.le_trans B2 gr), Nat.le_refl _⟩, hZ', hown', rfl, N.app N', O', hEL, Ch.trans C, Sf.ch C⟩ hQ)
theorem own_special (A : own_At w p l e R s m args below meth c bytes ret own nm mx Z n0 a0 EL sf T h cells slots) {i mxy : Nat} {y : MethodName} {by' : ByteArray} {a : Addr} {k n W : Nat} {argsL : List Value} {Qc : Option Value → Heap → Prop} (hy1 : y.name = "<init>") (w1 : (Jvm.Cond.methodLink own i y).before a0 Z = true) (w2 : (Jvm.Cond.instanceMethod y).before a0 Z = true) (w3 : (Jvm.Cond.code y by' mxy none).before a0 Z = true) (hy : y.cls ≠ "java/lang/invoke/MethodHandle" ∧ y.cls ≠ "java/lang/invoke/VarHandle") {ws : List Addr} (M : own_Pays l R p e below s args Z n0 EL ws y 3 W k n (.ref a :: argsL).toArray h Qc) (hws : ∀ x ∈ ws, x ∈ sf) (hW : (rest.map fun v => v.category).sum ≤ W)  {sig : MethodDescriptor} (hds : parseMethodDescriptor y.desc = some sig) (hlen : argsL.length = sig.parameters.length) (hst : st = argsL.reverse ++ .ref a :: rest) (hsz : Ls.size = mx) (hd : decode bytes pc = .ok (.invokespecial i, 3)) (hc : cells + k ≤ R.cells) (hs : slots + n ≤ R.slots)
    (kk : ∀ v T' h', own_At w p l e R s m args below meth c bytes ret own nm mx Z n0 a0 EL sf T' h' (cells + k) (slots + n) → Qc v h' → own_Run p e below Q m T' q Ls (v.toList ++ rest)) (hq : pc + 3 = q := by rfl) : own_Run p e below Q m T pc Ls st := by
  obtain ⟨⟨hx, hby, r1, r2, r3, r4⟩, vm0, locs, X, B, hZ, hown, hT, N, Od, hEL, Ch, Sf⟩ := A
  subst hby hq hst hT
  obtain ⟨v, vm1, ⟨T', L', k', n'⟩, -, X', ⟨L, ⟨hQ, N', O', gr, hK⟩, l1, l2, l3⟩, st'⟩ := X.specialBack hx hy1 hown (mvT (s := s.setVm vm0) hZ w1) (mvT (s := s.setVm vm0) hZ w2) (mvT (s := s.setVm vm0) hZ w3) hy (M vm0 hZ) (g := mkF m pc Ls (argsL.reverse ++ .ref a :: rest)) rfl (hsz.trans r4.symm) (Steps.refl _) (a := a) (argsL := argsL) (rest := rest) (lenOf (ps := sig.parameters) (r := sig.returnType) hds hlen) rfl (by show 2 * 0 + _ ≤ _; rw [Nat.mul_zero, Nat.zero_add]; exact hW) hd (fun _ _ => ⟨rfl, rfl, hc, hs⟩)
  dsimp only [Pt.U, Pt.locs, Pt.cells, Pt.slots] at X' l1 l2 l3 st' hQ O' gr hK
  subst l1 l2 l3
  have C : CHr Z EL vm0 T.heap vm0 T'.heap := by
    rcases hK with rfl | hK
    · exact own_ch0 gr
    · exact CHr.keep hK (fun x hx => (Sf x (hws x hx)).1) Ch.1
  exact own_by (fun _ z => st'.trans z) (kk v T' T'.heap ⟨⟨hx, rfl, r1, r2, r3, r4⟩, vm0, _, X', B.le gr, hZ, hown, rfl, N.app N', O', hEL, Ch.trans C, Sf.ch C⟩ hQ)
theorem own_virtual (A : own_At w p l e R s m args below meth c bytes ret own nm mx Z n0 a0 EL sf T h cells slots) {i : Nat} {y : MethodName} {C : String} {a : Addr} {k n W : Nat} {argsL : List Value} {Qc : Option Value → Heap → Prop} (w1 : (Jvm.Cond.methodLink own i y).before a0 Z = true) (w2 : (Jvm.Cond.declares y).before a0 Z = true) (w3 : (Jvm.Cond.selects C y y).before a0 Z = true) (w4 : (Jvm.Cond.instanceMethod y).before a0 Z = true) (hy : y.cls ≠ "java/lang/invoke/MethodHandle" ∧ y.cls ≠ "java/lang/invoke/VarHandle") {ws : List Addr} (M : own_Pays l R p e below s args Z n0 EL ws y 3 W k n (.ref a :: argsL).toArray h Qc) (hws : ∀ x ∈ ws, x ∈ sf) (hW : (rest.map fun v => v.category).sum ≤ W) (E : Exa Z h a C) {sig : MethodDescriptor} (hds : parseMethodDescriptor y.desc = some sig) (hlen : argsL.length = sig.parameters.length) (hst : st = argsL.reverse ++ .ref a :: rest) (hsz : Ls.size = mx) (hd : decode bytes pc = .ok (.invokevirtual i, 3)) (hc : cells + k ≤ R.cells) (hs : slots + n ≤ R.slots)
    (kk : ∀ v T' h', own_At w p l e R s m args below meth c bytes ret own nm mx Z n0 a0 EL sf T' h' (cells + k) (slots + n) → Qc v h' → own_Run p e below Q m T' q Ls (v.toList ++ rest)) (hq : pc + 3 = q := by rfl) : own_Run p e below Q m T pc Ls st := by
  obtain ⟨⟨hx, hby, r1, r2, r3, r4⟩, vm0, locs, X, B, hZ, hown, hT, N, Od, hEL, Ch, Sf⟩ := A
  subst hby hq hst hT
  obtain ⟨cq, kq, qa, qb, qc⟩ := isOf (s := s.setVm vm0) (T := T) hZ rfl E
  obtain ⟨v, vm1, ⟨T', L', k', n'⟩, -, X', ⟨L, ⟨hQ, N', O', gr, hK⟩, l1, l2, l3⟩, st'⟩ := X.virtualBack hx hown (mvT (s := s.setVm vm0) hZ w1) (mvT (s := s.setVm vm0) hZ w2) (notFace_of_selects (args := #[]) (mvT (s := s.setVm vm0) hZ w3)) (mvT (s := s.setVm vm0) hZ w3) (mvT (s := s.setVm vm0) hZ w4) hy (M vm0 hZ) qa qc (g := mkF m pc Ls (argsL.reverse ++ .ref a :: rest)) rfl (hsz.trans r4.symm) (Steps.refl _) (argsL := argsL) (rest := rest) (lenOf (ps := sig.parameters) (r := sig.returnType) hds hlen) rfl (by show 2 * 0 + _ ≤ _; rw [Nat.mul_zero, Nat.zero_add]; exact hW) hd (fun _ _ => ⟨rfl, rfl, hc, hs⟩)
  dsimp only [Pt.U, Pt.locs, Pt.cells, Pt.slots] at X' l1 l2 l3 st' hQ O' gr hK
  subst l1 l2 l3
  have C : CHr Z EL vm0 T.heap vm0 T'.heap := by
    rcases hK with rfl | hK
    · exact own_ch0 gr
    · exact CHr.keep hK (fun x hx => (Sf x (hws x hx)).1) Ch.1
  exact own_by (fun _ z => st'.trans z) (kk v T' T'.heap ⟨⟨hx, rfl, r1, r2, r3, r4⟩, vm0, _, X', B.le gr, hZ, hown, rfl, N.app N', O', hEL, Ch.trans C, Sf.ch C⟩ hQ)
theorem own_virtualW (A : own_At true p l e R s m args below meth c bytes ret own nm mx Z n0 a0 EL sf T h cells slots) {i : Nat} {y : MethodName} {C : String} {a : Addr} {k n W : Nat} {argsL : List Value} {Qc : Option Value → Heap → Prop} (w1 : (Jvm.Cond.methodLink own i y).before a0 Z = true) (w2 : (Jvm.Cond.declares y).before a0 Z = true) (w3 : (Jvm.Cond.selects C y y).before a0 Z = true) (w4 : (Jvm.Cond.instanceMethod y).before a0 Z = true) (hy : y.cls ≠ "java/lang/invoke/MethodHandle" ∧ y.cls ≠ "java/lang/invoke/VarHandle") {ws : List Addr} (M : own_PaysW l R p e below s args Z n0 a0 EL ws y 3 W k n (.ref a :: argsL).toArray h Qc) (hws : ∀ x ∈ ws, x ∈ sf) (hW : (rest.map fun v => v.category).sum ≤ W) (E : Exa Z h a C) {sig : MethodDescriptor} (hds : parseMethodDescriptor y.desc = some sig) (hlen : argsL.length = sig.parameters.length) (hst : st = argsL.reverse ++ .ref a :: rest) (hsz : Ls.size = mx) (hd : decode bytes pc = .ok (.invokevirtual i, 3)) (hc : cells + k ≤ R.cells) (hs : slots + n ≤ R.slots)
    (kk : ∀ v T' h', own_At true p l e R s m args below meth c bytes ret own nm mx Z n0 a0 EL sf T' h' (cells + k) (slots + n) → Qc v h' → own_Run p e below Q m T' q Ls (v.toList ++ rest)) (hq : pc + 3 = q := by rfl) : own_Run p e below Q m T pc Ls st := by
  obtain ⟨⟨hx, hby, r1, r2, r3, r4⟩, vm0, locs, X, B, hZ, hown, hT, N, Od, hEL, Ch, Sf⟩ := A
  subst hby hq hst hT
  obtain ⟨cq, kq, qa, qb, qc⟩ := isOf (s := s.setVm vm0) (T := T) hZ rfl E
  obtain ⟨v, vm1, ⟨T', L', k', n'⟩, -, X', hS, gr, ⟨L, ⟨hQ, N', O', C⟩, l1, l2, l3⟩, st'⟩ := X.virtualBackS hx hown (mvT (s := s.setVm vm0) hZ w1) (mvT (s := s.setVm vm0) hZ w2) (notFace_of_selects (args := #[]) (mvT (s := s.setVm vm0) hZ w3)) (mvT (s := s.setVm vm0) hZ w3) (mvT (s := s.setVm vm0) hZ w4) hy (M vm0 hEL hZ Ch.1 (fun x hx => Sf x (hws x hx))) qa qc (g := mkF m pc Ls (argsL.reverse ++ .ref a :: rest)) rfl (hsz.trans r4.symm) (Steps.refl _) (argsL := argsL) (rest := rest) (lenOf (ps := sig.parameters) (r := sig.returnType) hds hlen) rfl (by show 2 * 0 + _ ≤ _; rw [Nat.mul_zero, Nat.zero_add]; exact hW) hd (fun _ _ => ⟨rfl, rfl, hc, hs⟩)
  dsimp only [Pt.U, Pt.locs, Pt.cells, Pt.slots] at X' l1 l2 l3 st' hQ O' hS gr C
  subst l1 l2 l3
  have hZ' : Z.Warmed39 T'.vm := State.Warmed39.trans (t := s.setVm vm0) hZ hS.1
  have hown' : T'.vm.findClass own = some m.cls := by rw [hS.1.alike.findClass]; exact hown
  obtain ⟨k0, B1, B2⟩ : ∃ k0, s.Since vm0 k0 ∧ k0 ≤ T.heap.size := by
    rcases B with ⟨B, -⟩ | ⟨-, B⟩
    · cases B
    · exact B
  exact own_by (fun _ z => st'.trans z) (kk v T' T'.heap ⟨⟨hx, rfl, r1, r2, r3, r4⟩, T'.vm, _, X', Or.inr ⟨rfl, _, B1.trans hS (Nat.le_trans B2 gr), Nat.le_refl _⟩, hZ', hown', rfl, N.app N', O', hEL, Ch.trans C, Sf.ch C⟩ hQ)
theorem own_virtualUp (A : own_At w p l e R s m args below meth c bytes ret own nm mx Z n0 a0 EL sf T h cells slots) {i : Nat} {x y : MethodName} {C owner : String} {a : Addr} {k n W : Nat} {argsL : List Value} {Qc : Option Value → Heap → Prop} (w1 : (Jvm.Cond.methodLink own i x).before a0 Z = true) (w2 : (Jvm.Cond.sameMethod x.cls owner x.name x.desc).before a0 Z = true) (w3 : (Jvm.Cond.declares ⟨owner, x.name, x.desc⟩).before a0 Z = true) (hy : owner ≠ "java/lang/invoke/MethodHandle" ∧ owner ≠ "java/lang/invoke/VarHandle") (w4 : (Jvm.Cond.selects C x y).before a0 Z = true) (w5 : (Jvm.Cond.instanceMethod y).before a0 Z = true) {ws : List Addr} (M : own_Pays l R p e below s args Z n0 EL ws y 3 W k n (.ref a :: argsL).toArray h Qc) (hws : ∀ x ∈ ws, x ∈ sf) (hW : (rest.map fun v => v.category).sum ≤ W) (E : Exa Z h a C) {sig : MethodDescriptor} (hds : parseMethodDescriptor x.desc = some sig) (hlen : argsL.length = sig.parameters.length) (hst : st = argsL.reverse ++ .ref a :: rest) (hsz : Ls.size = mx) (hd : decode bytes pc = .ok (.invokevirtual i, 3)) (hc : cells + k ≤ R.cells) (hs : slots + n ≤ R.slots)
    (kk : ∀ v T' h', own_At w p l e R s m args below meth c bytes ret own nm mx Z n0 a0 EL sf T' h' (cells + k) (slots + n) → Qc v h' → own_Run p e below Q m T' q Ls (v.toList ++ rest)) (hq : pc + 3 = q := by rfl) : own_Run p e below Q m T pc Ls st := by
  obtain ⟨⟨hx, hby, r1, r2, r3, r4⟩, vm0, locs, X, B, hZ, hown, hT, N, Od, hEL, Ch, Sf⟩ := A
  subst hby hq hst hT
  obtain ⟨cq, kq, qa, qb, qc⟩ := isOf (s := s.setVm vm0) (T := T) hZ rfl E
  obtain ⟨v, vm1, ⟨T', L', k', n'⟩, -, X', ⟨L, ⟨hQ, N', O', gr, hK⟩, l1, l2, l3⟩, st'⟩ := X.virtualBackUp hx hown (mvT (s := s.setVm vm0) hZ w1) (mvT (s := s.setVm vm0) hZ w2) (mvT (s := s.setVm vm0) hZ w3) hy (mvT (s := s.setVm vm0) hZ w4) (mvT (s := s.setVm vm0) hZ w5) (M vm0 hZ) qa qc (g := mkF m pc Ls (argsL.reverse ++ .ref a :: rest)) rfl (hsz.trans r4.symm) (Steps.refl _) (argsL := argsL) (rest := rest) (lenOf (ps := sig.parameters) (r := sig.returnType) hds hlen) rfl (by show 2 * 0 + _ ≤ _; rw [Nat.mul_zero, Nat.zero_add]; exact hW) hd (fun _ _ => ⟨rfl, rfl, hc, hs⟩)
  dsimp only [Pt.U, Pt.locs, Pt.cells, Pt.slots] at X' l1 l2 l3 st' hQ O' gr hK
  subst l1 l2 l3
  have C : CHr Z EL vm0 T.heap vm0 T'.heap := by
    rcases hK with rfl | hK
    · exact own_ch0 gr
    · exact CHr.keep hK (fun x hx => (Sf x (hws x hx)).1) Ch.1
  exact own_by (fun _ z => st'.trans z) (kk v T' T'.heap ⟨⟨hx, rfl, r1, r2, r3, r4⟩, vm0, _, X', B.le gr, hZ, hown, rfl, N.app N', O', hEL, Ch.trans C, Sf.ch C⟩ hQ)
/-- ldc of a String constant that is said to be held, read -/
theorem own_ldcR (A : own_At true p l e R s m args below meth c bytes ret own nm mx Z n0 a0 EL sf T h cells slots) {i n : Nat} {text : String} (wl : (Jvm.Cond.stringLink own i text).before a0 Z = true) (wS : ∀ a ∈ Bundle.stringAtoms, a.before a0 Z = true) (hmem : (own, i) ∈ EL) {vs : List Value} {z : Int32} (ht : (∀ c ∈ text.toList, c.toNat < 256) ∧ text.toList.map (fun c => Value.int (Jvm.Lit.byteI c.toNat.toUInt16)) = vs) (hz : ¬ z < 0) (hlz : z.toNatClampNeg = vs.length) (hd : decode bytes pc = .ok (.ldc i, 2)) (hn : 4 * text.toList.length ≤ n) (hbig : n ≤ 536870912) (hc : cells + 2 ≤ R.cells) (hl : slots + (n + 4) ≤ R.slots)
    (k : ∀ a b cb T' h', own_At true p l e R s m args below meth c bytes ret own nm mx Z n0 a0 EL sf T' h' (cells + 2) (slots + (n + 4)) → Ext h h' → Exa Z h' a "java/lang/String" → Fld Z h' a "java/lang/String" "coder" "B" (.int 0) → Fld Z h' a "java/lang/String" "value" "[B" (.ref b) → Arv Z h' b cb .byte z vs (.int 0) → (∀ x ∈ sf, x ≠ a ∧ x ≠ b) → own_Run p e below Q m T' q Ls (.ref a :: st)) (hq : pc + 2 = q := by rfl) : own_Run p e below Q m T pc Ls st := by
  obtain ⟨⟨hx, hby, r⟩, vm0, locs, X, B, hZ, hown, hT, N, Od, hEL, Ch, Sf⟩ := A
  subst hby hq
  obtain ⟨k0, B1, B2⟩ : ∃ k0, s.Since vm0 k0 ∧ k0 ≤ h.size := by
    rcases B with ⟨B, -⟩ | ⟨-, B⟩
    · cases B
    · exact B
  obtain ⟨a, T', h', k1, b, cb, X', e', E, hS, hk, hZ', hown', f1, f2, f3, f4, -, -, C, -, f5, st'⟩ := ldcCH X hx hZ hown wl wS hT B1 B2 hEL hmem Ch.1 ht hz hlz (g := mkF m pc Ls st) rfl hd hn hbig hc hl
  exact own_by st' (k a b cb T' h' ⟨⟨hx, rfl, r⟩, T'.vm, _, X', Or.inr ⟨rfl, k1, hS, hk⟩, hZ', hown', e', N, Od.ext E, hEL, Ch.trans C, Sf.ch C⟩ E f1 f2 f3 f4 (fun x hx => f5 x (Sf.ch C x hx).1))
theorem own_enterP {y : MethodName} {mx : Nat} {ws : List Jvm.Cond} {rm : Room} {as' : Array Value} {Qc : Option Value → Heap → Prop} (hpl : plainFor y = true) (O : Old Z n0 h) (hEL : EW Z a0 EL) (hef : ∀ m, entryFrame m as' mx = mkF m 0 Ls [])
    (body : ∀ p e s m args below meth c T Q, Q = own_Q w s rm n0 Z EL Qc → own_At w p l e rm s m args below meth c bytes ret own nm mx Z n0 a0 EL sf T h 0 0 → own_Run p e below Q m T 0 Ls []) (ho : y.cls = own := by rfl) (hn : y.name = nm := by rfl) : own_Met w l Z n0 EL sf y bytes mx ret ws rm as' h Qc := by
  subst ho hn
  refine MetFree.of_bodySF hpl hisR ?_
  intro p e s m args below meth c s₁ Bd hml0 hP hK
  obtain ⟨rfl, hZ, hh, hCH, hSf⟩ := hP
  have X0 : Stand p l e rm s m args below meth c s₁ [] 0 0 := Stand.of_body Bd
  have e0 : s₁.heap = h := by rw [← hh, Bd.state]; rfl
  have hown : s.vm.findClass y.cls = some m.cls := findClass_of_methodNamed Bd.named
  have A : own_At w p l e rm s m args below meth c bytes ret y.cls y.name mx Z n0 a0 EL sf s₁ h 0 0 :=
    ⟨⟨Bd.exec, Bd.bytes, Bd.returns, Bd.notSynchronized, (name_of_methodNamed Bd.named Bd.method).1, hml0⟩, s.vm, [], X0, (by
      cases w
      · exact Or.inl ⟨rfl, rfl⟩
      · exact Or.inr ⟨rfl, 0, (State.WarmedH.refl s).since 0, Nat.zero_le _⟩), hZ, hown, e0, Fr.nil n0, O, hEL, (by rw [hh]; exact CHr.refl hCH), hSf⟩
  obtain ⟨s₂, o, h1, h2, h3, h4⟩ := body p e s m args below meth c s₁ _ rfl A
  exact ⟨s₂, o, castTop (hef m) h1, h2, h3, h4⟩
theorem own_payN {ws : List Addr} {y : MethodName} {bytes : ByteArray} {mx len W : Nat} {ret : Option FieldType} {rm : Room} {as' : Array Value} {Qc : Option Value → Heap → Prop} (M : own_Met false l Z n0 [] [] y bytes mx ret [] rm as' h Qc) (hK : ∀ v h', Qc v h' → Keep h h' ws) (wc : (Jvm.Cond.code y bytes mx ret).before a0 Z = true) (wz : (Jvm.Cond.initialized y.cls).before a0 Z = true) (hf : rm.frames + 1 ≤ R.frames) (hl : W + (mx + 11) + rm.locals ≤ R.locals) :
    own_Pays l R p e below s args Z n0 EL ws y len W rm.cells rm.slots as' h Qc := fun vm0 hZ => by
  have M' : MetFree l y (head1 [Jvm.Cond.code y bytes mx ret] rm) (fun a U => a = as' ∧ Z.Warmed39 U.vm ∧ U.heap = h) (fun _ _ _ _ _ => True) (fun _ U o U' => ∃ v L, o = .returned v ∧ (fun v h' L => Qc v h' ∧ Fr n0 L ∧ Old Z n0 h' ∧ h.size ≤ h'.size ∧ (EL = [] ∨ Keep h h' ws)) v U'.heap L ∧ FrameEnd U o U' L rm.cells rm.slots) :=
    MetFree.mono M (fun _ U z => ⟨z.1, z.2.1, z.2.2, (own_ch0 (vm := U.vm) (h := h) (Nat.le_refl _)).1, fun x hx => nomatch hx⟩) (fun _ _ _ _ _ z => z) (fun a U o U' hp ⟨v, L, h1, ⟨h2, h3, h4, h5⟩, _, h6⟩ => ⟨v, L, h1, ⟨h2, h3, h4, hp.2.2 ▸ h5, Or.inr (hK v _ h2)⟩, h6⟩)
  exact backOf (s := s.setVm vm0) (Q := fun v h' L => Qc v h' ∧ Fr n0 L ∧ Old Z n0 h' ∧ h.size ≤ h'.size ∧ (EL = [] ∨ Keep h h' ws)) M' hZ wc wz hf hl
theorem own_same {y y' : MethodName} {C : String} (wi : (Jvm.Cond.instanceMethod y).before a0 Z = true) (wi' : (Jvm.Cond.instanceMethod y').before a0 Z = true) (ws : (Jvm.Cond.selects C y' y').before a0 Z = true) (hc : y'.cls = y.cls) (hy : y.cls ≠ "java/lang/invoke/MethodHandle" ∧ y.cls ≠ "java/lang/invoke/VarHandle") : (Jvm.Cond.sameMethod y.cls y.cls y.name y.desc).before a0 Z = true := by
  obtain ⟨mk, methM, hnamed, hmethM, -, -⟩ := Cond.instanceMethod_spec wi
  obtain ⟨mk', methM', hnamed', hmethM', -, -⟩ := Cond.instanceMethod_spec wi'
  obtain ⟨kr, q1, q2⟩ := notFace_of_selects ws mk' hnamed'
  have f1 := findClass_of_methodNamed hnamed
  have f2 := findClass_of_methodNamed hnamed'
  rw [hc] at f2
  have e : mk'.cls = mk.cls := Option.some.inj (f2.symm.trans f1)
  rw [e] at q1
  have hfound : Z.methodFound? y.cls y.name y.desc = some mk := State.methodFound?_of_named hnamed hy
  simp only [Cond.before, Cond.holds, Cond.value, f1, hfound, hnamed, q1]
  simp
  exact q2
theorem own_selP {y : MethodName} {C : String} {s' : State} {a1 : Array Value} (wi : (Jvm.Cond.instanceMethod y).before a1 s' = true) (ws : (Jvm.Cond.selects C y y).before a1 s' = true) (wp : (Jvm.Cond.privateMethod y).before a1 s' = true) (hy : y.cls ≠ "java/lang/invoke/MethodHandle" ∧ y.cls ≠ "java/lang/invoke/VarHandle") : (Jvm.Cond.selects y.cls y y).before a1 s' = true := by
  obtain ⟨mk, methM, hnamed, hmethM, -, -⟩ := Cond.instanceMethod_spec wi
  obtain ⟨kr, q1, q2⟩ := notFace_of_selects ws mk hnamed
  exact Jvm.Stand.selects_self_of_private (findClass_of_methodNamed hnamed) q1 q2 (Cond.privateMethod_at wp) wi hy
theorem own_private (A : own_At w p l e R s m args below meth c bytes ret own nm mx Z n0 a0 EL sf T h cells slots) {i mxy : Nat} {y : MethodName} {by' : ByteArray} {rt : Option FieldType} {C C' : String} {a : Addr} {k n W : Nat} {argsL : List Value} {Qc : Option Value → Heap → Prop} (w1 : (Jvm.Cond.methodLink own i y).before a0 Z = true) (w2 : (Jvm.Cond.instanceMethod y).before a0 Z = true) (w3 : (Jvm.Cond.selects C y y).before a0 Z = true) (w4 : (Jvm.Cond.privateMethod y).before a0 Z = true) (wc : (Jvm.Cond.code y by' mxy rt).before a0 Z = true) (hy : y.cls ≠ "java/lang/invoke/MethodHandle" ∧ y.cls ≠ "java/lang/invoke/VarHandle") {ws : List Addr} (M : own_Pays l R p e below s args Z n0 EL ws y 3 W k n (.ref a :: argsL).toArray h Qc) (hws : ∀ x ∈ ws, x ∈ sf) (hW : (rest.map fun v => v.category).sum ≤ W) (E : Exa Z h a C') {sig : MethodDescriptor} (hds : parseMethodDescriptor y.desc = some sig) (hlen : argsL.length = sig.parameters.length) (hst : st = argsL.reverse ++ .ref a :: rest) (hsz : Ls.size = mx) (hd : decode bytes pc = .ok (.invokevirtual i, 3)) (hc : cells + k ≤ R.cells) (hs : slots + n ≤ R.slots)
    (kk : ∀ v T' h', own_At w p l e R s m args below meth c bytes ret own nm mx Z n0 a0 EL sf T' h' (cells + k) (slots + n) → Qc v h' → own_Run p e below Q m T' q Ls (v.toList ++ rest)) (hq : pc + 3 = q := by rfl) : own_Run p e below Q m T pc Ls st := by
  obtain ⟨⟨hx, hby, r1, r2, r3, r4⟩, vm0, locs, X, B, hZ, hown, hT, N, Od, hEL, Ch, Sf⟩ := A
  subst hby hq hst hT
  obtain ⟨v, vm1, ⟨T', L', k', n'⟩, -, X', ⟨L, ⟨hQ, N', O', gr, hK⟩, l1, l2, l3⟩, st'⟩ := X.privateBack hx hown (mvT (s := s.setVm vm0) hZ w1) (mvT (s := s.setVm vm0) hZ w2) (own_selP (mvT (s := s.setVm vm0) hZ w2) (mvT (s := s.setVm vm0) hZ w3) (mvP (s := s.setVm vm0) hZ w4) hy) (Cond.privateMethod_at (args := #[]) (mvP (s := s.setVm vm0) hZ w4)) (mvT (s := s.setVm vm0) hZ wc) hy (M vm0 hZ) (g := mkF m pc Ls (argsL.reverse ++ .ref a :: rest)) rfl (hsz.trans r4.symm) (Steps.refl _) E.cell.choose_spec.1 E.cell.choose_spec.2 (argsL := argsL) (rest := rest) (lenOf (ps := sig.parameters) (r := sig.returnType) hds hlen) rfl (by show 2 * 0 + _ ≤ _; rw [Nat.mul_zero, Nat.zero_add]; exact hW) hd (fun _ _ => ⟨rfl, rfl, hc, hs⟩)
  dsimp only [Pt.U, Pt.locs, Pt.cells, Pt.slots] at X' l1 l2 l3 st' hQ O' gr hK
  subst l1 l2 l3
  have C : CHr Z EL vm0 T.heap vm0 T'.heap := by
    rcases hK with rfl | hK
    · exact own_ch0 gr
    · exact CHr.keep hK (fun x hx => (Sf x (hws x hx)).1) Ch.1
  exact own_by (fun _ z => st'.trans z) (kk v T' T'.heap ⟨⟨hx, rfl, r1, r2, r3, r4⟩, vm0, _, X', B.le gr, hZ, hown, rfl, N.app N', O', hEL, Ch.trans C, Sf.ch C⟩ hQ)
theorem own_super (A : own_At w p l e R s m args below meth c bytes ret own nm mx Z n0 a0 EL sf T h cells slots) {i mxy : Nat} {y : MethodName} {by' : ByteArray} {rt : Option FieldType} {C : String} {a : Addr} {k n W : Nat} {argsL : List Value} {Qc : Option Value → Heap → Prop} (w1 : (Jvm.Cond.methodLink own i y).before a0 Z = true) (w2 : (Jvm.Cond.sameMethod y.cls y.cls y.name y.desc).before a0 Z = true) (w3 : (Jvm.Cond.instanceMethod y).before a0 Z = true) (w4 : (Jvm.Cond.superclass own y.cls).before a0 Z = true) (wc : (Jvm.Cond.code y by' mxy rt).before a0 Z = true) (hn : y.name ≠ "<init>") {ws : List Addr} (M : own_Pays l R p e below s args Z n0 EL ws y 3 W k n (.ref a :: argsL).toArray h Qc) (hws : ∀ x ∈ ws, x ∈ sf) (hW : (rest.map fun v => v.category).sum ≤ W) (E : Exa Z h a C) {sig : MethodDescriptor} (hds : parseMethodDescriptor y.desc = some sig) (hlen : argsL.length = sig.parameters.length) (hst : st = argsL.reverse ++ .ref a :: rest) (hsz : Ls.size = mx) (hd : decode bytes pc = .ok (.invokespecial i, 3)) (hc : cells + k ≤ R.cells) (hs : slots + n ≤ R.slots)
    (kk : ∀ v T' h', own_At w p l e R s m args below meth c bytes ret own nm mx Z n0 a0 EL sf T' h' (cells + k) (slots + n) → Qc v h' → own_Run p e below Q m T' q Ls (v.toList ++ rest)) (hq : pc + 3 = q := by rfl) : own_Run p e below Q m T pc Ls st := by
  obtain ⟨⟨hx, hby, r1, r2, r3, r4⟩, vm0, locs, X, B, hZ, hown, hT, N, Od, hEL, Ch, Sf⟩ := A
  subst hby hq hst hT
  obtain ⟨v, vm1, ⟨T', L', k', n'⟩, -, X', ⟨L, ⟨hQ, N', O', gr, hK⟩, l1, l2, l3⟩, st'⟩ := superBack X hx (s := s.setVm vm0) hZ hown w1 w2 w3 w4 hn (M vm0 hZ) rfl (Ins.self E) (g := mkF m pc Ls (argsL.reverse ++ .ref a :: rest)) rfl (hsz.trans r4.symm) wc (argsL := argsL) (rest := rest) (lenOf (ps := sig.parameters) (r := sig.returnType) hds hlen) rfl (by show 2 * 0 + _ ≤ _; rw [Nat.mul_zero, Nat.zero_add]; exact hW) hd (fun _ _ => ⟨rfl, rfl, hc, hs⟩)
  dsimp only [Pt.U, Pt.locs, Pt.cells, Pt.slots] at X' l1 l2 l3 st' hQ O' gr hK
  subst l1 l2 l3
  have C : CHr Z EL vm0 T.heap vm0 T'.heap := by
    rcases hK with rfl | hK
    · exact own_ch0 gr
    · exact CHr.keep hK (fun x hx => (Sf x (hws x hx)).1) Ch.1
  exact own_by (fun _ z => st'.trans z) (kk v T' T'.heap ⟨⟨hx, rfl, r1, r2, r3, r4⟩, vm0, _, X', B.le gr, hZ, hown, rfl, N.app N', O', hEL, Ch.trans C, Sf.ch C⟩ hQ)
theorem own_acopy (A : own_At w p l e R s m args below meth c bytes ret own nm mx Z n0 a0 EL sf T h cells slots) {i W : Nat} {a b : Addr} {k k' : ClassId} {ty : FieldType} {z z' sp dp nn : Int32} {vs vd us : List Value} {dv dd : Value} (w1 : (Jvm.Cond.methodLink own i Jvm.Stand.acN).before a0 Z = true) (w2 : (Jvm.Cond.native Jvm.Stand.acN).before a0 Z = true) (w3 : (Jvm.Cond.static Jvm.Stand.acN).before a0 Z = true) (w4 : (Jvm.Cond.initialized "java/lang/System").before a0 Z = true) (VA : Arv Z h a k ty z vs dv) (VB : Arv Z h b k' ty z' vd dd) (hty : refKind ty = false)
    (h1 : ¬ sp < 0) (h2 : ¬ dp < 0) (h3 : ¬ nn < 0) (h4 : sp.toNatClampNeg + nn.toNatClampNeg ≤ z.toNatClampNeg) (h5 : dp.toNatClampNeg + nn.toNatClampNeg ≤ z'.toNatClampNeg) (hus : us = (List.range nn.toNatClampNeg).map fun i => vs.getD (sp.toNatClampNeg + i) dv) (hl : dp.toNatClampNeg + nn.toNatClampNeg ≤ vd.length) (ge : n0 ≤ b) (hwo : own_Wok Z EL sf h b) (hsz : Ls.size = mx) (hd : decode bytes pc = .ok (.invokestatic i, 3)) (hf : 1 ≤ R.frames) (hW : (rest.map fun v => v.category).sum ≤ W) (hlo : W + (nativeFrameWords "java/lang/System" "arraycopy" 5 + 11) ≤ R.locals)
    (kk : ∀ T' h', own_At w p l e R s m args below meth c bytes ret own nm mx Z n0 a0 EL sf T' h' cells slots → Keep h h' [b] → Arv Z h' b k' ty z' (vd.take dp.toNatClampNeg ++ us ++ vd.drop (dp.toNatClampNeg + nn.toNatClampNeg)) dd → own_Run p e below Q m T' q Ls rest) (hq : pc + 3 = q := by rfl) : own_Run p e below Q m T pc Ls (.int nn :: .int dp :: .ref b :: .int sp :: .ref a :: rest) := by
  obtain ⟨⟨hx, hby, r1, r2, r3, r4⟩, vm0, locs, X, B, hZ, hown, hT, N, Od, hEL, Ch, Sf⟩ := A
  subst hby hq
  obtain ⟨T', h', L, X', e', N', K, V', st'⟩ := cpA X hx (s := s.setVm vm0) hZ hown w1 w2 w3 w4 hT VA VB (Or.inl ⟨rfl, hty⟩) h1 h2 h3 h4 h5 hus hl N ge (g := mkF m pc Ls (.int nn :: .int dp :: .ref b :: .int sp :: .ref a :: rest)) rfl (hsz.trans r4.symm) rfl hd hf (W := W) (by show 2 * 0 + _ ≤ _; rw [Nat.mul_zero, Nat.zero_add]; exact hW) hlo
  have Sb := own_Wok.safe hwo hZ Sf
  have C : CHr Z EL vm0 h vm0 h' := CHr.keep K (fun x hx => by
    obtain rfl := List.mem_singleton.mp hx
    exact Sb) Ch.1
  exact own_by st' (kk T' h' ⟨⟨hx, rfl, r1, r2, r3, r4⟩, vm0, _, X', B.le K.1, hZ, hown, e', N', Od.keep K (allS ge all0), hEL, Ch.trans C, Sf.ch C⟩ K V')
end Own
section OwnArr
variable {w : Bool} {p : Program} {l : Launch} {e : Env} {R : Room} {s : State} {m : MethodId} {args : Array Value} {below : List Frame} {meth : Method} {c : Code} {T : State} {cells slots n0 mx : Nat} {Z : State} {a0 : Array Value} {h : Heap} {bytes : ByteArray} {ret : Option FieldType} {own nm : String} {EL : List (String × Nat)} {sf : List Addr} {Q : Outcome → State → Prop} {pc q : Nat} {Ls : Array Slot} {st rest : List Value}
theorem own_inb {c : Cell} {z j : Int32} {i : Nat} (S : c.slots.size = z.toNatClampNeg) (h0 : ¬ j < 0) (hj : j.toNatClampNeg = i) (hi : i < z.toNatClampNeg) : ¬ (j < 0 ∨ c.slots.size ≤ j.toNatClampNeg) := by
  rw [S, hj]
  exact fun y => y.elim h0 fun y => absurd hi (Nat.not_lt.mpr y)
theorem own_newPv (A : own_At w p l e R s m args below meth c bytes ret own nm mx Z n0 a0 EL sf T h cells slots) {aty : ArrayType} {ty : FieldType} {dv : Value} (hty : newarray.typeOf aty = ty) (hdv : defaultValue ty = dv) (w1 : (Jvm.Cond.arrayClass ty).before a0 Z = true) (hd : decode bytes pc = .ok (.newarray aty, 2)) {n : Int32} (cap : Nat) (hn : ¬ n < 0) (hcap : n.toNatClampNeg = cap) (hb : cap * 8 ≤ 536870912) (hc : cells + 1 ≤ R.cells) (hl : slots + cap ≤ R.slots)
    (k : ∀ T' h' a cA, h.size = a → n0 ≤ a → own_At w p l e R s m args below meth c bytes ret own nm mx Z n0 a0 EL (a :: sf) T' h' (cells + 1) (slots + cap) → Ext h h' → Arv Z h' a cA ty n (List.replicate cap dv) dv → own_Run p e below Q m T' q Ls (.ref a :: rest)) (hq : pc + 2 = q := by rfl) : own_Run p e below Q m T pc Ls (.int n :: rest) := by
  subst hty hdv
  exact own_newP A w1 hd cap hn (Nat.le_of_eq hcap) hb hc hl (fun T' h' a cA g1 g2 A' E Ar => k T' h' a cA g1 g2 A' E ((Arv.new Ar hn).pad (pad_rep [] _ cap))) hq
theorem own_arrlenv (A : own_At w p l e R s m args below meth c bytes ret own nm mx Z n0 a0 EL sf T h cells slots) {a : Addr} {cA : ClassId} {ty : FieldType} {z : Int32} {vs : List Value} {dv : Value} (V : Arv Z h a cA ty z vs dv) (hd : decode bytes pc = .ok (.arraylength, 1)) (k : own_Run p e below Q m T q Ls (.int z :: rest)) (hq : pc + 1 = q := by rfl) : own_Run p e below Q m T pc Ls (.ref a :: rest) := by
  obtain ⟨c, Ar, q1, S, q3, H, G⟩ := V
  refine own_arrlen A Ar hd ?_ hq
  rw [len_of S q3]
  exact k
theorem own_stCv (A : own_At w p l e R s m args below meth c bytes ret own nm mx Z n0 a0 EL sf T h cells slots) {a : Addr} {cA : ClassId} {z j x : Int32} {vs : List Value} {dv : Value} (V : Arv Z h a cA .char z vs dv) (i : Nat) (h0 : ¬ j < 0) (hj : j.toNatClampNeg = i) (hi : i < z.toNatClampNeg) (hi' : i < vs.length) (ha : n0 ≤ a) (hwo : own_Wok Z EL sf h a) (hd : decode bytes pc = .ok (.castore, 1))
    (k : ∀ T' h' sl, own_At w p l e R s m args below meth c bytes ret own nm mx Z n0 a0 EL sf T' h' cells slots → Wr h h' a sl (.int (nar .char x)) → Arv Z h' a cA .char z (vs.set i (.int (nar .char x))) dv → own_Run p e below Q m T' q Ls rest) (hq : pc + 1 = q := by rfl) : own_Run p e below Q m T pc Ls (.int x :: .int j :: .ref a :: rest) := by
  obtain ⟨c, Ar, q1, S, q3, H, G⟩ := V
  exact own_stC A Ar (own_inb S h0 hj hi) ha hwo hd (fun T' h' A' W => k T' h' _ A' W (Arv.set Ar q1 S q3 H G (fits_nar_char x) W i hj hi')) hq
theorem own_stBv (A : own_At w p l e R s m args below meth c bytes ret own nm mx Z n0 a0 EL sf T h cells slots) {a : Addr} {cA : ClassId} {z j x : Int32} {vs : List Value} {dv : Value} (V : Arv Z h a cA .byte z vs dv) (i : Nat) (h0 : ¬ j < 0) (hj : j.toNatClampNeg = i) (hi : i < z.toNatClampNeg) (hi' : i < vs.length) (ha : n0 ≤ a) (hwo : own_Wok Z EL sf h a) (hd : decode bytes pc = .ok (.bastore, 1))
    (k : ∀ T' h' sl, own_At w p l e R s m args below meth c bytes ret own nm mx Z n0 a0 EL sf T' h' cells slots → Wr h h' a sl (.int (nar .byte x)) → Arv Z h' a cA .byte z (vs.set i (.int (nar .byte x))) dv → own_Run p e below Q m T' q Ls rest) (hq : pc + 1 = q := by rfl) : own_Run p e below Q m T pc Ls (.int x :: .int j :: .ref a :: rest) := by
  obtain ⟨c, Ar, q1, S, q3, H, G⟩ := V
  exact own_stB A Ar (own_inb S h0 hj hi) ha hwo hd (fun T' h' A' W => k T' h' _ A' W (Arv.set Ar q1 S q3 H G (fits_nar_byte x) W i hj hi')) hq
theorem own_caloadv (A : own_At w p l e R s m args below meth c bytes ret own nm mx Z n0 a0 EL sf T h cells slots) {a : Addr} {cA : ClassId} {z j : Int32} {vs : List Value} {dv v : Value} (V : Arv Z h a cA .char z vs dv) (i : Nat) (h0 : ¬ j < 0) (hj : j.toNatClampNeg = i) (hi : i < z.toNatClampNeg) (hv : vs.getD i dv = v) (hd : decode bytes pc = .ok (.caload, 1)) (k : own_Run p e below Q m T q Ls (v :: rest)) (hq : pc + 1 = q := by rfl) : own_Run p e below Q m T pc Ls (.int j :: .ref a :: rest) := by
  obtain ⟨c, Ar, q1, S, q3, H, G⟩ := V
  have b := own_inb S h0 hj hi
  subst hj
  exact own_caload A Ar b (H.at b hv) hd k hq
theorem own_baloadv (A : own_At w p l e R s m args below meth c bytes ret own nm mx Z n0 a0 EL sf T h cells slots) {a : Addr} {cA : ClassId} {z j : Int32} {vs : List Value} {dv v : Value} (V : Arv Z h a cA .byte z vs dv) (i : Nat) (h0 : ¬ j < 0) (hj : j.toNatClampNeg = i) (hi : i < z.toNatClampNeg) (hv : vs.getD i dv = v) (hd : decode bytes pc = .ok (.baload, 1)) (k : own_Run p e below Q m T q Ls (v :: rest)) (hq : pc + 1 = q := by rfl) : own_Run p e below Q m T pc Ls (.int j :: .ref a :: rest) := by
  obtain ⟨c, Ar, q1, S, q3, H, G⟩ := V
  have b := own_inb S h0 hj hi
  subst hj
  exact own_baload A Ar b (H.at b hv) hd k hq
end OwnArr
section OwnMore
variable {w : Bool} {p : Program} {l : Launch} {e : Env} {R : Room} {s : State} {m : MethodId} {args : Array Value} {below : List Frame} {meth : Method} {c : Code} {T : State} {cells slots n0 mx : Nat} {Z : State} {a0 : Array Value} {h : Heap} {bytes : ByteArray} {ret : Option FieldType} {own nm : String} {EL : List (String × Nat)} {sf : List Addr} {Q : Outcome → State → Prop} {pc q : Nat} {Ls : Array Slot} {st rest : List Value}
end OwnMore
section OwnStr
variable {w : Bool} {p : Program} {l : Launch} {e : Env} {R : Room} {s : State} {m : MethodId} {args : Array Value} {below : List Frame} {meth : Method} {c : Code} {T : State} {cells slots n0 mx : Nat} {Z : State} {a0 : Array Value} {h : Heap} {bytes : ByteArray} {ret : Option FieldType} {own nm : String} {EL : List (String × Nat)} {sf : List Addr} {Q : Outcome → State → Prop} {pc q : Nat} {Ls : Array Slot} {st rest : List Value}
theorem own_payEq {len W kI : Nat} (hws : ∀ d ∈ StrChars.Road.wordsEq, d.before a0 Z = true) (wi : (Jvm.Cond.instantiable "java/lang/String" kI).before a0 Z = true) {x1 t1 : Addr} {kb1 : ClassId} {cs1 : List Int32} {cd1 N1 : Int32} {vs1 : List Value} {x2 t2 : Addr} {kb2 : ClassId} {cs2 : List Int32} {cd2 N2 : Int32} {vs2 : List Value} (O : Old Z n0 h) (E1 : Exa Z h x1 "java/lang/String") (V1 : Fld Z h x1 "java/lang/String" "value" "[B" (.ref t1)) (C1 : Fld Z h x1 "java/lang/String" "coder" "B" (.int cd1)) (K1 : Arv Z h t1 kb1 .byte N1 vs1 (.int 0)) (hc1 : StrChars.Road.CodA cs1 cd1 N1 vs1) (hb1 : ∀ c ∈ cs1, ¬ c < 0 ∧ ¬ (65535 : Int32) < c) (l21 : cs1.length ≤ 4000) (E2 : Exa Z h x2 "java/lang/String") (V2 : Fld Z h x2 "java/lang/String" "value" "[B" (.ref t2)) (C2 : Fld Z h x2 "java/lang/String" "coder" "B" (.int cd2)) (K2 : Arv Z h t2 kb2 .byte N2 vs2 (.int 0)) (hc2 : StrChars.Road.CodA cs2 cd2 N2 vs2) (hb2 : ∀ c ∈ cs2, ¬ c < 0 ∧ ¬ (65535 : Int32) < c) (l22 : cs2.length ≤ 4000) {zc : Int32} (SC : Sta Z Z.heap "java/lang/String" "COMPACT_STRINGS" "Z" (.int zc)) (hz : ¬ zc = 0) (hfr : 2 ≤ R.frames) (hlo : W + 28 ≤ R.locals) :
    own_Pays l R p e below s args Z n0 EL [] (⟨"java/lang/String", "equals", "(Ljava/lang/Object;)Z"⟩ : MethodName) len W 0 0 #[.ref x1, .ref x2] h (fun v h' => ((v = some (.int 1) ∧ cs1 = cs2) ∨ (v = some (.int 0) ∧ ¬ cs1 = cs2)) ∧ h = h') := fun vm0 hZ =>
  Back.mono (StrChars.Road.eqW (s := s.setVm vm0) hZ hws wi E1 V1 C1 K1 hc1 hb1 l21 E2 V2 C2 K2 hc2 hb2 l22 (SC.ext O.2) hz hfr hlo) (fun _ _ z => z) (fun A a v B hp ⟨L, ⟨q1, q2, q3⟩, l1, l2, l3⟩ => by
    subst q2
    exact ⟨[], ⟨⟨q1, q3.symm⟩, Fr.nil _, by rw [q3]; exact O, by rw [q3]; exact Nat.le_refl _, Or.inr (by rw [q3]; exact Keep.refl _ _)⟩, l1, l2, l3⟩)
end OwnStr
section OwnCase
variable {args : Array Value} {s : State} {t : Term}
theorem own_staI {C n d : String} {k : Int32} (q : (Jvm.Cond.eq (Term.static C n d) (Term.int k)).value args s none s [] = some true) : (Term.static C n d).eval args s none [] s = some (.int k) := by
  obtain ⟨x, y, e1, e2, k1, k2⟩ := cmp_v (Or.inl q)
  obtain rfl : y = .int k := Option.some.inj (e2.symm.trans (Term.int_eval k))
  obtain ⟨z, rfl⟩ : ∃ z, x = .int z := k2
  obtain rfl : z = k := gotT (Cond.eq_ints e1 (Term.int_eval k)) q
  exact e1
end OwnCase
section OwnCase2
variable {args : Array Value} {s : State} {t u : Term}
end OwnCase2
section OwnLdcW
open Jvm.Free.SB Jvm.Free.SBG
set_option maxHeartbeats 2000000 in
theorem own_ldcW0 {p : Program} {l : Launch} {e : Env} {R : Room} {s : State} {m : MethodId} {args : Array Value} {below : List Frame} {meth : Method} {c : Code} {T : State} {locs : List Loc} {cells slots : Nat} (X : Stand p l e R s m args below meth c T locs cells slots) (hexec : p.tables.exec = Jvm.exec) {own text : String} {index : Nat} (hown : s.vm.findClass own = some m.cls)
    (hlink : (Jvm.Cond.stringLink own index text).before args s = true) (hS : ∀ a ∈ Bundle.stringAtoms, a.before args s = true)
    {g : JFrame} (hg : g.method = m) (hdg : decode c.code g.pc = .ok (.ldc_w index, 3)) {n : Nat} (hn : 4 * text.toList.length ≤ n) (hbig : n ≤ 536870912) (hRc : cells + 2 ≤ R.cells) (hRs : slots + (n + 4) ≤ R.slots) :
    ∃ (a : Addr) (T2 : State), Stand p l e R (s.setVm T2.vm) m args below meth c T2 locs (cells + 2) (slots + (n + 4)) ∧ s.Since T2.vm T2.heap.size ∧ (∃ k2, T2.vm.classes[m.cls]? = some k2 ∧ k2.resolved[index]? = some (some (.string a))) ∧ (∀ b, b < T.heap.size → T2.heap[b]? = T.heap[b]?) ∧
      T.Warmed39 T2.vm ∧ (T2.vm.interned = T.vm.interned ∨ ∃ units : Array UInt16, T2.vm.interned = T.vm.interned.push (units, a) ∧ T.vm.interned.find? (fun p => p.1 == units) = none ∧ (units.all (· < 256) = true → SlIn 0 T.heap.size T2 a units)) ∧
      ∀ target, Steps p.tables e below (T2.setTop { g with pc := g.pc + 3, stack := .ref a :: g.stack }) target → Steps p.tables e below (T.setTop g) target := by
  obtain ⟨k, cf, i, units, hk, hcf, hc, hu, hnm, hdec, hres⟩ := Cond.stringLink_spec hown hlink
  obtain ⟨k', hk', he⟩ := X.warmed.alike.2.2 _ _ hk
  have hcf' : k'.cf = some cf := by rw [he]; exact hcf
  subst hg
  have now : (k'.resolved[index]? = some none ∧ k.resolved[index]? = some none) ∨ ∃ a, k'.resolved[index]? = some (some (.string a)) := by
    rcases X.warmed.wide.entry hk hk' index with e0 | ⟨-, r, e1, hr | ⟨a, t, rfl, -⟩⟩
    · rw [e0]
      rcases hres with h0 | h0
      · exact Or.inl ⟨h0, h0⟩
      · exact Or.inr h0
    · cases r <;> simp [State.rightAt, hk, hcf, hnm] at hr
    · exact Or.inr ⟨a, e1⟩
  rcases now with ⟨ho, ho0⟩ | ⟨a, hr⟩
  · have q2 : k.cf.bind (namesOf? ·.constantPool index) = some (.string text) := by rw [hcf]; exact hnm
    have q3 : k.cf.bind (·.constantPool[index]?) = some (.string i) := by rw [hcf]; exact hc
    have q4 : k.cf.bind (·.constantPool.utf8? i) = some units := by rw [hcf]; simp [ConstantPool.utf8?, hu]
    have r2 : k'.cf.bind (namesOf? ·.constantPool index) = some (.string text) := by rw [hcf']; exact hnm
    have r3 : k'.cf.bind (·.constantPool[index]?) = some (.string i) := by rw [hcf']; exact hc
    have r4 : k'.cf.bind (·.constantPool.utf8? i) = some units := by rw [hcf']; simp [ConstantPool.utf8?, hu]
    cases hf : T.vm.interned.find? (fun p => p.1 == units) with
    | some pr =>
      obtain ⟨u', a⟩ := pr
      obtain rfl : u' = units := by
        have := Array.find?_some hf
        simpa using this
      have hW := X.warmed.wide.notedString hk (Or.inl ho0) q2 q3 q4 hf
      refine ⟨a, T.setVm (T.vm.noted g.method.cls index (.string a)), (X.mono (by omega) (by omega)).retabled hW, ⟨hW, State.Booked.step (T₂ := T.setVm (T.vm.noted g.method.cls index (.string a))) (X.warmed.no_new_pair _) X.same.2.1 ⟨Nat.le_refl _, Or.inl rfl⟩⟩, ⟨_, Vm.classes_note_self index (.string a) hk', Class.resolved_note_self (.string a) ho⟩, fun _ _ => rfl, (State.Warmed39.refl T).notedString hk' (Or.inl ho) r2 r3 r4 hf, Or.inl rfl, fun target hrest => ?_⟩
      jvm_step X.here [hexec, hdg, ldc_w.wp_string_found (e := e) (s := T) (f := g) X.here.top hk' hcf' hc hu ho hf]
      exact hrest
    | none =>
      obtain ⟨Zs, LZs, h4, fv, fc⟩ := StringT.of_atoms (args := args) hS
      obtain ⟨kS', kB', LZ, hty⟩ := LZs.warmer X.warmed.alike
      have hfs : T.fitsSlot = s.fitsSlot := (show T.fitsSlot = (s.setVm T.vm).fitsSlot from rfl).trans (State.fitsSlot_setVm X.warmed.alike)
      have hp : ({ T.vm with interned := T.vm.interned.push (units, T.heap.size + 1) } : Vm).interned.find? (fun p => p.1 == units) = some (units, T.heap.size + 1) := by
        show (T.vm.interned.push (units, T.heap.size + 1)).find? _ = _
        rw [Array.find?_push, hf]
        simp
      have hW := (X.warmed.wide.interns units (T.heap.size + 1)).notedString hk (Or.inl ho0) q2 q3 q4 hp
      have hh : (withString T Zs.cB Zs.cS kS' Zs.fv Zs.fc units).heap = (T.heap.push (bytesOf Zs.cB units)).push (stringAt Zs.cS kS' Zs.fv Zs.fc units T.heap.size) := by rw [withString_eq]; rfl
      have X2 := (X.pushed (bytesOf Zs.cB units)).pushed (stringAt Zs.cS kS' Zs.fv Zs.fc units T.heap.size)
      rw [← withString_eq] at X2
      have hsz : (withString T Zs.cB Zs.cS kS' Zs.fv Zs.fc units).heap.size = T.heap.size + 2 := by rw [hh]; simp [Array.size_push]
      have hcb : (withString T Zs.cB Zs.cS kS' Zs.fv Zs.fc units).heap[T.heap.size]? = some (bytesOf Zs.cB units) := by rw [hh, Array.getElem?_push, if_neg (by rw [Array.size_push]; omega), Array.getElem?_push, if_pos rfl]
      have hcs : (withString T Zs.cB Zs.cS kS' Zs.fv Zs.fc units).heap[T.heap.size + 1]? = some (stringAt Zs.cS kS' Zs.fv Zs.fc units T.heap.size) := by rw [hh, Array.getElem?_push, if_pos (by rw [Array.size_push])]
      have hold : ∀ b, b < T.heap.size → (withString T Zs.cB Zs.cS kS' Zs.fv Zs.fc units).heap[b]? = T.heap[b]? := fun b hb => by rw [hh, Array.getElem?_push, if_neg (by rw [Array.size_push]; omega), Array.getElem?_push, if_neg (by omega)]
      have b0 : (stringBytes units).size ≤ n := Nat.le_trans (text_bytes_le hdec) hn
      have b1 : (bytesOf Zs.cB units).slots.size = (stringBytes units).size := by rw [(Cell.writeAll_facts _ _).2.2]; simp [bytes0]
      have b2 : (stringAt Zs.cS kS' Zs.fv Zs.fc units T.heap.size).slots.size = 4 := by simp [string0, Cell.setSlot, hty, h4]
      have h1 : T.Interned1 ((withString T Zs.cB Zs.cS kS' Zs.fv Zs.fc units).setVm (({ T.vm with interned := T.vm.interned.push (units, T.heap.size + 1) } : Vm).noted g.method.cls index (.string (T.heap.size + 1)))) := ⟨by show T.heap.size ≤ (withString T Zs.cB Zs.cS kS' Zs.fv Zs.fc units).heap.size; omega, Or.inr ⟨units, T.heap.size + 1, rfl, by omega, by show T.heap.size + 1 < (withString T Zs.cB Zs.cS kS' Zs.fv Zs.fc units).heap.size; omega⟩⟩
      refine ⟨T.heap.size + 1, ((withString T Zs.cB Zs.cS kS' Zs.fv Zs.fc units).setVm (({ T.vm with interned := T.vm.interned.push (units, T.heap.size + 1) } : Vm).noted g.method.cls index (.string (T.heap.size + 1)))), (X2.mono (by omega) (by rw [b1, b2]; omega)).retabled hW, ⟨hW, State.Booked.step (X.warmed.no_new_pair _) X.same.2.1 h1⟩, ⟨_, Vm.classes_note_self (vm := { T.vm with interned := T.vm.interned.push (units, T.heap.size + 1) }) index (.string (T.heap.size + 1)) hk', Class.resolved_note_self (.string (T.heap.size + 1)) ho⟩, hold, ((State.Warmed39.refl T).interns units (T.heap.size + 1)).notedString hk' (Or.inl ho) r2 r3 r4 hp, Or.inr ⟨units, rfl, hf, fun hl => made_sl hS LZs h4 hty hW.alike (show (((withString T Zs.cB Zs.cS kS' Zs.fv Zs.fc units).setVm (({ T.vm with interned := T.vm.interned.push (units, T.heap.size + 1) } : Vm).noted g.method.cls index (.string (T.heap.size + 1))))).heap[T.heap.size]? = some (bytesOf Zs.cB units) from hcb) (show (((withString T Zs.cB Zs.cS kS' Zs.fv Zs.fc units).setVm (({ T.vm with interned := T.vm.interned.push (units, T.heap.size + 1) } : Vm).noted g.method.cls index (.string (T.heap.size + 1))))).heap[T.heap.size + 1]? = some (stringAt Zs.cS kS' Zs.fv Zs.fc units T.heap.size) from hcs) hl (by omega) 0⟩, fun target hrest => ?_⟩
      refine Steps.instr (c := _) (by simpa using X.here) ?_
      simp [jvm, wpRun, exec, X.here.top, hexec, hdg]
      refine ldc_w.wp_string_new (e := e) (s := T) (f := g) X.here.top hk' hcf' hc hu ho hf LZ.found LZ.cls LZ.initialized LZ.ordinary LZ.foundB LZ.clsB LZ.kindB LZ.value LZ.coder ?_ ?_ (X.cellsAbove hRc) ?_ (stringBytes_fit LZ.clsB LZ.kindB units) LZ.valueSlot LZ.coderSlot (by rw [hfs]; exact fv _) (by rw [hfs]; exact fc _) (fun d' acts' => ?_)
      · rw [Launch.admits_arrayLengthLimit X.admits]; omega
      · rw [Launch.admits_maxHeapBytes X.admits]; simp only [componentBytes]; omega
      · have := X.slotsAbove hRs
        show T.slotsUsed + (stringBytes units).size + kS'.instanceTypes.size ≤ _
        rw [hty, h4]; omega
      · intro acts''
        have t1 : (withString T Zs.cB Zs.cS kS' Zs.fv Zs.fc units).topJava?.isSome := by simpa [withString] using X.here.top
        have t2 : (((withString T Zs.cB Zs.cS kS' Zs.fv Zs.fc units).setVm (({ T.vm with interned := T.vm.interned.push (units, T.heap.size + 1) } : Vm).noted g.method.cls index (.string (T.heap.size + 1))))).topJava?.isSome := by simpa using t1
        simp [jvm, afterInstr, t1, t2]
        rw [State.modifyTopJava_setTop]
        exact hrest
  · refine ⟨a, T, (X.mono (by omega) (by omega)).retabled X.warmed.wide, X.warmed.since _, ⟨k', hk', hr⟩, fun _ _ => rfl, State.Warmed39.refl T, Or.inl rfl, fun target hrest => ?_⟩
    jvm_step X.here [hexec, hdg, ldc_w.wp_string (e := e) (s := T) (f := g) X.here.top hk' hcf' hc hr]
    exact hrest
theorem own_ldcW1 {p : Program} {l : Launch} {e : Env} {R : Room} {s : State} {m : MethodId} {args : Array Value} {below : List Frame} {meth : Method} {c : Code} {T : State} {locs : List Loc} {cells slots : Nat} {Z : State} {a0 : Array Value} {h : Heap} {vm0 : Vm} {own text : String} {index : Nat} {EL : List (String × Nat)} (X : Stand p l e R (s.setVm vm0) m args below meth c T locs cells slots) (hx : p.tables.exec = Jvm.exec) (hZ : Z.Warmed39 vm0) (hown : vm0.findClass own = some m.cls) (w : (Jvm.Cond.stringLink own index text).before a0 Z = true) (wS : ∀ a ∈ Bundle.stringAtoms, a.before a0 Z = true)
    (eT : T.heap = h) {k0 : Nat} (hS : s.Since vm0 k0) (hk : k0 ≤ h.size) (hEL : EW Z a0 EL) (H : CHv Z EL vm0 h)
    {g : JFrame} (hg : g.method = m) (hd : decode c.code g.pc = .ok (.ldc_w index, 3)) {n : Nat} (hn : 4 * text.toList.length ≤ n) (hbig : n ≤ 536870912) (hc : cells + 2 ≤ R.cells) (hl' : slots + (n + 4) ≤ R.slots) :
    ∃ (a : Addr) (T' : State) (h' : Heap) (k1 : Nat), Stand p l e R (s.setVm T'.vm) m args below meth c T' locs (cells + 2) (slots + (n + 4)) ∧ T'.heap = h' ∧ Ext h h' ∧ s.Since T'.vm k1 ∧ k1 ≤ h'.size ∧ Z.Warmed39 T'.vm ∧ T'.vm.findClass own = some m.cls ∧ CHr Z EL vm0 h T'.vm h' ∧ (∃ k2, T'.vm.classes[m.cls]? = some k2 ∧ k2.resolved[index]? = some (some (.string a))) ∧
      ∀ target, Steps p.tables e below (T'.setTop { g with pc := g.pc + 3, stack := .ref a :: g.stack }) target → Steps p.tables e below (T.setTop g) target := by
  obtain ⟨a, T', X', hS', hr, hb, hTW, hint, st⟩ := own_ldcW0 X hx (own := own) hown (mvS hZ w) (fun d hd => by
    have q := wS d hd
    simp only [Bundle.stringAtoms, List.mem_cons, List.not_mem_nil, or_false] at hd
    rcases hd with rfl | rfl | rfl | rfl | rfl | rfl | rfl
    · exact mv (s := s.setVm vm0) hZ q
    · exact mv (s := s.setVm vm0) hZ q
    · exact mvA (s := s.setVm vm0) hZ q
    · exact mv (s := s.setVm vm0) hZ q
    · exact mv (s := s.setVm vm0) hZ q
    · exact mv (s := s.setVm vm0) hZ q
    · exact mv (s := s.setVm vm0) hZ q) hg hd hn hbig hc hl'
  subst eT
  have E := ext_of hb
  have A := CHv.at X hZ hEL H
  have B := CHv.later (vm := T.vm) (vm1 := T'.vm) (wtrans (s := s.setVm vm0) hZ X.warmed) (show (Wst Z T.vm T.heap).Warmed39 T'.vm from hTW) hEL E (hint.imp id fun ⟨us, e1, e2, e3⟩ => ⟨us, a, e1, e2, fun hl => by
    obtain ⟨q, cS, hq, r1, r2, r3, r4, r5⟩ := e3 hl
    have F : SlB T' q us := ⟨cS, r1, r2, r3, r4⟩
    refine ⟨q, hq, F.carry (V := Wst Z T'.vm T'.heap) (Vm.Alike.refl _) F.ha F.hd, ?_⟩
    rcases r5 with ⟨z, -⟩ | z
    · exact absurd z (Nat.not_lt_zero _)
    · exact z⟩) A.1
  exact ⟨a, T', _, _, X', rfl, E, hS.trans hS' (Nat.le_trans hk E.1), Nat.le_refl _, State.Warmed39.trans (t := s.setVm vm0) hZ hS'.1, by rw [hS'.1.alike.findClass]; exact hown, A.trans ⟨B.1, E.1, B.2⟩, hr, st⟩
theorem own_litR {Z : State} {a0 : Array Value} {h : Heap} {vm : Vm} {own text : String} {index : Nat} {EL : List (String × Nat)} {cid : ClassId} {a : Addr} (hW : Z.Warmed39 vm) (hf : vm.findClass own = some cid) (hr : ∃ k2, vm.classes[cid]? = some k2 ∧ k2.resolved[index]? = some (some (.string a))) (w : (Jvm.Cond.stringLink own index text).before a0 Z = true) (hmem : (own, index) ∈ EL) (C : CHv Z EL vm h)
    {vs : List Value} {z : Int32} (ht : (∀ c ∈ text.toList, c.toNat < 256) ∧ text.toList.map (fun c => Value.int (Jvm.Lit.byteI c.toNat.toUInt16)) = vs) (hz : ¬ z < 0) (hl : z.toNatClampNeg = vs.length) :
    ∃ (b : Addr) (k : ClassId), Exa Z h a "java/lang/String" ∧ Fld Z h a "java/lang/String" "coder" "B" (.int 0) ∧ Fld Z h a "java/lang/String" "value" "[B" (.ref b) ∧ Arv Z h b k .byte z vs (.int 0) ∧ ∀ x, Safe Z EL vm h x → x ≠ a ∧ x ≠ b := by
  have hal : Z.vm.Alike vm := hW.alike
  have w2 : (Jvm.Cond.stringLink own index text).before a0 (Wst Z vm h) = true := mvS (s := { Z with heap := h }) hW w
  obtain ⟨k0, cf, i, units, hk0, hcf, hp, hu, -, htext, -⟩ := Cond.stringLink_spec (s := Wst Z vm h) hf w2
  obtain ⟨k2, hk2, hr2⟩ := hr
  cases (show vm.classes[cid]? = some k0 from hk0).symm.trans hk2
  have bk : Booksv vm own index units a := ⟨cid, k0, cf, i, hf, hk0, hcf, hp, hu, Or.inl hr2⟩
  obtain ⟨q, rfl, F⟩ := SlB.of (C _ hmem units a bk)
  have hne : ∀ x, Safe Z EL vm h x → x ≠ q.sa ∧ x ≠ q.sd := fun x S => ⟨fun e1 => S ⟨_, hmem, units, q.sa, bk, q, rfl, F, Or.inl e1⟩, fun e1 => S ⟨_, hmem, units, q.sa, bk, q, rfl, F, Or.inr e1⟩⟩
  obtain ⟨cS, ⟨⟨s1, s2, s3, ⟨cv, kv, iv, s4, s4'⟩, ⟨cc, kc, ic, s5, s5'⟩, s6, s7, s8, s9, s10, ⟨hst, k9, hk9, comp, hkd⟩, s12, s13, s14, s15, s16⟩, hfS, hcS⟩, ⟨kS, k1, kk2, k3⟩, hB, hby⟩ := F
  have hfS : vm.findClass "java/lang/String" = some cS := hfS
  have hB : vm.findClass "[B" = some q.SA.cls := hB
  have k1 : vm.classes[cS]? = some kS := k1
  have hk9 : vm.classes[q.SA.cls]? = some k9 := hk9
  obtain ⟨kv', z4⟩ := ff_back (U := Wst Z vm h) hal s4
  obtain ⟨kc', z5⟩ := ff_back (U := Wst Z vm h) hal s5
  have fZ : Z.vm.findClass "java/lang/String" = some q.sC.cls := by rw [← hal.findClass, hcS]; exact hfS
  have bZ : Z.vm.findClass "[B" = some q.SA.cls := by rw [← hal.findClass]; exact hB
  obtain ⟨kz, hkz, -⟩ := Vm.findClass_spec fZ
  obtain ⟨kz', hkz', ekz⟩ := hal.2.2 _ _ hkz
  have ekS : kz' = kS := Option.some.inj (hkz'.symm.trans (hcS ▸ k1))
  obtain ⟨kb, hkb, -⟩ := Vm.findClass_spec bZ
  obtain ⟨kb', hkb', ekb⟩ := hal.2.2 _ _ hkb
  have ek9 : k9 = kb' := Option.some.inj (hk9.symm.trans hkb')
  have eu : vs = units.toList.map fun u => Value.int (Jvm.Lit.byteI u) := by rw [← ht.2, Jvm.ClassFile.units_of_text htext ht.1, List.map_map]; rfl
  have hsl : q.SA.slots = units.map fun u => Value.int (Jvm.Lit.byteI u) := by rw [hby, SBG.stringBytes_lat (Jvm.ClassFile.lat_of_text htext ht.1)]; rfl
  have hsz : q.SA.slots.size = units.size := by rw [hsl, Array.size_map]
  have Hs : Has q.SA vs (.int 0) := fun j hj => by
    have hj' : j < units.size := by omega
    rw [hsl, eu]
    simp [hj']
  refine ⟨q.sd, q.SA.cls, ⟨q.sC, kz, s1, fZ, hkz, s3, fun ho => by rw [k3, ← ekS, ekz]⟩, ⟨q.sC, cc, kc', ic, q.fSC, s1, z5, s7, s2, s3, by rw [← hal.assignable]; exact s5', s9⟩, ⟨q.sC, cv, kv', iv, q.fSV, s1, z4, s6, s2, s3, by rw [← hal.assignable]; exact s4', s8⟩,
    ⟨q.SA, ⟨s10, ⟨hst, kb, hkb, comp, by rw [ek9, ekb] at hkd; exact hkd⟩, s12⟩, rfl, by rw [hsz, hl, eu]; simp, hz, Hs, fun j hj => ?_⟩, hne⟩
  have e1 := s16 j hj
  rw [SBG.getD_of (Hs j hj)] at e1
  exact e1
theorem own_ldcWR {w : Bool} {p : Program} {l : Launch} {e : Env} {R : Room} {s : State} {m : MethodId} {args : Array Value} {below : List Frame} {meth : Method} {c : Code} {T : State} {cells slots n0 mx : Nat} {Z : State} {a0 : Array Value} {h : Heap} {bytes : ByteArray} {ret : Option FieldType} {own nm : String} {EL : List (String × Nat)} {sf : List Addr} {Q : Outcome → State → Prop} {pc q : Nat} {Ls : Array Slot} {st rest : List Value} (A : own_At true p l e R s m args below meth c bytes ret own nm mx Z n0 a0 EL sf T h cells slots) {i n : Nat} {text : String} (wl : (Jvm.Cond.stringLink own i text).before a0 Z = true) (wS : ∀ a ∈ Bundle.stringAtoms, a.before a0 Z = true) (hmem : (own, i) ∈ EL) {vs : List Value} {z : Int32} (ht : (∀ c ∈ text.toList, c.toNat < 256) ∧ text.toList.map (fun c => Value.int (Jvm.Lit.byteI c.toNat.toUInt16)) = vs) (hz : ¬ z < 0) (hlz : z.toNatClampNeg = vs.length) (hd : decode bytes pc = .ok (.ldc_w i, 3)) (hn : 4 * text.toList.length ≤ n) (hbig : n ≤ 536870912) (hc : cells + 2 ≤ R.cells) (hl : slots + (n + 4) ≤ R.slots)
    (k : ∀ a b cb T' h', own_At true p l e R s m args below meth c bytes ret own nm mx Z n0 a0 EL sf T' h' (cells + 2) (slots + (n + 4)) → Ext h h' → Exa Z h' a "java/lang/String" → Fld Z h' a "java/lang/String" "coder" "B" (.int 0) → Fld Z h' a "java/lang/String" "value" "[B" (.ref b) → Arv Z h' b cb .byte z vs (.int 0) → (∀ x ∈ sf, x ≠ a ∧ x ≠ b) → own_Run p e below Q m T' q Ls (.ref a :: st)) (hq : pc + 3 = q := by rfl) : own_Run p e below Q m T pc Ls st := by
  obtain ⟨⟨hx, hby, r⟩, vm0, locs, X, B, hZ, hown, hT, N, Od, hEL, Ch, Sf⟩ := A
  subst hby hq
  obtain ⟨k0, B1, B2⟩ : ∃ k0, s.Since vm0 k0 ∧ k0 ≤ h.size := by
    rcases B with ⟨B, -⟩ | ⟨-, B⟩
    · cases B
    · exact B
  obtain ⟨a, T', h', k1, X', e', E, hS, hk, hZ', hown', C, hr, st'⟩ := own_ldcW1 X hx hZ hown wl wS hT B1 B2 hEL Ch.1 (g := mkF m pc Ls st) rfl hd hn hbig hc hl
  obtain ⟨b, cb, f1, f2, f3, f4, f5⟩ := own_litR hZ' hown' hr wl hmem C.1 ht hz hlz
  exact own_by st' (k a b cb T' h' ⟨⟨hx, rfl, r⟩, T'.vm, _, X', Or.inr ⟨rfl, k1, hS, hk⟩, hZ', hown', e', N, Od.ext E, hEL, Ch.trans C, Sf.ch C⟩ E f1 f2 f3 f4 (fun x hx => f5 x (Sf.ch C x hx).1))
end OwnLdcW

theorem own_pd1 : parseMethodDescriptor "(I)C" = some ⟨[.int], some .char⟩ := by decide +kernel
theorem own_pd2 : parseMethodDescriptor "(ICC)Ljava/lang/String;" = some ⟨[.int, .char, .char], some (.object "java/lang/String")⟩ := by decide +kernel
theorem own_pd3 : parseMethodDescriptor "(Ljava/lang/String;Ljava/lang/String;)Ljava/lang/String;" = some ⟨[(.object "java/lang/String"), (.object "java/lang/String")], some (.object "java/lang/String")⟩ := by decide +kernel
theorem own_pd4 : parseMethodDescriptor "()V" = some ⟨[], none⟩ := by decide +kernel
theorem own_pd5 : parseMethodDescriptor "(I)V" = some ⟨[.int], none⟩ := by decide +kernel
theorem own_pd6 : parseMethodDescriptor "(Ljava/lang/String;)Ljava/lang/StringBuilder;" = some ⟨[(.object "java/lang/String")], some (.object "java/lang/StringBuilder")⟩ := by decide +kernel
theorem own_pd7 : parseMethodDescriptor "(Ljava/lang/String;)Ljava/lang/AbstractStringBuilder;" = some ⟨[(.object "java/lang/String")], some (.object "java/lang/AbstractStringBuilder")⟩ := by decide +kernel
theorem own_pd8 : parseMethodDescriptor "()I" = some ⟨[], some .int⟩ := by decide +kernel
theorem own_pd9 : parseMethodDescriptor "()B" = some ⟨[], some .byte⟩ := by decide +kernel
theorem own_pd10 : parseMethodDescriptor "(ILjava/lang/String;)V" = some ⟨[.int, (.object "java/lang/String")], none⟩ := by decide +kernel
theorem own_pd11 : parseMethodDescriptor "(Ljava/lang/String;)V" = some ⟨[(.object "java/lang/String")], none⟩ := by decide +kernel
theorem own_pd12 : parseMethodDescriptor "([BIB)V" = some ⟨[(.array .byte), .int, .byte], none⟩ := by decide +kernel
theorem own_pd13 : parseMethodDescriptor "(C)Ljava/lang/StringBuilder;" = some ⟨[.char], some (.object "java/lang/StringBuilder")⟩ := by decide +kernel
theorem own_pd14 : parseMethodDescriptor "(C)Ljava/lang/AbstractStringBuilder;" = some ⟨[.char], some (.object "java/lang/AbstractStringBuilder")⟩ := by decide +kernel
theorem own_pd15 : parseMethodDescriptor "()Z" = some ⟨[], some .boolean⟩ := by decide +kernel
theorem own_pd16 : parseMethodDescriptor "(C)Z" = some ⟨[.char], some .boolean⟩ := by decide +kernel
theorem own_pd17 : parseMethodDescriptor "()Ljava/lang/String;" = some ⟨[], some (.object "java/lang/String")⟩ := by decide +kernel
theorem own_pd18 : parseMethodDescriptor "(Ljava/lang/StringBuilder;)V" = some ⟨[(.object "java/lang/StringBuilder")], none⟩ := by decide +kernel
theorem own_pd19 : parseMethodDescriptor "(Ljava/lang/AbstractStringBuilder;Ljava/lang/Void;)V" = some ⟨[(.object "java/lang/AbstractStringBuilder"), (.object "java/lang/Void")], none⟩ := by decide +kernel
theorem own_pd20 : parseMethodDescriptor "()[B" = some ⟨[], some (.array .byte)⟩ := by decide +kernel
theorem own_pd21 : parseMethodDescriptor "([BII)[B" = some ⟨[(.array .byte), .int, .int], some (.array .byte)⟩ := by decide +kernel
theorem own_pd22 : parseMethodDescriptor "(II)V" = some ⟨[.int, .int], none⟩ := by decide +kernel
theorem own_pd23 : parseMethodDescriptor "(II)I" = some ⟨[.int, .int], some .int⟩ := by decide +kernel
theorem own_pd24 : parseMethodDescriptor "(Ljava/lang/String;)Lcom/example/any_row/anyrow/EntityKey;" = some ⟨[(.object "java/lang/String")], some (.object "com/example/any_row/anyrow/EntityKey")⟩ := by decide +kernel
theorem own_pd25 : parseMethodDescriptor "(I)I" = some ⟨[.int], some .int⟩ := by decide +kernel
theorem own_pd26 : parseMethodDescriptor "([BIII)I" = some ⟨[(.array .byte), .int, .int, .int], some .int⟩ := by decide +kernel
theorem own_pd27 : parseMethodDescriptor "(I)Z" = some ⟨[.int], some .boolean⟩ := by decide +kernel
theorem own_pd28 : parseMethodDescriptor "(II)Ljava/lang/String;" = some ⟨[.int, .int], some (.object "java/lang/String")⟩ := by decide +kernel
theorem own_pd29 : parseMethodDescriptor "(III)V" = some ⟨[.int, .int, .int], none⟩ := by decide +kernel
theorem own_pd30 : parseMethodDescriptor "(IIILjava/util/function/BiFunction;)I" = some ⟨[.int, .int, .int, (.object "java/util/function/BiFunction")], some .int⟩ := by decide +kernel
theorem own_pd31 : parseMethodDescriptor "([BII)Ljava/lang/String;" = some ⟨[(.array .byte), .int, .int], some (.object "java/lang/String")⟩ := by decide +kernel
theorem own_pd32 : parseMethodDescriptor "(I)Ljava/lang/String;" = some ⟨[.int], some (.object "java/lang/String")⟩ := by decide +kernel
theorem own_pd33 : parseMethodDescriptor "(Ljava/lang/String;Ljava/lang/String;)V" = some ⟨[(.object "java/lang/String"), (.object "java/lang/String")], none⟩ := by decide +kernel
theorem own_pd34 : parseMethodDescriptor "(Ljava/lang/Object;)Z" = some ⟨[(.object "java/lang/Object")], some .boolean⟩ := by decide +kernel
theorem own_pd35 : parseMethodDescriptor "([C)V" = some ⟨[(.array .char)], none⟩ := by decide +kernel
theorem own_pd36 : parseMethodDescriptor "([CIILjava/lang/Void;)V" = some ⟨[(.array .char), .int, .int, (.object "java/lang/Void")], none⟩ := by decide +kernel
theorem own_pd37 : parseMethodDescriptor "([CII)[B" = some ⟨[(.array .char), .int, .int], some (.array .byte)⟩ := by decide +kernel
theorem own_pd38 : parseMethodDescriptor "([CI[BII)I" = some ⟨[(.array .char), .int, (.array .byte), .int, .int], some .int⟩ := by decide +kernel
theorem own_pd39 : parseMethodDescriptor "([BI)B" = some ⟨[(.array .byte), .int], some .byte⟩ := by decide +kernel
theorem own_pd40 : parseMethodDescriptor "([BB)V" = some ⟨[(.array .byte), .byte], none⟩ := by decide +kernel
theorem own_pd42 : parseMethodDescriptor "(C)Ljava/lang/String;" = some ⟨[.char], some (.object "java/lang/String")⟩ := by decide +kernel
theorem own_pd43 : parseMethodDescriptor "(C)[B" = some ⟨[.char], some (.array .byte)⟩ := by decide +kernel
theorem own_pd44 : parseMethodDescriptor "([BII)V" = some ⟨[(.array .byte), .int, .int], none⟩ := by decide +kernel
theorem own_pd45 : parseMethodDescriptor "(I)[B" = some ⟨[.int], some (.array .byte)⟩ := by decide +kernel
theorem own_pd46 : parseMethodDescriptor "([BI[BII)V" = some ⟨[(.array .byte), .int, (.array .byte), .int, .int], none⟩ := by decide +kernel
theorem own_pd47 : parseMethodDescriptor "(II[B)V" = some ⟨[.int, .int, (.array .byte)], none⟩ := by decide +kernel
theorem own_pd48 : parseMethodDescriptor "([B)I" = some ⟨[(.array .byte)], some .int⟩ := by decide +kernel
theorem own_pd49 : parseMethodDescriptor "(III)I" = some ⟨[.int, .int, .int], some .int⟩ := by decide +kernel
theorem own_pd50 : parseMethodDescriptor "(I[B)V" = some ⟨[.int, (.array .byte)], none⟩ := by decide +kernel
theorem own_pd51 : parseMethodDescriptor "(IILjava/util/function/BiFunction;)I" = some ⟨[.int, .int, (.object "java/util/function/BiFunction")], some .int⟩ := by decide +kernel
theorem own_pd52 : parseMethodDescriptor "([BI)C" = some ⟨[(.array .byte), .int], some .char⟩ := by decide +kernel
theorem own_pd53 : parseMethodDescriptor "([BI[BII)I" = some ⟨[(.array .byte), .int, (.array .byte), .int, .int], some .int⟩ := by decide +kernel
theorem own_satoms {Z : State} {a0 : Array Value} (hw : ∀ d ∈ tables_1, d.before a0 Z = true) : ∀ d ∈ Bundle.stringAtoms, d.before a0 Z = true := by
  intro d hd
  simp only [Bundle.stringAtoms, List.mem_cons, List.not_mem_nil, or_false] at hd
  rcases hd with rfl | rfl | rfl | rfl | rfl | rfl | rfl
  all_goals exact hw _ (by decide +kernel)
theorem own_fc {P : Int32 → Prop} {b : Int32} {l : List Int32} (h : P b) (t : ∀ c ∈ l, P c) : ∀ c ∈ b :: l, P c := fun c hc => by
  rcases List.mem_cons.mp hc with rfl | hc
  · exact h
  · exact t c hc
def own_R (f c s l : Nat) : Room := { frames := f, cells := c, slots := s, locals := l }
theorem own_ent {l : Launch} {Z : State} {n0 : Nat} {a0 : Array Value} {EL : List (String × Nat)} {sf : List Addr} {w : Bool} {own nm : String} {bytes : ByteArray} {ret : Option FieldType} {h : Heap} {Ls : Array Slot} {y : MethodName} {mx : Nat} {ws : List Jvm.Cond} {rm : Room} {as' : Array Value} {Qc : Option Value → Heap → Prop} (hpl : plainName own = true) (O : Old Z n0 h) (hEL : EW Z a0 EL)
    (body : ∀ p e s m args below meth c T Q, Q = own_Q w s rm n0 Z EL Qc → own_At w p l e rm s m args below meth c bytes ret own nm mx Z n0 a0 EL sf T h 0 0 → own_Run p e below Q m T 0 Ls []) (hef : ∀ m, entryFrame m as' mx = mkF m 0 Ls [] := by intro m; first | (simp [entryFrame, mkF, argsToLocals, Value.category, maxLocals]; done) | rfl) (ho : y.cls = own := by rfl) (hn : y.name = nm := by rfl) : own_Met w l Z n0 EL sf y bytes mx ret ws rm as' h Qc := own_enter hpl O hEL hef body ho hn
theorem own_Met.mono {w : Bool} {l : Launch} {Z : State} {n0 : Nat} {EL : List (String × Nat)} {sf : List Addr} {y : MethodName} {bytes : ByteArray} {mx : Nat} {ret : Option FieldType} {ws : List Jvm.Cond} {rm : Room} {as' : Array Value} {h : Heap} {Qc Qd : Option Value → Heap → Prop} (M : own_Met w l Z n0 EL sf y bytes mx ret ws rm as' h Qc) (k : ∀ v h', Qc v h' → Qd v h') : own_Met w l Z n0 EL sf y bytes mx ret ws rm as' h Qd :=
  MetFree.mono M (fun _ _ z => z) (fun _ _ _ _ _ z => z) (fun _ _ _ _ _ ⟨v, L, h1, ⟨h2, h3⟩, h4⟩ => ⟨v, L, h1, ⟨k v _ h2, h3⟩, h4⟩)
theorem own_keepE {h h' : Heap} (q : h = h') : Keep h h' [] := by subst q; exact Keep.refl _ _
theorem own_narB (y : Int32) : nar .byte y.toInt8.toInt32 = StrChars.lo8 y := by
  show y.toInt8.toInt32.toInt8.toInt32 = y.toInt8.toInt32
  simp
theorem own_narC {c : Int32} (h0 : ¬ c < 0) (h1 : ¬ (65535 : Int32) < c) : nar .char c = c := by
  have k := c_i2c c
  rw [Int32.lt_iff_toInt_lt] at h0 h1
  have z : (0 : Int32).toInt = 0 := rfl
  have e : (65535 : Int32).toInt = 65535 := rfl
  show c.toUInt32.toUInt16.toUInt32.toInt32 = c
  rw [← Int32.toInt_inj]
  omega
theorem own_pos {T : Int32} (h : (0 : Int32) < T) : ¬ T < 0 := by
  rw [Int32.lt_iff_toInt_lt] at h ⊢
  omega
theorem own_lo0 {c : Int32} (h0 : ¬ c < 0) (h1 : ¬ (255 : Int32) < c) (hn : ¬ c = 0) : ¬ StrChars.lo8 c = 0 := fun q => hn (by
  have z := StrChars.lo8_mask h0 h1
  rw [q] at z
  exact z.symm)
theorem own_cutl {n : Int32} {cap : Nat} {v : Value} {us : List Value} (h : n.toNatClampNeg = cap) : (List.replicate cap v).take (0 : Int32).toNatClampNeg ++ us ++ (List.replicate cap v).drop ((0 : Int32).toNatClampNeg + n.toNatClampNeg) = us := by
  rw [h, show (0 : Int32).toNatClampNeg = 0 from rfl]
  simp
theorem own_shr0 (c : Int32) : c >>> ((0 : Int32) &&& 31) = c := by
  have s := c_ishr c 0 0 (by decide)
  have p : ((2 ^ 0 : Nat) : Int) = 1 := rfl
  rw [p] at s
  rw [← Int32.toInt_inj]
  omega

def own_H (Z : State) (a0 : Array Value) (zc : Int32) (fm : Value) : Prop := (∀ d ∈ tables_1, d.before a0 Z = true) ∧ (Sta Z Z.heap "java/lang/String" "COMPACT_STRINGS" "Z" (.int zc)) ∧ (¬ zc = 0) ∧ (Sta Z Z.heap "jdk/internal/util/Preconditions" "SIOOBE_FORMATTER" "Ljava/util/function/BiFunction;" fm) ∧ (fm.isRef = true) ∧ (Sta Z Z.heap "java/lang/StringUTF16" "$assertionsDisabled" "Z" (.int 1)) ∧ (Sta Z Z.heap "java/lang/StringUTF16" "HI_BYTE_SHIFT" "I" (.int 0)) ∧ (Sta Z Z.heap "java/lang/StringUTF16" "LO_BYTE_SHIFT" "I" (.int 8))
theorem own_H.w {Z : State} {a0 : Array Value} {zc : Int32} {fm : Value} (P : own_H Z a0 zc fm) : ∀ d ∈ tables_1, d.before a0 Z = true := P.1
theorem own_H.SC {Z : State} {a0 : Array Value} {zc : Int32} {fm : Value} (P : own_H Z a0 zc fm) : Sta Z Z.heap "java/lang/String" "COMPACT_STRINGS" "Z" (.int zc) := P.2.1
theorem own_H.hz {Z : State} {a0 : Array Value} {zc : Int32} {fm : Value} (P : own_H Z a0 zc fm) : ¬ zc = 0 := P.2.2.1
theorem own_H.SF {Z : State} {a0 : Array Value} {zc : Int32} {fm : Value} (P : own_H Z a0 zc fm) : Sta Z Z.heap "jdk/internal/util/Preconditions" "SIOOBE_FORMATTER" "Ljava/util/function/BiFunction;" fm := P.2.2.2.1
theorem own_H.rf {Z : State} {a0 : Array Value} {zc : Int32} {fm : Value} (P : own_H Z a0 zc fm) : fm.isRef = true := P.2.2.2.2.1
theorem own_H.SA {Z : State} {a0 : Array Value} {zc : Int32} {fm : Value} (P : own_H Z a0 zc fm) : Sta Z Z.heap "java/lang/StringUTF16" "$assertionsDisabled" "Z" (.int 1) := P.2.2.2.2.2.1
theorem own_H.SH {Z : State} {a0 : Array Value} {zc : Int32} {fm : Value} (P : own_H Z a0 zc fm) : Sta Z Z.heap "java/lang/StringUTF16" "HI_BYTE_SHIFT" "I" (.int 0) := P.2.2.2.2.2.2.1
theorem own_H.SL {Z : State} {a0 : Array Value} {zc : Int32} {fm : Value} (P : own_H Z a0 zc fm) : Sta Z Z.heap "java/lang/StringUTF16" "LO_BYTE_SHIFT" "I" (.int 8) := P.2.2.2.2.2.2.2
theorem own_H_mk {Z : State} {a0 : Array Value} {zc : Int32} {fm : Value} (h0 : ∀ d ∈ tables_1, d.before a0 Z = true) (h1 : Sta Z Z.heap "java/lang/String" "COMPACT_STRINGS" "Z" (.int zc)) (h2 : ¬ zc = 0) (h3 : Sta Z Z.heap "jdk/internal/util/Preconditions" "SIOOBE_FORMATTER" "Ljava/util/function/BiFunction;" fm) (h4 : fm.isRef = true) (h5 : Sta Z Z.heap "java/lang/StringUTF16" "$assertionsDisabled" "Z" (.int 1)) (h6 : Sta Z Z.heap "java/lang/StringUTF16" "HI_BYTE_SHIFT" "I" (.int 0)) (h7 : Sta Z Z.heap "java/lang/StringUTF16" "LO_BYTE_SHIFT" "I" (.int 8)) : own_H Z a0 zc fm := ⟨h0, h1, h2, h3, h4, h5, h6, h7⟩
theorem own_H.k {Z : State} {a0 : Array Value} {zc : Int32} {fm : Value} (P : own_H Z a0 zc fm) (i : Nat) {d : Jvm.Cond} (h : tables_1[i]? = some d) : d.before a0 Z = true := P.w _ (List.mem_of_getElem? h)
def own_X (Z : State) (h : Heap) (x t : Addr) (k : ClassId) (cd N : Int32) (us : List Value) : Prop := (Exa Z h x "java/lang/String") ∧ (Fld Z h x "java/lang/String" "coder" "B" (.int cd)) ∧ (Fld Z h x "java/lang/String" "value" "[B" (.ref t)) ∧ (Arv Z h t k .byte N us (.int 0))
theorem own_X.E {Z : State} {h : Heap} {x t : Addr} {k : ClassId} {cd N : Int32} {us : List Value} (P : own_X Z h x t k cd N us) : Exa Z h x "java/lang/String" := P.1
theorem own_X.C {Z : State} {h : Heap} {x t : Addr} {k : ClassId} {cd N : Int32} {us : List Value} (P : own_X Z h x t k cd N us) : Fld Z h x "java/lang/String" "coder" "B" (.int cd) := P.2.1
theorem own_X.V {Z : State} {h : Heap} {x t : Addr} {k : ClassId} {cd N : Int32} {us : List Value} (P : own_X Z h x t k cd N us) : Fld Z h x "java/lang/String" "value" "[B" (.ref t) := P.2.2.1
theorem own_X.K {Z : State} {h : Heap} {x t : Addr} {k : ClassId} {cd N : Int32} {us : List Value} (P : own_X Z h x t k cd N us) : Arv Z h t k .byte N us (.int 0) := P.2.2.2
theorem own_X_mk {Z : State} {h : Heap} {x t : Addr} {k : ClassId} {cd N : Int32} {us : List Value} (h0 : Exa Z h x "java/lang/String") (h1 : Fld Z h x "java/lang/String" "coder" "B" (.int cd)) (h2 : Fld Z h x "java/lang/String" "value" "[B" (.ref t)) (h3 : Arv Z h t k .byte N us (.int 0)) : own_X Z h x t k cd N us := ⟨h0, h1, h2, h3⟩
def own_B (Z : State) (h : Heap) (n0 : Nat) (sb va : Addr) (k : ClassId) (cd S n : Int32) (vs : List Value) : Prop := (Exa Z h sb "java/lang/StringBuilder") ∧ (Fld Z h sb "java/lang/AbstractStringBuilder" "value" "[B" (.ref va)) ∧ (Fld Z h sb "java/lang/AbstractStringBuilder" "coder" "B" (.int cd)) ∧ (Fld Z h sb "java/lang/AbstractStringBuilder" "count" "I" (.int n)) ∧ (Fld Z h sb "java/lang/AbstractStringBuilder" "maybeLatin1" "Z" (.int 0)) ∧ (Arv Z h va k .byte S vs (.int 0)) ∧ (n0 ≤ sb) ∧ (n0 ≤ va) ∧ (sb ≠ va)
theorem own_B.E {Z : State} {h : Heap} {n0 : Nat} {sb va : Addr} {k : ClassId} {cd S n : Int32} {vs : List Value} (P : own_B Z h n0 sb va k cd S n vs) : Exa Z h sb "java/lang/StringBuilder" := P.1
theorem own_B.V {Z : State} {h : Heap} {n0 : Nat} {sb va : Addr} {k : ClassId} {cd S n : Int32} {vs : List Value} (P : own_B Z h n0 sb va k cd S n vs) : Fld Z h sb "java/lang/AbstractStringBuilder" "value" "[B" (.ref va) := P.2.1
theorem own_B.C {Z : State} {h : Heap} {n0 : Nat} {sb va : Addr} {k : ClassId} {cd S n : Int32} {vs : List Value} (P : own_B Z h n0 sb va k cd S n vs) : Fld Z h sb "java/lang/AbstractStringBuilder" "coder" "B" (.int cd) := P.2.2.1
theorem own_B.N {Z : State} {h : Heap} {n0 : Nat} {sb va : Addr} {k : ClassId} {cd S n : Int32} {vs : List Value} (P : own_B Z h n0 sb va k cd S n vs) : Fld Z h sb "java/lang/AbstractStringBuilder" "count" "I" (.int n) := P.2.2.2.1
theorem own_B.M {Z : State} {h : Heap} {n0 : Nat} {sb va : Addr} {k : ClassId} {cd S n : Int32} {vs : List Value} (P : own_B Z h n0 sb va k cd S n vs) : Fld Z h sb "java/lang/AbstractStringBuilder" "maybeLatin1" "Z" (.int 0) := P.2.2.2.2.1
theorem own_B.K {Z : State} {h : Heap} {n0 : Nat} {sb va : Addr} {k : ClassId} {cd S n : Int32} {vs : List Value} (P : own_B Z h n0 sb va k cd S n vs) : Arv Z h va k .byte S vs (.int 0) := P.2.2.2.2.2.1
theorem own_B.gb {Z : State} {h : Heap} {n0 : Nat} {sb va : Addr} {k : ClassId} {cd S n : Int32} {vs : List Value} (P : own_B Z h n0 sb va k cd S n vs) : n0 ≤ sb := P.2.2.2.2.2.2.1
theorem own_B.gv {Z : State} {h : Heap} {n0 : Nat} {sb va : Addr} {k : ClassId} {cd S n : Int32} {vs : List Value} (P : own_B Z h n0 sb va k cd S n vs) : n0 ≤ va := P.2.2.2.2.2.2.2.1
theorem own_B.ne {Z : State} {h : Heap} {n0 : Nat} {sb va : Addr} {k : ClassId} {cd S n : Int32} {vs : List Value} (P : own_B Z h n0 sb va k cd S n vs) : sb ≠ va := P.2.2.2.2.2.2.2.2
theorem own_B_mk {Z : State} {h : Heap} {n0 : Nat} {sb va : Addr} {k : ClassId} {cd S n : Int32} {vs : List Value} (h0 : Exa Z h sb "java/lang/StringBuilder") (h1 : Fld Z h sb "java/lang/AbstractStringBuilder" "value" "[B" (.ref va)) (h2 : Fld Z h sb "java/lang/AbstractStringBuilder" "coder" "B" (.int cd)) (h3 : Fld Z h sb "java/lang/AbstractStringBuilder" "count" "I" (.int n)) (h4 : Fld Z h sb "java/lang/AbstractStringBuilder" "maybeLatin1" "Z" (.int 0)) (h5 : Arv Z h va k .byte S vs (.int 0)) (h6 : n0 ≤ sb) (h7 : n0 ≤ va) (h8 : sb ≠ va) : own_B Z h n0 sb va k cd S n vs := ⟨h0, h1, h2, h3, h4, h5, h6, h7, h8⟩
theorem own_X.keep {Z : State} {h h' : Heap} {x t : Addr} {k : ClassId} {cd N : Int32} {us : List Value} {ws : List Addr} (X : own_X Z h x t k cd N us) (K : Keep h h' ws) (nx : x ∉ ws) (nt : t ∉ ws) : own_X Z h' x t k cd N us := own_X_mk (X.E.keep K) (X.C.keep K nx) (X.V.keep K nx) (X.K.keep K nt)
/-- x is a String that spells cs, its array lies below b -/
def own_Su (Z : State) (h : Heap) (b : Nat) (x : Addr) (cs : List Int32) : Prop := ∃ (t : Addr) (k : ClassId) (cd N : Int32) (vs : List Value), t < b ∧ own_X Z h x t k cd N vs ∧ StrChars.Road.CodA cs cd N vs
/-- x is a String that spells cs -/
def own_Str (Z : State) (h : Heap) (x : Addr) (cs : List Int32) : Prop := ∃ (t : Addr) (k : ClassId) (cd N : Int32) (vs : List Value), own_X Z h x t k cd N vs ∧ StrChars.Road.CodA cs cd N vs
theorem own_Str.su {Z : State} {h : Heap} {x : Addr} {cs : List Int32} (S : own_Str Z h x cs) : own_Su Z h h.size x cs := by
  obtain ⟨t, k, cd, N, vs, X, c⟩ := S
  exact ⟨t, k, cd, N, vs, X.K.lt, X, c⟩
theorem own_Su.keep {Z : State} {h h' : Heap} {b : Nat} {x : Addr} {cs : List Int32} (S : own_Su Z h b x cs) (K : Keep h h' []) : own_Su Z h' b x cs := by
  obtain ⟨t, k, cd, N, vs, l, X, c⟩ := S
  exact ⟨t, k, cd, N, vs, l, X.keep K nin0 nin0, c⟩
theorem own_Str.keep {Z : State} {h h' : Heap} {x : Addr} {cs : List Int32} (S : own_Str Z h x cs) (K : Keep h h' []) : own_Str Z h' x cs := by
  obtain ⟨t, k, cd, N, vs, X, c⟩ := S
  exact ⟨t, k, cd, N, vs, X.keep K nin0 nin0, c⟩
theorem own_Str.keepE {Z : State} {h h' : Heap} {x o : Addr} {cs : List Int32} {C : String} {n : Nat} {a0 : Array Value} (S : own_Str Z h x cs) (E : Exa Z h o C) (wi : (Jvm.Cond.instantiable C n).before a0 Z = true) (hC : "java/lang/String" ≠ C) (K : Keep h h' [o]) : own_Str Z h' x cs := by
  obtain ⟨t, k, cd, N, vs, X, c⟩ := S
  exact ⟨t, k, cd, N, vs, X.keep K (ninS (Exa.ne X.E E hC) nin0) (ninS (Ne.symm (Exa.neArv E X.K wi)) nin0), c⟩
def own_bL (cs : List Int32) : List Value := (cs.map fun c => Value.int (StrChars.lo8 c)) ++ List.replicate (16 - cs.length) (.int 0)
def own_bU (cs : List Int32) : List Value := StrChars.Road.wideBytes cs ++ List.replicate (32 - 2 * cs.length) (.int 0)
/-- sb is a StringBuilder over the array va that spells cs -/
def own_SB (Z : State) (h : Heap) (n0 : Nat) (sb va : Addr) (cs : List Int32) : Prop := (∃ k, own_B Z h n0 sb va k 0 16 (Int32.ofNat cs.length) (own_bL cs) ∧ ∀ c ∈ cs, ¬ (255 : Int32) < c) ∨ (∃ k, own_B Z h n0 sb va k 1 32 (Int32.ofNat cs.length) (own_bU cs) ∧ ∃ c ∈ cs, (255 : Int32) < c)
theorem own_SB.E {Z : State} {h : Heap} {n0 : Nat} {sb va : Addr} {cs : List Int32} (S : own_SB Z h n0 sb va cs) : Exa Z h sb "java/lang/StringBuilder" := S.elim (fun ⟨_, B, _⟩ => B.E) (fun ⟨_, B, _⟩ => B.E)
theorem own_B.n {Z : State} {h : Heap} {n0 : Nat} {sb va : Addr} {k : ClassId} {cd S n n' : Int32} {vs : List Value} (B : own_B Z h n0 sb va k cd S n vs) (q : n = n') : own_B Z h n0 sb va k cd S n' vs := q ▸ B
theorem own_allA {P : Int32 → Prop} {cs ds : List Int32} (h : ∀ c ∈ cs, P c) (k : ∀ c ∈ ds, P c) : ∀ c ∈ cs ++ ds, P c := fun c hc => (List.mem_append.mp hc).elim (h c) (k c)
theorem own_exL {P : Int32 → Prop} {cs : List Int32} (ds : List Int32) (h : ∃ c ∈ cs, P c) : ∃ c ∈ cs ++ ds, P c := h.imp fun _ q => ⟨List.mem_append_left _ q.1, q.2⟩
theorem own_exR {P : Int32 → Prop} {ds : List Int32} (cs : List Int32) (h : ∃ c ∈ ds, P c) : ∃ c ∈ cs ++ ds, P c := h.imp fun _ q => ⟨List.mem_append_right _ q.1, q.2⟩
theorem own_keepM {h h' : Heap} {a b : Addr} (K : Keep h h' [a]) : Keep h h' [a, b] := (Keep.refl h [a, b]).trans K (allS (Or.inl (by simp)) all0)
theorem own_hu (cs : List Int32) (q : (cs ++ [0]).length = 1) : ∀ c ∈ cs ++ [0], ¬ (255 : Int32) < c := by
  cases cs with
  | nil => exact own_fc (by decide) (fun _ z => nomatch z)
  | cons a t => simp at q

variable {l : Launch} {Z : State} {a0 : Array Value} {zc : Int32} {fm : Value} {h0 : Heap} {n0 : Nat}
theorem d18_0 : decode jdk_43_method_3_code 0 = .ok (.iload_n 0, 1) := by decide +kernel
theorem d18_1 : decode jdk_43_method_3_code 1 = .ok (.sipush 255, 3) := by decide +kernel
theorem d18_4 : decode jdk_43_method_3_code 4 = .ok (.if_icmp .gt 7, 3) := by decide +kernel
theorem d18_7 : decode jdk_43_method_3_code 7 = .ok (.iconst 1, 1) := by decide +kernel
theorem d18_8 : decode jdk_43_method_3_code 8 = .ok (.goto 4, 3) := by decide +kernel
theorem d18_11 : decode jdk_43_method_3_code 11 = .ok (.iconst 0, 1) := by decide +kernel
theorem d18_12 : decode jdk_43_method_3_code 12 = .ok (.ireturn, 1) := by decide +kernel
theorem own_pn0 : plainName "java/lang/StringLatin1" = true := by first | (simp [plainName, overriddenIn]; done) | decide +kernel
theorem rm_can (c : Int32) (O0 : Old Z n0 h0) (H : own_H Z a0 zc fm) :
  own_Met false l Z n0 [] [] ⟨"java/lang/StringLatin1", "canEncode", "(C)Z"⟩ jdk_43_method_3_code 1 (some .boolean) [] (own_R 0 0 0 0) #[(.int c)] h0 (fun v h => v = some (.int (if (255 : Int32) < c then 0 else 1)) ∧ h0 = h) := by
  refine own_ent (a0 := a0) (nm := "canEncode") (Ls := #[.val (.int c)]) own_pn0 O0 EW.nil ?_
  intro p e _ m _ below _ _ T0 Q hQ A0
  refine own_iloadN (q := 1) A0 d18_0 rfl ?_
  refine own_sipush (q := 4) A0 (255 : Int32) d18_1 rfl ?_
  refine own_icmp (q := 11) (q' := 7) A0 d18_4 ?_ ?_
  · rintro (c1 : (255 : Int32) < c)
    refine own_iconst (q := 12) A0 (0 : Int32) d18_11 rfl ?_
    exact own_retN A0 hQ (t := .boolean) (by simp) d18_12 ⟨by simp [nar, *], rfl⟩
  · rintro (c1 : ¬ (255 : Int32) < c)
    refine own_iconst (q := 8) A0 (1 : Int32) d18_7 rfl ?_
    refine own_goto (q := 12) A0 d18_8 ?_
    exact own_retN A0 hQ (t := .boolean) (by simp) d18_12 ⟨by simp [nar, *], rfl⟩
def own_pi (N : Int32) (i : Int32) (j : Nat) : Prop := (¬ i <<< ((1 : Int32) &&& 31) < 0) ∧ ((i <<< ((1 : Int32) &&& 31)).toNatClampNeg = j) ∧ (¬ (i <<< ((1 : Int32) &&& 31)) + 1 < 0) ∧ (((i <<< ((1 : Int32) &&& 31)) + 1).toNatClampNeg = j + 1) ∧ (j + 1 < N.toNatClampNeg)
theorem own_pi.a {N : Int32} {i : Int32} {j : Nat} (P : own_pi N i j) : ¬ i <<< ((1 : Int32) &&& 31) < 0 := P.1
theorem own_pi.b {N : Int32} {i : Int32} {j : Nat} (P : own_pi N i j) : (i <<< ((1 : Int32) &&& 31)).toNatClampNeg = j := P.2.1
theorem own_pi.c {N : Int32} {i : Int32} {j : Nat} (P : own_pi N i j) : ¬ (i <<< ((1 : Int32) &&& 31)) + 1 < 0 := P.2.2.1
theorem own_pi.d {N : Int32} {i : Int32} {j : Nat} (P : own_pi N i j) : ((i <<< ((1 : Int32) &&& 31)) + 1).toNatClampNeg = j + 1 := P.2.2.2.1
theorem own_pi.n {N : Int32} {i : Int32} {j : Nat} (P : own_pi N i j) : j + 1 < N.toNatClampNeg := P.2.2.2.2
theorem own_pi_D {N : Int32} {i : Int32} {j : Nat}  (h0 : ¬ i <<< ((1 : Int32) &&& 31) < 0 := by decide) (h1 : (i <<< ((1 : Int32) &&& 31)).toNatClampNeg = j := by decide) (h2 : ¬ (i <<< ((1 : Int32) &&& 31)) + 1 < 0 := by decide) (h3 : ((i <<< ((1 : Int32) &&& 31)) + 1).toNatClampNeg = j + 1 := by decide) (h4 : j + 1 < N.toNatClampNeg := by decide) : own_pi N i j := ⟨h0, h1, h2, h3, h4⟩
def own_gi (N : Int32) (us : List Value) (i : Int32) (j : Nat) (c : Int32) : Prop := (¬ i <<< ((1 : Int32) &&& 31) < 0) ∧ ((i <<< ((1 : Int32) &&& 31)).toNatClampNeg = j) ∧ (¬ (i <<< ((1 : Int32) &&& 31)) + 1 < 0) ∧ (((i <<< ((1 : Int32) &&& 31)) + 1).toNatClampNeg = j + 1) ∧ (j + 1 < N.toNatClampNeg) ∧ (us.getD j (.int 0) = .int (StrChars.lo8 c)) ∧ (us.getD (j + 1) (.int 0) = .int (StrChars.hi8 c)) ∧ (¬ c < 0) ∧ (¬ (65535 : Int32) < c)
theorem own_gi.a {N : Int32} {us : List Value} {i : Int32} {j : Nat} {c : Int32} (P : own_gi N us i j c) : ¬ i <<< ((1 : Int32) &&& 31) < 0 := P.1
theorem own_gi.b {N : Int32} {us : List Value} {i : Int32} {j : Nat} {c : Int32} (P : own_gi N us i j c) : (i <<< ((1 : Int32) &&& 31)).toNatClampNeg = j := P.2.1
theorem own_gi.c {N : Int32} {us : List Value} {i : Int32} {j : Nat} {c : Int32} (P : own_gi N us i j c) : ¬ (i <<< ((1 : Int32) &&& 31)) + 1 < 0 := P.2.2.1
theorem own_gi.d {N : Int32} {us : List Value} {i : Int32} {j : Nat} {c : Int32} (P : own_gi N us i j c) : ((i <<< ((1 : Int32) &&& 31)) + 1).toNatClampNeg = j + 1 := P.2.2.2.1
theorem own_gi.n {N : Int32} {us : List Value} {i : Int32} {j : Nat} {c : Int32} (P : own_gi N us i j c) : j + 1 < N.toNatClampNeg := P.2.2.2.2.1
theorem own_gi.v {N : Int32} {us : List Value} {i : Int32} {j : Nat} {c : Int32} (P : own_gi N us i j c) : us.getD j (.int 0) = .int (StrChars.lo8 c) := P.2.2.2.2.2.1
theorem own_gi.w {N : Int32} {us : List Value} {i : Int32} {j : Nat} {c : Int32} (P : own_gi N us i j c) : us.getD (j + 1) (.int 0) = .int (StrChars.hi8 c) := P.2.2.2.2.2.2.1
theorem own_gi.lo {N : Int32} {us : List Value} {i : Int32} {j : Nat} {c : Int32} (P : own_gi N us i j c) : ¬ c < 0 := P.2.2.2.2.2.2.2.1
theorem own_gi.hi {N : Int32} {us : List Value} {i : Int32} {j : Nat} {c : Int32} (P : own_gi N us i j c) : ¬ (65535 : Int32) < c := P.2.2.2.2.2.2.2.2
theorem own_gi_D {N : Int32} {us : List Value} {i : Int32} {j : Nat} {c : Int32} (h5 : us.getD j (.int 0) = .int (StrChars.lo8 c)) (h6 : us.getD (j + 1) (.int 0) = .int (StrChars.hi8 c)) (h7 : ¬ c < 0) (h8 : ¬ (65535 : Int32) < c) (h0 : ¬ i <<< ((1 : Int32) &&& 31) < 0 := by decide) (h1 : (i <<< ((1 : Int32) &&& 31)).toNatClampNeg = j := by decide) (h2 : ¬ (i <<< ((1 : Int32) &&& 31)) + 1 < 0 := by decide) (h3 : ((i <<< ((1 : Int32) &&& 31)) + 1).toNatClampNeg = j + 1 := by decide) (h4 : j + 1 < N.toNatClampNeg := by decide) : own_gi N us i j c := ⟨h0, h1, h2, h3, h4, h5, h6, h7, h8⟩
theorem d55_0 : decode jdk_52_method_4_code 0 = .ok (.getstatic 44, 3) := by decide +kernel
theorem d55_3 : decode jdk_52_method_4_code 3 = .ok (.ifCond .ne 25, 3) := by decide +kernel
theorem d55_28 : decode jdk_52_method_4_code 28 = .ok (.iload_n 1, 1) := by decide +kernel
theorem d55_29 : decode jdk_52_method_4_code 29 = .ok (.iconst 1, 1) := by decide +kernel
theorem d55_30 : decode jdk_52_method_4_code 30 = .ok (.ishl, 1) := by decide +kernel
theorem d55_31 : decode jdk_52_method_4_code 31 = .ok (.istore_n 1, 1) := by decide +kernel
theorem d55_32 : decode jdk_52_method_4_code 32 = .ok (.aload_n 0, 1) := by decide +kernel
theorem d55_33 : decode jdk_52_method_4_code 33 = .ok (.iload_n 1, 1) := by decide +kernel
theorem d55_34 : decode jdk_52_method_4_code 34 = .ok (.iinc 1 1, 3) := by decide +kernel
theorem d55_37 : decode jdk_52_method_4_code 37 = .ok (.iload_n 2, 1) := by decide +kernel
theorem d55_38 : decode jdk_52_method_4_code 38 = .ok (.getstatic 59, 3) := by decide +kernel
theorem d55_41 : decode jdk_52_method_4_code 41 = .ok (.ishr, 1) := by decide +kernel
theorem d55_42 : decode jdk_52_method_4_code 42 = .ok (.i2b, 1) := by decide +kernel
theorem d55_43 : decode jdk_52_method_4_code 43 = .ok (.bastore, 1) := by decide +kernel
theorem d55_44 : decode jdk_52_method_4_code 44 = .ok (.aload_n 0, 1) := by decide +kernel
theorem d55_45 : decode jdk_52_method_4_code 45 = .ok (.iload_n 1, 1) := by decide +kernel
theorem d55_46 : decode jdk_52_method_4_code 46 = .ok (.iload_n 2, 1) := by decide +kernel
theorem d55_47 : decode jdk_52_method_4_code 47 = .ok (.getstatic 63, 3) := by decide +kernel
theorem d55_50 : decode jdk_52_method_4_code 50 = .ok (.ishr, 1) := by decide +kernel
theorem d55_51 : decode jdk_52_method_4_code 51 = .ok (.i2b, 1) := by decide +kernel
theorem d55_52 : decode jdk_52_method_4_code 52 = .ok (.bastore, 1) := by decide +kernel
theorem d55_53 : decode jdk_52_method_4_code 53 = .ok (.return_, 1) := by decide +kernel
theorem own_pn1 : plainName "java/lang/StringUTF16" = true := by first | (simp [plainName, overriddenIn]; done) | decide +kernel
theorem rm_pc (t : Addr) (kt : ClassId) (N : Int32) (us : List Value) (i : Int32) (j : Nat) (c : Int32) (O0 : Old Z n0 h0) (H : own_H Z a0 zc fm) (Kt : Arv Z h0 t kt .byte N us (.int 0)) (gt : n0 ≤ t) (P : own_pi N i j) (l1 : j + 1 < us.length) :
  own_Met false l Z n0 [] [] ⟨"java/lang/StringUTF16", "putChar", "([BII)V"⟩ jdk_52_method_4_code 3 none [] (own_R 0 0 0 0) #[(.ref t), (.int i), (.int c)] h0 (fun v h => v = none ∧ Keep h0 h [t] ∧ Arv Z h t kt .byte N ((us.set j (.int (StrChars.lo8 c))).set (j + 1) (.int (StrChars.hi8 c))) (.int 0)) := by
  refine own_ent (a0 := a0) (nm := "putChar") (Ls := #[.val (.ref t), .val (.int i), .val (.int c)]) own_pn1 O0 EW.nil ?_
  intro p e _ m _ below _ _ T0 Q hQ A0
  refine own_getS (q := 3) A0 (H.k 269 rfl) Via.refl H.SA d55_0 ?_
  intro T1 A2
  refine own_ifcT (q := 28) A2 d55_3 (show ¬ (1 : Int32) = (0 : Int32) from by decide) ?_
  refine own_iloadN (q := 29) A2 d55_28 rfl ?_
  refine own_iconst (q := 30) A2 (1 : Int32) d55_29 rfl ?_
  refine own_ishl (q := 31) A2 d55_30 ?_
  refine own_istoreN (q := 32) (L' := #[.val (.ref t), .val (.int ((i <<< ((1 : Int32) &&& 31)))), .val (.int c)]) A2 d55_31 rfl ?_
  refine own_aloadN (q := 33) A2 d55_32 rfl rfl ?_
  refine own_iloadN (q := 34) A2 d55_33 rfl ?_
  refine own_iinc (q := 37) (v := (1 : Int32)) (L' := #[.val (.ref t), .val (.int (((i <<< ((1 : Int32) &&& 31))) + (1 : Int32))), .val (.int c)]) A2 d55_34 rfl rfl rfl ?_
  refine own_iloadN (q := 38) A2 d55_37 rfl ?_
  refine own_getS (q := 41) A2 (H.k 270 rfl) Via.refl H.SH d55_38 ?_
  intro T3 A4
  refine own_ishr (q := 42) A4 d55_41 ?_
  refine own_i2b (q := 43) A4 d55_42 ?_
  refine own_stBv (q := 44) A4 Kt j P.a P.b (Nat.lt_of_succ_lt P.n) (Nat.lt_of_succ_lt l1) gt (Or.inr (Or.inl rfl)) d55_43 ?_
  intro T5 h6 sl7 A8 W9 X10
  rw [own_narB, own_shr0] at X10
  have f11 : Arv Z h6 t kt .byte N (us.set j (.int (StrChars.lo8 c))) (.int 0) := X10
  have K12 := (Keep.refl h0 [t]).wr W9 (Or.inl (by simp))
  have f13 : Arv Z h6 t kt .byte N (us.set j (.int (StrChars.lo8 c))) (.int 0) := f11
  refine own_aloadN (q := 45) A8 d55_44 rfl rfl ?_
  refine own_iloadN (q := 46) A8 d55_45 rfl ?_
  refine own_iloadN (q := 47) A8 d55_46 rfl ?_
  refine own_getS (q := 50) A8 (H.k 271 rfl) Via.refl H.SL d55_47 ?_
  intro T14 A15
  refine own_ishr (q := 51) A15 d55_50 ?_
  refine own_i2b (q := 52) A15 d55_51 ?_
  refine own_stBv (q := 53) A15 f13 (j + 1) P.c P.d P.n (by rw [List.length_set]; exact l1) gt (Or.inr (Or.inl rfl)) d55_52 ?_
  intro T16 h17 sl18 A19 W20 X21
  rw [own_narB] at X21
  have f22 : Arv Z h17 t kt .byte N ((us.set j (.int (StrChars.lo8 c))).set (j + 1) (.int (StrChars.hi8 c))) (.int 0) := X21
  have K23 := K12.wr W20 (Or.inl (by simp))
  have f24 : Arv Z h17 t kt .byte N ((us.set j (.int (StrChars.lo8 c))).set (j + 1) (.int (StrChars.hi8 c))) (.int 0) := f22
  exact own_ret0 A19 hQ d55_53 ⟨rfl, K23, f24⟩
theorem d73_0 : decode jdk_52_method_5_code 0 = .ok (.getstatic 44, 3) := by decide +kernel
theorem d73_3 : decode jdk_52_method_5_code 3 = .ok (.ifCond .ne 25, 3) := by decide +kernel
theorem d73_28 : decode jdk_52_method_5_code 28 = .ok (.iload_n 1, 1) := by decide +kernel
theorem d73_29 : decode jdk_52_method_5_code 29 = .ok (.iconst 1, 1) := by decide +kernel
theorem d73_30 : decode jdk_52_method_5_code 30 = .ok (.ishl, 1) := by decide +kernel
theorem d73_31 : decode jdk_52_method_5_code 31 = .ok (.istore_n 1, 1) := by decide +kernel
theorem d73_32 : decode jdk_52_method_5_code 32 = .ok (.aload_n 0, 1) := by decide +kernel
theorem d73_33 : decode jdk_52_method_5_code 33 = .ok (.iload_n 1, 1) := by decide +kernel
theorem d73_34 : decode jdk_52_method_5_code 34 = .ok (.iinc 1 1, 3) := by decide +kernel
theorem d73_37 : decode jdk_52_method_5_code 37 = .ok (.baload, 1) := by decide +kernel
theorem d73_38 : decode jdk_52_method_5_code 38 = .ok (.sipush 255, 3) := by decide +kernel
theorem d73_41 : decode jdk_52_method_5_code 41 = .ok (.iand, 1) := by decide +kernel
theorem d73_42 : decode jdk_52_method_5_code 42 = .ok (.getstatic 59, 3) := by decide +kernel
theorem d73_45 : decode jdk_52_method_5_code 45 = .ok (.ishl, 1) := by decide +kernel
theorem d73_46 : decode jdk_52_method_5_code 46 = .ok (.aload_n 0, 1) := by decide +kernel
theorem d73_47 : decode jdk_52_method_5_code 47 = .ok (.iload_n 1, 1) := by decide +kernel
theorem d73_48 : decode jdk_52_method_5_code 48 = .ok (.baload, 1) := by decide +kernel
theorem d73_49 : decode jdk_52_method_5_code 49 = .ok (.sipush 255, 3) := by decide +kernel
theorem d73_52 : decode jdk_52_method_5_code 52 = .ok (.iand, 1) := by decide +kernel
theorem d73_53 : decode jdk_52_method_5_code 53 = .ok (.getstatic 63, 3) := by decide +kernel
theorem d73_56 : decode jdk_52_method_5_code 56 = .ok (.ishl, 1) := by decide +kernel
theorem d73_57 : decode jdk_52_method_5_code 57 = .ok (.ior, 1) := by decide +kernel
theorem d73_58 : decode jdk_52_method_5_code 58 = .ok (.i2c, 1) := by decide +kernel
theorem d73_59 : decode jdk_52_method_5_code 59 = .ok (.ireturn, 1) := by decide +kernel
theorem rm_gc (t : Addr) (kt : ClassId) (N : Int32) (us : List Value) (i : Int32) (j : Nat) (c : Int32) (O0 : Old Z n0 h0) (H : own_H Z a0 zc fm) (Kt : Arv Z h0 t kt .byte N us (.int 0)) (P : own_gi N us i j c) :
  own_Met false l Z n0 [] [] ⟨"java/lang/StringUTF16", "getChar", "([BI)C"⟩ jdk_52_method_5_code 2 (some .char) [] (own_R 0 0 0 0) #[(.ref t), (.int i)] h0 (fun v h => v = some (.int c) ∧ h0 = h) := by
  refine own_ent (a0 := a0) (nm := "getChar") (Ls := #[.val (.ref t), .val (.int i)]) own_pn1 O0 EW.nil ?_
  intro p e _ m _ below _ _ T0 Q hQ A0
  refine own_getS (q := 3) A0 (H.k 269 rfl) Via.refl H.SA d73_0 ?_
  intro T1 A2
  refine own_ifcT (q := 28) A2 d73_3 (show ¬ (1 : Int32) = (0 : Int32) from by decide) ?_
  refine own_iloadN (q := 29) A2 d73_28 rfl ?_
  refine own_iconst (q := 30) A2 (1 : Int32) d73_29 rfl ?_
  refine own_ishl (q := 31) A2 d73_30 ?_
  refine own_istoreN (q := 32) (L' := #[.val (.ref t), .val (.int ((i <<< ((1 : Int32) &&& 31))))]) A2 d73_31 rfl ?_
  refine own_aloadN (q := 33) A2 d73_32 rfl rfl ?_
  refine own_iloadN (q := 34) A2 d73_33 rfl ?_
  refine own_iinc (q := 37) (v := (1 : Int32)) (L' := #[.val (.ref t), .val (.int (((i <<< ((1 : Int32) &&& 31))) + (1 : Int32)))]) A2 d73_34 rfl rfl rfl ?_
  refine own_baloadv (q := 38) (v := (.int (StrChars.lo8 c))) A2 Kt j P.a P.b (Nat.lt_of_succ_lt P.n) P.v d73_37 ?_
  refine own_sipush (q := 41) A2 (255 : Int32) d73_38 rfl ?_
  refine own_iand (q := 42) A2 d73_41 ?_
  refine own_getS (q := 45) A2 (H.k 270 rfl) Via.refl H.SH d73_42 ?_
  intro T3 A4
  refine own_ishl (q := 46) A4 d73_45 ?_
  refine own_aloadN (q := 47) A4 d73_46 rfl rfl ?_
  refine own_iloadN (q := 48) A4 d73_47 rfl ?_
  refine own_baloadv (q := 49) (v := (.int (StrChars.hi8 c))) A4 Kt (j + 1) P.c P.d P.n P.w d73_48 ?_
  refine own_sipush (q := 52) A4 (255 : Int32) d73_49 rfl ?_
  refine own_iand (q := 53) A4 d73_52 ?_
  refine own_getS (q := 56) A4 (H.k 271 rfl) Via.refl H.SL d73_53 ?_
  intro T5 A6
  refine own_ishl (q := 57) A6 d73_56 ?_
  refine own_ior (q := 58) A6 d73_57 ?_
  refine own_i2c (q := 59) A6 d73_58 ?_
  exact own_retN A6 hQ (t := .char) (by simp) d73_59 ⟨by rw [show ((((StrChars.lo8 c &&& (255 : Int32)) <<< ((0 : Int32) &&& 31)) ||| ((StrChars.hi8 c &&& (255 : Int32)) <<< ((8 : Int32) &&& 31))).toUInt32.toUInt16.toUInt32.toInt32) = c from StrChars.pair_says P.lo P.hi, own_narC P.lo P.hi], rfl⟩
theorem d77_0 : decode jdk_43_method_46_code 0 = .ok (.iconst 1, 1) := by decide +kernel
theorem d77_1 : decode jdk_43_method_46_code 1 = .ok (.newarray .byte, 2) := by decide +kernel
theorem d77_3 : decode jdk_43_method_46_code 3 = .ok (.dup, 1) := by decide +kernel
theorem d77_4 : decode jdk_43_method_46_code 4 = .ok (.iconst 0, 1) := by decide +kernel
theorem d77_5 : decode jdk_43_method_46_code 5 = .ok (.iload_n 0, 1) := by decide +kernel
theorem d77_6 : decode jdk_43_method_46_code 6 = .ok (.i2b, 1) := by decide +kernel
theorem d77_7 : decode jdk_43_method_46_code 7 = .ok (.bastore, 1) := by decide +kernel
theorem d77_8 : decode jdk_43_method_46_code 8 = .ok (.areturn, 1) := by decide +kernel
theorem rm_ltb (c : Int32) (O0 : Old Z n0 h0) (H : own_H Z a0 zc fm) :
  own_Met false l Z n0 [] [] ⟨"java/lang/StringLatin1", "toBytes", "(C)[B"⟩ jdk_43_method_46_code 1 (some (.array .byte)) [] (own_R 0 1 1 0) #[(.int c)] h0 (fun v h => ∃ (t : Addr) (k : ClassId), v = some (.ref t) ∧ n0 ≤ t ∧ h0.size ≤ t ∧ Keep h0 h [] ∧ Arv Z h t k .byte 1 [.int (StrChars.lo8 c)] (.int 0)) := by
  refine own_ent (a0 := a0) (nm := "toBytes") (Ls := #[.val (.int c)]) own_pn0 O0 EW.nil ?_
  intro p e _ m _ below _ _ T0 Q hQ A0
  refine own_iconst (q := 1) A0 (1 : Int32) d77_0 rfl ?_
  refine own_newPv (q := 3) (ty := .byte) (dv := .int 0) A0 rfl rfl (H.k 12 rfl) d77_1 1 (by decide) (by decide) (by decide) (by decide) (by decide) ?_
  intro T1 h2 a3 k4 g5 g6 A7 E8 X9
  have K10 := (Keep.refl h0 []).ext E8
  have f11 : Arv Z h2 a3 k4 .byte (1 : Int32) [(.int 0)] (.int 0) := X9
  refine own_dup (q := 4) A7 d77_3 rfl ?_
  refine own_iconst (q := 5) A7 (0 : Int32) d77_4 rfl ?_
  refine own_iloadN (q := 6) A7 d77_5 rfl ?_
  refine own_i2b (q := 7) A7 d77_6 ?_
  refine own_stBv (q := 8) A7 f11 0 (by decide) (by decide) (by decide) (Nat.le_of_ble_eq_true rfl) g6 (Or.inr (Or.inl rfl)) d77_7 ?_
  intro T12 h13 sl14 A15 W16 X17
  rw [own_narB] at X17
  have f18 : Arv Z h13 a3 k4 .byte (1 : Int32) [(.int (StrChars.lo8 c))] (.int 0) := X17
  have K19 := K10.wr W16 (Or.inr (Nat.le_trans (Keep.refl h0 []).1 (Nat.le_of_eq g5)))
  have f20 : Arv Z h13 a3 k4 .byte (1 : Int32) [(.int (StrChars.lo8 c))] (.int 0) := f18
  exact own_retA A15 hQ rfl rfl rfl d77_8 ⟨a3, _, rfl, g6, (Nat.le_trans (Keep.refl h0 []).1 (Nat.le_of_eq g5)), K19, f20⟩
theorem d54_0 : decode jdk_52_method_24_code 0 = .ok (.iconst 2, 1) := by decide +kernel
theorem d54_1 : decode jdk_52_method_24_code 1 = .ok (.newarray .byte, 2) := by decide +kernel
theorem d54_3 : decode jdk_52_method_24_code 3 = .ok (.astore_n 1, 1) := by decide +kernel
theorem d54_4 : decode jdk_52_method_24_code 4 = .ok (.aload_n 1, 1) := by decide +kernel
theorem d54_5 : decode jdk_52_method_24_code 5 = .ok (.iconst 0, 1) := by decide +kernel
theorem d54_6 : decode jdk_52_method_24_code 6 = .ok (.iload_n 0, 1) := by decide +kernel
theorem d54_7 : decode jdk_52_method_24_code 7 = .ok (.invokestatic 111, 3) := by decide +kernel
theorem d54_10 : decode jdk_52_method_24_code 10 = .ok (.aload_n 1, 1) := by decide +kernel
theorem d54_11 : decode jdk_52_method_24_code 11 = .ok (.areturn, 1) := by decide +kernel
theorem rm_utb (c : Int32) (O0 : Old Z n0 h0) (H : own_H Z a0 zc fm) :
  own_Met false l Z n0 [] [] ⟨"java/lang/StringUTF16", "toBytes", "(C)[B"⟩ jdk_52_method_24_code 2 (some (.array .byte)) [] (own_R 1 1 2 14) #[(.int c)] h0 (fun v h => ∃ (t : Addr) (k : ClassId), v = some (.ref t) ∧ n0 ≤ t ∧ h0.size ≤ t ∧ Keep h0 h [] ∧ Arv Z h t k .byte 2 [.int (StrChars.lo8 c), .int (StrChars.hi8 c)] (.int 0)) := by
  refine own_ent (a0 := a0) (nm := "toBytes") (Ls := #[.val (.int c), .unset]) own_pn1 O0 EW.nil ?_
  intro p e _ m _ below _ _ T0 Q hQ A0
  refine own_iconst (q := 1) A0 (2 : Int32) d54_0 rfl ?_
  refine own_newPv (q := 3) (ty := .byte) (dv := .int 0) A0 rfl rfl (H.k 12 rfl) d54_1 2 (by decide) (by decide) (by decide) (by decide) (by decide) ?_
  intro T1 h2 a3 k4 g5 g6 A7 E8 X9
  have K10 := (Keep.refl h0 []).ext E8
  have f11 : Arv Z h2 a3 k4 .byte (2 : Int32) [(.int 0), (.int 0)] (.int 0) := X9
  refine own_astoreN (q := 4) (L' := #[.val (.int c), .val (.ref a3)]) A7 d54_3 rfl rfl ?_
  refine own_aloadN (q := 5) A7 d54_4 rfl rfl ?_
  refine own_iconst (q := 6) A7 (0 : Int32) d54_5 rfl ?_
  refine own_iloadN (q := 7) A7 d54_6 rfl ?_
  refine own_static (q := 10) (W := 0) (argsL := [(.ref a3), (.int 0), (.int c)]) (rest := []) A7 (H.k 266 rfl) (H.k 267 rfl) (H.k 242 rfl) (H.k 268 rfl) (by decide) (own_pay (rm_pc a3 k4 (2 : Int32) _ 0 0 c A7.old H f11 g6 own_pi_D (Nat.le_of_ble_eq_true rfl)) (H.k 268 rfl) (H.k 242 rfl) (by decide) (by decide)) own_nW (Nat.le_of_eq rfl) own_pd44 rfl rfl rfl d54_7 (by decide) (by decide) ?_
  rintro v14 T15 h16 A17 ⟨rfl, K12, V13⟩
  show own_Run p e below Q m T15 10 #[.val (.int c), .val (.ref a3)] []
  have f18 : Arv Z h16 a3 k4 .byte (2 : Int32) [(.int (StrChars.lo8 c)), (.int (StrChars.hi8 c))] (.int 0) := V13
  have K19 := K10.trans K12 (allS (Or.inr (Nat.le_trans (Keep.refl h0 []).1 (Nat.le_of_eq g5))) all0)
  refine own_aloadN (q := 11) A17 d54_10 rfl rfl ?_
  exact own_retA A17 hQ rfl rfl rfl d54_11 ⟨a3, _, rfl, g6, (Nat.le_trans (Keep.refl h0 []).1 (Nat.le_of_eq g5)), K19, f18⟩
-- part b
theorem d51_0 : decode jdk_42_method_151_code 0 = .ok (.aload_n 0, 1) := by decide +kernel
theorem d51_1 : decode jdk_42_method_151_code 1 = .ok (.invokespecial 1, 3) := by decide +kernel
theorem d51_4 : decode jdk_42_method_151_code 4 = .ok (.aload_n 0, 1) := by decide +kernel
theorem d51_5 : decode jdk_42_method_151_code 5 = .ok (.aload_n 1, 1) := by decide +kernel
theorem d51_6 : decode jdk_42_method_151_code 6 = .ok (.putfield 9, 3) := by decide +kernel
theorem d51_9 : decode jdk_42_method_151_code 9 = .ok (.aload_n 0, 1) := by decide +kernel
theorem d51_10 : decode jdk_42_method_151_code 10 = .ok (.iload_n 2, 1) := by decide +kernel
theorem d51_11 : decode jdk_42_method_151_code 11 = .ok (.putfield 15, 3) := by decide +kernel
theorem d51_14 : decode jdk_42_method_151_code 14 = .ok (.return_, 1) := by decide +kernel
theorem own_pn2 : plainName "java/lang/String" = true := by first | (simp [plainName, overriddenIn]; done) | decide +kernel
theorem rm_init (a t : Addr) (cd : Int32) (O0 : Old Z n0 h0) (H : own_H Z a0 zc fm) (Ea : Exa Z h0 a "java/lang/String") (Ca : Fld Z h0 a "java/lang/String" "coder" "B" (.int 0)) (Va : Fld Z h0 a "java/lang/String" "value" "[B" .null) (ga : n0 ≤ a) (hcd : cd = 0 ∨ cd = 1) :
  own_Met false l Z n0 [] [] ⟨"java/lang/String", "<init>", "([BB)V"⟩ jdk_42_method_151_code 3 none [] (own_R 1 0 0 12) #[(.ref a), (.ref t), (.int cd)] h0 (fun v h => v = none ∧ Keep h0 h [a] ∧ Exa Z h a "java/lang/String" ∧ Fld Z h a "java/lang/String" "coder" "B" (.int cd) ∧ Fld Z h a "java/lang/String" "value" "[B" (.ref t)) := by
  refine own_ent (a0 := a0) (nm := "<init>") (Ls := #[.val (.ref a), .val (.ref t), .val (.int cd)]) own_pn2 O0 EW.nil ?_
  intro p e _ m _ below _ _ T0 Q hQ A0
  refine own_aloadN (q := 1) A0 d51_0 rfl rfl ?_
  refine own_initO (q := 4) (W := 0) A0 (H.k 122 rfl) (H.k 34 rfl) (H.k 35 rfl) d51_1 rfl (by decide) (Nat.le_of_eq rfl) (by decide) ?_
  intro T1 A2
  refine own_aloadN (q := 5) A2 d51_4 rfl rfl ?_
  refine own_aloadN (q := 6) A2 d51_5 rfl rfl ?_
  refine own_putF (host := "") (q := 9) A2 (Or.inl (H.k 56 rfl)) Via.refl Va Ea (Or.inr ⟨(H.k 13 rfl), rfl, rfl⟩) (H.k 11 rfl) (ty := (.array .byte)) (by decide) rfl rfl ga (Or.inr (Or.inl rfl)) d51_6 ?_
  intro T3 h4 A5 W6
  have K7 := (Keep.refl h0 [a]).wr W6 (Or.inl (by simp))
  have f8 := Ea.wr W6
  have f9 := Ca.other W6 (Or.inr (slot_ne (Or.inr (H.k 14 rfl)) (Or.inr (H.k 13 rfl)) (by decide) (by decide : parseFieldDescriptor "B" = some .byte) (by decide : parseFieldDescriptor "[B" = some (.array .byte))))
  have f10 := Va.same W6
  refine own_aloadN (q := 10) A5 d51_9 rfl rfl ?_
  refine own_iloadN (q := 11) A5 d51_10 rfl ?_
  refine own_putF (host := "") (q := 14) A5 (Or.inl (H.k 63 rfl)) Via.refl f9 f8 (Or.inr ⟨(H.k 14 rfl), rfl, rfl⟩) (H.k 11 rfl) (ty := .byte) (by decide) (by rcases hcd with rfl | rfl <;> rfl) (by rcases hcd with rfl | rfl <;> rfl) ga (Or.inr (Or.inl rfl)) d51_11 ?_
  intro T11 h12 A13 W14
  have K15 := K7.wr W14 (Or.inl (by simp))
  have f16 := f8.wr W14
  have f17 := f9.same W14
  have f18 := f10.other W14 (Or.inr (slot_ne (Or.inr (H.k 13 rfl)) (Or.inr (H.k 14 rfl)) (by decide) (by decide : parseFieldDescriptor "[B" = some (.array .byte)) (by decide : parseFieldDescriptor "B" = some .byte)))
  exact own_ret0 A13 hQ d51_14 ⟨rfl, K15, f16, f17, f18⟩
theorem d53_0 : decode jdk_42_method_139_code 0 = .ok (.getstatic 38, 3) := by decide +kernel
theorem d53_3 : decode jdk_42_method_139_code 3 = .ok (.ifCond .eq 23, 3) := by decide +kernel
theorem d53_6 : decode jdk_42_method_139_code 6 = .ok (.iload_n 0, 1) := by decide +kernel
theorem d53_7 : decode jdk_42_method_139_code 7 = .ok (.invokestatic 1015, 3) := by decide +kernel
theorem d53_10 : decode jdk_42_method_139_code 10 = .ok (.ifCond .eq 16, 3) := by decide +kernel
theorem d53_13 : decode jdk_42_method_139_code 13 = .ok (.new 10, 3) := by decide +kernel
theorem d53_16 : decode jdk_42_method_139_code 16 = .ok (.dup, 1) := by decide +kernel
theorem d53_17 : decode jdk_42_method_139_code 17 = .ok (.iload_n 0, 1) := by decide +kernel
theorem d53_18 : decode jdk_42_method_139_code 18 = .ok (.invokestatic 1018, 3) := by decide +kernel
theorem d53_21 : decode jdk_42_method_139_code 21 = .ok (.iconst 0, 1) := by decide +kernel
theorem d53_22 : decode jdk_42_method_139_code 22 = .ok (.invokespecial 209, 3) := by decide +kernel
theorem d53_25 : decode jdk_42_method_139_code 25 = .ok (.areturn, 1) := by decide +kernel
theorem d53_26 : decode jdk_42_method_139_code 26 = .ok (.new 10, 3) := by decide +kernel
theorem d53_29 : decode jdk_42_method_139_code 29 = .ok (.dup, 1) := by decide +kernel
theorem d53_30 : decode jdk_42_method_139_code 30 = .ok (.iload_n 0, 1) := by decide +kernel
theorem d53_31 : decode jdk_42_method_139_code 31 = .ok (.invokestatic 1021, 3) := by decide +kernel
theorem d53_34 : decode jdk_42_method_139_code 34 = .ok (.iconst 1, 1) := by decide +kernel
theorem d53_35 : decode jdk_42_method_139_code 35 = .ok (.invokespecial 209, 3) := by decide +kernel
theorem d53_38 : decode jdk_42_method_139_code 38 = .ok (.areturn, 1) := by decide +kernel
theorem rm_val (c : Int32) (O0 : Old Z n0 h0) (H : own_H Z a0 zc fm) :
  own_Met false l Z n0 [] [] ⟨"java/lang/String", "valueOf", "(C)Ljava/lang/String;"⟩ jdk_42_method_139_code 1 (some (.object "java/lang/String")) [] (own_R 2 2 6 29) #[(.int c)] h0 (fun v h => ∃ (a : Addr), v = some (.ref a) ∧ Keep h0 h [] ∧ own_Str Z h a [c]) := by
  refine own_ent (a0 := a0) (nm := "valueOf") (Ls := #[.val (.int c)]) own_pn2 O0 EW.nil ?_
  intro p e _ m _ below _ _ T0 Q hQ A0
  refine own_getS (q := 3) A0 (H.k 62 rfl) Via.refl H.SC d53_0 ?_
  intro T1 A2
  refine own_ifcF (q := 6) A2 d53_3 (show ¬ zc = (0 : Int32) from H.hz) ?_
  refine own_iloadN (q := 7) A2 d53_6 rfl ?_
  refine own_static (q := 10) (W := 0) (argsL := [(.int c)]) (rest := []) A2 (H.k 262 rfl) (H.k 106 rfl) (H.k 107 rfl) (H.k 108 rfl) (by decide) (own_pay (rm_can c A2.old H ) (H.k 108 rfl) (H.k 107 rfl) (by decide) (by decide)) own_nW (Nat.le_of_eq rfl) own_pd16 rfl rfl rfl d53_7 (by decide) (by decide) ?_
  rintro v3 T4 h5 A6 ⟨rfl, rfl⟩
  show own_Run p e below Q m T4 10 #[.val (.int c)] [(.int (if (255 : Int32) < c then 0 else 1))]
  refine own_ifc (q := 26) (q' := 13) A6 d53_10 ?_ ?_
  · rintro (c7 : (if (255 : Int32) < c then 0 else 1) = (0 : Int32))
    refine own_newO (q := 29) A6 (H.k 255 rfl) (H.k 11 rfl) (H.k 10 rfl) d53_26 (by decide) (by decide) ?_
    intro T8 h9 a10 g11 g12 A13 E14 X15 D16
    have K17 := (Keep.refl h0 []).ext E14
    have f18 : Fld Z h9 a10 "java/lang/String" "value" "[B" .null := D16 (Or.inr (H.k 13 rfl)) (ty := (.array .byte)) (by decide)
    have f19 : Fld Z h9 a10 "java/lang/String" "coder" "B" (.int 0) := D16 (Or.inr (H.k 14 rfl)) (ty := .byte) (by decide)
    refine own_dup (q := 30) A13 d53_29 rfl ?_
    refine own_iloadN (q := 31) A13 d53_30 rfl ?_
    refine own_static (q := 34) (W := 2) (argsL := [(.int c)]) (rest := [(.ref a10), (.ref a10)]) A13 (H.k 263 rfl) (H.k 264 rfl) (H.k 242 rfl) (H.k 265 rfl) (by decide) (own_pay (rm_utb c A13.old H ) (H.k 265 rfl) (H.k 242 rfl) (by decide) (by decide)) own_nW (Nat.le_of_eq rfl) own_pd43 rfl rfl rfl d53_31 (by decide) (by decide) ?_
    rintro v26 T27 h28 A29 ⟨t20, k21, rfl, g22, g23, K24, V25⟩
    show own_Run p e below Q m T27 34 #[.val (.int c)] [(.ref t20), (.ref a10), (.ref a10)]
    have z30 : a10 ≠ t20 := Nat.ne_of_lt (Nat.lt_of_lt_of_le X15.lt g23)
    have f31 := X15.keep K24
    have f32 := f18.keep K24 nin0
    have f33 := f19.keep K24 nin0
    have K34 := K17.trans K24 all0
    refine own_iconst (q := 35) A29 (1 : Int32) d53_34 rfl ?_
    refine own_special (q := 38) (W := 1) (argsL := [(.ref t20), (.int 1)]) (rest := [(.ref a10)]) A29 rfl (H.k 272 rfl) (H.k 253 rfl) (H.k 254 rfl) (by decide) (own_pay (rm_init a10 t20 (1 : Int32) A29.old H f31 f33 f32 g12 (by decide)) (H.k 254 rfl) (H.k 10 rfl) (by decide) (by decide)) own_nW (Nat.le_of_eq rfl) own_pd40 rfl rfl rfl d53_35 (by decide) (by decide) ?_
    rintro v39 T40 h41 A42 ⟨rfl, K35, X36, F37, F38⟩
    show own_Run p e below Q m T40 38 #[.val (.int c)] [(.ref a10)]
    have f43 := V25.keep K35 (ninS (Ne.symm z30) nin0)
    have K44 := K34.trans K35 (allS (Or.inr (Nat.le_trans (Keep.refl h0 []).1 (Nat.le_of_eq g11))) all0)
    exact own_retA A42 hQ rfl rfl rfl d53_38 ⟨a10, rfl, K44, t20, _, (1 : Int32), (2 : Int32), _, own_X_mk X36 F37 F38 f43, Or.inr ⟨rfl, rfl, rfl, c, List.mem_singleton.mpr rfl, Classical.byContradiction fun q => by simp [q] at c7⟩⟩
  · rintro (c7 : ¬ (if (255 : Int32) < c then 0 else 1) = (0 : Int32))
    refine own_newO (q := 16) A6 (H.k 255 rfl) (H.k 11 rfl) (H.k 10 rfl) d53_13 (by decide) (by decide) ?_
    intro T45 h46 a47 g48 g49 A50 E51 X52 D53
    have K54 := (Keep.refl h0 []).ext E51
    have f55 : Fld Z h46 a47 "java/lang/String" "value" "[B" .null := D53 (Or.inr (H.k 13 rfl)) (ty := (.array .byte)) (by decide)
    have f56 : Fld Z h46 a47 "java/lang/String" "coder" "B" (.int 0) := D53 (Or.inr (H.k 14 rfl)) (ty := .byte) (by decide)
    refine own_dup (q := 17) A50 d53_16 rfl ?_
    refine own_iloadN (q := 18) A50 d53_17 rfl ?_
    refine own_static (q := 21) (W := 2) (argsL := [(.int c)]) (rest := [(.ref a47), (.ref a47)]) A50 (H.k 352 rfl) (H.k 353 rfl) (H.k 107 rfl) (H.k 354 rfl) (by decide) (own_pay (rm_ltb c A50.old H ) (H.k 354 rfl) (H.k 107 rfl) (by decide) (by decide)) own_nW (Nat.le_of_eq rfl) own_pd43 rfl rfl rfl d53_18 (by decide) (by decide) ?_
    rintro v63 T64 h65 A66 ⟨t57, k58, rfl, g59, g60, K61, V62⟩
    show own_Run p e below Q m T64 21 #[.val (.int c)] [(.ref t57), (.ref a47), (.ref a47)]
    have z67 : a47 ≠ t57 := Nat.ne_of_lt (Nat.lt_of_lt_of_le X52.lt g60)
    have f68 := X52.keep K61
    have f69 := f55.keep K61 nin0
    have f70 := f56.keep K61 nin0
    have K71 := K54.trans K61 all0
    refine own_iconst (q := 22) A66 (0 : Int32) d53_21 rfl ?_
    refine own_special (q := 25) (W := 1) (argsL := [(.ref t57), (.int 0)]) (rest := [(.ref a47)]) A66 rfl (H.k 272 rfl) (H.k 253 rfl) (H.k 254 rfl) (by decide) (own_pay (rm_init a47 t57 (0 : Int32) A66.old H f68 f70 f69 g49 (by decide)) (H.k 254 rfl) (H.k 10 rfl) (by decide) (by decide)) own_nW (Nat.le_of_eq rfl) own_pd40 rfl rfl rfl d53_22 (by decide) (by decide) ?_
    rintro v76 T77 h78 A79 ⟨rfl, K72, X73, F74, F75⟩
    show own_Run p e below Q m T77 25 #[.val (.int c)] [(.ref a47)]
    have f80 := V62.keep K72 (ninS (Ne.symm z67) nin0)
    have K81 := K71.trans K72 (allS (Or.inr (Nat.le_trans (Keep.refl h0 []).1 (Nat.le_of_eq g48))) all0)
    exact own_retA A79 hQ rfl rfl rfl d53_25 ⟨a47, rfl, K81, t57, _, (0 : Int32), (1 : Int32), _, own_X_mk X73 F74 F75 f80, Or.inl ⟨rfl, rfl, rfl, own_fc (fun q => by simp [q] at c7) (fun _ z => nomatch z)⟩⟩
theorem d58_0 : decode jdk_52_method_3_code 0 = .ok (.iload_n 0, 1) := by decide +kernel
theorem d58_1 : decode jdk_52_method_3_code 1 = .ok (.ifCond .ge 11, 3) := by decide +kernel
theorem d58_12 : decode jdk_52_method_3_code 12 = .ok (.iload_n 0, 1) := by decide +kernel
theorem d58_13 : decode jdk_52_method_3_code 13 = .ok (.ldc 20, 2) := by decide +kernel
theorem d58_15 : decode jdk_52_method_3_code 15 = .ok (.if_icmp .lt 40, 3) := by decide +kernel
theorem d58_55 : decode jdk_52_method_3_code 55 = .ok (.iload_n 0, 1) := by decide +kernel
theorem d58_56 : decode jdk_52_method_3_code 56 = .ok (.iconst 1, 1) := by decide +kernel
theorem d58_57 : decode jdk_52_method_3_code 57 = .ok (.ishl, 1) := by decide +kernel
theorem d58_58 : decode jdk_52_method_3_code 58 = .ok (.ireturn, 1) := by decide +kernel
theorem rm_nbl (n : Int32) (O0 : Old Z n0 h0) (H : own_H Z a0 zc fm) (g0 : ¬ n < 0) (g1 : n < 1073741823) :
  own_Met false l Z n0 [] [] ⟨"java/lang/StringUTF16", "newBytesLength", "(I)I"⟩ jdk_52_method_3_code 1 (some .int) [] (own_R 0 0 0 0) #[(.int n)] h0 (fun v h => v = some (.int (n <<< ((1 : Int32) &&& 31))) ∧ h0 = h) := by
  refine own_ent (a0 := a0) (nm := "newBytesLength") (Ls := #[.val (.int n)]) own_pn1 O0 EW.nil ?_
  intro p e _ m _ below _ _ T0 Q hQ A0
  refine own_iloadN (q := 1) A0 d58_0 rfl ?_
  refine own_ifcT (q := 12) A0 d58_1 (show ¬ n < (0 : Int32) from g0) ?_
  refine own_iloadN (q := 13) A0 d58_12 rfl ?_
  refine own_ldcI (q := 15) A0 (H.k 284 rfl) d58_13 ?_
  refine own_icmpT (q := 55) A0 d58_15 (show n < (1073741823 : Int32) from g1) ?_
  refine own_iloadN (q := 56) A0 d58_55 rfl ?_
  refine own_iconst (q := 57) A0 (1 : Int32) d58_56 rfl ?_
  refine own_ishl (q := 58) A0 d58_57 ?_
  exact own_retI A0 hQ d58_58 ⟨rfl, rfl⟩
theorem d57_0 : decode jdk_52_method_2_code 0 = .ok (.iload_n 0, 1) := by decide +kernel
theorem d57_1 : decode jdk_52_method_2_code 1 = .ok (.invokestatic 11, 3) := by decide +kernel
theorem d57_4 : decode jdk_52_method_2_code 4 = .ok (.newarray .byte, 2) := by decide +kernel
theorem d57_6 : decode jdk_52_method_2_code 6 = .ok (.areturn, 1) := by decide +kernel
theorem rm_nbf2 (O0 : Old Z n0 h0) (H : own_H Z a0 zc fm) :
  own_Met false l Z n0 [] [] ⟨"java/lang/StringUTF16", "newBytesFor", "(I)[B"⟩ jdk_52_method_2_code 1 (some (.array .byte)) [] (own_R 1 1 4 12) #[(.int 2)] h0 (fun v h => ∃ (t : Addr) (k : ClassId), v = some (.ref t) ∧ n0 ≤ t ∧ h0.size ≤ t ∧ Keep h0 h [] ∧ Arv Z h t k .byte 4 (List.replicate 4 (.int 0)) (.int 0)) := by
  refine own_ent (a0 := a0) (nm := "newBytesFor") (Ls := #[.val (.int 2)]) own_pn1 O0 EW.nil ?_
  intro p e _ m _ below _ _ T0 Q hQ A0
  refine own_iloadN (q := 1) A0 d57_0 rfl ?_
  refine own_static (q := 4) (W := 0) (argsL := [(.int 2)]) (rest := []) A0 (H.k 281 rfl) (H.k 282 rfl) (H.k 242 rfl) (H.k 283 rfl) (by decide) (own_pay (rm_nbl (2 : Int32) A0.old H (by decide) (by decide)) (H.k 283 rfl) (H.k 242 rfl) (by decide) (by decide)) own_nW (Nat.le_of_eq rfl) own_pd25 rfl rfl rfl d57_1 (by decide) (by decide) ?_
  rintro v1 T2 h3 A4 ⟨rfl, rfl⟩
  show own_Run p e below Q m T2 4 #[.val (.int 2)] [(.int ((2 : Int32) <<< ((1 : Int32) &&& 31)))]
  rw [show ((2 : Int32) <<< ((1 : Int32) &&& 31)) = (4 : Int32) from by decide]
  refine own_newPv (q := 6) (ty := .byte) (dv := .int 0) A4 rfl rfl (H.k 12 rfl) d57_4 4 (by decide) (by decide) (by decide) (by decide) (by decide) ?_
  intro T5 h6 a7 k8 g9 g10 A11 E12 X13
  have K14 := (Keep.refl h0 []).ext E12
  have f15 : Arv Z h6 a7 k8 .byte (4 : Int32) [(.int 0), (.int 0), (.int 0), (.int 0)] (.int 0) := X13
  exact own_retA A11 hQ rfl rfl rfl d57_6 ⟨a7, _, rfl, g10, (Nat.le_trans (Keep.refl h0 []).1 (Nat.le_of_eq g9)), K14, f15⟩
theorem rm_nbf16 (O0 : Old Z n0 h0) (H : own_H Z a0 zc fm) :
  own_Met false l Z n0 [] [] ⟨"java/lang/StringUTF16", "newBytesFor", "(I)[B"⟩ jdk_52_method_2_code 1 (some (.array .byte)) [] (own_R 1 1 32 12) #[(.int 16)] h0 (fun v h => ∃ (t : Addr) (k : ClassId), v = some (.ref t) ∧ n0 ≤ t ∧ h0.size ≤ t ∧ Keep h0 h [] ∧ Arv Z h t k .byte 32 (List.replicate 32 (.int 0)) (.int 0)) := by
  refine own_ent (a0 := a0) (nm := "newBytesFor") (Ls := #[.val (.int 16)]) own_pn1 O0 EW.nil ?_
  intro p e _ m _ below _ _ T0 Q hQ A0
  refine own_iloadN (q := 1) A0 d57_0 rfl ?_
  refine own_static (q := 4) (W := 0) (argsL := [(.int 16)]) (rest := []) A0 (H.k 281 rfl) (H.k 282 rfl) (H.k 242 rfl) (H.k 283 rfl) (by decide) (own_pay (rm_nbl (16 : Int32) A0.old H (by decide) (by decide)) (H.k 283 rfl) (H.k 242 rfl) (by decide) (by decide)) own_nW (Nat.le_of_eq rfl) own_pd25 rfl rfl rfl d57_1 (by decide) (by decide) ?_
  rintro v1 T2 h3 A4 ⟨rfl, rfl⟩
  show own_Run p e below Q m T2 4 #[.val (.int 16)] [(.int ((16 : Int32) <<< ((1 : Int32) &&& 31)))]
  rw [show ((16 : Int32) <<< ((1 : Int32) &&& 31)) = (32 : Int32) from by decide]
  refine own_newPv (q := 6) (ty := .byte) (dv := .int 0) A4 rfl rfl (H.k 12 rfl) d57_4 32 (by decide) (by decide) (by decide) (by decide) (by decide) ?_
  intro T5 h6 a7 k8 g9 g10 A11 E12 X13
  have K14 := (Keep.refl h0 []).ext E12
  have f15 : Arv Z h6 a7 k8 .byte (32 : Int32) [(.int 0), (.int 0), (.int 0), (.int 0), (.int 0), (.int 0), (.int 0), (.int 0), (.int 0), (.int 0), (.int 0), (.int 0), (.int 0), (.int 0), (.int 0), (.int 0), (.int 0), (.int 0), (.int 0), (.int 0), (.int 0), (.int 0), (.int 0), (.int 0), (.int 0), (.int 0), (.int 0), (.int 0), (.int 0), (.int 0), (.int 0), (.int 0)] (.int 0) := X13
  exact own_retA A11 hQ rfl rfl rfl d57_6 ⟨a7, _, rfl, g10, (Nat.le_trans (Keep.refl h0 []).1 (Nat.le_of_eq g9)), K14, f15⟩
theorem d78_0 : decode jdk_52_method_14_code 0 = .ok (.iload_n 2, 1) := by decide +kernel
theorem d78_1 : decode jdk_52_method_14_code 1 = .ok (.invokestatic 107, 3) := by decide +kernel
theorem d78_4 : decode jdk_52_method_14_code 4 = .ok (.astore_n 3, 1) := by decide +kernel
theorem d78_5 : decode jdk_52_method_14_code 5 = .ok (.iconst 0, 1) := by decide +kernel
theorem d78_6 : decode jdk_52_method_14_code 6 = .ok (.istore 4, 2) := by decide +kernel
theorem d78_8 : decode jdk_52_method_14_code 8 = .ok (.iload 4, 2) := by decide +kernel
theorem d78_10 : decode jdk_52_method_14_code 10 = .ok (.iload_n 2, 1) := by decide +kernel
theorem d78_11 : decode jdk_52_method_14_code 11 = .ok (.if_icmp .ge 21, 3) := by decide +kernel
theorem d78_14 : decode jdk_52_method_14_code 14 = .ok (.aload_n 3, 1) := by decide +kernel
theorem d78_15 : decode jdk_52_method_14_code 15 = .ok (.iload 4, 2) := by decide +kernel
theorem d78_17 : decode jdk_52_method_14_code 17 = .ok (.aload_n 0, 1) := by decide +kernel
theorem d78_18 : decode jdk_52_method_14_code 18 = .ok (.iload_n 1, 1) := by decide +kernel
theorem d78_19 : decode jdk_52_method_14_code 19 = .ok (.caload, 1) := by decide +kernel
theorem d78_20 : decode jdk_52_method_14_code 20 = .ok (.invokestatic 111, 3) := by decide +kernel
theorem d78_23 : decode jdk_52_method_14_code 23 = .ok (.iinc 1 1, 3) := by decide +kernel
theorem d78_26 : decode jdk_52_method_14_code 26 = .ok (.iinc 4 1, 3) := by decide +kernel
theorem d78_29 : decode jdk_52_method_14_code 29 = .ok (.goto (-21), 3) := by decide +kernel
theorem d78_32 : decode jdk_52_method_14_code 32 = .ok (.aload_n 3, 1) := by decide +kernel
theorem d78_33 : decode jdk_52_method_14_code 33 = .ok (.areturn, 1) := by decide +kernel
theorem rm_tb2 (b : Addr) (kb : ClassId) (chc chd : Int32) (O0 : Old Z n0 h0) (H : own_H Z a0 zc fm) (Kb : Arv Z h0 b kb .char 2 [.int chc, .int chd] (.int 0)) :
  own_Met false l Z n0 [] [] ⟨"java/lang/StringUTF16", "toBytes", "([CII)[B"⟩ jdk_52_method_14_code 5 (some (.array .byte)) [] (own_R 2 1 4 24) #[(.ref b), (.int 0), (.int 2)] h0 (fun v h => ∃ (t : Addr) (k : ClassId), v = some (.ref t) ∧ n0 ≤ t ∧ h0.size ≤ t ∧ Keep h0 h [] ∧ Arv Z h t k .byte 4 [.int (StrChars.lo8 chc), .int (StrChars.hi8 chc), .int (StrChars.lo8 chd), .int (StrChars.hi8 chd)] (.int 0)) := by
  refine own_ent (a0 := a0) (nm := "toBytes") (Ls := #[.val (.ref b), .val (.int 0), .val (.int 2), .unset, .unset]) own_pn1 O0 EW.nil ?_
  intro p e _ m _ below _ _ T0 Q hQ A0
  refine own_iloadN (q := 1) A0 d78_0 rfl ?_
  refine own_static (q := 4) (W := 0) (argsL := [(.int 2)]) (rest := []) A0 (H.k 358 rfl) (H.k 279 rfl) (H.k 242 rfl) (H.k 280 rfl) (by decide) (own_pay (rm_nbf2  A0.old H ) (H.k 280 rfl) (H.k 242 rfl) (by decide) (by decide)) own_nW (Nat.le_of_eq rfl) own_pd45 rfl rfl rfl d78_1 (by decide) (by decide) ?_
  rintro v7 T8 h9 A10 ⟨t1, k2, rfl, g3, g4, K5, V6⟩
  show own_Run p e below Q m T8 4 #[.val (.ref b), .val (.int 0), .val (.int 2), .unset, .unset] [(.ref t1)]
  have z11 : b ≠ t1 := Nat.ne_of_lt (Nat.lt_of_lt_of_le Kb.lt g4)
  have f12 := Kb.keep K5 nin0
  have K13 := (Keep.refl h0 []).trans K5 all0
  refine own_astoreN (q := 5) (L' := #[.val (.ref b), .val (.int 0), .val (.int 2), .val (.ref t1), .unset]) A10 d78_4 rfl rfl ?_
  refine own_iconst (q := 6) A10 (0 : Int32) d78_5 rfl ?_
  refine own_istore (q := 8) (L' := #[.val (.ref b), .val (.int 0), .val (.int 2), .val (.ref t1), .val (.int 0)]) A10 d78_6 rfl ?_
  refine own_iload (q := 10) A10 d78_8 rfl ?_
  refine own_iloadN (q := 11) A10 d78_10 rfl ?_
  refine own_icmpF (q := 14) A10 d78_11 (show (0 : Int32) < (2 : Int32) from by decide) ?_
  refine own_aloadN (q := 15) A10 d78_14 rfl rfl ?_
  refine own_iload (q := 17) A10 d78_15 rfl ?_
  refine own_aloadN (q := 18) A10 d78_17 rfl rfl ?_
  refine own_iloadN (q := 19) A10 d78_18 rfl ?_
  refine own_caloadv (q := 20) (v := (.int chc)) A10 f12 0 (by decide) (by decide) (by decide) rfl d78_19 ?_
  refine own_static (q := 23) (W := 0) (argsL := [(.ref t1), (.int 0), (.int chc)]) (rest := []) A10 (H.k 266 rfl) (H.k 267 rfl) (H.k 242 rfl) (H.k 268 rfl) (by decide) (own_pay (rm_pc t1 k2 (4 : Int32) _ 0 0 chc A10.old H V6 g3 own_pi_D (Nat.le_of_ble_eq_true rfl)) (H.k 268 rfl) (H.k 242 rfl) (by decide) (by decide)) own_nW (Nat.le_of_eq rfl) own_pd44 rfl rfl rfl d78_20 (by decide) (by decide) ?_
  rintro v16 T17 h18 A19 ⟨rfl, K14, V15⟩
  show own_Run p e below Q m T17 23 #[.val (.ref b), .val (.int 0), .val (.int 2), .val (.ref t1), .val (.int 0)] []
  have f20 : Arv Z h18 t1 k2 .byte (4 : Int32) [(.int (StrChars.lo8 chc)), (.int (StrChars.hi8 chc)), (.int 0), (.int 0)] (.int 0) := V15
  have f21 := f12.keep K14 (ninS z11 nin0)
  have K22 := K13.trans K14 (allS (Or.inr (Nat.le_trans (Keep.refl h0 []).1 g4)) all0)
  refine own_iinc (q := 26) (v := (1 : Int32)) (L' := #[.val (.ref b), .val (.int ((0 : Int32) + (1 : Int32))), .val (.int 2), .val (.ref t1), .val (.int 0)]) A19 d78_23 rfl rfl rfl ?_
  rw [show ((0 : Int32) + (1 : Int32)) = (1 : Int32) from by decide]
  refine own_iinc (q := 29) (v := (1 : Int32)) (L' := #[.val (.ref b), .val (.int 1), .val (.int 2), .val (.ref t1), .val (.int ((0 : Int32) + (1 : Int32)))]) A19 d78_26 rfl rfl rfl ?_
  rw [show ((0 : Int32) + (1 : Int32)) = (1 : Int32) from by decide]
  refine own_goto (q := 8) A19 d78_29 ?_
  refine own_iload (q := 10) A19 d78_8 rfl ?_
  refine own_iloadN (q := 11) A19 d78_10 rfl ?_
  refine own_icmpF (q := 14) A19 d78_11 (show (1 : Int32) < (2 : Int32) from by decide) ?_
  refine own_aloadN (q := 15) A19 d78_14 rfl rfl ?_
  refine own_iload (q := 17) A19 d78_15 rfl ?_
  refine own_aloadN (q := 18) A19 d78_17 rfl rfl ?_
  refine own_iloadN (q := 19) A19 d78_18 rfl ?_
  refine own_caloadv (q := 20) (v := (.int chd)) A19 f21 1 (by decide) (by decide) (by decide) rfl d78_19 ?_
  refine own_static (q := 23) (W := 0) (argsL := [(.ref t1), (.int 1), (.int chd)]) (rest := []) A19 (H.k 266 rfl) (H.k 267 rfl) (H.k 242 rfl) (H.k 268 rfl) (by decide) (own_pay (rm_pc t1 k2 (4 : Int32) _ 1 2 chd A19.old H f20 g3 own_pi_D (Nat.le_of_ble_eq_true rfl)) (H.k 268 rfl) (H.k 242 rfl) (by decide) (by decide)) own_nW (Nat.le_of_eq rfl) own_pd44 rfl rfl rfl d78_20 (by decide) (by decide) ?_
  rintro v25 T26 h27 A28 ⟨rfl, K23, V24⟩
  show own_Run p e below Q m T26 23 #[.val (.ref b), .val (.int 1), .val (.int 2), .val (.ref t1), .val (.int 1)] []
  have f29 : Arv Z h27 t1 k2 .byte (4 : Int32) [(.int (StrChars.lo8 chc)), (.int (StrChars.hi8 chc)), (.int (StrChars.lo8 chd)), (.int (StrChars.hi8 chd))] (.int 0) := V24
  have f30 := f21.keep K23 (ninS z11 nin0)
  have K31 := K22.trans K23 (allS (Or.inr (Nat.le_trans (Keep.refl h0 []).1 g4)) all0)
  refine own_iinc (q := 26) (v := (1 : Int32)) (L' := #[.val (.ref b), .val (.int ((1 : Int32) + (1 : Int32))), .val (.int 2), .val (.ref t1), .val (.int 1)]) A28 d78_23 rfl rfl rfl ?_
  rw [show ((1 : Int32) + (1 : Int32)) = (2 : Int32) from by decide]
  refine own_iinc (q := 29) (v := (1 : Int32)) (L' := #[.val (.ref b), .val (.int 2), .val (.int 2), .val (.ref t1), .val (.int ((1 : Int32) + (1 : Int32)))]) A28 d78_26 rfl rfl rfl ?_
  rw [show ((1 : Int32) + (1 : Int32)) = (2 : Int32) from by decide]
  refine own_goto (q := 8) A28 d78_29 ?_
  refine own_iload (q := 10) A28 d78_8 rfl ?_
  refine own_iloadN (q := 11) A28 d78_10 rfl ?_
  refine own_icmpT (q := 32) A28 d78_11 (show ¬ (2 : Int32) < (2 : Int32) from by decide) ?_
  refine own_aloadN (q := 33) A28 d78_32 rfl rfl ?_
  exact own_retA A28 hQ rfl rfl rfl d78_33 ⟨t1, _, rfl, g3, (Nat.le_trans (Keep.refl h0 []).1 g4), K31, f29⟩
theorem d50_0 : decode jdk_52_method_15_code 0 = .ok (.iload_n 1, 1) := by decide +kernel
theorem d50_1 : decode jdk_52_method_15_code 1 = .ok (.aload_n 0, 1) := by decide +kernel
theorem d50_2 : decode jdk_52_method_15_code 2 = .ok (.arraylength, 1) := by decide +kernel
theorem d50_3 : decode jdk_52_method_15_code 3 = .ok (.isub, 1) := by decide +kernel
theorem d50_4 : decode jdk_52_method_15_code 4 = .ok (.bipush 31, 2) := by decide +kernel
theorem d50_6 : decode jdk_52_method_15_code 6 = .ok (.iushr, 1) := by decide +kernel
theorem d50_7 : decode jdk_52_method_15_code 7 = .ok (.i2b, 1) := by decide +kernel
theorem d50_8 : decode jdk_52_method_15_code 8 = .ok (.ireturn, 1) := by decide +kernel
theorem rm_cfa2_2 (t : Addr) (kt : ClassId) (vs : List Value) (O0 : Old Z n0 h0) (H : own_H Z a0 zc fm) (Kt : Arv Z h0 t kt .byte 2 vs (.int 0)) :
  own_Met false l Z n0 [] [] ⟨"java/lang/StringUTF16", "coderFromArrayLen", "([BI)B"⟩ jdk_52_method_15_code 2 (some .byte) [] (own_R 0 0 0 0) #[(.ref t), (.int 2)] h0 (fun v h => v = some (.int 0) ∧ h0 = h) := by
  refine own_ent (a0 := a0) (nm := "coderFromArrayLen") (Ls := #[.val (.ref t), .val (.int 2)]) own_pn1 O0 EW.nil ?_
  intro p e _ m _ below _ _ T0 Q hQ A0
  refine own_iloadN (q := 1) A0 d50_0 rfl ?_
  refine own_aloadN (q := 2) A0 d50_1 rfl rfl ?_
  refine own_arrlenv (q := 3) A0 Kt d50_2 ?_
  refine own_isub (q := 4) A0 d50_3 ?_
  refine own_bipush (q := 6) A0 (31 : Int32) d50_4 rfl ?_
  refine own_iushr (q := 7) A0 d50_6 ?_
  refine own_i2b (q := 8) A0 d50_7 ?_
  exact own_retN A0 hQ (t := .byte) (by simp) d50_8 ⟨by decide, rfl⟩
theorem rm_cfa4_2 (t : Addr) (kt : ClassId) (vs : List Value) (O0 : Old Z n0 h0) (H : own_H Z a0 zc fm) (Kt : Arv Z h0 t kt .byte 4 vs (.int 0)) :
  own_Met false l Z n0 [] [] ⟨"java/lang/StringUTF16", "coderFromArrayLen", "([BI)B"⟩ jdk_52_method_15_code 2 (some .byte) [] (own_R 0 0 0 0) #[(.ref t), (.int 2)] h0 (fun v h => v = some (.int 1) ∧ h0 = h) := by
  refine own_ent (a0 := a0) (nm := "coderFromArrayLen") (Ls := #[.val (.ref t), .val (.int 2)]) own_pn1 O0 EW.nil ?_
  intro p e _ m _ below _ _ T0 Q hQ A0
  refine own_iloadN (q := 1) A0 d50_0 rfl ?_
  refine own_aloadN (q := 2) A0 d50_1 rfl rfl ?_
  refine own_arrlenv (q := 3) A0 Kt d50_2 ?_
  refine own_isub (q := 4) A0 d50_3 ?_
  refine own_bipush (q := 6) A0 (31 : Int32) d50_4 rfl ?_
  refine own_iushr (q := 7) A0 d50_6 ?_
  refine own_i2b (q := 8) A0 d50_7 ?_
  exact own_retN A0 hQ (t := .byte) (by simp) d50_8 ⟨by decide, rfl⟩
theorem rm_cfa1_1 (t : Addr) (kt : ClassId) (vs : List Value) (O0 : Old Z n0 h0) (H : own_H Z a0 zc fm) (Kt : Arv Z h0 t kt .byte 1 vs (.int 0)) :
  own_Met false l Z n0 [] [] ⟨"java/lang/StringUTF16", "coderFromArrayLen", "([BI)B"⟩ jdk_52_method_15_code 2 (some .byte) [] (own_R 0 0 0 0) #[(.ref t), (.int 1)] h0 (fun v h => v = some (.int 0) ∧ h0 = h) := by
  refine own_ent (a0 := a0) (nm := "coderFromArrayLen") (Ls := #[.val (.ref t), .val (.int 1)]) own_pn1 O0 EW.nil ?_
  intro p e _ m _ below _ _ T0 Q hQ A0
  refine own_iloadN (q := 1) A0 d50_0 rfl ?_
  refine own_aloadN (q := 2) A0 d50_1 rfl rfl ?_
  refine own_arrlenv (q := 3) A0 Kt d50_2 ?_
  refine own_isub (q := 4) A0 d50_3 ?_
  refine own_bipush (q := 6) A0 (31 : Int32) d50_4 rfl ?_
  refine own_iushr (q := 7) A0 d50_6 ?_
  refine own_i2b (q := 8) A0 d50_7 ?_
  exact own_retN A0 hQ (t := .byte) (by simp) d50_8 ⟨by decide, rfl⟩
theorem rm_cfa2_1 (t : Addr) (kt : ClassId) (vs : List Value) (O0 : Old Z n0 h0) (H : own_H Z a0 zc fm) (Kt : Arv Z h0 t kt .byte 2 vs (.int 0)) :
  own_Met false l Z n0 [] [] ⟨"java/lang/StringUTF16", "coderFromArrayLen", "([BI)B"⟩ jdk_52_method_15_code 2 (some .byte) [] (own_R 0 0 0 0) #[(.ref t), (.int 1)] h0 (fun v h => v = some (.int 1) ∧ h0 = h) := by
  refine own_ent (a0 := a0) (nm := "coderFromArrayLen") (Ls := #[.val (.ref t), .val (.int 1)]) own_pn1 O0 EW.nil ?_
  intro p e _ m _ below _ _ T0 Q hQ A0
  refine own_iloadN (q := 1) A0 d50_0 rfl ?_
  refine own_aloadN (q := 2) A0 d50_1 rfl rfl ?_
  refine own_arrlenv (q := 3) A0 Kt d50_2 ?_
  refine own_isub (q := 4) A0 d50_3 ?_
  refine own_bipush (q := 6) A0 (31 : Int32) d50_4 rfl ?_
  refine own_iushr (q := 7) A0 d50_6 ?_
  refine own_i2b (q := 8) A0 d50_7 ?_
  exact own_retN A0 hQ (t := .byte) (by simp) d50_8 ⟨by decide, rfl⟩
theorem d49_0 : decode jdk_52_method_21_code 0 = .ok (.iconst 0, 1) := by decide +kernel
theorem d49_1 : decode jdk_52_method_21_code 1 = .ok (.istore 5, 2) := by decide +kernel
theorem d49_3 : decode jdk_52_method_21_code 3 = .ok (.iload 5, 2) := by decide +kernel
theorem d49_5 : decode jdk_52_method_21_code 5 = .ok (.iload 4, 2) := by decide +kernel
theorem d49_7 : decode jdk_52_method_21_code 7 = .ok (.if_icmp .ge 37, 3) := by decide +kernel
theorem d49_10 : decode jdk_52_method_21_code 10 = .ok (.aload_n 0, 1) := by decide +kernel
theorem d49_11 : decode jdk_52_method_21_code 11 = .ok (.iload_n 1, 1) := by decide +kernel
theorem d49_12 : decode jdk_52_method_21_code 12 = .ok (.caload, 1) := by decide +kernel
theorem d49_13 : decode jdk_52_method_21_code 13 = .ok (.istore 6, 2) := by decide +kernel
theorem d49_15 : decode jdk_52_method_21_code 15 = .ok (.iload 6, 2) := by decide +kernel
theorem d49_17 : decode jdk_52_method_21_code 17 = .ok (.sipush 255, 3) := by decide +kernel
theorem d49_20 : decode jdk_52_method_21_code 20 = .ok (.if_icmp .le 6, 3) := by decide +kernel
theorem d49_23 : decode jdk_52_method_21_code 23 = .ok (.iload 5, 2) := by decide +kernel
theorem d49_25 : decode jdk_52_method_21_code 25 = .ok (.ireturn, 1) := by decide +kernel
theorem d49_26 : decode jdk_52_method_21_code 26 = .ok (.aload_n 2, 1) := by decide +kernel
theorem d49_27 : decode jdk_52_method_21_code 27 = .ok (.iload_n 3, 1) := by decide +kernel
theorem d49_28 : decode jdk_52_method_21_code 28 = .ok (.iload 6, 2) := by decide +kernel
theorem d49_30 : decode jdk_52_method_21_code 30 = .ok (.i2b, 1) := by decide +kernel
theorem d49_31 : decode jdk_52_method_21_code 31 = .ok (.bastore, 1) := by decide +kernel
theorem d49_32 : decode jdk_52_method_21_code 32 = .ok (.iinc 1 1, 3) := by decide +kernel
theorem d49_35 : decode jdk_52_method_21_code 35 = .ok (.iinc 3 1, 3) := by decide +kernel
theorem d49_38 : decode jdk_52_method_21_code 38 = .ok (.iinc 5 1, 3) := by decide +kernel
theorem d49_41 : decode jdk_52_method_21_code 41 = .ok (.goto (-38), 3) := by decide +kernel
theorem d49_44 : decode jdk_52_method_21_code 44 = .ok (.iload 4, 2) := by decide +kernel
theorem d49_46 : decode jdk_52_method_21_code 46 = .ok (.ireturn, 1) := by decide +kernel
theorem rm_c5_LL (b : Addr) (kb : ClassId) (chc chd : Int32) (t : Addr) (kt : ClassId) (O0 : Old Z n0 h0) (H : own_H Z a0 zc fm) (Kb : Arv Z h0 b kb .char 2 [.int chc, .int chd] (.int 0)) (Kt : Arv Z h0 t kt .byte 2 [.int 0, .int 0] (.int 0)) (gt : n0 ≤ t) (nbt : b ≠ t) (qchc : ¬ (255 : Int32) < chc) (qchd : ¬ (255 : Int32) < chd) :
  own_Met false l Z n0 [] [] ⟨"java/lang/StringUTF16", "compress", "([CI[BII)I"⟩ jdk_52_method_21_code 7 (some .int) [] (own_R 0 0 0 0) #[(.ref b), (.int 0), (.ref t), (.int 0), (.int 2)] h0 (fun v h => v = some (.int 2) ∧ Keep h0 h [t] ∧ Arv Z h t kt .byte 2 [.int (StrChars.lo8 chc), .int (StrChars.lo8 chd)] (.int 0)) := by
  refine own_ent (a0 := a0) (nm := "compress") (Ls := #[.val (.ref b), .val (.int 0), .val (.ref t), .val (.int 0), .val (.int 2), .unset, .unset]) own_pn1 O0 EW.nil ?_
  intro p e _ m _ below _ _ T0 Q hQ A0
  refine own_iconst (q := 1) A0 (0 : Int32) d49_0 rfl ?_
  refine own_istore (q := 3) (L' := #[.val (.ref b), .val (.int 0), .val (.ref t), .val (.int 0), .val (.int 2), .val (.int 0), .unset]) A0 d49_1 rfl ?_
  refine own_iload (q := 5) A0 d49_3 rfl ?_
  refine own_iload (q := 7) A0 d49_5 rfl ?_
  refine own_icmpF (q := 10) A0 d49_7 (show (0 : Int32) < (2 : Int32) from by decide) ?_
  refine own_aloadN (q := 11) A0 d49_10 rfl rfl ?_
  refine own_iloadN (q := 12) A0 d49_11 rfl ?_
  refine own_caloadv (q := 13) (v := (.int chc)) A0 Kb 0 (by decide) (by decide) (by decide) rfl d49_12 ?_
  refine own_istore (q := 15) (L' := #[.val (.ref b), .val (.int 0), .val (.ref t), .val (.int 0), .val (.int 2), .val (.int 0), .val (.int chc)]) A0 d49_13 rfl ?_
  refine own_iload (q := 17) A0 d49_15 rfl ?_
  refine own_sipush (q := 20) A0 (255 : Int32) d49_17 rfl ?_
  refine own_icmpT (q := 26) A0 d49_20 (show ¬ (255 : Int32) < chc from qchc) ?_
  refine own_aloadN (q := 27) A0 d49_26 rfl rfl ?_
  refine own_iloadN (q := 28) A0 d49_27 rfl ?_
  refine own_iload (q := 30) A0 d49_28 rfl ?_
  refine own_i2b (q := 31) A0 d49_30 ?_
  refine own_stBv (q := 32) A0 Kt 0 (by decide) (by decide) (by decide) (Nat.le_of_ble_eq_true rfl) gt (Or.inr (Or.inl rfl)) d49_31 ?_
  intro T1 h2 sl3 A4 W5 X6
  rw [own_narB] at X6
  have f7 : Arv Z h2 t kt .byte (2 : Int32) [(.int (StrChars.lo8 chc)), (.int 0)] (.int 0) := X6
  have K8 := (Keep.refl h0 [t]).wr W5 (Or.inl (by simp))
  have f9 := Kb.other W5 nbt
  have f10 : Arv Z h2 t kt .byte (2 : Int32) [(.int (StrChars.lo8 chc)), (.int 0)] (.int 0) := f7
  refine own_iinc (q := 35) (v := (1 : Int32)) (L' := #[.val (.ref b), .val (.int ((0 : Int32) + (1 : Int32))), .val (.ref t), .val (.int 0), .val (.int 2), .val (.int 0), .val (.int chc)]) A4 d49_32 rfl rfl rfl ?_
  rw [show ((0 : Int32) + (1 : Int32)) = (1 : Int32) from by decide]
  refine own_iinc (q := 38) (v := (1 : Int32)) (L' := #[.val (.ref b), .val (.int 1), .val (.ref t), .val (.int ((0 : Int32) + (1 : Int32))), .val (.int 2), .val (.int 0), .val (.int chc)]) A4 d49_35 rfl rfl rfl ?_
  rw [show ((0 : Int32) + (1 : Int32)) = (1 : Int32) from by decide]
  refine own_iinc (q := 41) (v := (1 : Int32)) (L' := #[.val (.ref b), .val (.int 1), .val (.ref t), .val (.int 1), .val (.int 2), .val (.int ((0 : Int32) + (1 : Int32))), .val (.int chc)]) A4 d49_38 rfl rfl rfl ?_
  rw [show ((0 : Int32) + (1 : Int32)) = (1 : Int32) from by decide]
  refine own_goto (q := 3) A4 d49_41 ?_
  refine own_iload (q := 5) A4 d49_3 rfl ?_
  refine own_iload (q := 7) A4 d49_5 rfl ?_
  refine own_icmpF (q := 10) A4 d49_7 (show (1 : Int32) < (2 : Int32) from by decide) ?_
  refine own_aloadN (q := 11) A4 d49_10 rfl rfl ?_
  refine own_iloadN (q := 12) A4 d49_11 rfl ?_
  refine own_caloadv (q := 13) (v := (.int chd)) A4 f9 1 (by decide) (by decide) (by decide) rfl d49_12 ?_
  refine own_istore (q := 15) (L' := #[.val (.ref b), .val (.int 1), .val (.ref t), .val (.int 1), .val (.int 2), .val (.int 1), .val (.int chd)]) A4 d49_13 rfl ?_
  refine own_iload (q := 17) A4 d49_15 rfl ?_
  refine own_sipush (q := 20) A4 (255 : Int32) d49_17 rfl ?_
  refine own_icmpT (q := 26) A4 d49_20 (show ¬ (255 : Int32) < chd from qchd) ?_
  refine own_aloadN (q := 27) A4 d49_26 rfl rfl ?_
  refine own_iloadN (q := 28) A4 d49_27 rfl ?_
  refine own_iload (q := 30) A4 d49_28 rfl ?_
  refine own_i2b (q := 31) A4 d49_30 ?_
  refine own_stBv (q := 32) A4 f10 1 (by decide) (by decide) (by decide) (Nat.le_of_ble_eq_true rfl) gt (Or.inr (Or.inl rfl)) d49_31 ?_
  intro T11 h12 sl13 A14 W15 X16
  rw [own_narB] at X16
  have f17 : Arv Z h12 t kt .byte (2 : Int32) [(.int (StrChars.lo8 chc)), (.int (StrChars.lo8 chd))] (.int 0) := X16
  have K18 := K8.wr W15 (Or.inl (by simp))
  have f19 := f9.other W15 nbt
  have f20 : Arv Z h12 t kt .byte (2 : Int32) [(.int (StrChars.lo8 chc)), (.int (StrChars.lo8 chd))] (.int 0) := f17
  refine own_iinc (q := 35) (v := (1 : Int32)) (L' := #[.val (.ref b), .val (.int ((1 : Int32) + (1 : Int32))), .val (.ref t), .val (.int 1), .val (.int 2), .val (.int 1), .val (.int chd)]) A14 d49_32 rfl rfl rfl ?_
  rw [show ((1 : Int32) + (1 : Int32)) = (2 : Int32) from by decide]
  refine own_iinc (q := 38) (v := (1 : Int32)) (L' := #[.val (.ref b), .val (.int 2), .val (.ref t), .val (.int ((1 : Int32) + (1 : Int32))), .val (.int 2), .val (.int 1), .val (.int chd)]) A14 d49_35 rfl rfl rfl ?_
  rw [show ((1 : Int32) + (1 : Int32)) = (2 : Int32) from by decide]
  refine own_iinc (q := 41) (v := (1 : Int32)) (L' := #[.val (.ref b), .val (.int 2), .val (.ref t), .val (.int 2), .val (.int 2), .val (.int ((1 : Int32) + (1 : Int32))), .val (.int chd)]) A14 d49_38 rfl rfl rfl ?_
  rw [show ((1 : Int32) + (1 : Int32)) = (2 : Int32) from by decide]
  refine own_goto (q := 3) A14 d49_41 ?_
  refine own_iload (q := 5) A14 d49_3 rfl ?_
  refine own_iload (q := 7) A14 d49_5 rfl ?_
  refine own_icmpT (q := 44) A14 d49_7 (show ¬ (2 : Int32) < (2 : Int32) from by decide) ?_
  refine own_iload (q := 46) A14 d49_44 rfl ?_
  exact own_retI A14 hQ d49_46 ⟨rfl, K18, f20⟩
theorem d48_0 : decode jdk_52_method_16_code 0 = .ok (.iload_n 2, 1) := by decide +kernel
theorem d48_1 : decode jdk_52_method_16_code 1 = .ok (.newarray .byte, 2) := by decide +kernel
theorem d48_3 : decode jdk_52_method_16_code 3 = .ok (.astore_n 3, 1) := by decide +kernel
theorem d48_4 : decode jdk_52_method_16_code 4 = .ok (.aload_n 0, 1) := by decide +kernel
theorem d48_5 : decode jdk_52_method_16_code 5 = .ok (.iload_n 1, 1) := by decide +kernel
theorem d48_6 : decode jdk_52_method_16_code 6 = .ok (.aload_n 3, 1) := by decide +kernel
theorem d48_7 : decode jdk_52_method_16_code 7 = .ok (.iconst 0, 1) := by decide +kernel
theorem d48_8 : decode jdk_52_method_16_code 8 = .ok (.iload_n 2, 1) := by decide +kernel
theorem d48_9 : decode jdk_52_method_16_code 9 = .ok (.invokestatic 115, 3) := by decide +kernel
theorem d48_12 : decode jdk_52_method_16_code 12 = .ok (.istore 4, 2) := by decide +kernel
theorem d48_14 : decode jdk_52_method_16_code 14 = .ok (.iload 4, 2) := by decide +kernel
theorem d48_16 : decode jdk_52_method_16_code 16 = .ok (.iload_n 2, 1) := by decide +kernel
theorem d48_17 : decode jdk_52_method_16_code 17 = .ok (.if_icmp .eq 40, 3) := by decide +kernel
theorem d48_20 : decode jdk_52_method_16_code 20 = .ok (.aload_n 0, 1) := by decide +kernel
theorem d48_21 : decode jdk_52_method_16_code 21 = .ok (.iload_n 1, 1) := by decide +kernel
theorem d48_22 : decode jdk_52_method_16_code 22 = .ok (.iload_n 2, 1) := by decide +kernel
theorem d48_23 : decode jdk_52_method_16_code 23 = .ok (.invokestatic 119, 3) := by decide +kernel
theorem d48_26 : decode jdk_52_method_16_code 26 = .ok (.astore 5, 2) := by decide +kernel
theorem d48_28 : decode jdk_52_method_16_code 28 = .ok (.aload 5, 2) := by decide +kernel
theorem d48_30 : decode jdk_52_method_16_code 30 = .ok (.iload 4, 2) := by decide +kernel
theorem d48_32 : decode jdk_52_method_16_code 32 = .ok (.invokestatic 71, 3) := by decide +kernel
theorem d48_35 : decode jdk_52_method_16_code 35 = .ok (.sipush 255, 3) := by decide +kernel
theorem d48_38 : decode jdk_52_method_16_code 38 = .ok (.if_icmp .gt 16, 3) := by decide +kernel
theorem d48_54 : decode jdk_52_method_16_code 54 = .ok (.aload 5, 2) := by decide +kernel
theorem d48_56 : decode jdk_52_method_16_code 56 = .ok (.areturn, 1) := by decide +kernel
theorem d48_57 : decode jdk_52_method_16_code 57 = .ok (.aload_n 3, 1) := by decide +kernel
theorem d48_58 : decode jdk_52_method_16_code 58 = .ok (.areturn, 1) := by decide +kernel
theorem rm_cc_LL (b : Addr) (kb : ClassId) (chc chd : Int32) (O0 : Old Z n0 h0) (H : own_H Z a0 zc fm) (Kb : Arv Z h0 b kb .char 2 [.int chc, .int chd] (.int 0)) (hchc0 : ¬ chc < 0) (hchc1 : ¬ (65535 : Int32) < chc) (hchd0 : ¬ chd < 0) (hchd1 : ¬ (65535 : Int32) < chd) (qchc : ¬ (255 : Int32) < chc) (qchd : ¬ (255 : Int32) < chd) :
  own_Met false l Z n0 [] [] ⟨"java/lang/StringUTF16", "compress", "([CII)[B"⟩ jdk_52_method_16_code 6 (some (.array .byte)) [] (own_R 1 1 2 18) #[(.ref b), (.int 0), (.int 2)] h0 (fun v h => ∃ (t : Addr) (k : ClassId), v = some (.ref t) ∧ n0 ≤ t ∧ h0.size ≤ t ∧ Keep h0 h [] ∧ Arv Z h t k .byte 2 [.int (StrChars.lo8 chc), .int (StrChars.lo8 chd)] (.int 0)) := by
  refine own_ent (a0 := a0) (nm := "compress") (Ls := #[.val (.ref b), .val (.int 0), .val (.int 2), .unset, .unset, .unset]) own_pn1 O0 EW.nil ?_
  intro p e _ m _ below _ _ T0 Q hQ A0
  refine own_iloadN (q := 1) A0 d48_0 rfl ?_
  refine own_newPv (q := 3) (ty := .byte) (dv := .int 0) A0 rfl rfl (H.k 12 rfl) d48_1 2 (by decide) (by decide) (by decide) (by decide) (by decide) ?_
  intro T1 h2 a3 k4 g5 g6 A7 E8 X9
  have z10 : b ≠ a3 := Nat.ne_of_lt (Nat.lt_of_lt_of_le Kb.lt (Nat.le_of_eq g5))
  have K11 := (Keep.refl h0 []).ext E8
  have f12 := Kb.ext E8
  have f13 : Arv Z h2 a3 k4 .byte (2 : Int32) [(.int 0), (.int 0)] (.int 0) := X9
  refine own_astoreN (q := 4) (L' := #[.val (.ref b), .val (.int 0), .val (.int 2), .val (.ref a3), .unset, .unset]) A7 d48_3 rfl rfl ?_
  refine own_aloadN (q := 5) A7 d48_4 rfl rfl ?_
  refine own_iloadN (q := 6) A7 d48_5 rfl ?_
  refine own_aloadN (q := 7) A7 d48_6 rfl rfl ?_
  refine own_iconst (q := 8) A7 (0 : Int32) d48_7 rfl ?_
  refine own_iloadN (q := 9) A7 d48_8 rfl ?_
  refine own_static (q := 12) (W := 0) (argsL := [(.ref b), (.int 0), (.ref a3), (.int 0), (.int 2)]) (rest := []) A7 (H.k 244 rfl) (H.k 245 rfl) (H.k 242 rfl) (H.k 246 rfl) (by decide) (own_pay (rm_c5_LL b kb chc chd a3 k4 A7.old H f12 f13 g6 z10 qchc qchd) (H.k 246 rfl) (H.k 242 rfl) (by decide) (by decide)) own_nW (Nat.le_of_eq rfl) own_pd38 rfl rfl rfl d48_9 (by decide) (by decide) ?_
  rintro v16 T17 h18 A19 ⟨rfl, K14, V15⟩
  show own_Run p e below Q m T17 12 #[.val (.ref b), .val (.int 0), .val (.int 2), .val (.ref a3), .unset, .unset] [(.int 2)]
  have f20 := f12.keep K14 (ninS z10 nin0)
  have K21 := K11.trans K14 (allS (Or.inr (Nat.le_trans (Keep.refl h0 []).1 (Nat.le_of_eq g5))) all0)
  refine own_istore (q := 14) (L' := #[.val (.ref b), .val (.int 0), .val (.int 2), .val (.ref a3), .val (.int 2), .unset]) A19 d48_12 rfl ?_
  refine own_iload (q := 16) A19 d48_14 rfl ?_
  refine own_iloadN (q := 17) A19 d48_16 rfl ?_
  refine own_icmpT (q := 57) A19 d48_17 (show (2 : Int32) = (2 : Int32) from by decide) ?_
  refine own_aloadN (q := 58) A19 d48_57 rfl rfl ?_
  exact own_retA A19 hQ rfl rfl rfl d48_58 ⟨a3, _, rfl, g6, (Nat.le_trans (Keep.refl h0 []).1 (Nat.le_of_eq g5)), K21, V15⟩
theorem d47_0 : decode jdk_42_method_149_code 0 = .ok (.aload_n 0, 1) := by decide +kernel
theorem d47_1 : decode jdk_42_method_149_code 1 = .ok (.invokespecial 1, 3) := by decide +kernel
theorem d47_4 : decode jdk_42_method_149_code 4 = .ok (.iload_n 3, 1) := by decide +kernel
theorem d47_5 : decode jdk_42_method_149_code 5 = .ok (.ifCond .ne 22, 3) := by decide +kernel
theorem d47_27 : decode jdk_42_method_149_code 27 = .ok (.getstatic 38, 3) := by decide +kernel
theorem d47_30 : decode jdk_42_method_149_code 30 = .ok (.ifCond .eq 28, 3) := by decide +kernel
theorem d47_33 : decode jdk_42_method_149_code 33 = .ok (.aload_n 1, 1) := by decide +kernel
theorem d47_34 : decode jdk_42_method_149_code 34 = .ok (.iload_n 2, 1) := by decide +kernel
theorem d47_35 : decode jdk_42_method_149_code 35 = .ok (.iload_n 3, 1) := by decide +kernel
theorem d47_36 : decode jdk_42_method_149_code 36 = .ok (.invokestatic 177, 3) := by decide +kernel
theorem d47_39 : decode jdk_42_method_149_code 39 = .ok (.astore 5, 2) := by decide +kernel
theorem d47_41 : decode jdk_42_method_149_code 41 = .ok (.aload_n 0, 1) := by decide +kernel
theorem d47_42 : decode jdk_42_method_149_code 42 = .ok (.aload 5, 2) := by decide +kernel
theorem d47_44 : decode jdk_42_method_149_code 44 = .ok (.iload_n 3, 1) := by decide +kernel
theorem d47_45 : decode jdk_42_method_149_code 45 = .ok (.invokestatic 47, 3) := by decide +kernel
theorem d47_48 : decode jdk_42_method_149_code 48 = .ok (.putfield 15, 3) := by decide +kernel
theorem d47_51 : decode jdk_42_method_149_code 51 = .ok (.aload_n 0, 1) := by decide +kernel
theorem d47_52 : decode jdk_42_method_149_code 52 = .ok (.aload 5, 2) := by decide +kernel
theorem d47_54 : decode jdk_42_method_149_code 54 = .ok (.putfield 9, 3) := by decide +kernel
theorem d47_57 : decode jdk_42_method_149_code 57 = .ok (.return_, 1) := by decide +kernel
theorem rm_i4_LL (a : Addr) (b : Addr) (kb : ClassId) (chc chd : Int32) (O0 : Old Z n0 h0) (H : own_H Z a0 zc fm) (Ea : Exa Z h0 a "java/lang/String") (Ca : Fld Z h0 a "java/lang/String" "coder" "B" (.int 0)) (Va : Fld Z h0 a "java/lang/String" "value" "[B" .null) (ga : n0 ≤ a) (Kb : Arv Z h0 b kb .char 2 [.int chc, .int chd] (.int 0)) (nab : a ≠ b) (hchc0 : ¬ chc < 0) (hchc1 : ¬ (65535 : Int32) < chc) (hchd0 : ¬ chd < 0) (hchd1 : ¬ (65535 : Int32) < chd) (qchc : ¬ (255 : Int32) < chc) (qchd : ¬ (255 : Int32) < chd) :
  own_Met false l Z n0 [] [] ⟨"java/lang/String", "<init>", "([CIILjava/lang/Void;)V"⟩ jdk_42_method_149_code 6 none [] (own_R 2 1 2 35) #[(.ref a), (.ref b), (.int 0), (.int 2), .null] h0 (fun v h => v = none ∧ Keep h0 h [a] ∧ own_Str Z h a [chc, chd]) := by
  refine own_ent (a0 := a0) (nm := "<init>") (Ls := #[.val (.ref a), .val (.ref b), .val (.int 0), .val (.int 2), .val .null, .unset]) own_pn2 O0 EW.nil ?_
  intro p e _ m _ below _ _ T0 Q hQ A0
  refine own_aloadN (q := 1) A0 d47_0 rfl rfl ?_
  refine own_initO (q := 4) (W := 0) A0 (H.k 122 rfl) (H.k 34 rfl) (H.k 35 rfl) d47_1 rfl (by decide) (Nat.le_of_eq rfl) (by decide) ?_
  intro T1 A2
  refine own_iloadN (q := 5) A2 d47_4 rfl ?_
  refine own_ifcT (q := 27) A2 d47_5 (show ¬ (2 : Int32) = (0 : Int32) from by decide) ?_
  refine own_getS (q := 30) A2 (H.k 62 rfl) Via.refl H.SC d47_27 ?_
  intro T3 A4
  refine own_ifcF (q := 33) A4 d47_30 (show ¬ zc = (0 : Int32) from H.hz) ?_
  refine own_aloadN (q := 34) A4 d47_33 rfl rfl ?_
  refine own_iloadN (q := 35) A4 d47_34 rfl ?_
  refine own_iloadN (q := 36) A4 d47_35 rfl ?_
  refine own_static (q := 39) (W := 0) (argsL := [(.ref b), (.int 0), (.int 2)]) (rest := []) A4 (H.k 240 rfl) (H.k 241 rfl) (H.k 242 rfl) (H.k 243 rfl) (by decide) (own_pay (rm_cc_LL b kb chc chd A4.old H Kb hchc0 hchc1 hchd0 hchd1 qchc qchd) (H.k 243 rfl) (H.k 242 rfl) (by decide) (by decide)) own_nW (Nat.le_of_eq rfl) own_pd37 rfl rfl rfl d47_36 (by decide) (by decide) ?_
  rintro v11 T12 h13 A14 ⟨t5, k6, rfl, g7, g8, K9, V10⟩
  show own_Run p e below Q m T12 39 #[.val (.ref a), .val (.ref b), .val (.int 0), .val (.int 2), .val .null, .unset] [(.ref t5)]
  have z15 : a ≠ t5 := Nat.ne_of_lt (Nat.lt_of_lt_of_le Ea.lt g8)
  have z16 : b ≠ t5 := Nat.ne_of_lt (Nat.lt_of_lt_of_le Kb.lt g8)
  have f17 := Ea.keep K9
  have f18 := Ca.keep K9 nin0
  have f19 := Va.keep K9 nin0
  have f20 := Kb.keep K9 nin0
  have K21 := (Keep.refl h0 [a]).trans K9 all0
  refine own_astore (q := 41) (L' := #[.val (.ref a), .val (.ref b), .val (.int 0), .val (.int 2), .val .null, .val (.ref t5)]) A14 d47_39 rfl rfl ?_
  refine own_aloadN (q := 42) A14 d47_41 rfl rfl ?_
  refine own_aload (q := 44) A14 d47_42 rfl rfl ?_
  refine own_iloadN (q := 45) A14 d47_44 rfl ?_
  refine own_static (q := 48) (W := 1) (argsL := [(.ref t5), (.int 2)]) (rest := [(.ref a)]) A14 (H.k 247 rfl) (H.k 248 rfl) (H.k 242 rfl) (H.k 249 rfl) (by decide) (own_pay (rm_cfa2_2 t5 k6 _ A14.old H V10) (H.k 249 rfl) (H.k 242 rfl) (by decide) (by decide)) own_nW (Nat.le_of_eq rfl) own_pd39 rfl rfl rfl d47_45 (by decide) (by decide) ?_
  rintro v22 T23 h24 A25 ⟨rfl, rfl⟩
  show own_Run p e below Q m T23 48 #[.val (.ref a), .val (.ref b), .val (.int 0), .val (.int 2), .val .null, .val (.ref t5)] [(.int 0), (.ref a)]
  refine own_putF (host := "") (q := 51) A25 (Or.inl (H.k 63 rfl)) Via.refl f18 f17 (Or.inr ⟨(H.k 14 rfl), rfl, rfl⟩) (H.k 11 rfl) (ty := .byte) (by decide) rfl rfl ga (Or.inr (Or.inl rfl)) d47_48 ?_
  intro T26 h27 A28 W29
  have K30 := K21.wr W29 (Or.inl (by simp))
  have f31 := f17.wr W29
  have f32 := f18.same W29
  have f33 := f19.other W29 (Or.inr (slot_ne (Or.inr (H.k 13 rfl)) (Or.inr (H.k 14 rfl)) (by decide) (by decide : parseFieldDescriptor "[B" = some (.array .byte)) (by decide : parseFieldDescriptor "B" = some .byte)))
  have f34 := f20.other W29 (Ne.symm nab)
  have f35 := V10.other W29 (Ne.symm z15)
  refine own_aloadN (q := 52) A28 d47_51 rfl rfl ?_
  refine own_aload (q := 54) A28 d47_52 rfl rfl ?_
  refine own_putF (host := "") (q := 57) A28 (Or.inl (H.k 56 rfl)) Via.refl f33 f31 (Or.inr ⟨(H.k 13 rfl), rfl, rfl⟩) (H.k 11 rfl) (ty := (.array .byte)) (by decide) rfl rfl ga (Or.inr (Or.inl rfl)) d47_54 ?_
  intro T36 h37 A38 W39
  have K40 := K30.wr W39 (Or.inl (by simp))
  have f41 := f31.wr W39
  have f42 := f32.other W39 (Or.inr (slot_ne (Or.inr (H.k 14 rfl)) (Or.inr (H.k 13 rfl)) (by decide) (by decide : parseFieldDescriptor "B" = some .byte) (by decide : parseFieldDescriptor "[B" = some (.array .byte))))
  have f43 := f33.same W39
  have f44 := f34.other W39 (Ne.symm nab)
  have f45 := f35.other W39 (Ne.symm z15)
  exact own_ret0 A38 hQ d47_57 ⟨rfl, K40, t5, _, (0 : Int32), (2 : Int32), _, own_X_mk f41 f42 f43 f45, Or.inl ⟨rfl, rfl, rfl, (own_fc qchc (own_fc qchd (fun _ z => nomatch z)))⟩⟩
theorem d46_0 : decode jdk_42_method_3_code 0 = .ok (.aload_n 0, 1) := by decide +kernel
theorem d46_1 : decode jdk_42_method_3_code 1 = .ok (.aload_n 1, 1) := by decide +kernel
theorem d46_2 : decode jdk_42_method_3_code 2 = .ok (.iconst 0, 1) := by decide +kernel
theorem d46_3 : decode jdk_42_method_3_code 3 = .ok (.aload_n 1, 1) := by decide +kernel
theorem d46_4 : decode jdk_42_method_3_code 4 = .ok (.arraylength, 1) := by decide +kernel
theorem d46_5 : decode jdk_42_method_3_code 5 = .ok (.aconst_null, 1) := by decide +kernel
theorem d46_6 : decode jdk_42_method_3_code 6 = .ok (.invokespecial 27, 3) := by decide +kernel
theorem d46_9 : decode jdk_42_method_3_code 9 = .ok (.return_, 1) := by decide +kernel
theorem rm_c5_LU (b : Addr) (kb : ClassId) (chc chd : Int32) (t : Addr) (kt : ClassId) (O0 : Old Z n0 h0) (H : own_H Z a0 zc fm) (Kb : Arv Z h0 b kb .char 2 [.int chc, .int chd] (.int 0)) (Kt : Arv Z h0 t kt .byte 2 [.int 0, .int 0] (.int 0)) (gt : n0 ≤ t) (nbt : b ≠ t) (qchc : ¬ (255 : Int32) < chc) (qchd :  (255 : Int32) < chd) :
  own_Met false l Z n0 [] [] ⟨"java/lang/StringUTF16", "compress", "([CI[BII)I"⟩ jdk_52_method_21_code 7 (some .int) [] (own_R 0 0 0 0) #[(.ref b), (.int 0), (.ref t), (.int 0), (.int 2)] h0 (fun v h => v = some (.int 1) ∧ Keep h0 h [t] ∧ Arv Z h t kt .byte 2 [.int (StrChars.lo8 chc), .int 0] (.int 0)) := by
  refine own_ent (a0 := a0) (nm := "compress") (Ls := #[.val (.ref b), .val (.int 0), .val (.ref t), .val (.int 0), .val (.int 2), .unset, .unset]) own_pn1 O0 EW.nil ?_
  intro p e _ m _ below _ _ T0 Q hQ A0
  refine own_iconst (q := 1) A0 (0 : Int32) d49_0 rfl ?_
  refine own_istore (q := 3) (L' := #[.val (.ref b), .val (.int 0), .val (.ref t), .val (.int 0), .val (.int 2), .val (.int 0), .unset]) A0 d49_1 rfl ?_
  refine own_iload (q := 5) A0 d49_3 rfl ?_
  refine own_iload (q := 7) A0 d49_5 rfl ?_
  refine own_icmpF (q := 10) A0 d49_7 (show (0 : Int32) < (2 : Int32) from by decide) ?_
  refine own_aloadN (q := 11) A0 d49_10 rfl rfl ?_
  refine own_iloadN (q := 12) A0 d49_11 rfl ?_
  refine own_caloadv (q := 13) (v := (.int chc)) A0 Kb 0 (by decide) (by decide) (by decide) rfl d49_12 ?_
  refine own_istore (q := 15) (L' := #[.val (.ref b), .val (.int 0), .val (.ref t), .val (.int 0), .val (.int 2), .val (.int 0), .val (.int chc)]) A0 d49_13 rfl ?_
  refine own_iload (q := 17) A0 d49_15 rfl ?_
  refine own_sipush (q := 20) A0 (255 : Int32) d49_17 rfl ?_
  refine own_icmpT (q := 26) A0 d49_20 (show ¬ (255 : Int32) < chc from qchc) ?_
  refine own_aloadN (q := 27) A0 d49_26 rfl rfl ?_
  refine own_iloadN (q := 28) A0 d49_27 rfl ?_
  refine own_iload (q := 30) A0 d49_28 rfl ?_
  refine own_i2b (q := 31) A0 d49_30 ?_
  refine own_stBv (q := 32) A0 Kt 0 (by decide) (by decide) (by decide) (Nat.le_of_ble_eq_true rfl) gt (Or.inr (Or.inl rfl)) d49_31 ?_
  intro T1 h2 sl3 A4 W5 X6
  rw [own_narB] at X6
  have f7 : Arv Z h2 t kt .byte (2 : Int32) [(.int (StrChars.lo8 chc)), (.int 0)] (.int 0) := X6
  have K8 := (Keep.refl h0 [t]).wr W5 (Or.inl (by simp))
  have f9 := Kb.other W5 nbt
  have f10 : Arv Z h2 t kt .byte (2 : Int32) [(.int (StrChars.lo8 chc)), (.int 0)] (.int 0) := f7
  refine own_iinc (q := 35) (v := (1 : Int32)) (L' := #[.val (.ref b), .val (.int ((0 : Int32) + (1 : Int32))), .val (.ref t), .val (.int 0), .val (.int 2), .val (.int 0), .val (.int chc)]) A4 d49_32 rfl rfl rfl ?_
  rw [show ((0 : Int32) + (1 : Int32)) = (1 : Int32) from by decide]
  refine own_iinc (q := 38) (v := (1 : Int32)) (L' := #[.val (.ref b), .val (.int 1), .val (.ref t), .val (.int ((0 : Int32) + (1 : Int32))), .val (.int 2), .val (.int 0), .val (.int chc)]) A4 d49_35 rfl rfl rfl ?_
  rw [show ((0 : Int32) + (1 : Int32)) = (1 : Int32) from by decide]
  refine own_iinc (q := 41) (v := (1 : Int32)) (L' := #[.val (.ref b), .val (.int 1), .val (.ref t), .val (.int 1), .val (.int 2), .val (.int ((0 : Int32) + (1 : Int32))), .val (.int chc)]) A4 d49_38 rfl rfl rfl ?_
  rw [show ((0 : Int32) + (1 : Int32)) = (1 : Int32) from by decide]
  refine own_goto (q := 3) A4 d49_41 ?_
  refine own_iload (q := 5) A4 d49_3 rfl ?_
  refine own_iload (q := 7) A4 d49_5 rfl ?_
  refine own_icmpF (q := 10) A4 d49_7 (show (1 : Int32) < (2 : Int32) from by decide) ?_
  refine own_aloadN (q := 11) A4 d49_10 rfl rfl ?_
  refine own_iloadN (q := 12) A4 d49_11 rfl ?_
  refine own_caloadv (q := 13) (v := (.int chd)) A4 f9 1 (by decide) (by decide) (by decide) rfl d49_12 ?_
  refine own_istore (q := 15) (L' := #[.val (.ref b), .val (.int 1), .val (.ref t), .val (.int 1), .val (.int 2), .val (.int 1), .val (.int chd)]) A4 d49_13 rfl ?_
  refine own_iload (q := 17) A4 d49_15 rfl ?_
  refine own_sipush (q := 20) A4 (255 : Int32) d49_17 rfl ?_
  refine own_icmpF (q := 23) A4 d49_20 (show (255 : Int32) < chd from qchd) ?_
  refine own_iload (q := 25) A4 d49_23 rfl ?_
  exact own_retI A4 hQ d49_25 ⟨rfl, K8, f10⟩
theorem rm_cc_LU (b : Addr) (kb : ClassId) (chc chd : Int32) (O0 : Old Z n0 h0) (H : own_H Z a0 zc fm) (Kb : Arv Z h0 b kb .char 2 [.int chc, .int chd] (.int 0)) (hchc0 : ¬ chc < 0) (hchc1 : ¬ (65535 : Int32) < chc) (hchd0 : ¬ chd < 0) (hchd1 : ¬ (65535 : Int32) < chd) (qchc : ¬ (255 : Int32) < chc) (qchd :  (255 : Int32) < chd) :
  own_Met false l Z n0 [] [] ⟨"java/lang/StringUTF16", "compress", "([CII)[B"⟩ jdk_52_method_16_code 6 (some (.array .byte)) [] (own_R 3 2 6 40) #[(.ref b), (.int 0), (.int 2)] h0 (fun v h => ∃ (t : Addr) (k : ClassId), v = some (.ref t) ∧ n0 ≤ t ∧ h0.size ≤ t ∧ Keep h0 h [] ∧ Arv Z h t k .byte 4 [.int (StrChars.lo8 chc), .int (StrChars.hi8 chc), .int (StrChars.lo8 chd), .int (StrChars.hi8 chd)] (.int 0)) := by
  refine own_ent (a0 := a0) (nm := "compress") (Ls := #[.val (.ref b), .val (.int 0), .val (.int 2), .unset, .unset, .unset]) own_pn1 O0 EW.nil ?_
  intro p e _ m _ below _ _ T0 Q hQ A0
  refine own_iloadN (q := 1) A0 d48_0 rfl ?_
  refine own_newPv (q := 3) (ty := .byte) (dv := .int 0) A0 rfl rfl (H.k 12 rfl) d48_1 2 (by decide) (by decide) (by decide) (by decide) (by decide) ?_
  intro T1 h2 a3 k4 g5 g6 A7 E8 X9
  have z10 : b ≠ a3 := Nat.ne_of_lt (Nat.lt_of_lt_of_le Kb.lt (Nat.le_of_eq g5))
  have K11 := (Keep.refl h0 []).ext E8
  have f12 := Kb.ext E8
  have f13 : Arv Z h2 a3 k4 .byte (2 : Int32) [(.int 0), (.int 0)] (.int 0) := X9
  refine own_astoreN (q := 4) (L' := #[.val (.ref b), .val (.int 0), .val (.int 2), .val (.ref a3), .unset, .unset]) A7 d48_3 rfl rfl ?_
  refine own_aloadN (q := 5) A7 d48_4 rfl rfl ?_
  refine own_iloadN (q := 6) A7 d48_5 rfl ?_
  refine own_aloadN (q := 7) A7 d48_6 rfl rfl ?_
  refine own_iconst (q := 8) A7 (0 : Int32) d48_7 rfl ?_
  refine own_iloadN (q := 9) A7 d48_8 rfl ?_
  refine own_static (q := 12) (W := 0) (argsL := [(.ref b), (.int 0), (.ref a3), (.int 0), (.int 2)]) (rest := []) A7 (H.k 244 rfl) (H.k 245 rfl) (H.k 242 rfl) (H.k 246 rfl) (by decide) (own_pay (rm_c5_LU b kb chc chd a3 k4 A7.old H f12 f13 g6 z10 qchc qchd) (H.k 246 rfl) (H.k 242 rfl) (by decide) (by decide)) own_nW (Nat.le_of_eq rfl) own_pd38 rfl rfl rfl d48_9 (by decide) (by decide) ?_
  rintro v16 T17 h18 A19 ⟨rfl, K14, V15⟩
  show own_Run p e below Q m T17 12 #[.val (.ref b), .val (.int 0), .val (.int 2), .val (.ref a3), .unset, .unset] [(.int 1)]
  have f20 := f12.keep K14 (ninS z10 nin0)
  have K21 := K11.trans K14 (allS (Or.inr (Nat.le_trans (Keep.refl h0 []).1 (Nat.le_of_eq g5))) all0)
  refine own_istore (q := 14) (L' := #[.val (.ref b), .val (.int 0), .val (.int 2), .val (.ref a3), .val (.int 1), .unset]) A19 d48_12 rfl ?_
  refine own_iload (q := 16) A19 d48_14 rfl ?_
  refine own_iloadN (q := 17) A19 d48_16 rfl ?_
  refine own_icmpF (q := 20) A19 d48_17 (show ¬ (1 : Int32) = (2 : Int32) from by decide) ?_
  refine own_aloadN (q := 21) A19 d48_20 rfl rfl ?_
  refine own_iloadN (q := 22) A19 d48_21 rfl ?_
  refine own_iloadN (q := 23) A19 d48_22 rfl ?_
  refine own_static (q := 26) (W := 0) (argsL := [(.ref b), (.int 0), (.int 2)]) (rest := []) A19 (H.k 355 rfl) (H.k 356 rfl) (H.k 242 rfl) (H.k 357 rfl) (by decide) (own_pay (rm_tb2 b kb chc chd A19.old H f20) (H.k 357 rfl) (H.k 242 rfl) (by decide) (by decide)) own_nW (Nat.le_of_eq rfl) own_pd37 rfl rfl rfl d48_23 (by decide) (by decide) ?_
  rintro v28 T29 h30 A31 ⟨t22, k23, rfl, g24, g25, K26, V27⟩
  show own_Run p e below Q m T29 26 #[.val (.ref b), .val (.int 0), .val (.int 2), .val (.ref a3), .val (.int 1), .unset] [(.ref t22)]
  have z32 : b ≠ t22 := Nat.ne_of_lt (Nat.lt_of_lt_of_le f20.lt g25)
  have z33 : a3 ≠ t22 := Nat.ne_of_lt (Nat.lt_of_lt_of_le V15.lt g25)
  have f34 := f20.keep K26 nin0
  have f35 := V15.keep K26 nin0
  have K36 := K21.trans K26 all0
  refine own_astore (q := 28) (L' := #[.val (.ref b), .val (.int 0), .val (.int 2), .val (.ref a3), .val (.int 1), .val (.ref t22)]) A31 d48_26 rfl rfl ?_
  refine own_aload (q := 30) A31 d48_28 rfl rfl ?_
  refine own_iload (q := 32) A31 d48_30 rfl ?_
  refine own_static (q := 35) (W := 0) (argsL := [(.ref t22), (.int 1)]) (rest := []) A31 (H.k 334 rfl) (H.k 335 rfl) (H.k 242 rfl) (H.k 336 rfl) (by decide) (own_pay (rm_gc t22 k23 4 _ 1 2 chd A31.old H V27 (own_gi_D rfl rfl hchd0 hchd1)) (H.k 336 rfl) (H.k 242 rfl) (by decide) (by decide)) own_nW (Nat.le_of_eq rfl) own_pd52 rfl rfl rfl d48_32 (by decide) (by decide) ?_
  rintro v37 T38 h39 A40 ⟨rfl, rfl⟩
  show own_Run p e below Q m T38 35 #[.val (.ref b), .val (.int 0), .val (.int 2), .val (.ref a3), .val (.int 1), .val (.ref t22)] [(.int chd)]
  refine own_sipush (q := 38) A40 (255 : Int32) d48_35 rfl ?_
  refine own_icmpT (q := 54) A40 d48_38 (show (255 : Int32) < chd from qchd) ?_
  refine own_aload (q := 56) A40 d48_54 rfl rfl ?_
  exact own_retA A40 hQ rfl rfl rfl d48_56 ⟨t22, _, rfl, g24, (Nat.le_trans K21.1 g25), K36, V27⟩
theorem rm_i4_LU (a : Addr) (b : Addr) (kb : ClassId) (chc chd : Int32) (O0 : Old Z n0 h0) (H : own_H Z a0 zc fm) (Ea : Exa Z h0 a "java/lang/String") (Ca : Fld Z h0 a "java/lang/String" "coder" "B" (.int 0)) (Va : Fld Z h0 a "java/lang/String" "value" "[B" .null) (ga : n0 ≤ a) (Kb : Arv Z h0 b kb .char 2 [.int chc, .int chd] (.int 0)) (nab : a ≠ b) (hchc0 : ¬ chc < 0) (hchc1 : ¬ (65535 : Int32) < chc) (hchd0 : ¬ chd < 0) (hchd1 : ¬ (65535 : Int32) < chd) (qchc : ¬ (255 : Int32) < chc) (qchd :  (255 : Int32) < chd) :
  own_Met false l Z n0 [] [] ⟨"java/lang/String", "<init>", "([CIILjava/lang/Void;)V"⟩ jdk_42_method_149_code 6 none [] (own_R 4 2 6 57) #[(.ref a), (.ref b), (.int 0), (.int 2), .null] h0 (fun v h => v = none ∧ Keep h0 h [a] ∧ own_Str Z h a [chc, chd]) := by
  refine own_ent (a0 := a0) (nm := "<init>") (Ls := #[.val (.ref a), .val (.ref b), .val (.int 0), .val (.int 2), .val .null, .unset]) own_pn2 O0 EW.nil ?_
  intro p e _ m _ below _ _ T0 Q hQ A0
  refine own_aloadN (q := 1) A0 d47_0 rfl rfl ?_
  refine own_initO (q := 4) (W := 0) A0 (H.k 122 rfl) (H.k 34 rfl) (H.k 35 rfl) d47_1 rfl (by decide) (Nat.le_of_eq rfl) (by decide) ?_
  intro T1 A2
  refine own_iloadN (q := 5) A2 d47_4 rfl ?_
  refine own_ifcT (q := 27) A2 d47_5 (show ¬ (2 : Int32) = (0 : Int32) from by decide) ?_
  refine own_getS (q := 30) A2 (H.k 62 rfl) Via.refl H.SC d47_27 ?_
  intro T3 A4
  refine own_ifcF (q := 33) A4 d47_30 (show ¬ zc = (0 : Int32) from H.hz) ?_
  refine own_aloadN (q := 34) A4 d47_33 rfl rfl ?_
  refine own_iloadN (q := 35) A4 d47_34 rfl ?_
  refine own_iloadN (q := 36) A4 d47_35 rfl ?_
  refine own_static (q := 39) (W := 0) (argsL := [(.ref b), (.int 0), (.int 2)]) (rest := []) A4 (H.k 240 rfl) (H.k 241 rfl) (H.k 242 rfl) (H.k 243 rfl) (by decide) (own_pay (rm_cc_LU b kb chc chd A4.old H Kb hchc0 hchc1 hchd0 hchd1 qchc qchd) (H.k 243 rfl) (H.k 242 rfl) (by decide) (by decide)) own_nW (Nat.le_of_eq rfl) own_pd37 rfl rfl rfl d47_36 (by decide) (by decide) ?_
  rintro v11 T12 h13 A14 ⟨t5, k6, rfl, g7, g8, K9, V10⟩
  show own_Run p e below Q m T12 39 #[.val (.ref a), .val (.ref b), .val (.int 0), .val (.int 2), .val .null, .unset] [(.ref t5)]
  have z15 : a ≠ t5 := Nat.ne_of_lt (Nat.lt_of_lt_of_le Ea.lt g8)
  have z16 : b ≠ t5 := Nat.ne_of_lt (Nat.lt_of_lt_of_le Kb.lt g8)
  have f17 := Ea.keep K9
  have f18 := Ca.keep K9 nin0
  have f19 := Va.keep K9 nin0
  have f20 := Kb.keep K9 nin0
  have K21 := (Keep.refl h0 [a]).trans K9 all0
  refine own_astore (q := 41) (L' := #[.val (.ref a), .val (.ref b), .val (.int 0), .val (.int 2), .val .null, .val (.ref t5)]) A14 d47_39 rfl rfl ?_
  refine own_aloadN (q := 42) A14 d47_41 rfl rfl ?_
  refine own_aload (q := 44) A14 d47_42 rfl rfl ?_
  refine own_iloadN (q := 45) A14 d47_44 rfl ?_
  refine own_static (q := 48) (W := 1) (argsL := [(.ref t5), (.int 2)]) (rest := [(.ref a)]) A14 (H.k 247 rfl) (H.k 248 rfl) (H.k 242 rfl) (H.k 249 rfl) (by decide) (own_pay (rm_cfa4_2 t5 k6 _ A14.old H V10) (H.k 249 rfl) (H.k 242 rfl) (by decide) (by decide)) own_nW (Nat.le_of_eq rfl) own_pd39 rfl rfl rfl d47_45 (by decide) (by decide) ?_
  rintro v22 T23 h24 A25 ⟨rfl, rfl⟩
  show own_Run p e below Q m T23 48 #[.val (.ref a), .val (.ref b), .val (.int 0), .val (.int 2), .val .null, .val (.ref t5)] [(.int 1), (.ref a)]
  refine own_putF (host := "") (q := 51) A25 (Or.inl (H.k 63 rfl)) Via.refl f18 f17 (Or.inr ⟨(H.k 14 rfl), rfl, rfl⟩) (H.k 11 rfl) (ty := .byte) (by decide) rfl rfl ga (Or.inr (Or.inl rfl)) d47_48 ?_
  intro T26 h27 A28 W29
  have K30 := K21.wr W29 (Or.inl (by simp))
  have f31 := f17.wr W29
  have f32 := f18.same W29
  have f33 := f19.other W29 (Or.inr (slot_ne (Or.inr (H.k 13 rfl)) (Or.inr (H.k 14 rfl)) (by decide) (by decide : parseFieldDescriptor "[B" = some (.array .byte)) (by decide : parseFieldDescriptor "B" = some .byte)))
  have f34 := f20.other W29 (Ne.symm nab)
  have f35 := V10.other W29 (Ne.symm z15)
  refine own_aloadN (q := 52) A28 d47_51 rfl rfl ?_
  refine own_aload (q := 54) A28 d47_52 rfl rfl ?_
  refine own_putF (host := "") (q := 57) A28 (Or.inl (H.k 56 rfl)) Via.refl f33 f31 (Or.inr ⟨(H.k 13 rfl), rfl, rfl⟩) (H.k 11 rfl) (ty := (.array .byte)) (by decide) rfl rfl ga (Or.inr (Or.inl rfl)) d47_54 ?_
  intro T36 h37 A38 W39
  have K40 := K30.wr W39 (Or.inl (by simp))
  have f41 := f31.wr W39
  have f42 := f32.other W39 (Or.inr (slot_ne (Or.inr (H.k 14 rfl)) (Or.inr (H.k 13 rfl)) (by decide) (by decide : parseFieldDescriptor "B" = some .byte) (by decide : parseFieldDescriptor "[B" = some (.array .byte))))
  have f43 := f33.same W39
  have f44 := f34.other W39 (Ne.symm nab)
  have f45 := f35.other W39 (Ne.symm z15)
  exact own_ret0 A38 hQ d47_57 ⟨rfl, K40, t5, _, (1 : Int32), (4 : Int32), _, own_X_mk f41 f42 f43 f45, Or.inr ⟨rfl, rfl, rfl, chd, by simp, qchd⟩⟩
theorem rm_c5_UX (b : Addr) (kb : ClassId) (chc chd : Int32) (t : Addr) (kt : ClassId) (O0 : Old Z n0 h0) (H : own_H Z a0 zc fm) (Kb : Arv Z h0 b kb .char 2 [.int chc, .int chd] (.int 0)) (Kt : Arv Z h0 t kt .byte 2 [.int 0, .int 0] (.int 0)) (gt : n0 ≤ t) (nbt : b ≠ t) (qchc :  (255 : Int32) < chc) :
  own_Met false l Z n0 [] [] ⟨"java/lang/StringUTF16", "compress", "([CI[BII)I"⟩ jdk_52_method_21_code 7 (some .int) [] (own_R 0 0 0 0) #[(.ref b), (.int 0), (.ref t), (.int 0), (.int 2)] h0 (fun v h => v = some (.int 0) ∧ Keep h0 h [t] ∧ Arv Z h t kt .byte 2 [.int 0, .int 0] (.int 0)) := by
  refine own_ent (a0 := a0) (nm := "compress") (Ls := #[.val (.ref b), .val (.int 0), .val (.ref t), .val (.int 0), .val (.int 2), .unset, .unset]) own_pn1 O0 EW.nil ?_
  intro p e _ m _ below _ _ T0 Q hQ A0
  refine own_iconst (q := 1) A0 (0 : Int32) d49_0 rfl ?_
  refine own_istore (q := 3) (L' := #[.val (.ref b), .val (.int 0), .val (.ref t), .val (.int 0), .val (.int 2), .val (.int 0), .unset]) A0 d49_1 rfl ?_
  refine own_iload (q := 5) A0 d49_3 rfl ?_
  refine own_iload (q := 7) A0 d49_5 rfl ?_
  refine own_icmpF (q := 10) A0 d49_7 (show (0 : Int32) < (2 : Int32) from by decide) ?_
  refine own_aloadN (q := 11) A0 d49_10 rfl rfl ?_
  refine own_iloadN (q := 12) A0 d49_11 rfl ?_
  refine own_caloadv (q := 13) (v := (.int chc)) A0 Kb 0 (by decide) (by decide) (by decide) rfl d49_12 ?_
  refine own_istore (q := 15) (L' := #[.val (.ref b), .val (.int 0), .val (.ref t), .val (.int 0), .val (.int 2), .val (.int 0), .val (.int chc)]) A0 d49_13 rfl ?_
  refine own_iload (q := 17) A0 d49_15 rfl ?_
  refine own_sipush (q := 20) A0 (255 : Int32) d49_17 rfl ?_
  refine own_icmpF (q := 23) A0 d49_20 (show (255 : Int32) < chc from qchc) ?_
  refine own_iload (q := 25) A0 d49_23 rfl ?_
  exact own_retI A0 hQ d49_25 ⟨rfl, (Keep.refl h0 [t]), Kt⟩
theorem rm_cc_UX (b : Addr) (kb : ClassId) (chc chd : Int32) (O0 : Old Z n0 h0) (H : own_H Z a0 zc fm) (Kb : Arv Z h0 b kb .char 2 [.int chc, .int chd] (.int 0)) (hchc0 : ¬ chc < 0) (hchc1 : ¬ (65535 : Int32) < chc) (hchd0 : ¬ chd < 0) (hchd1 : ¬ (65535 : Int32) < chd) (qchc :  (255 : Int32) < chc) :
  own_Met false l Z n0 [] [] ⟨"java/lang/StringUTF16", "compress", "([CII)[B"⟩ jdk_52_method_16_code 6 (some (.array .byte)) [] (own_R 3 2 6 40) #[(.ref b), (.int 0), (.int 2)] h0 (fun v h => ∃ (t : Addr) (k : ClassId), v = some (.ref t) ∧ n0 ≤ t ∧ h0.size ≤ t ∧ Keep h0 h [] ∧ Arv Z h t k .byte 4 [.int (StrChars.lo8 chc), .int (StrChars.hi8 chc), .int (StrChars.lo8 chd), .int (StrChars.hi8 chd)] (.int 0)) := by
  refine own_ent (a0 := a0) (nm := "compress") (Ls := #[.val (.ref b), .val (.int 0), .val (.int 2), .unset, .unset, .unset]) own_pn1 O0 EW.nil ?_
  intro p e _ m _ below _ _ T0 Q hQ A0
  refine own_iloadN (q := 1) A0 d48_0 rfl ?_
  refine own_newPv (q := 3) (ty := .byte) (dv := .int 0) A0 rfl rfl (H.k 12 rfl) d48_1 2 (by decide) (by decide) (by decide) (by decide) (by decide) ?_
  intro T1 h2 a3 k4 g5 g6 A7 E8 X9
  have z10 : b ≠ a3 := Nat.ne_of_lt (Nat.lt_of_lt_of_le Kb.lt (Nat.le_of_eq g5))
  have K11 := (Keep.refl h0 []).ext E8
  have f12 := Kb.ext E8
  have f13 : Arv Z h2 a3 k4 .byte (2 : Int32) [(.int 0), (.int 0)] (.int 0) := X9
  refine own_astoreN (q := 4) (L' := #[.val (.ref b), .val (.int 0), .val (.int 2), .val (.ref a3), .unset, .unset]) A7 d48_3 rfl rfl ?_
  refine own_aloadN (q := 5) A7 d48_4 rfl rfl ?_
  refine own_iloadN (q := 6) A7 d48_5 rfl ?_
  refine own_aloadN (q := 7) A7 d48_6 rfl rfl ?_
  refine own_iconst (q := 8) A7 (0 : Int32) d48_7 rfl ?_
  refine own_iloadN (q := 9) A7 d48_8 rfl ?_
  refine own_static (q := 12) (W := 0) (argsL := [(.ref b), (.int 0), (.ref a3), (.int 0), (.int 2)]) (rest := []) A7 (H.k 244 rfl) (H.k 245 rfl) (H.k 242 rfl) (H.k 246 rfl) (by decide) (own_pay (rm_c5_UX b kb chc chd a3 k4 A7.old H f12 f13 g6 z10 qchc) (H.k 246 rfl) (H.k 242 rfl) (by decide) (by decide)) own_nW (Nat.le_of_eq rfl) own_pd38 rfl rfl rfl d48_9 (by decide) (by decide) ?_
  rintro v16 T17 h18 A19 ⟨rfl, K14, V15⟩
  show own_Run p e below Q m T17 12 #[.val (.ref b), .val (.int 0), .val (.int 2), .val (.ref a3), .unset, .unset] [(.int 0)]
  have f20 := f12.keep K14 (ninS z10 nin0)
  have K21 := K11.trans K14 (allS (Or.inr (Nat.le_trans (Keep.refl h0 []).1 (Nat.le_of_eq g5))) all0)
  refine own_istore (q := 14) (L' := #[.val (.ref b), .val (.int 0), .val (.int 2), .val (.ref a3), .val (.int 0), .unset]) A19 d48_12 rfl ?_
  refine own_iload (q := 16) A19 d48_14 rfl ?_
  refine own_iloadN (q := 17) A19 d48_16 rfl ?_
  refine own_icmpF (q := 20) A19 d48_17 (show ¬ (0 : Int32) = (2 : Int32) from by decide) ?_
  refine own_aloadN (q := 21) A19 d48_20 rfl rfl ?_
  refine own_iloadN (q := 22) A19 d48_21 rfl ?_
  refine own_iloadN (q := 23) A19 d48_22 rfl ?_
  refine own_static (q := 26) (W := 0) (argsL := [(.ref b), (.int 0), (.int 2)]) (rest := []) A19 (H.k 355 rfl) (H.k 356 rfl) (H.k 242 rfl) (H.k 357 rfl) (by decide) (own_pay (rm_tb2 b kb chc chd A19.old H f20) (H.k 357 rfl) (H.k 242 rfl) (by decide) (by decide)) own_nW (Nat.le_of_eq rfl) own_pd37 rfl rfl rfl d48_23 (by decide) (by decide) ?_
  rintro v28 T29 h30 A31 ⟨t22, k23, rfl, g24, g25, K26, V27⟩
  show own_Run p e below Q m T29 26 #[.val (.ref b), .val (.int 0), .val (.int 2), .val (.ref a3), .val (.int 0), .unset] [(.ref t22)]
  have z32 : b ≠ t22 := Nat.ne_of_lt (Nat.lt_of_lt_of_le f20.lt g25)
  have z33 : a3 ≠ t22 := Nat.ne_of_lt (Nat.lt_of_lt_of_le V15.lt g25)
  have f34 := f20.keep K26 nin0
  have f35 := V15.keep K26 nin0
  have K36 := K21.trans K26 all0
  refine own_astore (q := 28) (L' := #[.val (.ref b), .val (.int 0), .val (.int 2), .val (.ref a3), .val (.int 0), .val (.ref t22)]) A31 d48_26 rfl rfl ?_
  refine own_aload (q := 30) A31 d48_28 rfl rfl ?_
  refine own_iload (q := 32) A31 d48_30 rfl ?_
  refine own_static (q := 35) (W := 0) (argsL := [(.ref t22), (.int 0)]) (rest := []) A31 (H.k 334 rfl) (H.k 335 rfl) (H.k 242 rfl) (H.k 336 rfl) (by decide) (own_pay (rm_gc t22 k23 4 _ 0 0 chc A31.old H V27 (own_gi_D rfl rfl hchc0 hchc1)) (H.k 336 rfl) (H.k 242 rfl) (by decide) (by decide)) own_nW (Nat.le_of_eq rfl) own_pd52 rfl rfl rfl d48_32 (by decide) (by decide) ?_
  rintro v37 T38 h39 A40 ⟨rfl, rfl⟩
  show own_Run p e below Q m T38 35 #[.val (.ref b), .val (.int 0), .val (.int 2), .val (.ref a3), .val (.int 0), .val (.ref t22)] [(.int chc)]
  refine own_sipush (q := 38) A40 (255 : Int32) d48_35 rfl ?_
  refine own_icmpT (q := 54) A40 d48_38 (show (255 : Int32) < chc from qchc) ?_
  refine own_aload (q := 56) A40 d48_54 rfl rfl ?_
  exact own_retA A40 hQ rfl rfl rfl d48_56 ⟨t22, _, rfl, g24, (Nat.le_trans K21.1 g25), K36, V27⟩
theorem rm_i4_UX (a : Addr) (b : Addr) (kb : ClassId) (chc chd : Int32) (O0 : Old Z n0 h0) (H : own_H Z a0 zc fm) (Ea : Exa Z h0 a "java/lang/String") (Ca : Fld Z h0 a "java/lang/String" "coder" "B" (.int 0)) (Va : Fld Z h0 a "java/lang/String" "value" "[B" .null) (ga : n0 ≤ a) (Kb : Arv Z h0 b kb .char 2 [.int chc, .int chd] (.int 0)) (nab : a ≠ b) (hchc0 : ¬ chc < 0) (hchc1 : ¬ (65535 : Int32) < chc) (hchd0 : ¬ chd < 0) (hchd1 : ¬ (65535 : Int32) < chd) (qchc :  (255 : Int32) < chc) :
  own_Met false l Z n0 [] [] ⟨"java/lang/String", "<init>", "([CIILjava/lang/Void;)V"⟩ jdk_42_method_149_code 6 none [] (own_R 4 2 6 57) #[(.ref a), (.ref b), (.int 0), (.int 2), .null] h0 (fun v h => v = none ∧ Keep h0 h [a] ∧ own_Str Z h a [chc, chd]) := by
  refine own_ent (a0 := a0) (nm := "<init>") (Ls := #[.val (.ref a), .val (.ref b), .val (.int 0), .val (.int 2), .val .null, .unset]) own_pn2 O0 EW.nil ?_
  intro p e _ m _ below _ _ T0 Q hQ A0
  refine own_aloadN (q := 1) A0 d47_0 rfl rfl ?_
  refine own_initO (q := 4) (W := 0) A0 (H.k 122 rfl) (H.k 34 rfl) (H.k 35 rfl) d47_1 rfl (by decide) (Nat.le_of_eq rfl) (by decide) ?_
  intro T1 A2
  refine own_iloadN (q := 5) A2 d47_4 rfl ?_
  refine own_ifcT (q := 27) A2 d47_5 (show ¬ (2 : Int32) = (0 : Int32) from by decide) ?_
  refine own_getS (q := 30) A2 (H.k 62 rfl) Via.refl H.SC d47_27 ?_
  intro T3 A4
  refine own_ifcF (q := 33) A4 d47_30 (show ¬ zc = (0 : Int32) from H.hz) ?_
  refine own_aloadN (q := 34) A4 d47_33 rfl rfl ?_
  refine own_iloadN (q := 35) A4 d47_34 rfl ?_
  refine own_iloadN (q := 36) A4 d47_35 rfl ?_
  refine own_static (q := 39) (W := 0) (argsL := [(.ref b), (.int 0), (.int 2)]) (rest := []) A4 (H.k 240 rfl) (H.k 241 rfl) (H.k 242 rfl) (H.k 243 rfl) (by decide) (own_pay (rm_cc_UX b kb chc chd A4.old H Kb hchc0 hchc1 hchd0 hchd1 qchc) (H.k 243 rfl) (H.k 242 rfl) (by decide) (by decide)) own_nW (Nat.le_of_eq rfl) own_pd37 rfl rfl rfl d47_36 (by decide) (by decide) ?_
  rintro v11 T12 h13 A14 ⟨t5, k6, rfl, g7, g8, K9, V10⟩
  show own_Run p e below Q m T12 39 #[.val (.ref a), .val (.ref b), .val (.int 0), .val (.int 2), .val .null, .unset] [(.ref t5)]
  have z15 : a ≠ t5 := Nat.ne_of_lt (Nat.lt_of_lt_of_le Ea.lt g8)
  have z16 : b ≠ t5 := Nat.ne_of_lt (Nat.lt_of_lt_of_le Kb.lt g8)
  have f17 := Ea.keep K9
  have f18 := Ca.keep K9 nin0
  have f19 := Va.keep K9 nin0
  have f20 := Kb.keep K9 nin0
  have K21 := (Keep.refl h0 [a]).trans K9 all0
  refine own_astore (q := 41) (L' := #[.val (.ref a), .val (.ref b), .val (.int 0), .val (.int 2), .val .null, .val (.ref t5)]) A14 d47_39 rfl rfl ?_
  refine own_aloadN (q := 42) A14 d47_41 rfl rfl ?_
  refine own_aload (q := 44) A14 d47_42 rfl rfl ?_
  refine own_iloadN (q := 45) A14 d47_44 rfl ?_
  refine own_static (q := 48) (W := 1) (argsL := [(.ref t5), (.int 2)]) (rest := [(.ref a)]) A14 (H.k 247 rfl) (H.k 248 rfl) (H.k 242 rfl) (H.k 249 rfl) (by decide) (own_pay (rm_cfa4_2 t5 k6 _ A14.old H V10) (H.k 249 rfl) (H.k 242 rfl) (by decide) (by decide)) own_nW (Nat.le_of_eq rfl) own_pd39 rfl rfl rfl d47_45 (by decide) (by decide) ?_
  rintro v22 T23 h24 A25 ⟨rfl, rfl⟩
  show own_Run p e below Q m T23 48 #[.val (.ref a), .val (.ref b), .val (.int 0), .val (.int 2), .val .null, .val (.ref t5)] [(.int 1), (.ref a)]
  refine own_putF (host := "") (q := 51) A25 (Or.inl (H.k 63 rfl)) Via.refl f18 f17 (Or.inr ⟨(H.k 14 rfl), rfl, rfl⟩) (H.k 11 rfl) (ty := .byte) (by decide) rfl rfl ga (Or.inr (Or.inl rfl)) d47_48 ?_
  intro T26 h27 A28 W29
  have K30 := K21.wr W29 (Or.inl (by simp))
  have f31 := f17.wr W29
  have f32 := f18.same W29
  have f33 := f19.other W29 (Or.inr (slot_ne (Or.inr (H.k 13 rfl)) (Or.inr (H.k 14 rfl)) (by decide) (by decide : parseFieldDescriptor "[B" = some (.array .byte)) (by decide : parseFieldDescriptor "B" = some .byte)))
  have f34 := f20.other W29 (Ne.symm nab)
  have f35 := V10.other W29 (Ne.symm z15)
  refine own_aloadN (q := 52) A28 d47_51 rfl rfl ?_
  refine own_aload (q := 54) A28 d47_52 rfl rfl ?_
  refine own_putF (host := "") (q := 57) A28 (Or.inl (H.k 56 rfl)) Via.refl f33 f31 (Or.inr ⟨(H.k 13 rfl), rfl, rfl⟩) (H.k 11 rfl) (ty := (.array .byte)) (by decide) rfl rfl ga (Or.inr (Or.inl rfl)) d47_54 ?_
  intro T36 h37 A38 W39
  have K40 := K30.wr W39 (Or.inl (by simp))
  have f41 := f31.wr W39
  have f42 := f32.other W39 (Or.inr (slot_ne (Or.inr (H.k 14 rfl)) (Or.inr (H.k 13 rfl)) (by decide) (by decide : parseFieldDescriptor "B" = some .byte) (by decide : parseFieldDescriptor "[B" = some (.array .byte))))
  have f43 := f33.same W39
  have f44 := f34.other W39 (Ne.symm nab)
  have f45 := f35.other W39 (Ne.symm z15)
  exact own_ret0 A38 hQ d47_57 ⟨rfl, K40, t5, _, (1 : Int32), (4 : Int32), _, own_X_mk f41 f42 f43 f45, Or.inr ⟨rfl, rfl, rfl, chc, by simp, qchc⟩⟩
theorem rm_ic_LL (a : Addr) (b : Addr) (kb : ClassId) (chc chd : Int32) (O0 : Old Z n0 h0) (H : own_H Z a0 zc fm) (Ea : Exa Z h0 a "java/lang/String") (Ca : Fld Z h0 a "java/lang/String" "coder" "B" (.int 0)) (Va : Fld Z h0 a "java/lang/String" "value" "[B" .null) (ga : n0 ≤ a) (Kb : Arv Z h0 b kb .char 2 [.int chc, .int chd] (.int 0)) (nab : a ≠ b) (hchc0 : ¬ chc < 0) (hchc1 : ¬ (65535 : Int32) < chc) (hchd0 : ¬ chd < 0) (hchd1 : ¬ (65535 : Int32) < chd) (qchc : ¬ (255 : Int32) < chc) (qchd : ¬ (255 : Int32) < chd) :
  own_Met false l Z n0 [] [] ⟨"java/lang/String", "<init>", "([C)V"⟩ jdk_42_method_3_code 2 none [] (own_R 5 2 6 74) #[(.ref a), (.ref b)] h0 (fun v h => v = none ∧ Keep h0 h [a] ∧ own_Str Z h a [chc, chd]) := by
  refine own_ent (a0 := a0) (nm := "<init>") (Ls := #[.val (.ref a), .val (.ref b)]) own_pn2 O0 EW.nil ?_
  intro p e _ m _ below _ _ T0 Q hQ A0
  refine own_aloadN (q := 1) A0 d46_0 rfl rfl ?_
  refine own_aloadN (q := 2) A0 d46_1 rfl rfl ?_
  refine own_iconst (q := 3) A0 (0 : Int32) d46_2 rfl ?_
  refine own_aloadN (q := 4) A0 d46_3 rfl rfl ?_
  refine own_arrlenv (q := 5) A0 Kb d46_4 ?_
  refine own_aconstNull (q := 6) A0 d46_5 ?_
  refine own_special (q := 9) (W := 0) (argsL := [(.ref b), (.int 0), (.int 2), .null]) (rest := []) A0 rfl (H.k 237 rfl) (H.k 238 rfl) (H.k 239 rfl) (by decide) (own_pay (rm_i4_LL a b kb chc chd A0.old H Ea Ca Va ga Kb nab hchc0 hchc1 hchd0 hchd1 qchc qchd) (H.k 239 rfl) (H.k 10 rfl) (by decide) (by decide)) own_nW (Nat.le_of_eq rfl) own_pd36 rfl rfl rfl d46_6 (by decide) (by decide) ?_
  rintro v2 T3 h4 A5 ⟨rfl, q1⟩
  show own_Run p e below Q m T3 9 #[.val (.ref a), .val (.ref b)] []
  exact own_ret0 A5 hQ d46_9 ⟨rfl, q1⟩
theorem rm_ic_LU (a : Addr) (b : Addr) (kb : ClassId) (chc chd : Int32) (O0 : Old Z n0 h0) (H : own_H Z a0 zc fm) (Ea : Exa Z h0 a "java/lang/String") (Ca : Fld Z h0 a "java/lang/String" "coder" "B" (.int 0)) (Va : Fld Z h0 a "java/lang/String" "value" "[B" .null) (ga : n0 ≤ a) (Kb : Arv Z h0 b kb .char 2 [.int chc, .int chd] (.int 0)) (nab : a ≠ b) (hchc0 : ¬ chc < 0) (hchc1 : ¬ (65535 : Int32) < chc) (hchd0 : ¬ chd < 0) (hchd1 : ¬ (65535 : Int32) < chd) (qchc : ¬ (255 : Int32) < chc) (qchd :  (255 : Int32) < chd) :
  own_Met false l Z n0 [] [] ⟨"java/lang/String", "<init>", "([C)V"⟩ jdk_42_method_3_code 2 none [] (own_R 5 2 6 74) #[(.ref a), (.ref b)] h0 (fun v h => v = none ∧ Keep h0 h [a] ∧ own_Str Z h a [chc, chd]) := by
  refine own_ent (a0 := a0) (nm := "<init>") (Ls := #[.val (.ref a), .val (.ref b)]) own_pn2 O0 EW.nil ?_
  intro p e _ m _ below _ _ T0 Q hQ A0
  refine own_aloadN (q := 1) A0 d46_0 rfl rfl ?_
  refine own_aloadN (q := 2) A0 d46_1 rfl rfl ?_
  refine own_iconst (q := 3) A0 (0 : Int32) d46_2 rfl ?_
  refine own_aloadN (q := 4) A0 d46_3 rfl rfl ?_
  refine own_arrlenv (q := 5) A0 Kb d46_4 ?_
  refine own_aconstNull (q := 6) A0 d46_5 ?_
  refine own_special (q := 9) (W := 0) (argsL := [(.ref b), (.int 0), (.int 2), .null]) (rest := []) A0 rfl (H.k 237 rfl) (H.k 238 rfl) (H.k 239 rfl) (by decide) (own_pay (rm_i4_LU a b kb chc chd A0.old H Ea Ca Va ga Kb nab hchc0 hchc1 hchd0 hchd1 qchc qchd) (H.k 239 rfl) (H.k 10 rfl) (by decide) (by decide)) own_nW (Nat.le_of_eq rfl) own_pd36 rfl rfl rfl d46_6 (by decide) (by decide) ?_
  rintro v2 T3 h4 A5 ⟨rfl, q1⟩
  show own_Run p e below Q m T3 9 #[.val (.ref a), .val (.ref b)] []
  exact own_ret0 A5 hQ d46_9 ⟨rfl, q1⟩
theorem rm_ic_UX (a : Addr) (b : Addr) (kb : ClassId) (chc chd : Int32) (O0 : Old Z n0 h0) (H : own_H Z a0 zc fm) (Ea : Exa Z h0 a "java/lang/String") (Ca : Fld Z h0 a "java/lang/String" "coder" "B" (.int 0)) (Va : Fld Z h0 a "java/lang/String" "value" "[B" .null) (ga : n0 ≤ a) (Kb : Arv Z h0 b kb .char 2 [.int chc, .int chd] (.int 0)) (nab : a ≠ b) (hchc0 : ¬ chc < 0) (hchc1 : ¬ (65535 : Int32) < chc) (hchd0 : ¬ chd < 0) (hchd1 : ¬ (65535 : Int32) < chd) (qchc :  (255 : Int32) < chc) :
  own_Met false l Z n0 [] [] ⟨"java/lang/String", "<init>", "([C)V"⟩ jdk_42_method_3_code 2 none [] (own_R 5 2 6 74) #[(.ref a), (.ref b)] h0 (fun v h => v = none ∧ Keep h0 h [a] ∧ own_Str Z h a [chc, chd]) := by
  refine own_ent (a0 := a0) (nm := "<init>") (Ls := #[.val (.ref a), .val (.ref b)]) own_pn2 O0 EW.nil ?_
  intro p e _ m _ below _ _ T0 Q hQ A0
  refine own_aloadN (q := 1) A0 d46_0 rfl rfl ?_
  refine own_aloadN (q := 2) A0 d46_1 rfl rfl ?_
  refine own_iconst (q := 3) A0 (0 : Int32) d46_2 rfl ?_
  refine own_aloadN (q := 4) A0 d46_3 rfl rfl ?_
  refine own_arrlenv (q := 5) A0 Kb d46_4 ?_
  refine own_aconstNull (q := 6) A0 d46_5 ?_
  refine own_special (q := 9) (W := 0) (argsL := [(.ref b), (.int 0), (.int 2), .null]) (rest := []) A0 rfl (H.k 237 rfl) (H.k 238 rfl) (H.k 239 rfl) (by decide) (own_pay (rm_i4_UX a b kb chc chd A0.old H Ea Ca Va ga Kb nab hchc0 hchc1 hchd0 hchd1 qchc) (H.k 239 rfl) (H.k 10 rfl) (by decide) (by decide)) own_nW (Nat.le_of_eq rfl) own_pd36 rfl rfl rfl d46_6 (by decide) (by decide) ?_
  rintro v2 T3 h4 A5 ⟨rfl, q1⟩
  show own_Run p e below Q m T3 9 #[.val (.ref a), .val (.ref b)] []
  exact own_ret0 A5 hQ d46_9 ⟨rfl, q1⟩
theorem rm_ic (a : Addr) (b : Addr) (kb : ClassId) (chc chd : Int32) (O0 : Old Z n0 h0) (H : own_H Z a0 zc fm) (Ea : Exa Z h0 a "java/lang/String") (Ca : Fld Z h0 a "java/lang/String" "coder" "B" (.int 0)) (Va : Fld Z h0 a "java/lang/String" "value" "[B" .null) (ga : n0 ≤ a) (Kb : Arv Z h0 b kb .char 2 [.int chc, .int chd] (.int 0)) (nab : a ≠ b) (hchc0 : ¬ chc < 0) (hchc1 : ¬ (65535 : Int32) < chc) (hchd0 : ¬ chd < 0) (hchd1 : ¬ (65535 : Int32) < chd) :
  own_Met false l Z n0 [] [] ⟨"java/lang/String", "<init>", "([C)V"⟩ jdk_42_method_3_code 2 none [] (own_R 5 2 6 74) #[(.ref a), (.ref b)] h0 (fun v h => v = none ∧ Keep h0 h [a] ∧ own_Str Z h a [chc, chd]) := by
  by_cases qchc : (255 : Int32) < chc
  · exact rm_ic_UX a b kb chc chd O0 H Ea Ca Va ga Kb nab hchc0 hchc1 hchd0 hchd1 qchc
  by_cases qchd : (255 : Int32) < chd
  · exact rm_ic_LU a b kb chc chd O0 H Ea Ca Va ga Kb nab hchc0 hchc1 hchd0 hchd1 qchc qchd
  · exact rm_ic_LL a b kb chc chd O0 H Ea Ca Va ga Kb nab hchc0 hchc1 hchd0 hchd1 qchc qchd
def own_cs (n a b : Int32) : List Int32 := if n = 0 then [] else if n = 1 then [a] else [a, b]
theorem d2_0 : decode method_4_code 0 = .ok (.iload_n 0, 1) := by decide +kernel
theorem d2_1 : decode method_4_code 1 = .ok (.ifCond .ne 6, 3) := by decide +kernel
theorem d2_4 : decode method_4_code 4 = .ok (.ldc 42, 2) := by decide +kernel
theorem d2_6 : decode method_4_code 6 = .ok (.areturn, 1) := by decide +kernel
theorem d2_7 : decode method_4_code 7 = .ok (.iload_n 0, 1) := by decide +kernel
theorem d2_8 : decode method_4_code 8 = .ok (.iconst 1, 1) := by decide +kernel
theorem d2_9 : decode method_4_code 9 = .ok (.if_icmp .ne 8, 3) := by decide +kernel
theorem d2_12 : decode method_4_code 12 = .ok (.iload_n 1, 1) := by decide +kernel
theorem d2_13 : decode method_4_code 13 = .ok (.invokestatic 44, 3) := by decide +kernel
theorem d2_16 : decode method_4_code 16 = .ok (.areturn, 1) := by decide +kernel
theorem d2_17 : decode method_4_code 17 = .ok (.new 33, 3) := by decide +kernel
theorem d2_20 : decode method_4_code 20 = .ok (.dup, 1) := by decide +kernel
theorem d2_21 : decode method_4_code 21 = .ok (.iconst 2, 1) := by decide +kernel
theorem d2_22 : decode method_4_code 22 = .ok (.newarray .char, 2) := by decide +kernel
theorem d2_24 : decode method_4_code 24 = .ok (.dup, 1) := by decide +kernel
theorem d2_25 : decode method_4_code 25 = .ok (.iconst 0, 1) := by decide +kernel
theorem d2_26 : decode method_4_code 26 = .ok (.iload_n 1, 1) := by decide +kernel
theorem d2_27 : decode method_4_code 27 = .ok (.castore, 1) := by decide +kernel
theorem d2_28 : decode method_4_code 28 = .ok (.dup, 1) := by decide +kernel
theorem d2_29 : decode method_4_code 29 = .ok (.iconst 1, 1) := by decide +kernel
theorem d2_30 : decode method_4_code 30 = .ok (.iload_n 2, 1) := by decide +kernel
theorem d2_31 : decode method_4_code 31 = .ok (.castore, 1) := by decide +kernel
theorem d2_32 : decode method_4_code 32 = .ok (.invokespecial 48, 3) := by decide +kernel
theorem d2_35 : decode method_4_code 35 = .ok (.areturn, 1) := by decide +kernel
theorem own_pn3 : plainName "com/example/any_row/anyrow/EntityKeyFromStorageKeyPinLaw" = true := by first | (simp [plainName, overriddenIn]; done) | decide +kernel
theorem rm_str0 (chc chd : Int32) (O0 : Old Z n0 h0) (hEL : EW Z a0 consts_1) (H : own_H Z a0 zc fm) (hchc0 : ¬ chc < 0) (hchc1 : ¬ (65535 : Int32) < chc) (hchd0 : ¬ chd < 0) (hchd1 : ¬ (65535 : Int32) < chd) :
  own_Met true l Z n0 consts_1 [] ⟨"com/example/any_row/anyrow/EntityKeyFromStorageKeyPinLaw", "str", "(ICC)Ljava/lang/String;"⟩ method_4_code 3 (some (.object "java/lang/String")) [] (own_R 6 4 12 88) #[(.int 0), (.int chc), (.int chd)] h0 (fun v h => ∃ (a : Addr), v = some (.ref a) ∧ Keep h0 h [] ∧ own_Str Z h a []) := by
  refine own_ent (a0 := a0) (nm := "str") (Ls := #[.val (.int 0), .val (.int chc), .val (.int chd)]) own_pn3 O0 hEL ?_
  intro p e _ m _ below _ _ T0 Q hQ A0
  refine own_iloadN (q := 1) A0 d2_0 rfl ?_
  refine own_ifcF (q := 4) A0 d2_1 (show (0 : Int32) = (0 : Int32) from by decide) ?_
  refine own_ldcR (q := 6) (n := 0) (z := 0) (vs := []) A0 (H.k 9 rfl) (own_satoms H.w) (by decide) ⟨by decide +kernel, by decide +kernel⟩ (by decide) (by decide) d2_4 (by decide) (by decide) (by decide) (by decide) ?_
  intro a1 b2 k3 T4 h5 A6 E7 X8 F9 F10 V11 N12
  have K13 := (Keep.refl h0 []).ext E7
  exact own_retA A6 hQ rfl rfl rfl d2_6 ⟨a1, rfl, K13, b2, k3, 0, 0, [], own_X_mk X8 F9 F10 V11, Or.inl ⟨rfl, rfl, rfl, (fun _ z => nomatch z)⟩⟩
theorem rm_str1 (chc chd : Int32) (O0 : Old Z n0 h0) (hEL : EW Z a0 consts_1) (H : own_H Z a0 zc fm) (hchc0 : ¬ chc < 0) (hchc1 : ¬ (65535 : Int32) < chc) (hchd0 : ¬ chd < 0) (hchd1 : ¬ (65535 : Int32) < chd) :
  own_Met true l Z n0 consts_1 [] ⟨"com/example/any_row/anyrow/EntityKeyFromStorageKeyPinLaw", "str", "(ICC)Ljava/lang/String;"⟩ method_4_code 3 (some (.object "java/lang/String")) [] (own_R 6 4 12 88) #[(.int 1), (.int chc), (.int chd)] h0 (fun v h => ∃ (a : Addr), v = some (.ref a) ∧ Keep h0 h [] ∧ own_Str Z h a [chc]) := by
  refine own_ent (a0 := a0) (nm := "str") (Ls := #[.val (.int 1), .val (.int chc), .val (.int chd)]) own_pn3 O0 hEL ?_
  intro p e _ m _ below _ _ T0 Q hQ A0
  refine own_iloadN (q := 1) A0 d2_0 rfl ?_
  refine own_ifcT (q := 7) A0 d2_1 (show ¬ (1 : Int32) = (0 : Int32) from by decide) ?_
  refine own_iloadN (q := 8) A0 d2_7 rfl ?_
  refine own_iconst (q := 9) A0 (1 : Int32) d2_8 rfl ?_
  refine own_icmpF (q := 12) A0 d2_9 (show (1 : Int32) = (1 : Int32) from by decide) ?_
  refine own_iloadN (q := 13) A0 d2_12 rfl ?_
  refine own_static (q := 16) (W := 0) (argsL := [(.int chc)]) (rest := []) A0 (H.k 259 rfl) (H.k 260 rfl) (H.k 10 rfl) (H.k 261 rfl) (by decide) (own_payN (rm_val chc A0.old H ) (fun _ _ ⟨_, _, q, _⟩ => q) (H.k 261 rfl) (H.k 10 rfl) (by decide) (by decide)) own_nW (Nat.le_of_eq rfl) own_pd42 rfl rfl rfl d2_13 (by decide) (by decide) ?_
  rintro v3 T4 h5 A6 ⟨a1, rfl, q2⟩
  show own_Run p e below Q m T4 16 #[.val (.int 1), .val (.int chc), .val (.int chd)] [(.ref a1)]
  exact own_retA A6 hQ rfl rfl rfl d2_16 ⟨a1, rfl, q2⟩
theorem rm_str2 (chc chd : Int32) (O0 : Old Z n0 h0) (hEL : EW Z a0 consts_1) (H : own_H Z a0 zc fm) (hchc0 : ¬ chc < 0) (hchc1 : ¬ (65535 : Int32) < chc) (hchd0 : ¬ chd < 0) (hchd1 : ¬ (65535 : Int32) < chd) :
  own_Met true l Z n0 consts_1 [] ⟨"com/example/any_row/anyrow/EntityKeyFromStorageKeyPinLaw", "str", "(ICC)Ljava/lang/String;"⟩ method_4_code 3 (some (.object "java/lang/String")) [] (own_R 6 4 12 88) #[(.int 2), (.int chc), (.int chd)] h0 (fun v h => ∃ (a : Addr), v = some (.ref a) ∧ Keep h0 h [] ∧ own_Str Z h a [chc, chd]) := by
  refine own_ent (a0 := a0) (nm := "str") (Ls := #[.val (.int 2), .val (.int chc), .val (.int chd)]) own_pn3 O0 hEL ?_
  intro p e _ m _ below _ _ T0 Q hQ A0
  refine own_iloadN (q := 1) A0 d2_0 rfl ?_
  refine own_ifcT (q := 7) A0 d2_1 (show ¬ (2 : Int32) = (0 : Int32) from by decide) ?_
  refine own_iloadN (q := 8) A0 d2_7 rfl ?_
  refine own_iconst (q := 9) A0 (1 : Int32) d2_8 rfl ?_
  refine own_icmpT (q := 17) A0 d2_9 (show ¬ (2 : Int32) = (1 : Int32) from by decide) ?_
  refine own_newO (q := 20) A0 (H.k 232 rfl) (H.k 11 rfl) (H.k 10 rfl) d2_17 (by decide) (by decide) ?_
  intro T1 h2 a3 g4 g5 A6 E7 X8 D9
  have K10 := (Keep.refl h0 []).ext E7
  have f11 : Fld Z h2 a3 "java/lang/String" "value" "[B" .null := D9 (Or.inr (H.k 13 rfl)) (ty := (.array .byte)) (by decide)
  have f12 : Fld Z h2 a3 "java/lang/String" "coder" "B" (.int 0) := D9 (Or.inr (H.k 14 rfl)) (ty := .byte) (by decide)
  refine own_dup (q := 21) A6 d2_20 rfl ?_
  refine own_iconst (q := 22) A6 (2 : Int32) d2_21 rfl ?_
  refine own_newPv (q := 24) (ty := .char) (dv := .int 0) A6 rfl rfl (H.k 233 rfl) d2_22 2 (by decide) (by decide) (by decide) (by decide) (by decide) ?_
  intro T13 h14 a15 k16 g17 g18 A19 E20 X21
  have z22 : a3 ≠ a15 := Nat.ne_of_lt (Nat.lt_of_lt_of_le X8.lt (Nat.le_of_eq g17))
  have K23 := K10.ext E20
  have f24 := X8.ext E20
  have f25 := f11.ext E20
  have f26 := f12.ext E20
  have f27 : Arv Z h14 a15 k16 .char (2 : Int32) [(.int 0), (.int 0)] (.int 0) := X21
  refine own_dup (q := 25) A19 d2_24 rfl ?_
  refine own_iconst (q := 26) A19 (0 : Int32) d2_25 rfl ?_
  refine own_iloadN (q := 27) A19 d2_26 rfl ?_
  refine own_stCv (q := 28) A19 f27 0 (by decide) (by decide) (by decide) (Nat.le_of_ble_eq_true rfl) g18 (Or.inl (by simp)) d2_27 ?_
  intro T28 h29 sl30 A31 W32 X33
  have K34 := K23.wr W32 (Or.inr (Nat.le_trans K10.1 (Nat.le_of_eq g17)))
  have f35 := f24.wr W32
  have f36 := f25.other W32 (Or.inl z22)
  have f37 := f26.other W32 (Or.inl z22)
  have f38 : Arv Z h29 a15 k16 .char (2 : Int32) [(.int (nar .char chc)), (.int 0)] (.int 0) := X33
  have f39 : Arv Z h29 a15 k16 .char (2 : Int32) [(.int chc), (.int 0)] (.int 0) := by
    have q := f38
    rw [own_narC hchc0 hchc1] at q
    exact q
  refine own_dup (q := 29) A31 d2_28 rfl ?_
  refine own_iconst (q := 30) A31 (1 : Int32) d2_29 rfl ?_
  refine own_iloadN (q := 31) A31 d2_30 rfl ?_
  refine own_stCv (q := 32) A31 f39 1 (by decide) (by decide) (by decide) (Nat.le_of_ble_eq_true rfl) g18 (Or.inl (by simp)) d2_31 ?_
  intro T40 h41 sl42 A43 W44 X45
  have K46 := K34.wr W44 (Or.inr (Nat.le_trans K10.1 (Nat.le_of_eq g17)))
  have f47 := f35.wr W44
  have f48 := f36.other W44 (Or.inl z22)
  have f49 := f37.other W44 (Or.inl z22)
  have f50 : Arv Z h41 a15 k16 .char (2 : Int32) [(.int chc), (.int (nar .char chd))] (.int 0) := X45
  have f51 : Arv Z h41 a15 k16 .char (2 : Int32) [(.int chc), (.int chd)] (.int 0) := by
    have q := f50
    rw [own_narC hchd0 hchd1] at q
    exact q
  refine own_special (q := 35) (W := 1) (argsL := [(.ref a15)]) (rest := [(.ref a3)]) A43 rfl (H.k 234 rfl) (H.k 235 rfl) (H.k 236 rfl) (by decide) (own_payN (rm_ic a3 a15 k16 chc chd A43.old H f47 f49 f48 g5 f51 z22 hchc0 hchc1 hchd0 hchd1) (fun _ _ q => q.2.1) (H.k 236 rfl) (H.k 10 rfl) (by decide) (by decide)) (by simp) (Nat.le_of_eq rfl) own_pd35 rfl rfl rfl d2_32 (by decide) (by decide) ?_
  rintro v54 T55 h56 A57 ⟨rfl, K52, S53⟩
  show own_Run p e below Q m T55 35 #[.val (.int 2), .val (.int chc), .val (.int chd)] [(.ref a3)]
  have K58 := K46.trans K52 (allS (Or.inr (Nat.le_trans (Keep.refl h0 []).1 (Nat.le_of_eq g4))) all0)
  exact own_retA A57 hQ rfl rfl rfl d2_35 ⟨a3, rfl, ⟨K58, S53⟩⟩
theorem rm_str (n chc chd : Int32) (O0 : Old Z n0 h0) (hEL : EW Z a0 consts_1) (H : own_H Z a0 zc fm) (hn : n = 0 ∨ n = 1 ∨ n = 2) (hchc0 : ¬ chc < 0) (hchc1 : ¬ (65535 : Int32) < chc) (hchd0 : ¬ chd < 0) (hchd1 : ¬ (65535 : Int32) < chd) :
  own_Met true l Z n0 consts_1 [] ⟨"com/example/any_row/anyrow/EntityKeyFromStorageKeyPinLaw", "str", "(ICC)Ljava/lang/String;"⟩ method_4_code 3 (some (.object "java/lang/String")) [] (own_R 6 4 12 88) #[(.int n), (.int chc), (.int chd)] h0 (fun v h => ∃ (a : Addr), v = some (.ref a) ∧ Keep h0 h [] ∧ own_Str Z h a (own_cs n chc chd)) := by
  rcases hn with rfl | rfl | rfl
  · exact rm_str0 chc chd O0 hEL H hchc0 hchc1 hchd0 hchd1
  · exact rm_str1 chc chd O0 hEL H hchc0 hchc1 hchd0 hchd1
  · exact rm_str2 chc chd O0 hEL H hchc0 hchc1 hchd0 hchd1
theorem d10_0 : decode jdk_42_method_152_code 0 = .ok (.getstatic 38, 3) := by decide +kernel
theorem d10_3 : decode jdk_42_method_152_code 3 = .ok (.ifCond .eq 10, 3) := by decide +kernel
theorem d10_6 : decode jdk_42_method_152_code 6 = .ok (.aload_n 0, 1) := by decide +kernel
theorem d10_7 : decode jdk_42_method_152_code 7 = .ok (.getfield 15, 3) := by decide +kernel
theorem d10_10 : decode jdk_42_method_152_code 10 = .ok (.goto 4, 3) := by decide +kernel
theorem d10_14 : decode jdk_42_method_152_code 14 = .ok (.ireturn, 1) := by decide +kernel
theorem rm_cod (x : Addr) (cd : Int32) (O0 : Old Z n0 h0) (H : own_H Z a0 zc fm) (Cx : Fld Z h0 x "java/lang/String" "coder" "B" (.int cd)) (hcd : cd = 0 ∨ cd = 1) :
  own_Met false l Z n0 [] [] ⟨"java/lang/String", "coder", "()B"⟩ jdk_42_method_152_code 1 (some .byte) [] (own_R 0 0 0 0) #[(.ref x)] h0 (fun v h => v = some (.int cd) ∧ h0 = h) := by
  refine own_ent (a0 := a0) (nm := "coder") (Ls := #[.val (.ref x)]) own_pn2 O0 EW.nil ?_
  intro p e _ m _ below _ _ T0 Q hQ A0
  refine own_getS (q := 3) A0 (H.k 62 rfl) Via.refl H.SC d10_0 ?_
  intro T1 A2
  refine own_ifcF (q := 6) A2 d10_3 (show ¬ zc = (0 : Int32) from H.hz) ?_
  refine own_aloadN (q := 7) A2 d10_6 rfl rfl ?_
  refine own_getF (host := "") (q := 10) A2 (Or.inl (H.k 63 rfl)) Via.refl Cx d10_7 ?_
  intro T3 A4
  refine own_goto (q := 14) A4 d10_10 ?_
  exact own_retN A4 hQ (t := .byte) (by simp) d10_14 ⟨by rcases hcd with rfl | rfl <;> rfl, rfl⟩
theorem d9_0 : decode jdk_42_method_54_code 0 = .ok (.aload_n 0, 1) := by decide +kernel
theorem d9_1 : decode jdk_42_method_54_code 1 = .ok (.getfield 9, 3) := by decide +kernel
theorem d9_4 : decode jdk_42_method_54_code 4 = .ok (.arraylength, 1) := by decide +kernel
theorem d9_5 : decode jdk_42_method_54_code 5 = .ok (.aload_n 0, 1) := by decide +kernel
theorem d9_6 : decode jdk_42_method_54_code 6 = .ok (.invokevirtual 335, 3) := by decide +kernel
theorem d9_9 : decode jdk_42_method_54_code 9 = .ok (.ishr, 1) := by decide +kernel
theorem d9_10 : decode jdk_42_method_54_code 10 = .ok (.ireturn, 1) := by decide +kernel
theorem rm_len (x t : Addr) (kt : ClassId) (cd kb : Int32) (us : List Value) (O0 : Old Z n0 h0) (H : own_H Z a0 zc fm) (X : own_X Z h0 x t kt cd kb us) (hcd : cd = 0 ∨ cd = 1) :
  own_Met false l Z n0 [] [] ⟨"java/lang/String", "length", "()I"⟩ jdk_42_method_54_code 1 (some .int) [] (own_R 1 0 0 13) #[(.ref x)] h0 (fun v h => v = some (.int (kb >>> (cd &&& 31))) ∧ h0 = h) := by
  refine own_ent (a0 := a0) (nm := "length") (Ls := #[.val (.ref x)]) own_pn2 O0 EW.nil ?_
  intro p e _ m _ below _ _ T0 Q hQ A0
  refine own_aloadN (q := 1) A0 d9_0 rfl rfl ?_
  refine own_getF (host := "") (q := 4) A0 (Or.inl (H.k 56 rfl)) Via.refl X.V d9_1 ?_
  intro T1 A2
  refine own_arrlenv (q := 5) A2 X.K d9_4 ?_
  refine own_aloadN (q := 6) A2 d9_5 rfl rfl ?_
  refine own_virtual (q := 9) (W := 1) (argsL := []) (rest := [(.int kb)]) A2 (H.k 57 rfl) (H.k 58 rfl) (H.k 60 rfl) (H.k 59 rfl) (by decide) (own_pay (rm_cod x cd A2.old H X.C hcd) (H.k 61 rfl) (H.k 10 rfl) (by decide) (by decide)) own_nW (Nat.le_of_eq rfl) X.E own_pd9 rfl rfl rfl d9_6 (by decide) (by decide) ?_
  rintro v3 T4 h5 A6 ⟨rfl, rfl⟩
  show own_Run p e below Q m T4 9 #[.val (.ref x)] [(.int cd), (.int kb)]
  refine own_ishr (q := 10) A6 d9_9 ?_
  exact own_retI A6 hQ d9_10 ⟨rfl, rfl⟩
theorem d32_0 : decode jdk_42_method_154_code 0 = .ok (.getstatic 38, 3) := by decide +kernel
theorem d32_3 : decode jdk_42_method_154_code 3 = .ok (.ifCond .eq 14, 3) := by decide +kernel
theorem d32_6 : decode jdk_42_method_154_code 6 = .ok (.aload_n 0, 1) := by decide +kernel
theorem d32_7 : decode jdk_42_method_154_code 7 = .ok (.getfield 15, 3) := by decide +kernel
theorem d32_10 : decode jdk_42_method_154_code 10 = .ok (.ifCond .ne 7, 3) := by decide +kernel
theorem d32_13 : decode jdk_42_method_154_code 13 = .ok (.iconst 1, 1) := by decide +kernel
theorem d32_14 : decode jdk_42_method_154_code 14 = .ok (.goto 4, 3) := by decide +kernel
theorem d32_17 : decode jdk_42_method_154_code 17 = .ok (.iconst 0, 1) := by decide +kernel
theorem d32_18 : decode jdk_42_method_154_code 18 = .ok (.ireturn, 1) := by decide +kernel
theorem rm_sil0 (x : Addr) (O0 : Old Z n0 h0) (H : own_H Z a0 zc fm) (Cx : Fld Z h0 x "java/lang/String" "coder" "B" (.int 0)) :
  own_Met false l Z n0 [] [] ⟨"java/lang/String", "isLatin1", "()Z"⟩ jdk_42_method_154_code 1 (some .boolean) [] (own_R 0 0 0 0) #[(.ref x)] h0 (fun v h => v = some (.int 1) ∧ h0 = h) := by
  refine own_ent (a0 := a0) (nm := "isLatin1") (Ls := #[.val (.ref x)]) own_pn2 O0 EW.nil ?_
  intro p e _ m _ below _ _ T0 Q hQ A0
  refine own_getS (q := 3) A0 (H.k 62 rfl) Via.refl H.SC d32_0 ?_
  intro T1 A2
  refine own_ifcF (q := 6) A2 d32_3 (show ¬ zc = (0 : Int32) from H.hz) ?_
  refine own_aloadN (q := 7) A2 d32_6 rfl rfl ?_
  refine own_getF (host := "") (q := 10) A2 (Or.inl (H.k 63 rfl)) Via.refl Cx d32_7 ?_
  intro T3 A4
  refine own_ifcF (q := 13) A4 d32_10 (show (0 : Int32) = (0 : Int32) from by decide) ?_
  refine own_iconst (q := 14) A4 (1 : Int32) d32_13 rfl ?_
  refine own_goto (q := 18) A4 d32_14 ?_
  exact own_retN A4 hQ (t := .boolean) (by simp) d32_18 ⟨rfl, rfl⟩
theorem d17_0 : decode jdk_68_method_68_code 0 = .ok (.getstatic 18, 3) := by decide +kernel
theorem d17_3 : decode jdk_68_method_68_code 3 = .ok (.ifCond .eq 14, 3) := by decide +kernel
theorem d17_6 : decode jdk_68_method_68_code 6 = .ok (.aload_n 0, 1) := by decide +kernel
theorem d17_7 : decode jdk_68_method_68_code 7 = .ok (.getfield 22, 3) := by decide +kernel
theorem d17_10 : decode jdk_68_method_68_code 10 = .ok (.ifCond .ne 7, 3) := by decide +kernel
theorem d17_13 : decode jdk_68_method_68_code 13 = .ok (.iconst 1, 1) := by decide +kernel
theorem d17_14 : decode jdk_68_method_68_code 14 = .ok (.goto 4, 3) := by decide +kernel
theorem d17_17 : decode jdk_68_method_68_code 17 = .ok (.iconst 0, 1) := by decide +kernel
theorem d17_18 : decode jdk_68_method_68_code 18 = .ok (.ireturn, 1) := by decide +kernel
theorem own_pn4 : plainName "java/lang/AbstractStringBuilder" = true := by first | (simp [plainName, overriddenIn]; done) | decide +kernel
theorem rm_bil0 (sb : Addr) (O0 : Old Z n0 h0) (H : own_H Z a0 zc fm) (Fc : Fld Z h0 sb "java/lang/AbstractStringBuilder" "coder" "B" (.int 0)) :
  own_Met false l Z n0 [] [] ⟨"java/lang/AbstractStringBuilder", "isLatin1", "()Z"⟩ jdk_68_method_68_code 1 (some .boolean) [] (own_R 0 0 0 0) #[(.ref sb)] h0 (fun v h => v = some (.int 1) ∧ h0 = h) := by
  refine own_ent (a0 := a0) (nm := "isLatin1") (Ls := #[.val (.ref sb)]) own_pn4 O0 EW.nil ?_
  intro p e _ m _ below _ _ T0 Q hQ A0
  refine own_getS (q := 3) A0 (H.k 36 rfl) Via.refl H.SC d17_0 ?_
  intro T1 A2
  refine own_ifcF (q := 6) A2 d17_3 (show ¬ zc = (0 : Int32) from H.hz) ?_
  refine own_aloadN (q := 7) A2 d17_6 rfl rfl ?_
  refine own_getF (host := "") (q := 10) A2 (Or.inl (H.k 39 rfl)) Via.refl Fc d17_7 ?_
  intro T3 A4
  refine own_ifcF (q := 13) A4 d17_10 (show (0 : Int32) = (0 : Int32) from by decide) ?_
  refine own_iconst (q := 14) A4 (1 : Int32) d17_13 rfl ?_
  refine own_goto (q := 18) A4 d17_14 ?_
  exact own_retN A4 hQ (t := .boolean) (by simp) d17_18 ⟨rfl, rfl⟩
theorem rm_sil1 (x : Addr) (O0 : Old Z n0 h0) (H : own_H Z a0 zc fm) (Cx : Fld Z h0 x "java/lang/String" "coder" "B" (.int 1)) :
  own_Met false l Z n0 [] [] ⟨"java/lang/String", "isLatin1", "()Z"⟩ jdk_42_method_154_code 1 (some .boolean) [] (own_R 0 0 0 0) #[(.ref x)] h0 (fun v h => v = some (.int 0) ∧ h0 = h) := by
  refine own_ent (a0 := a0) (nm := "isLatin1") (Ls := #[.val (.ref x)]) own_pn2 O0 EW.nil ?_
  intro p e _ m _ below _ _ T0 Q hQ A0
  refine own_getS (q := 3) A0 (H.k 62 rfl) Via.refl H.SC d32_0 ?_
  intro T1 A2
  refine own_ifcF (q := 6) A2 d32_3 (show ¬ zc = (0 : Int32) from H.hz) ?_
  refine own_aloadN (q := 7) A2 d32_6 rfl rfl ?_
  refine own_getF (host := "") (q := 10) A2 (Or.inl (H.k 63 rfl)) Via.refl Cx d32_7 ?_
  intro T3 A4
  refine own_ifcT (q := 17) A4 d32_10 (show ¬ (1 : Int32) = (0 : Int32) from by decide) ?_
  refine own_iconst (q := 18) A4 (0 : Int32) d32_17 rfl ?_
  exact own_retN A4 hQ (t := .boolean) (by simp) d32_18 ⟨rfl, rfl⟩
theorem rm_bil1 (sb : Addr) (O0 : Old Z n0 h0) (H : own_H Z a0 zc fm) (Fc : Fld Z h0 sb "java/lang/AbstractStringBuilder" "coder" "B" (.int 1)) :
  own_Met false l Z n0 [] [] ⟨"java/lang/AbstractStringBuilder", "isLatin1", "()Z"⟩ jdk_68_method_68_code 1 (some .boolean) [] (own_R 0 0 0 0) #[(.ref sb)] h0 (fun v h => v = some (.int 0) ∧ h0 = h) := by
  refine own_ent (a0 := a0) (nm := "isLatin1") (Ls := #[.val (.ref sb)]) own_pn4 O0 EW.nil ?_
  intro p e _ m _ below _ _ T0 Q hQ A0
  refine own_getS (q := 3) A0 (H.k 36 rfl) Via.refl H.SC d17_0 ?_
  intro T1 A2
  refine own_ifcF (q := 6) A2 d17_3 (show ¬ zc = (0 : Int32) from H.hz) ?_
  refine own_aloadN (q := 7) A2 d17_6 rfl rfl ?_
  refine own_getF (host := "") (q := 10) A2 (Or.inl (H.k 39 rfl)) Via.refl Fc d17_7 ?_
  intro T3 A4
  refine own_ifcT (q := 17) A4 d17_10 (show ¬ (1 : Int32) = (0 : Int32) from by decide) ?_
  refine own_iconst (q := 18) A4 (0 : Int32) d17_17 rfl ?_
  exact own_retN A4 hQ (t := .boolean) (by simp) d17_18 ⟨rfl, rfl⟩
theorem d64_0 : decode jdk_41_method_13_code 0 = .ok (.iload_n 2, 1) := by decide +kernel
theorem d64_1 : decode jdk_41_method_13_code 1 = .ok (.iload_n 0, 1) := by decide +kernel
theorem d64_2 : decode jdk_41_method_13_code 2 = .ok (.ior, 1) := by decide +kernel
theorem d64_3 : decode jdk_41_method_13_code 3 = .ok (.iload_n 1, 1) := by decide +kernel
theorem d64_4 : decode jdk_41_method_13_code 4 = .ok (.ior, 1) := by decide +kernel
theorem d64_5 : decode jdk_41_method_13_code 5 = .ok (.ifCond .lt 10, 3) := by decide +kernel
theorem d64_8 : decode jdk_41_method_13_code 8 = .ok (.iload_n 1, 1) := by decide +kernel
theorem d64_9 : decode jdk_41_method_13_code 9 = .ok (.iload_n 2, 1) := by decide +kernel
theorem d64_10 : decode jdk_41_method_13_code 10 = .ok (.iload_n 0, 1) := by decide +kernel
theorem d64_11 : decode jdk_41_method_13_code 11 = .ok (.isub, 1) := by decide +kernel
theorem d64_12 : decode jdk_41_method_13_code 12 = .ok (.if_icmp .le 11, 3) := by decide +kernel
theorem d64_23 : decode jdk_41_method_13_code 23 = .ok (.iload_n 0, 1) := by decide +kernel
theorem d64_24 : decode jdk_41_method_13_code 24 = .ok (.ireturn, 1) := by decide +kernel
theorem own_pn5 : plainName "jdk/internal/util/Preconditions" = true := by first | (simp [plainName, overriddenIn]; done) | decide +kernel
theorem rm_pcf (i j n : Int32) (O0 : Old Z n0 h0) (H : own_H Z a0 zc fm) (g0 : ¬ ((n ||| i) ||| j) < 0) (g1 : ¬ (n - i) < j) :
  own_Met false l Z n0 [] [] ⟨"jdk/internal/util/Preconditions", "checkFromIndexSize", "(IIILjava/util/function/BiFunction;)I"⟩ jdk_41_method_13_code 4 (some .int) [] (own_R 0 0 0 0) #[(.int i), (.int j), (.int n), fm] h0 (fun v h => v = some (.int i) ∧ h0 = h) := by
  refine own_enter (a0 := a0) (nm := "checkFromIndexSize") (Ls := #[.val (.int i), .val (.int j), .val (.int n), .val fm]) own_pn5 O0 EW.nil (fun m => by rcases ref_cases H.rf with rfl | ⟨r, rfl⟩ <;> first | (simp [entryFrame, mkF, argsToLocals, Value.category, maxLocals]; done) | rfl) ?_
  intro p e _ m _ below _ _ T0 Q hQ A0
  refine own_iloadN (q := 1) A0 d64_0 rfl ?_
  refine own_iloadN (q := 2) A0 d64_1 rfl ?_
  refine own_ior (q := 3) A0 d64_2 ?_
  refine own_iloadN (q := 4) A0 d64_3 rfl ?_
  refine own_ior (q := 5) A0 d64_4 ?_
  refine own_ifcF (q := 8) A0 d64_5 (show ¬ ((n ||| i) ||| j) < (0 : Int32) from g0) ?_
  refine own_iloadN (q := 9) A0 d64_8 rfl ?_
  refine own_iloadN (q := 10) A0 d64_9 rfl ?_
  refine own_iloadN (q := 11) A0 d64_10 rfl ?_
  refine own_isub (q := 12) A0 d64_11 ?_
  refine own_icmpT (q := 23) A0 d64_12 (show ¬ (n - i) < j from g1) ?_
  refine own_iloadN (q := 24) A0 d64_23 rfl ?_
  exact own_retI A0 hQ d64_24 ⟨rfl, rfl⟩
theorem d39_0 : decode jdk_41_method_12_code 0 = .ok (.iload_n 0, 1) := by decide +kernel
theorem d39_1 : decode jdk_41_method_12_code 1 = .ok (.ifCond .lt 13, 3) := by decide +kernel
theorem d39_4 : decode jdk_41_method_12_code 4 = .ok (.iload_n 0, 1) := by decide +kernel
theorem d39_5 : decode jdk_41_method_12_code 5 = .ok (.iload_n 1, 1) := by decide +kernel
theorem d39_6 : decode jdk_41_method_12_code 6 = .ok (.if_icmp .gt 8, 3) := by decide +kernel
theorem d39_9 : decode jdk_41_method_12_code 9 = .ok (.iload_n 1, 1) := by decide +kernel
theorem d39_10 : decode jdk_41_method_12_code 10 = .ok (.iload_n 2, 1) := by decide +kernel
theorem d39_11 : decode jdk_41_method_12_code 11 = .ok (.if_icmp .le 11, 3) := by decide +kernel
theorem d39_22 : decode jdk_41_method_12_code 22 = .ok (.iload_n 0, 1) := by decide +kernel
theorem d39_23 : decode jdk_41_method_12_code 23 = .ok (.ireturn, 1) := by decide +kernel
theorem rm_pft (i j n : Int32) (O0 : Old Z n0 h0) (H : own_H Z a0 zc fm) (g0 : ¬ i < 0) (g1 : ¬ j < i) (g2 : ¬ n < j) :
  own_Met false l Z n0 [] [] ⟨"jdk/internal/util/Preconditions", "checkFromToIndex", "(IIILjava/util/function/BiFunction;)I"⟩ jdk_41_method_12_code 4 (some .int) [] (own_R 0 0 0 0) #[(.int i), (.int j), (.int n), fm] h0 (fun v h => v = some (.int i) ∧ h0 = h) := by
  refine own_enter (a0 := a0) (nm := "checkFromToIndex") (Ls := #[.val (.int i), .val (.int j), .val (.int n), .val fm]) own_pn5 O0 EW.nil (fun m => by rcases ref_cases H.rf with rfl | ⟨r, rfl⟩ <;> first | (simp [entryFrame, mkF, argsToLocals, Value.category, maxLocals]; done) | rfl) ?_
  intro p e _ m _ below _ _ T0 Q hQ A0
  refine own_iloadN (q := 1) A0 d39_0 rfl ?_
  refine own_ifcF (q := 4) A0 d39_1 (show ¬ i < (0 : Int32) from g0) ?_
  refine own_iloadN (q := 5) A0 d39_4 rfl ?_
  refine own_iloadN (q := 6) A0 d39_5 rfl ?_
  refine own_icmpF (q := 9) A0 d39_6 (show ¬ j < i from g1) ?_
  refine own_iloadN (q := 10) A0 d39_9 rfl ?_
  refine own_iloadN (q := 11) A0 d39_10 rfl ?_
  refine own_icmpT (q := 22) A0 d39_11 (show ¬ n < j from g2) ?_
  refine own_iloadN (q := 23) A0 d39_22 rfl ?_
  exact own_retI A0 hQ d39_23 ⟨rfl, rfl⟩
theorem d68_0 : decode jdk_41_method_11_code 0 = .ok (.iload_n 0, 1) := by decide +kernel
theorem d68_1 : decode jdk_41_method_11_code 1 = .ok (.ifCond .lt 8, 3) := by decide +kernel
theorem d68_4 : decode jdk_41_method_11_code 4 = .ok (.iload_n 0, 1) := by decide +kernel
theorem d68_5 : decode jdk_41_method_11_code 5 = .ok (.iload_n 1, 1) := by decide +kernel
theorem d68_6 : decode jdk_41_method_11_code 6 = .ok (.if_icmp .lt 10, 3) := by decide +kernel
theorem d68_16 : decode jdk_41_method_11_code 16 = .ok (.iload_n 0, 1) := by decide +kernel
theorem d68_17 : decode jdk_41_method_11_code 17 = .ok (.ireturn, 1) := by decide +kernel
theorem rm_pci (i n : Int32) (O0 : Old Z n0 h0) (H : own_H Z a0 zc fm) (g0 : ¬ i < 0) (g1 : i < n) :
  own_Met false l Z n0 [] [] ⟨"jdk/internal/util/Preconditions", "checkIndex", "(IILjava/util/function/BiFunction;)I"⟩ jdk_41_method_11_code 3 (some .int) [] (own_R 0 0 0 0) #[(.int i), (.int n), fm] h0 (fun v h => v = some (.int i) ∧ h0 = h) := by
  refine own_enter (a0 := a0) (nm := "checkIndex") (Ls := #[.val (.int i), .val (.int n), .val fm]) own_pn5 O0 EW.nil (fun m => by rcases ref_cases H.rf with rfl | ⟨r, rfl⟩ <;> first | (simp [entryFrame, mkF, argsToLocals, Value.category, maxLocals]; done) | rfl) ?_
  intro p e _ m _ below _ _ T0 Q hQ A0
  refine own_iloadN (q := 1) A0 d68_0 rfl ?_
  refine own_ifcF (q := 4) A0 d68_1 (show ¬ i < (0 : Int32) from g0) ?_
  refine own_iloadN (q := 5) A0 d68_4 rfl ?_
  refine own_iloadN (q := 6) A0 d68_5 rfl ?_
  refine own_icmpT (q := 16) A0 d68_6 (show i < n from g1) ?_
  refine own_iloadN (q := 17) A0 d68_16 rfl ?_
  exact own_retI A0 hQ d68_17 ⟨rfl, rfl⟩
theorem d63_0 : decode jdk_42_method_157_code 0 = .ok (.iload_n 0, 1) := by decide +kernel
theorem d63_1 : decode jdk_42_method_157_code 1 = .ok (.iload_n 1, 1) := by decide +kernel
theorem d63_2 : decode jdk_42_method_157_code 2 = .ok (.iload_n 2, 1) := by decide +kernel
theorem d63_3 : decode jdk_42_method_157_code 3 = .ok (.getstatic 1053, 3) := by decide +kernel
theorem d63_6 : decode jdk_42_method_157_code 6 = .ok (.invokestatic 1065, 3) := by decide +kernel
theorem d63_9 : decode jdk_42_method_157_code 9 = .ok (.ireturn, 1) := by decide +kernel
theorem rm_sbo (i j n : Int32) (O0 : Old Z n0 h0) (H : own_H Z a0 zc fm) (g0 : ¬ ((n ||| i) ||| j) < 0) (g1 : ¬ (n - i) < j) :
  own_Met false l Z n0 [] [] ⟨"java/lang/String", "checkBoundsOffCount", "(III)I"⟩ jdk_42_method_157_code 3 (some .int) [] (own_R 1 0 0 15) #[(.int i), (.int j), (.int n)] h0 (fun v h => v = some (.int i) ∧ h0 = h) := by
  refine own_ent (a0 := a0) (nm := "checkBoundsOffCount") (Ls := #[.val (.int i), .val (.int j), .val (.int n)]) own_pn2 O0 EW.nil ?_
  intro p e _ m _ below _ _ T0 Q hQ A0
  refine own_iloadN (q := 1) A0 d63_0 rfl ?_
  refine own_iloadN (q := 2) A0 d63_1 rfl ?_
  refine own_iloadN (q := 3) A0 d63_2 rfl ?_
  refine own_getS (q := 6) A0 (H.k 194 rfl) Via.refl H.SF d63_3 ?_
  intro T1 A2
  refine own_static (q := 9) (W := 0) (argsL := [(.int i), (.int j), (.int n), fm]) (rest := []) A2 (H.k 300 rfl) (H.k 301 rfl) (H.k 195 rfl) (H.k 302 rfl) (by decide) (own_pay (rm_pcf i j n A2.old H g0 g1) (H.k 302 rfl) (H.k 195 rfl) (by decide) (by decide)) own_nW (Nat.le_of_eq rfl) own_pd30 rfl rfl rfl d63_6 (by decide) (by decide) ?_
  rintro v3 T4 h5 A6 ⟨rfl, rfl⟩
  show own_Run p e below Q m T4 9 #[.val (.int i), .val (.int j), .val (.int n)] [(.int i)]
  exact own_retI A6 hQ d63_9 ⟨rfl, rfl⟩
theorem d38_0 : decode jdk_42_method_158_code 0 = .ok (.iload_n 0, 1) := by decide +kernel
theorem d38_1 : decode jdk_42_method_158_code 1 = .ok (.iload_n 1, 1) := by decide +kernel
theorem d38_2 : decode jdk_42_method_158_code 2 = .ok (.iload_n 2, 1) := by decide +kernel
theorem d38_3 : decode jdk_42_method_158_code 3 = .ok (.getstatic 1053, 3) := by decide +kernel
theorem d38_6 : decode jdk_42_method_158_code 6 = .ok (.invokestatic 1062, 3) := by decide +kernel
theorem d38_9 : decode jdk_42_method_158_code 9 = .ok (.pop, 1) := by decide +kernel
theorem d38_10 : decode jdk_42_method_158_code 10 = .ok (.return_, 1) := by decide +kernel
theorem rm_sbe (i j n : Int32) (O0 : Old Z n0 h0) (H : own_H Z a0 zc fm) (g0 : ¬ i < 0) (g1 : ¬ j < i) (g2 : ¬ n < j) :
  own_Met false l Z n0 [] [] ⟨"java/lang/String", "checkBoundsBeginEnd", "(III)V"⟩ jdk_42_method_158_code 3 none [] (own_R 1 0 0 15) #[(.int i), (.int j), (.int n)] h0 (fun v h => v = none ∧ h0 = h) := by
  refine own_ent (a0 := a0) (nm := "checkBoundsBeginEnd") (Ls := #[.val (.int i), .val (.int j), .val (.int n)]) own_pn2 O0 EW.nil ?_
  intro p e _ m _ below _ _ T0 Q hQ A0
  refine own_iloadN (q := 1) A0 d38_0 rfl ?_
  refine own_iloadN (q := 2) A0 d38_1 rfl ?_
  refine own_iloadN (q := 3) A0 d38_2 rfl ?_
  refine own_getS (q := 6) A0 (H.k 194 rfl) Via.refl H.SF d38_3 ?_
  intro T1 A2
  refine own_static (q := 9) (W := 0) (argsL := [(.int i), (.int j), (.int n), fm]) (rest := []) A2 (H.k 196 rfl) (H.k 197 rfl) (H.k 195 rfl) (H.k 198 rfl) (by decide) (own_pay (rm_pft i j n A2.old H g0 g1 g2) (H.k 198 rfl) (H.k 195 rfl) (by decide) (by decide)) own_nW (Nat.le_of_eq rfl) own_pd30 rfl rfl rfl d38_6 (by decide) (by decide) ?_
  rintro v3 T4 h5 A6 ⟨rfl, rfl⟩
  show own_Run p e below Q m T4 9 #[.val (.int i), .val (.int j), .val (.int n)] [(.int i)]
  refine own_pop (q := 10) A6 d38_9 rfl ?_
  exact own_ret0 A6 hQ d38_10 ⟨rfl, rfl⟩
theorem d67_0 : decode jdk_42_method_155_code 0 = .ok (.iload_n 0, 1) := by decide +kernel
theorem d67_1 : decode jdk_42_method_155_code 1 = .ok (.iload_n 1, 1) := by decide +kernel
theorem d67_2 : decode jdk_42_method_155_code 2 = .ok (.getstatic 1053, 3) := by decide +kernel
theorem d67_5 : decode jdk_42_method_155_code 5 = .ok (.invokestatic 1059, 3) := by decide +kernel
theorem d67_8 : decode jdk_42_method_155_code 8 = .ok (.pop, 1) := by decide +kernel
theorem d67_9 : decode jdk_42_method_155_code 9 = .ok (.return_, 1) := by decide +kernel
theorem rm_sci (i n : Int32) (O0 : Old Z n0 h0) (H : own_H Z a0 zc fm) (g0 : ¬ i < 0) (g1 : i < n) :
  own_Met false l Z n0 [] [] ⟨"java/lang/String", "checkIndex", "(II)V"⟩ jdk_42_method_155_code 2 none [] (own_R 1 0 0 14) #[(.int i), (.int n)] h0 (fun v h => v = none ∧ h0 = h) := by
  refine own_ent (a0 := a0) (nm := "checkIndex") (Ls := #[.val (.int i), .val (.int n)]) own_pn2 O0 EW.nil ?_
  intro p e _ m _ below _ _ T0 Q hQ A0
  refine own_iloadN (q := 1) A0 d67_0 rfl ?_
  refine own_iloadN (q := 2) A0 d67_1 rfl ?_
  refine own_getS (q := 5) A0 (H.k 194 rfl) Via.refl H.SF d67_2 ?_
  intro T1 A2
  refine own_static (q := 8) (W := 0) (argsL := [(.int i), (.int n), fm]) (rest := []) A2 (H.k 312 rfl) (H.k 313 rfl) (H.k 195 rfl) (H.k 314 rfl) (by decide) (own_pay (rm_pci i n A2.old H g0 g1) (H.k 314 rfl) (H.k 195 rfl) (by decide) (by decide)) own_nW (Nat.le_of_eq rfl) own_pd51 rfl rfl rfl d67_5 (by decide) (by decide) ?_
  rintro v3 T4 h5 A6 ⟨rfl, rfl⟩
  show own_Run p e below Q m T4 8 #[.val (.int i), .val (.int n)] [(.int i)]
  refine own_pop (q := 9) A6 d67_8 rfl ?_
  exact own_ret0 A6 hQ d67_9 ⟨rfl, rfl⟩
theorem d62_0 : decode jdk_52_method_6_code 0 = .ok (.aload_n 0, 1) := by decide +kernel
theorem d62_1 : decode jdk_52_method_6_code 1 = .ok (.arraylength, 1) := by decide +kernel
theorem d62_2 : decode jdk_52_method_6_code 2 = .ok (.iconst 1, 1) := by decide +kernel
theorem d62_3 : decode jdk_52_method_6_code 3 = .ok (.ishr, 1) := by decide +kernel
theorem d62_4 : decode jdk_52_method_6_code 4 = .ok (.ireturn, 1) := by decide +kernel
theorem rm_ul (t : Addr) (kt : ClassId) (N : Int32) (us : List Value) (O0 : Old Z n0 h0) (H : own_H Z a0 zc fm) (Kt : Arv Z h0 t kt .byte N us (.int 0)) :
  own_Met false l Z n0 [] [] ⟨"java/lang/StringUTF16", "length", "([B)I"⟩ jdk_52_method_6_code 1 (some .int) [] (own_R 0 0 0 0) #[(.ref t)] h0 (fun v h => v = some (.int (N >>> ((1 : Int32) &&& 31))) ∧ h0 = h) := by
  refine own_ent (a0 := a0) (nm := "length") (Ls := #[.val (.ref t)]) own_pn1 O0 EW.nil ?_
  intro p e _ m _ below _ _ T0 Q hQ A0
  refine own_aloadN (q := 1) A0 d62_0 rfl rfl ?_
  refine own_arrlenv (q := 2) A0 Kt d62_1 ?_
  refine own_iconst (q := 3) A0 (1 : Int32) d62_2 rfl ?_
  refine own_ishr (q := 4) A0 d62_3 ?_
  exact own_retI A0 hQ d62_4 ⟨rfl, rfl⟩
theorem d61_0 : decode jdk_52_method_94_code 0 = .ok (.iload_n 0, 1) := by decide +kernel
theorem d61_1 : decode jdk_52_method_94_code 1 = .ok (.iload_n 1, 1) := by decide +kernel
theorem d61_2 : decode jdk_52_method_94_code 2 = .ok (.aload_n 2, 1) := by decide +kernel
theorem d61_3 : decode jdk_52_method_94_code 3 = .ok (.invokestatic 48, 3) := by decide +kernel
theorem d61_6 : decode jdk_52_method_94_code 6 = .ok (.invokestatic 419, 3) := by decide +kernel
theorem d61_9 : decode jdk_52_method_94_code 9 = .ok (.pop, 1) := by decide +kernel
theorem d61_10 : decode jdk_52_method_94_code 10 = .ok (.return_, 1) := by decide +kernel
theorem rm_ubo (t : Addr) (kt : ClassId) (N : Int32) (us : List Value) (i j : Int32) (O0 : Old Z n0 h0) (H : own_H Z a0 zc fm) (Kt : Arv Z h0 t kt .byte N us (.int 0)) (g0 : ¬ (((N >>> ((1 : Int32) &&& 31)) ||| i) ||| j) < 0) (g1 : ¬ ((N >>> ((1 : Int32) &&& 31)) - i) < j) :
  own_Met false l Z n0 [] [] ⟨"java/lang/StringUTF16", "checkBoundsOffCount", "(II[B)V"⟩ jdk_52_method_94_code 3 none [] (own_R 2 0 0 29) #[(.int i), (.int j), (.ref t)] h0 (fun v h => v = none ∧ h0 = h) := by
  refine own_ent (a0 := a0) (nm := "checkBoundsOffCount") (Ls := #[.val (.int i), .val (.int j), .val (.ref t)]) own_pn1 O0 EW.nil ?_
  intro p e _ m _ below _ _ T0 Q hQ A0
  refine own_iloadN (q := 1) A0 d61_0 rfl ?_
  refine own_iloadN (q := 2) A0 d61_1 rfl ?_
  refine own_aloadN (q := 3) A0 d61_2 rfl rfl ?_
  refine own_static (q := 6) (W := 2) (argsL := [(.ref t)]) (rest := [(.int j), (.int i)]) A0 (H.k 294 rfl) (H.k 295 rfl) (H.k 242 rfl) (H.k 296 rfl) (by decide) (own_pay (rm_ul t kt N us A0.old H Kt) (H.k 296 rfl) (H.k 242 rfl) (by decide) (by decide)) own_nW (Nat.le_of_eq rfl) own_pd48 rfl rfl rfl d61_3 (by decide) (by decide) ?_
  rintro v1 T2 h3 A4 ⟨rfl, rfl⟩
  show own_Run p e below Q m T2 6 #[.val (.int i), .val (.int j), .val (.ref t)] [(.int (N >>> ((1 : Int32) &&& 31))), (.int j), (.int i)]
  refine own_static (q := 9) (W := 0) (argsL := [(.int i), (.int j), (.int (N >>> ((1 : Int32) &&& 31)))]) (rest := []) A4 (H.k 297 rfl) (H.k 298 rfl) (H.k 10 rfl) (H.k 299 rfl) (by decide) (own_pay (rm_sbo i j (N >>> ((1 : Int32) &&& 31)) A4.old H g0 g1) (H.k 299 rfl) (H.k 10 rfl) (by decide) (by decide)) own_nW (Nat.le_of_eq rfl) own_pd49 rfl rfl rfl d61_6 (by decide) (by decide) ?_
  rintro v5 T6 h7 A8 ⟨rfl, rfl⟩
  show own_Run p e below Q m T6 9 #[.val (.int i), .val (.int j), .val (.ref t)] [(.int i)]
  refine own_pop (q := 10) A8 d61_9 rfl ?_
  exact own_ret0 A8 hQ d61_10 ⟨rfl, rfl⟩
theorem d71_0 : decode jdk_52_method_93_code 0 = .ok (.iload_n 0, 1) := by decide +kernel
theorem d71_1 : decode jdk_52_method_93_code 1 = .ok (.iload_n 1, 1) := by decide +kernel
theorem d71_2 : decode jdk_52_method_93_code 2 = .ok (.aload_n 2, 1) := by decide +kernel
theorem d71_3 : decode jdk_52_method_93_code 3 = .ok (.invokestatic 48, 3) := by decide +kernel
theorem d71_6 : decode jdk_52_method_93_code 6 = .ok (.invokestatic 241, 3) := by decide +kernel
theorem d71_9 : decode jdk_52_method_93_code 9 = .ok (.return_, 1) := by decide +kernel
theorem rm_ube (t : Addr) (kt : ClassId) (N : Int32) (us : List Value) (i j : Int32) (O0 : Old Z n0 h0) (H : own_H Z a0 zc fm) (Kt : Arv Z h0 t kt .byte N us (.int 0)) (g0 : ¬ i < 0) (g1 : ¬ j < i) (g2 : ¬ (N >>> ((1 : Int32) &&& 31)) < j) :
  own_Met false l Z n0 [] [] ⟨"java/lang/StringUTF16", "checkBoundsBeginEnd", "(II[B)V"⟩ jdk_52_method_93_code 3 none [] (own_R 2 0 0 29) #[(.int i), (.int j), (.ref t)] h0 (fun v h => v = none ∧ h0 = h) := by
  refine own_ent (a0 := a0) (nm := "checkBoundsBeginEnd") (Ls := #[.val (.int i), .val (.int j), .val (.ref t)]) own_pn1 O0 EW.nil ?_
  intro p e _ m _ below _ _ T0 Q hQ A0
  refine own_iloadN (q := 1) A0 d71_0 rfl ?_
  refine own_iloadN (q := 2) A0 d71_1 rfl ?_
  refine own_aloadN (q := 3) A0 d71_2 rfl rfl ?_
  refine own_static (q := 6) (W := 2) (argsL := [(.ref t)]) (rest := [(.int j), (.int i)]) A0 (H.k 294 rfl) (H.k 295 rfl) (H.k 242 rfl) (H.k 296 rfl) (by decide) (own_pay (rm_ul t kt N us A0.old H Kt) (H.k 296 rfl) (H.k 242 rfl) (by decide) (by decide)) own_nW (Nat.le_of_eq rfl) own_pd48 rfl rfl rfl d71_3 (by decide) (by decide) ?_
  rintro v1 T2 h3 A4 ⟨rfl, rfl⟩
  show own_Run p e below Q m T2 6 #[.val (.int i), .val (.int j), .val (.ref t)] [(.int (N >>> ((1 : Int32) &&& 31))), (.int j), (.int i)]
  refine own_static (q := 9) (W := 0) (argsL := [(.int i), (.int j), (.int (N >>> ((1 : Int32) &&& 31)))]) (rest := []) A4 (H.k 330 rfl) (H.k 192 rfl) (H.k 10 rfl) (H.k 193 rfl) (by decide) (own_pay (rm_sbe i j (N >>> ((1 : Int32) &&& 31)) A4.old H g0 g1 g2) (H.k 193 rfl) (H.k 10 rfl) (by decide) (by decide)) own_nW (Nat.le_of_eq rfl) own_pd29 rfl rfl rfl d71_6 (by decide) (by decide) ?_
  rintro v5 T6 h7 A8 ⟨rfl, rfl⟩
  show own_Run p e below Q m T6 9 #[.val (.int i), .val (.int j), .val (.ref t)] []
  exact own_ret0 A8 hQ d71_9 ⟨rfl, rfl⟩
theorem d66_0 : decode jdk_52_method_91_code 0 = .ok (.iload_n 0, 1) := by decide +kernel
theorem d66_1 : decode jdk_52_method_91_code 1 = .ok (.aload_n 1, 1) := by decide +kernel
theorem d66_2 : decode jdk_52_method_91_code 2 = .ok (.invokestatic 48, 3) := by decide +kernel
theorem d66_5 : decode jdk_52_method_91_code 5 = .ok (.invokestatic 414, 3) := by decide +kernel
theorem d66_8 : decode jdk_52_method_91_code 8 = .ok (.return_, 1) := by decide +kernel
theorem rm_uci (t : Addr) (kt : ClassId) (N : Int32) (us : List Value) (i : Int32) (O0 : Old Z n0 h0) (H : own_H Z a0 zc fm) (Kt : Arv Z h0 t kt .byte N us (.int 0)) (g0 : ¬ i < 0) (g1 : i < (N >>> ((1 : Int32) &&& 31))) :
  own_Met false l Z n0 [] [] ⟨"java/lang/StringUTF16", "checkIndex", "(I[B)V"⟩ jdk_52_method_91_code 2 none [] (own_R 2 0 0 27) #[(.int i), (.ref t)] h0 (fun v h => v = none ∧ h0 = h) := by
  refine own_ent (a0 := a0) (nm := "checkIndex") (Ls := #[.val (.int i), .val (.ref t)]) own_pn1 O0 EW.nil ?_
  intro p e _ m _ below _ _ T0 Q hQ A0
  refine own_iloadN (q := 1) A0 d66_0 rfl ?_
  refine own_aloadN (q := 2) A0 d66_1 rfl rfl ?_
  refine own_static (q := 5) (W := 1) (argsL := [(.ref t)]) (rest := [(.int i)]) A0 (H.k 294 rfl) (H.k 295 rfl) (H.k 242 rfl) (H.k 296 rfl) (by decide) (own_pay (rm_ul t kt N us A0.old H Kt) (H.k 296 rfl) (H.k 242 rfl) (by decide) (by decide)) own_nW (Nat.le_of_eq rfl) own_pd48 rfl rfl rfl d66_2 (by decide) (by decide) ?_
  rintro v1 T2 h3 A4 ⟨rfl, rfl⟩
  show own_Run p e below Q m T2 5 #[.val (.int i), .val (.ref t)] [(.int (N >>> ((1 : Int32) &&& 31))), (.int i)]
  refine own_static (q := 8) (W := 0) (argsL := [(.int i), (.int (N >>> ((1 : Int32) &&& 31)))]) (rest := []) A4 (H.k 309 rfl) (H.k 310 rfl) (H.k 10 rfl) (H.k 311 rfl) (by decide) (own_pay (rm_sci i (N >>> ((1 : Int32) &&& 31)) A4.old H g0 g1) (H.k 311 rfl) (H.k 10 rfl) (by decide) (by decide)) own_nW (Nat.le_of_eq rfl) own_pd22 rfl rfl rfl d66_5 (by decide) (by decide) ?_
  rintro v5 T6 h7 A8 ⟨rfl, rfl⟩
  show own_Run p e below Q m T6 8 #[.val (.int i), .val (.ref t)] []
  exact own_ret0 A8 hQ d66_8 ⟨rfl, rfl⟩
theorem d60_0 : decode jdk_52_method_86_code 0 = .ok (.iload_n 3, 1) := by decide +kernel
theorem d60_1 : decode jdk_52_method_86_code 1 = .ok (.iload 4, 2) := by decide +kernel
theorem d60_3 : decode jdk_52_method_86_code 3 = .ok (.aload_n 2, 1) := by decide +kernel
theorem d60_4 : decode jdk_52_method_86_code 4 = .ok (.invokestatic 173, 3) := by decide +kernel
theorem d60_7 : decode jdk_52_method_86_code 7 = .ok (.iconst 0, 1) := by decide +kernel
theorem d60_8 : decode jdk_52_method_86_code 8 = .ok (.istore 5, 2) := by decide +kernel
theorem d60_10 : decode jdk_52_method_86_code 10 = .ok (.iload 5, 2) := by decide +kernel
theorem d60_12 : decode jdk_52_method_86_code 12 = .ok (.iload 4, 2) := by decide +kernel
theorem d60_14 : decode jdk_52_method_86_code 14 = .ok (.if_icmp .ge 27, 3) := by decide +kernel
theorem d60_17 : decode jdk_52_method_86_code 17 = .ok (.aload_n 2, 1) := by decide +kernel
theorem d60_18 : decode jdk_52_method_86_code 18 = .ok (.iload_n 3, 1) := by decide +kernel
theorem d60_19 : decode jdk_52_method_86_code 19 = .ok (.iinc 3 1, 3) := by decide +kernel
theorem d60_22 : decode jdk_52_method_86_code 22 = .ok (.aload_n 0, 1) := by decide +kernel
theorem d60_23 : decode jdk_52_method_86_code 23 = .ok (.iload_n 1, 1) := by decide +kernel
theorem d60_24 : decode jdk_52_method_86_code 24 = .ok (.iinc 1 1, 3) := by decide +kernel
theorem d60_27 : decode jdk_52_method_86_code 27 = .ok (.baload, 1) := by decide +kernel
theorem d60_28 : decode jdk_52_method_86_code 28 = .ok (.sipush 255, 3) := by decide +kernel
theorem d60_31 : decode jdk_52_method_86_code 31 = .ok (.iand, 1) := by decide +kernel
theorem d60_32 : decode jdk_52_method_86_code 32 = .ok (.invokestatic 111, 3) := by decide +kernel
theorem d60_35 : decode jdk_52_method_86_code 35 = .ok (.iinc 5 1, 3) := by decide +kernel
theorem d60_38 : decode jdk_52_method_86_code 38 = .ok (.goto (-28), 3) := by decide +kernel
theorem d60_41 : decode jdk_52_method_86_code 41 = .ok (.return_, 1) := by decide +kernel
theorem rm_uf0 (t : Addr) (kt : ClassId) (N : Int32) (us : List Value) (b : Addr) (kb : ClassId) (vs : List Value) (d : Int32) (O0 : Old Z n0 h0) (H : own_H Z a0 zc fm) (Kt : Arv Z h0 t kt .byte N us (.int 0)) (bN : 0 ≤ N.toNatClampNeg) (Kb : Arv Z h0 b kb .byte 32 vs (.int 0)) (lw : vs.length = 32) (gb : n0 ≤ b) (ntb : t ≠ b) (g0 : ¬ ((((32 : Int32) >>> ((1 : Int32) &&& 31)) ||| d) ||| 0) < 0) (g1 : ¬ (((32 : Int32) >>> ((1 : Int32) &&& 31)) - d) < 0) :
  own_Met false l Z n0 [] [] ⟨"java/lang/StringUTF16", "inflate", "([BI[BII)V"⟩ jdk_52_method_86_code 6 none [] (own_R 3 0 0 43) #[(.ref t), (.int 0), (.ref b), (.int d), (.int 0)] h0 (fun v h => v = none ∧ Keep h0 h [b] ∧ Arv Z h b kb .byte 32 vs (.int 0)) := by
  refine own_ent (a0 := a0) (nm := "inflate") (Ls := #[.val (.ref t), .val (.int 0), .val (.ref b), .val (.int d), .val (.int 0), .unset]) own_pn1 O0 EW.nil ?_
  intro p e _ m _ below _ _ T0 Q hQ A0
  refine own_iloadN (q := 1) A0 d60_0 rfl ?_
  refine own_iload (q := 3) A0 d60_1 rfl ?_
  refine own_aloadN (q := 4) A0 d60_3 rfl rfl ?_
  refine own_static (q := 7) (W := 0) (argsL := [(.int d), (.int 0), (.ref b)]) (rest := []) A0 (H.k 291 rfl) (H.k 292 rfl) (H.k 242 rfl) (H.k 293 rfl) (by decide) (own_pay (rm_ubo b kb 32 vs d 0 A0.old H Kb g0 g1) (H.k 293 rfl) (H.k 242 rfl) (by decide) (by decide)) own_nW (Nat.le_of_eq rfl) own_pd47 rfl rfl rfl d60_4 (by decide) (by decide) ?_
  rintro v1 T2 h3 A4 ⟨rfl, rfl⟩
  show own_Run p e below Q m T2 7 #[.val (.ref t), .val (.int 0), .val (.ref b), .val (.int d), .val (.int 0), .unset] []
  refine own_iconst (q := 8) A4 (0 : Int32) d60_7 rfl ?_
  refine own_istore (q := 10) (L' := #[.val (.ref t), .val (.int 0), .val (.ref b), .val (.int d), .val (.int 0), .val (.int 0)]) A4 d60_8 rfl ?_
  refine own_iload (q := 12) A4 d60_10 rfl ?_
  refine own_iload (q := 14) A4 d60_12 rfl ?_
  refine own_icmpT (q := 41) A4 d60_14 (show ¬ (0 : Int32) < (0 : Int32) from by decide) ?_
  exact own_ret0 A4 hQ d60_41 ⟨rfl, (Keep.refl h0 [b]), Kb⟩
theorem d59_0 : decode jdk_43_method_50_code 0 = .ok (.aload_n 0, 1) := by decide +kernel
theorem d59_1 : decode jdk_43_method_50_code 1 = .ok (.iload_n 1, 1) := by decide +kernel
theorem d59_2 : decode jdk_43_method_50_code 2 = .ok (.aload_n 2, 1) := by decide +kernel
theorem d59_3 : decode jdk_43_method_50_code 3 = .ok (.iload_n 3, 1) := by decide +kernel
theorem d59_4 : decode jdk_43_method_50_code 4 = .ok (.iload 4, 2) := by decide +kernel
theorem d59_6 : decode jdk_43_method_50_code 6 = .ok (.invokestatic 240, 3) := by decide +kernel
theorem d59_9 : decode jdk_43_method_50_code 9 = .ok (.return_, 1) := by decide +kernel
theorem rm_uf1 (t : Addr) (kt : ClassId) (N : Int32) (us : List Value) (b : Addr) (kb : ClassId) (vs : List Value) (d : Int32) (j0 : Nat) (chx : Int32) (O0 : Old Z n0 h0) (H : own_H Z a0 zc fm) (Kt : Arv Z h0 t kt .byte N us (.int 0)) (bN : 1 ≤ N.toNatClampNeg) (Kb : Arv Z h0 b kb .byte 32 vs (.int 0)) (lw : vs.length = 32) (gb : n0 ≤ b) (ntb : t ≠ b) (g0 : ¬ ((((32 : Int32) >>> ((1 : Int32) &&& 31)) ||| d) ||| 1) < 0) (g1 : ¬ (((32 : Int32) >>> ((1 : Int32) &&& 31)) - d) < 1) (P0 : own_pi 32 d j0) (u0 : us.getD 0 (.int 0) = .int (StrChars.lo8 chx)) (hchx0 : ¬ chx < 0) (hchx1 : ¬ (255 : Int32) < chx) :
  own_Met false l Z n0 [] [] ⟨"java/lang/StringUTF16", "inflate", "([BI[BII)V"⟩ jdk_52_method_86_code 6 none [] (own_R 3 0 0 43) #[(.ref t), (.int 0), (.ref b), (.int d), (.int 1)] h0 (fun v h => v = none ∧ Keep h0 h [b] ∧ Arv Z h b kb .byte 32 ((vs.set j0 (.int (StrChars.lo8 chx))).set (j0 + 1) (.int (StrChars.hi8 chx))) (.int 0)) := by
  refine own_ent (a0 := a0) (nm := "inflate") (Ls := #[.val (.ref t), .val (.int 0), .val (.ref b), .val (.int d), .val (.int 1), .unset]) own_pn1 O0 EW.nil ?_
  intro p e _ m _ below _ _ T0 Q hQ A0
  refine own_iloadN (q := 1) A0 d60_0 rfl ?_
  refine own_iload (q := 3) A0 d60_1 rfl ?_
  refine own_aloadN (q := 4) A0 d60_3 rfl rfl ?_
  refine own_static (q := 7) (W := 0) (argsL := [(.int d), (.int 1), (.ref b)]) (rest := []) A0 (H.k 291 rfl) (H.k 292 rfl) (H.k 242 rfl) (H.k 293 rfl) (by decide) (own_pay (rm_ubo b kb 32 vs d 1 A0.old H Kb g0 g1) (H.k 293 rfl) (H.k 242 rfl) (by decide) (by decide)) own_nW (Nat.le_of_eq rfl) own_pd47 rfl rfl rfl d60_4 (by decide) (by decide) ?_
  rintro v1 T2 h3 A4 ⟨rfl, rfl⟩
  show own_Run p e below Q m T2 7 #[.val (.ref t), .val (.int 0), .val (.ref b), .val (.int d), .val (.int 1), .unset] []
  refine own_iconst (q := 8) A4 (0 : Int32) d60_7 rfl ?_
  refine own_istore (q := 10) (L' := #[.val (.ref t), .val (.int 0), .val (.ref b), .val (.int d), .val (.int 1), .val (.int 0)]) A4 d60_8 rfl ?_
  refine own_iload (q := 12) A4 d60_10 rfl ?_
  refine own_iload (q := 14) A4 d60_12 rfl ?_
  refine own_icmpF (q := 17) A4 d60_14 (show (0 : Int32) < (1 : Int32) from by decide) ?_
  refine own_aloadN (q := 18) A4 d60_17 rfl rfl ?_
  refine own_iloadN (q := 19) A4 d60_18 rfl ?_
  refine own_iinc (q := 22) (v := (1 : Int32)) (L' := #[.val (.ref t), .val (.int 0), .val (.ref b), .val (.int (d + (1 : Int32))), .val (.int 1), .val (.int 0)]) A4 d60_19 rfl rfl rfl ?_
  refine own_aloadN (q := 23) A4 d60_22 rfl rfl ?_
  refine own_iloadN (q := 24) A4 d60_23 rfl ?_
  refine own_iinc (q := 27) (v := (1 : Int32)) (L' := #[.val (.ref t), .val (.int ((0 : Int32) + (1 : Int32))), .val (.ref b), .val (.int (d + (1 : Int32))), .val (.int 1), .val (.int 0)]) A4 d60_24 rfl rfl rfl ?_
  rw [show ((0 : Int32) + (1 : Int32)) = (1 : Int32) from by decide]
  refine own_baloadv (q := 28) (v := (.int (StrChars.lo8 chx))) A4 Kt 0 (by decide) (by decide) (by omega) u0 d60_27 ?_
  refine own_sipush (q := 31) A4 (255 : Int32) d60_28 rfl ?_
  refine own_iand (q := 32) A4 d60_31 ?_
  rw [StrChars.lo8_mask hchx0 hchx1]
  refine own_static (q := 35) (W := 0) (argsL := [(.ref b), (.int d), (.int chx)]) (rest := []) A4 (H.k 266 rfl) (H.k 267 rfl) (H.k 242 rfl) (H.k 268 rfl) (by decide) (own_pay (rm_pc b kb 32 vs d j0 chx A4.old H Kb gb P0 (by simp only [List.length_set, lw]; exact P0.n)) (H.k 268 rfl) (H.k 242 rfl) (by decide) (by decide)) own_nW (Nat.le_of_eq rfl) own_pd44 rfl rfl rfl d60_32 (by decide) (by decide) ?_
  rintro v7 T8 h9 A10 ⟨rfl, K5, V6⟩
  show own_Run p e below Q m T8 35 #[.val (.ref t), .val (.int 1), .val (.ref b), .val (.int (d + (1 : Int32))), .val (.int 1), .val (.int 0)] []
  have f11 := Kt.keep K5 (ninS ntb nin0)
  have K12 := (Keep.refl h0 [b]).trans K5 (allS (Or.inl (by simp)) all0)
  refine own_iinc (q := 38) (v := (1 : Int32)) (L' := #[.val (.ref t), .val (.int 1), .val (.ref b), .val (.int (d + (1 : Int32))), .val (.int 1), .val (.int ((0 : Int32) + (1 : Int32)))]) A10 d60_35 rfl rfl rfl ?_
  rw [show ((0 : Int32) + (1 : Int32)) = (1 : Int32) from by decide]
  refine own_goto (q := 10) A10 d60_38 ?_
  refine own_iload (q := 12) A10 d60_10 rfl ?_
  refine own_iload (q := 14) A10 d60_12 rfl ?_
  refine own_icmpT (q := 41) A10 d60_14 (show ¬ (1 : Int32) < (1 : Int32) from by decide) ?_
  exact own_ret0 A10 hQ d60_41 ⟨rfl, K12, V6⟩
theorem rm_uf2 (t : Addr) (kt : ClassId) (N : Int32) (us : List Value) (b : Addr) (kb : ClassId) (vs : List Value) (d : Int32) (j0 j1 : Nat) (chx chy : Int32) (O0 : Old Z n0 h0) (H : own_H Z a0 zc fm) (Kt : Arv Z h0 t kt .byte N us (.int 0)) (bN : 2 ≤ N.toNatClampNeg) (Kb : Arv Z h0 b kb .byte 32 vs (.int 0)) (lw : vs.length = 32) (gb : n0 ≤ b) (ntb : t ≠ b) (g0 : ¬ ((((32 : Int32) >>> ((1 : Int32) &&& 31)) ||| d) ||| 2) < 0) (g1 : ¬ (((32 : Int32) >>> ((1 : Int32) &&& 31)) - d) < 2) (P0 : own_pi 32 d j0) (P1 : own_pi 32 (d + 1) j1) (u0 : us.getD 0 (.int 0) = .int (StrChars.lo8 chx)) (u1 : us.getD 1 (.int 0) = .int (StrChars.lo8 chy)) (hchx0 : ¬ chx < 0) (hchx1 : ¬ (255 : Int32) < chx) (hchy0 : ¬ chy < 0) (hchy1 : ¬ (255 : Int32) < chy) :
  own_Met false l Z n0 [] [] ⟨"java/lang/StringUTF16", "inflate", "([BI[BII)V"⟩ jdk_52_method_86_code 6 none [] (own_R 3 0 0 43) #[(.ref t), (.int 0), (.ref b), (.int d), (.int 2)] h0 (fun v h => v = none ∧ Keep h0 h [b] ∧ Arv Z h b kb .byte 32 ((((vs.set j0 (.int (StrChars.lo8 chx))).set (j0 + 1) (.int (StrChars.hi8 chx))).set j1 (.int (StrChars.lo8 chy))).set (j1 + 1) (.int (StrChars.hi8 chy))) (.int 0)) := by
  refine own_ent (a0 := a0) (nm := "inflate") (Ls := #[.val (.ref t), .val (.int 0), .val (.ref b), .val (.int d), .val (.int 2), .unset]) own_pn1 O0 EW.nil ?_
  intro p e _ m _ below _ _ T0 Q hQ A0
  refine own_iloadN (q := 1) A0 d60_0 rfl ?_
  refine own_iload (q := 3) A0 d60_1 rfl ?_
  refine own_aloadN (q := 4) A0 d60_3 rfl rfl ?_
  refine own_static (q := 7) (W := 0) (argsL := [(.int d), (.int 2), (.ref b)]) (rest := []) A0 (H.k 291 rfl) (H.k 292 rfl) (H.k 242 rfl) (H.k 293 rfl) (by decide) (own_pay (rm_ubo b kb 32 vs d 2 A0.old H Kb g0 g1) (H.k 293 rfl) (H.k 242 rfl) (by decide) (by decide)) own_nW (Nat.le_of_eq rfl) own_pd47 rfl rfl rfl d60_4 (by decide) (by decide) ?_
  rintro v1 T2 h3 A4 ⟨rfl, rfl⟩
  show own_Run p e below Q m T2 7 #[.val (.ref t), .val (.int 0), .val (.ref b), .val (.int d), .val (.int 2), .unset] []
  refine own_iconst (q := 8) A4 (0 : Int32) d60_7 rfl ?_
  refine own_istore (q := 10) (L' := #[.val (.ref t), .val (.int 0), .val (.ref b), .val (.int d), .val (.int 2), .val (.int 0)]) A4 d60_8 rfl ?_
  refine own_iload (q := 12) A4 d60_10 rfl ?_
  refine own_iload (q := 14) A4 d60_12 rfl ?_
  refine own_icmpF (q := 17) A4 d60_14 (show (0 : Int32) < (2 : Int32) from by decide) ?_
  refine own_aloadN (q := 18) A4 d60_17 rfl rfl ?_
  refine own_iloadN (q := 19) A4 d60_18 rfl ?_
  refine own_iinc (q := 22) (v := (1 : Int32)) (L' := #[.val (.ref t), .val (.int 0), .val (.ref b), .val (.int (d + (1 : Int32))), .val (.int 2), .val (.int 0)]) A4 d60_19 rfl rfl rfl ?_
  refine own_aloadN (q := 23) A4 d60_22 rfl rfl ?_
  refine own_iloadN (q := 24) A4 d60_23 rfl ?_
  refine own_iinc (q := 27) (v := (1 : Int32)) (L' := #[.val (.ref t), .val (.int ((0 : Int32) + (1 : Int32))), .val (.ref b), .val (.int (d + (1 : Int32))), .val (.int 2), .val (.int 0)]) A4 d60_24 rfl rfl rfl ?_
  rw [show ((0 : Int32) + (1 : Int32)) = (1 : Int32) from by decide]
  refine own_baloadv (q := 28) (v := (.int (StrChars.lo8 chx))) A4 Kt 0 (by decide) (by decide) (by omega) u0 d60_27 ?_
  refine own_sipush (q := 31) A4 (255 : Int32) d60_28 rfl ?_
  refine own_iand (q := 32) A4 d60_31 ?_
  rw [StrChars.lo8_mask hchx0 hchx1]
  refine own_static (q := 35) (W := 0) (argsL := [(.ref b), (.int d), (.int chx)]) (rest := []) A4 (H.k 266 rfl) (H.k 267 rfl) (H.k 242 rfl) (H.k 268 rfl) (by decide) (own_pay (rm_pc b kb 32 vs d j0 chx A4.old H Kb gb P0 (by simp only [List.length_set, lw]; exact P0.n)) (H.k 268 rfl) (H.k 242 rfl) (by decide) (by decide)) own_nW (Nat.le_of_eq rfl) own_pd44 rfl rfl rfl d60_32 (by decide) (by decide) ?_
  rintro v7 T8 h9 A10 ⟨rfl, K5, V6⟩
  show own_Run p e below Q m T8 35 #[.val (.ref t), .val (.int 1), .val (.ref b), .val (.int (d + (1 : Int32))), .val (.int 2), .val (.int 0)] []
  have f11 := Kt.keep K5 (ninS ntb nin0)
  have K12 := (Keep.refl h0 [b]).trans K5 (allS (Or.inl (by simp)) all0)
  refine own_iinc (q := 38) (v := (1 : Int32)) (L' := #[.val (.ref t), .val (.int 1), .val (.ref b), .val (.int (d + (1 : Int32))), .val (.int 2), .val (.int ((0 : Int32) + (1 : Int32)))]) A10 d60_35 rfl rfl rfl ?_
  rw [show ((0 : Int32) + (1 : Int32)) = (1 : Int32) from by decide]
  refine own_goto (q := 10) A10 d60_38 ?_
  refine own_iload (q := 12) A10 d60_10 rfl ?_
  refine own_iload (q := 14) A10 d60_12 rfl ?_
  refine own_icmpF (q := 17) A10 d60_14 (show (1 : Int32) < (2 : Int32) from by decide) ?_
  refine own_aloadN (q := 18) A10 d60_17 rfl rfl ?_
  refine own_iloadN (q := 19) A10 d60_18 rfl ?_
  refine own_iinc (q := 22) (v := (1 : Int32)) (L' := #[.val (.ref t), .val (.int 1), .val (.ref b), .val (.int ((d + (1 : Int32)) + (1 : Int32))), .val (.int 2), .val (.int 1)]) A10 d60_19 rfl rfl rfl ?_
  refine own_aloadN (q := 23) A10 d60_22 rfl rfl ?_
  refine own_iloadN (q := 24) A10 d60_23 rfl ?_
  refine own_iinc (q := 27) (v := (1 : Int32)) (L' := #[.val (.ref t), .val (.int ((1 : Int32) + (1 : Int32))), .val (.ref b), .val (.int ((d + (1 : Int32)) + (1 : Int32))), .val (.int 2), .val (.int 1)]) A10 d60_24 rfl rfl rfl ?_
  rw [show ((1 : Int32) + (1 : Int32)) = (2 : Int32) from by decide]
  refine own_baloadv (q := 28) (v := (.int (StrChars.lo8 chy))) A10 f11 1 (by decide) (by decide) (by omega) u1 d60_27 ?_
  refine own_sipush (q := 31) A10 (255 : Int32) d60_28 rfl ?_
  refine own_iand (q := 32) A10 d60_31 ?_
  rw [StrChars.lo8_mask hchy0 hchy1]
  refine own_static (q := 35) (W := 0) (argsL := [(.ref b), (.int (d + (1 : Int32))), (.int chy)]) (rest := []) A10 (H.k 266 rfl) (H.k 267 rfl) (H.k 242 rfl) (H.k 268 rfl) (by decide) (own_pay (rm_pc b kb 32 ((vs.set j0 (.int (StrChars.lo8 chx))).set (j0 + 1) (.int (StrChars.hi8 chx))) (d + 1) j1 chy A10.old H V6 gb P1 (by simp only [List.length_set, lw]; exact P1.n)) (H.k 268 rfl) (H.k 242 rfl) (by decide) (by decide)) own_nW (Nat.le_of_eq rfl) own_pd44 rfl rfl rfl d60_32 (by decide) (by decide) ?_
  rintro v15 T16 h17 A18 ⟨rfl, K13, V14⟩
  show own_Run p e below Q m T16 35 #[.val (.ref t), .val (.int 2), .val (.ref b), .val (.int ((d + (1 : Int32)) + (1 : Int32))), .val (.int 2), .val (.int 1)] []
  have f19 := f11.keep K13 (ninS ntb nin0)
  have K20 := K12.trans K13 (allS (Or.inl (by simp)) all0)
  refine own_iinc (q := 38) (v := (1 : Int32)) (L' := #[.val (.ref t), .val (.int 2), .val (.ref b), .val (.int ((d + (1 : Int32)) + (1 : Int32))), .val (.int 2), .val (.int ((1 : Int32) + (1 : Int32)))]) A18 d60_35 rfl rfl rfl ?_
  rw [show ((1 : Int32) + (1 : Int32)) = (2 : Int32) from by decide]
  refine own_goto (q := 10) A18 d60_38 ?_
  refine own_iload (q := 12) A18 d60_10 rfl ?_
  refine own_iload (q := 14) A18 d60_12 rfl ?_
  refine own_icmpT (q := 41) A18 d60_14 (show ¬ (2 : Int32) < (2 : Int32) from by decide) ?_
  exact own_ret0 A18 hQ d60_41 ⟨rfl, K20, V14⟩
theorem rm_uf3 (t : Addr) (kt : ClassId) (N : Int32) (us : List Value) (b : Addr) (kb : ClassId) (vs : List Value) (d : Int32) (j0 j1 j2 : Nat) (chx chy chz : Int32) (O0 : Old Z n0 h0) (H : own_H Z a0 zc fm) (Kt : Arv Z h0 t kt .byte N us (.int 0)) (bN : 3 ≤ N.toNatClampNeg) (Kb : Arv Z h0 b kb .byte 32 vs (.int 0)) (lw : vs.length = 32) (gb : n0 ≤ b) (ntb : t ≠ b) (g0 : ¬ ((((32 : Int32) >>> ((1 : Int32) &&& 31)) ||| d) ||| 3) < 0) (g1 : ¬ (((32 : Int32) >>> ((1 : Int32) &&& 31)) - d) < 3) (P0 : own_pi 32 d j0) (P1 : own_pi 32 (d + 1) j1) (P2 : own_pi 32 ((d + 1) + 1) j2) (u0 : us.getD 0 (.int 0) = .int (StrChars.lo8 chx)) (u1 : us.getD 1 (.int 0) = .int (StrChars.lo8 chy)) (u2 : us.getD 2 (.int 0) = .int (StrChars.lo8 chz)) (hchx0 : ¬ chx < 0) (hchx1 : ¬ (255 : Int32) < chx) (hchy0 : ¬ chy < 0) (hchy1 : ¬ (255 : Int32) < chy) (hchz0 : ¬ chz < 0) (hchz1 : ¬ (255 : Int32) < chz) :
  own_Met false l Z n0 [] [] ⟨"java/lang/StringUTF16", "inflate", "([BI[BII)V"⟩ jdk_52_method_86_code 6 none [] (own_R 3 0 0 43) #[(.ref t), (.int 0), (.ref b), (.int d), (.int 3)] h0 (fun v h => v = none ∧ Keep h0 h [b] ∧ Arv Z h b kb .byte 32 ((((((vs.set j0 (.int (StrChars.lo8 chx))).set (j0 + 1) (.int (StrChars.hi8 chx))).set j1 (.int (StrChars.lo8 chy))).set (j1 + 1) (.int (StrChars.hi8 chy))).set j2 (.int (StrChars.lo8 chz))).set (j2 + 1) (.int (StrChars.hi8 chz))) (.int 0)) := by
  refine own_ent (a0 := a0) (nm := "inflate") (Ls := #[.val (.ref t), .val (.int 0), .val (.ref b), .val (.int d), .val (.int 3), .unset]) own_pn1 O0 EW.nil ?_
  intro p e _ m _ below _ _ T0 Q hQ A0
  refine own_iloadN (q := 1) A0 d60_0 rfl ?_
  refine own_iload (q := 3) A0 d60_1 rfl ?_
  refine own_aloadN (q := 4) A0 d60_3 rfl rfl ?_
  refine own_static (q := 7) (W := 0) (argsL := [(.int d), (.int 3), (.ref b)]) (rest := []) A0 (H.k 291 rfl) (H.k 292 rfl) (H.k 242 rfl) (H.k 293 rfl) (by decide) (own_pay (rm_ubo b kb 32 vs d 3 A0.old H Kb g0 g1) (H.k 293 rfl) (H.k 242 rfl) (by decide) (by decide)) own_nW (Nat.le_of_eq rfl) own_pd47 rfl rfl rfl d60_4 (by decide) (by decide) ?_
  rintro v1 T2 h3 A4 ⟨rfl, rfl⟩
  show own_Run p e below Q m T2 7 #[.val (.ref t), .val (.int 0), .val (.ref b), .val (.int d), .val (.int 3), .unset] []
  refine own_iconst (q := 8) A4 (0 : Int32) d60_7 rfl ?_
  refine own_istore (q := 10) (L' := #[.val (.ref t), .val (.int 0), .val (.ref b), .val (.int d), .val (.int 3), .val (.int 0)]) A4 d60_8 rfl ?_
  refine own_iload (q := 12) A4 d60_10 rfl ?_
  refine own_iload (q := 14) A4 d60_12 rfl ?_
  refine own_icmpF (q := 17) A4 d60_14 (show (0 : Int32) < (3 : Int32) from by decide) ?_
  refine own_aloadN (q := 18) A4 d60_17 rfl rfl ?_
  refine own_iloadN (q := 19) A4 d60_18 rfl ?_
  refine own_iinc (q := 22) (v := (1 : Int32)) (L' := #[.val (.ref t), .val (.int 0), .val (.ref b), .val (.int (d + (1 : Int32))), .val (.int 3), .val (.int 0)]) A4 d60_19 rfl rfl rfl ?_
  refine own_aloadN (q := 23) A4 d60_22 rfl rfl ?_
  refine own_iloadN (q := 24) A4 d60_23 rfl ?_
  refine own_iinc (q := 27) (v := (1 : Int32)) (L' := #[.val (.ref t), .val (.int ((0 : Int32) + (1 : Int32))), .val (.ref b), .val (.int (d + (1 : Int32))), .val (.int 3), .val (.int 0)]) A4 d60_24 rfl rfl rfl ?_
  rw [show ((0 : Int32) + (1 : Int32)) = (1 : Int32) from by decide]
  refine own_baloadv (q := 28) (v := (.int (StrChars.lo8 chx))) A4 Kt 0 (by decide) (by decide) (by omega) u0 d60_27 ?_
  refine own_sipush (q := 31) A4 (255 : Int32) d60_28 rfl ?_
  refine own_iand (q := 32) A4 d60_31 ?_
  rw [StrChars.lo8_mask hchx0 hchx1]
  refine own_static (q := 35) (W := 0) (argsL := [(.ref b), (.int d), (.int chx)]) (rest := []) A4 (H.k 266 rfl) (H.k 267 rfl) (H.k 242 rfl) (H.k 268 rfl) (by decide) (own_pay (rm_pc b kb 32 vs d j0 chx A4.old H Kb gb P0 (by simp only [List.length_set, lw]; exact P0.n)) (H.k 268 rfl) (H.k 242 rfl) (by decide) (by decide)) own_nW (Nat.le_of_eq rfl) own_pd44 rfl rfl rfl d60_32 (by decide) (by decide) ?_
  rintro v7 T8 h9 A10 ⟨rfl, K5, V6⟩
  show own_Run p e below Q m T8 35 #[.val (.ref t), .val (.int 1), .val (.ref b), .val (.int (d + (1 : Int32))), .val (.int 3), .val (.int 0)] []
  have f11 := Kt.keep K5 (ninS ntb nin0)
  have K12 := (Keep.refl h0 [b]).trans K5 (allS (Or.inl (by simp)) all0)
  refine own_iinc (q := 38) (v := (1 : Int32)) (L' := #[.val (.ref t), .val (.int 1), .val (.ref b), .val (.int (d + (1 : Int32))), .val (.int 3), .val (.int ((0 : Int32) + (1 : Int32)))]) A10 d60_35 rfl rfl rfl ?_
  rw [show ((0 : Int32) + (1 : Int32)) = (1 : Int32) from by decide]
  refine own_goto (q := 10) A10 d60_38 ?_
  refine own_iload (q := 12) A10 d60_10 rfl ?_
  refine own_iload (q := 14) A10 d60_12 rfl ?_
  refine own_icmpF (q := 17) A10 d60_14 (show (1 : Int32) < (3 : Int32) from by decide) ?_
  refine own_aloadN (q := 18) A10 d60_17 rfl rfl ?_
  refine own_iloadN (q := 19) A10 d60_18 rfl ?_
  refine own_iinc (q := 22) (v := (1 : Int32)) (L' := #[.val (.ref t), .val (.int 1), .val (.ref b), .val (.int ((d + (1 : Int32)) + (1 : Int32))), .val (.int 3), .val (.int 1)]) A10 d60_19 rfl rfl rfl ?_
  refine own_aloadN (q := 23) A10 d60_22 rfl rfl ?_
  refine own_iloadN (q := 24) A10 d60_23 rfl ?_
  refine own_iinc (q := 27) (v := (1 : Int32)) (L' := #[.val (.ref t), .val (.int ((1 : Int32) + (1 : Int32))), .val (.ref b), .val (.int ((d + (1 : Int32)) + (1 : Int32))), .val (.int 3), .val (.int 1)]) A10 d60_24 rfl rfl rfl ?_
  rw [show ((1 : Int32) + (1 : Int32)) = (2 : Int32) from by decide]
  refine own_baloadv (q := 28) (v := (.int (StrChars.lo8 chy))) A10 f11 1 (by decide) (by decide) (by omega) u1 d60_27 ?_
  refine own_sipush (q := 31) A10 (255 : Int32) d60_28 rfl ?_
  refine own_iand (q := 32) A10 d60_31 ?_
  rw [StrChars.lo8_mask hchy0 hchy1]
  refine own_static (q := 35) (W := 0) (argsL := [(.ref b), (.int (d + (1 : Int32))), (.int chy)]) (rest := []) A10 (H.k 266 rfl) (H.k 267 rfl) (H.k 242 rfl) (H.k 268 rfl) (by decide) (own_pay (rm_pc b kb 32 ((vs.set j0 (.int (StrChars.lo8 chx))).set (j0 + 1) (.int (StrChars.hi8 chx))) (d + 1) j1 chy A10.old H V6 gb P1 (by simp only [List.length_set, lw]; exact P1.n)) (H.k 268 rfl) (H.k 242 rfl) (by decide) (by decide)) own_nW (Nat.le_of_eq rfl) own_pd44 rfl rfl rfl d60_32 (by decide) (by decide) ?_
  rintro v15 T16 h17 A18 ⟨rfl, K13, V14⟩
  show own_Run p e below Q m T16 35 #[.val (.ref t), .val (.int 2), .val (.ref b), .val (.int ((d + (1 : Int32)) + (1 : Int32))), .val (.int 3), .val (.int 1)] []
  have f19 := f11.keep K13 (ninS ntb nin0)
  have K20 := K12.trans K13 (allS (Or.inl (by simp)) all0)
  refine own_iinc (q := 38) (v := (1 : Int32)) (L' := #[.val (.ref t), .val (.int 2), .val (.ref b), .val (.int ((d + (1 : Int32)) + (1 : Int32))), .val (.int 3), .val (.int ((1 : Int32) + (1 : Int32)))]) A18 d60_35 rfl rfl rfl ?_
  rw [show ((1 : Int32) + (1 : Int32)) = (2 : Int32) from by decide]
  refine own_goto (q := 10) A18 d60_38 ?_
  refine own_iload (q := 12) A18 d60_10 rfl ?_
  refine own_iload (q := 14) A18 d60_12 rfl ?_
  refine own_icmpF (q := 17) A18 d60_14 (show (2 : Int32) < (3 : Int32) from by decide) ?_
  refine own_aloadN (q := 18) A18 d60_17 rfl rfl ?_
  refine own_iloadN (q := 19) A18 d60_18 rfl ?_
  refine own_iinc (q := 22) (v := (1 : Int32)) (L' := #[.val (.ref t), .val (.int 2), .val (.ref b), .val (.int (((d + (1 : Int32)) + (1 : Int32)) + (1 : Int32))), .val (.int 3), .val (.int 2)]) A18 d60_19 rfl rfl rfl ?_
  refine own_aloadN (q := 23) A18 d60_22 rfl rfl ?_
  refine own_iloadN (q := 24) A18 d60_23 rfl ?_
  refine own_iinc (q := 27) (v := (1 : Int32)) (L' := #[.val (.ref t), .val (.int ((2 : Int32) + (1 : Int32))), .val (.ref b), .val (.int (((d + (1 : Int32)) + (1 : Int32)) + (1 : Int32))), .val (.int 3), .val (.int 2)]) A18 d60_24 rfl rfl rfl ?_
  rw [show ((2 : Int32) + (1 : Int32)) = (3 : Int32) from by decide]
  refine own_baloadv (q := 28) (v := (.int (StrChars.lo8 chz))) A18 f19 2 (by decide) (by decide) (by omega) u2 d60_27 ?_
  refine own_sipush (q := 31) A18 (255 : Int32) d60_28 rfl ?_
  refine own_iand (q := 32) A18 d60_31 ?_
  rw [StrChars.lo8_mask hchz0 hchz1]
  refine own_static (q := 35) (W := 0) (argsL := [(.ref b), (.int ((d + (1 : Int32)) + (1 : Int32))), (.int chz)]) (rest := []) A18 (H.k 266 rfl) (H.k 267 rfl) (H.k 242 rfl) (H.k 268 rfl) (by decide) (own_pay (rm_pc b kb 32 ((((vs.set j0 (.int (StrChars.lo8 chx))).set (j0 + 1) (.int (StrChars.hi8 chx))).set j1 (.int (StrChars.lo8 chy))).set (j1 + 1) (.int (StrChars.hi8 chy))) ((d + 1) + 1) j2 chz A18.old H V14 gb P2 (by simp only [List.length_set, lw]; exact P2.n)) (H.k 268 rfl) (H.k 242 rfl) (by decide) (by decide)) own_nW (Nat.le_of_eq rfl) own_pd44 rfl rfl rfl d60_32 (by decide) (by decide) ?_
  rintro v23 T24 h25 A26 ⟨rfl, K21, V22⟩
  show own_Run p e below Q m T24 35 #[.val (.ref t), .val (.int 3), .val (.ref b), .val (.int (((d + (1 : Int32)) + (1 : Int32)) + (1 : Int32))), .val (.int 3), .val (.int 2)] []
  have f27 := f19.keep K21 (ninS ntb nin0)
  have K28 := K20.trans K21 (allS (Or.inl (by simp)) all0)
  refine own_iinc (q := 38) (v := (1 : Int32)) (L' := #[.val (.ref t), .val (.int 3), .val (.ref b), .val (.int (((d + (1 : Int32)) + (1 : Int32)) + (1 : Int32))), .val (.int 3), .val (.int ((2 : Int32) + (1 : Int32)))]) A26 d60_35 rfl rfl rfl ?_
  rw [show ((2 : Int32) + (1 : Int32)) = (3 : Int32) from by decide]
  refine own_goto (q := 10) A26 d60_38 ?_
  refine own_iload (q := 12) A26 d60_10 rfl ?_
  refine own_iload (q := 14) A26 d60_12 rfl ?_
  refine own_icmpT (q := 41) A26 d60_14 (show ¬ (3 : Int32) < (3 : Int32) from by decide) ?_
  exact own_ret0 A26 hQ d60_41 ⟨rfl, K28, V22⟩
theorem rm_lf0 (t : Addr) (kt : ClassId) (N : Int32) (us : List Value) (b : Addr) (kb : ClassId) (vs : List Value) (d : Int32) (O0 : Old Z n0 h0) (H : own_H Z a0 zc fm) (Kt : Arv Z h0 t kt .byte N us (.int 0)) (bN : 0 ≤ N.toNatClampNeg) (Kb : Arv Z h0 b kb .byte 32 vs (.int 0)) (lw : vs.length = 32) (gb : n0 ≤ b) (ntb : t ≠ b) (g0 : ¬ ((((32 : Int32) >>> ((1 : Int32) &&& 31)) ||| d) ||| 0) < 0) (g1 : ¬ (((32 : Int32) >>> ((1 : Int32) &&& 31)) - d) < 0) :
  own_Met false l Z n0 [] [] ⟨"java/lang/StringLatin1", "inflate", "([BI[BII)V"⟩ jdk_43_method_50_code 5 none [] (own_R 4 0 0 60) #[(.ref t), (.int 0), (.ref b), (.int d), (.int 0)] h0 (fun v h => v = none ∧ Keep h0 h [b] ∧ Arv Z h b kb .byte 32 vs (.int 0)) := by
  refine own_ent (a0 := a0) (nm := "inflate") (Ls := #[.val (.ref t), .val (.int 0), .val (.ref b), .val (.int d), .val (.int 0)]) own_pn0 O0 EW.nil ?_
  intro p e _ m _ below _ _ T0 Q hQ A0
  refine own_aloadN (q := 1) A0 d59_0 rfl rfl ?_
  refine own_iloadN (q := 2) A0 d59_1 rfl ?_
  refine own_aloadN (q := 3) A0 d59_2 rfl rfl ?_
  refine own_iloadN (q := 4) A0 d59_3 rfl ?_
  refine own_iload (q := 6) A0 d59_4 rfl ?_
  refine own_static (q := 9) (W := 0) (argsL := [(.ref t), (.int 0), (.ref b), (.int d), (.int 0)]) (rest := []) A0 (H.k 288 rfl) (H.k 289 rfl) (H.k 242 rfl) (H.k 290 rfl) (by decide) (own_pay (rm_uf0 t kt N us b kb vs d  A0.old H Kt bN Kb lw gb ntb g0 g1  ) (H.k 290 rfl) (H.k 242 rfl) (by decide) (by decide)) own_nW (Nat.le_of_eq rfl) own_pd46 rfl rfl rfl d59_6 (by decide) (by decide) ?_
  rintro v2 T3 h4 A5 ⟨rfl, q1⟩
  show own_Run p e below Q m T3 9 #[.val (.ref t), .val (.int 0), .val (.ref b), .val (.int d), .val (.int 0)] []
  exact own_ret0 A5 hQ d59_9 ⟨rfl, q1⟩
theorem rm_lf1 (t : Addr) (kt : ClassId) (N : Int32) (us : List Value) (b : Addr) (kb : ClassId) (vs : List Value) (d : Int32) (j0 : Nat) (chx : Int32) (O0 : Old Z n0 h0) (H : own_H Z a0 zc fm) (Kt : Arv Z h0 t kt .byte N us (.int 0)) (bN : 1 ≤ N.toNatClampNeg) (Kb : Arv Z h0 b kb .byte 32 vs (.int 0)) (lw : vs.length = 32) (gb : n0 ≤ b) (ntb : t ≠ b) (g0 : ¬ ((((32 : Int32) >>> ((1 : Int32) &&& 31)) ||| d) ||| 1) < 0) (g1 : ¬ (((32 : Int32) >>> ((1 : Int32) &&& 31)) - d) < 1) (P0 : own_pi 32 d j0) (u0 : us.getD 0 (.int 0) = .int (StrChars.lo8 chx)) (hchx0 : ¬ chx < 0) (hchx1 : ¬ (255 : Int32) < chx) :
  own_Met false l Z n0 [] [] ⟨"java/lang/StringLatin1", "inflate", "([BI[BII)V"⟩ jdk_43_method_50_code 5 none [] (own_R 4 0 0 60) #[(.ref t), (.int 0), (.ref b), (.int d), (.int 1)] h0 (fun v h => v = none ∧ Keep h0 h [b] ∧ Arv Z h b kb .byte 32 ((vs.set j0 (.int (StrChars.lo8 chx))).set (j0 + 1) (.int (StrChars.hi8 chx))) (.int 0)) := by
  refine own_ent (a0 := a0) (nm := "inflate") (Ls := #[.val (.ref t), .val (.int 0), .val (.ref b), .val (.int d), .val (.int 1)]) own_pn0 O0 EW.nil ?_
  intro p e _ m _ below _ _ T0 Q hQ A0
  refine own_aloadN (q := 1) A0 d59_0 rfl rfl ?_
  refine own_iloadN (q := 2) A0 d59_1 rfl ?_
  refine own_aloadN (q := 3) A0 d59_2 rfl rfl ?_
  refine own_iloadN (q := 4) A0 d59_3 rfl ?_
  refine own_iload (q := 6) A0 d59_4 rfl ?_
  refine own_static (q := 9) (W := 0) (argsL := [(.ref t), (.int 0), (.ref b), (.int d), (.int 1)]) (rest := []) A0 (H.k 288 rfl) (H.k 289 rfl) (H.k 242 rfl) (H.k 290 rfl) (by decide) (own_pay (rm_uf1 t kt N us b kb vs d j0 chx A0.old H Kt bN Kb lw gb ntb g0 g1 P0 u0 hchx0 hchx1) (H.k 290 rfl) (H.k 242 rfl) (by decide) (by decide)) own_nW (Nat.le_of_eq rfl) own_pd46 rfl rfl rfl d59_6 (by decide) (by decide) ?_
  rintro v2 T3 h4 A5 ⟨rfl, q1⟩
  show own_Run p e below Q m T3 9 #[.val (.ref t), .val (.int 0), .val (.ref b), .val (.int d), .val (.int 1)] []
  exact own_ret0 A5 hQ d59_9 ⟨rfl, q1⟩
theorem rm_lf2 (t : Addr) (kt : ClassId) (N : Int32) (us : List Value) (b : Addr) (kb : ClassId) (vs : List Value) (d : Int32) (j0 j1 : Nat) (chx chy : Int32) (O0 : Old Z n0 h0) (H : own_H Z a0 zc fm) (Kt : Arv Z h0 t kt .byte N us (.int 0)) (bN : 2 ≤ N.toNatClampNeg) (Kb : Arv Z h0 b kb .byte 32 vs (.int 0)) (lw : vs.length = 32) (gb : n0 ≤ b) (ntb : t ≠ b) (g0 : ¬ ((((32 : Int32) >>> ((1 : Int32) &&& 31)) ||| d) ||| 2) < 0) (g1 : ¬ (((32 : Int32) >>> ((1 : Int32) &&& 31)) - d) < 2) (P0 : own_pi 32 d j0) (P1 : own_pi 32 (d + 1) j1) (u0 : us.getD 0 (.int 0) = .int (StrChars.lo8 chx)) (u1 : us.getD 1 (.int 0) = .int (StrChars.lo8 chy)) (hchx0 : ¬ chx < 0) (hchx1 : ¬ (255 : Int32) < chx) (hchy0 : ¬ chy < 0) (hchy1 : ¬ (255 : Int32) < chy) :
  own_Met false l Z n0 [] [] ⟨"java/lang/StringLatin1", "inflate", "([BI[BII)V"⟩ jdk_43_method_50_code 5 none [] (own_R 4 0 0 60) #[(.ref t), (.int 0), (.ref b), (.int d), (.int 2)] h0 (fun v h => v = none ∧ Keep h0 h [b] ∧ Arv Z h b kb .byte 32 ((((vs.set j0 (.int (StrChars.lo8 chx))).set (j0 + 1) (.int (StrChars.hi8 chx))).set j1 (.int (StrChars.lo8 chy))).set (j1 + 1) (.int (StrChars.hi8 chy))) (.int 0)) := by
  refine own_ent (a0 := a0) (nm := "inflate") (Ls := #[.val (.ref t), .val (.int 0), .val (.ref b), .val (.int d), .val (.int 2)]) own_pn0 O0 EW.nil ?_
  intro p e _ m _ below _ _ T0 Q hQ A0
  refine own_aloadN (q := 1) A0 d59_0 rfl rfl ?_
  refine own_iloadN (q := 2) A0 d59_1 rfl ?_
  refine own_aloadN (q := 3) A0 d59_2 rfl rfl ?_
  refine own_iloadN (q := 4) A0 d59_3 rfl ?_
  refine own_iload (q := 6) A0 d59_4 rfl ?_
  refine own_static (q := 9) (W := 0) (argsL := [(.ref t), (.int 0), (.ref b), (.int d), (.int 2)]) (rest := []) A0 (H.k 288 rfl) (H.k 289 rfl) (H.k 242 rfl) (H.k 290 rfl) (by decide) (own_pay (rm_uf2 t kt N us b kb vs d j0 j1 chx chy A0.old H Kt bN Kb lw gb ntb g0 g1 P0 P1 u0 u1 hchx0 hchx1 hchy0 hchy1) (H.k 290 rfl) (H.k 242 rfl) (by decide) (by decide)) own_nW (Nat.le_of_eq rfl) own_pd46 rfl rfl rfl d59_6 (by decide) (by decide) ?_
  rintro v2 T3 h4 A5 ⟨rfl, q1⟩
  show own_Run p e below Q m T3 9 #[.val (.ref t), .val (.int 0), .val (.ref b), .val (.int d), .val (.int 2)] []
  exact own_ret0 A5 hQ d59_9 ⟨rfl, q1⟩
theorem rm_lf3 (t : Addr) (kt : ClassId) (N : Int32) (us : List Value) (b : Addr) (kb : ClassId) (vs : List Value) (d : Int32) (j0 j1 j2 : Nat) (chx chy chz : Int32) (O0 : Old Z n0 h0) (H : own_H Z a0 zc fm) (Kt : Arv Z h0 t kt .byte N us (.int 0)) (bN : 3 ≤ N.toNatClampNeg) (Kb : Arv Z h0 b kb .byte 32 vs (.int 0)) (lw : vs.length = 32) (gb : n0 ≤ b) (ntb : t ≠ b) (g0 : ¬ ((((32 : Int32) >>> ((1 : Int32) &&& 31)) ||| d) ||| 3) < 0) (g1 : ¬ (((32 : Int32) >>> ((1 : Int32) &&& 31)) - d) < 3) (P0 : own_pi 32 d j0) (P1 : own_pi 32 (d + 1) j1) (P2 : own_pi 32 ((d + 1) + 1) j2) (u0 : us.getD 0 (.int 0) = .int (StrChars.lo8 chx)) (u1 : us.getD 1 (.int 0) = .int (StrChars.lo8 chy)) (u2 : us.getD 2 (.int 0) = .int (StrChars.lo8 chz)) (hchx0 : ¬ chx < 0) (hchx1 : ¬ (255 : Int32) < chx) (hchy0 : ¬ chy < 0) (hchy1 : ¬ (255 : Int32) < chy) (hchz0 : ¬ chz < 0) (hchz1 : ¬ (255 : Int32) < chz) :
  own_Met false l Z n0 [] [] ⟨"java/lang/StringLatin1", "inflate", "([BI[BII)V"⟩ jdk_43_method_50_code 5 none [] (own_R 4 0 0 60) #[(.ref t), (.int 0), (.ref b), (.int d), (.int 3)] h0 (fun v h => v = none ∧ Keep h0 h [b] ∧ Arv Z h b kb .byte 32 ((((((vs.set j0 (.int (StrChars.lo8 chx))).set (j0 + 1) (.int (StrChars.hi8 chx))).set j1 (.int (StrChars.lo8 chy))).set (j1 + 1) (.int (StrChars.hi8 chy))).set j2 (.int (StrChars.lo8 chz))).set (j2 + 1) (.int (StrChars.hi8 chz))) (.int 0)) := by
  refine own_ent (a0 := a0) (nm := "inflate") (Ls := #[.val (.ref t), .val (.int 0), .val (.ref b), .val (.int d), .val (.int 3)]) own_pn0 O0 EW.nil ?_
  intro p e _ m _ below _ _ T0 Q hQ A0
  refine own_aloadN (q := 1) A0 d59_0 rfl rfl ?_
  refine own_iloadN (q := 2) A0 d59_1 rfl ?_
  refine own_aloadN (q := 3) A0 d59_2 rfl rfl ?_
  refine own_iloadN (q := 4) A0 d59_3 rfl ?_
  refine own_iload (q := 6) A0 d59_4 rfl ?_
  refine own_static (q := 9) (W := 0) (argsL := [(.ref t), (.int 0), (.ref b), (.int d), (.int 3)]) (rest := []) A0 (H.k 288 rfl) (H.k 289 rfl) (H.k 242 rfl) (H.k 290 rfl) (by decide) (own_pay (rm_uf3 t kt N us b kb vs d j0 j1 j2 chx chy chz A0.old H Kt bN Kb lw gb ntb g0 g1 P0 P1 P2 u0 u1 u2 hchx0 hchx1 hchy0 hchy1 hchz0 hchz1) (H.k 290 rfl) (H.k 242 rfl) (by decide) (by decide)) own_nW (Nat.le_of_eq rfl) own_pd46 rfl rfl rfl d59_6 (by decide) (by decide) ?_
  rintro v2 T3 h4 A5 ⟨rfl, q1⟩
  show own_Run p e below Q m T3 9 #[.val (.ref t), .val (.int 0), .val (.ref b), .val (.int d), .val (.int 3)] []
  exact own_ret0 A5 hQ d59_9 ⟨rfl, q1⟩
-- part c
theorem d5_0 : decode jdk_68_method_2_code 0 = .ok (.aload_n 0, 1) := by decide +kernel
theorem d5_1 : decode jdk_68_method_2_code 1 = .ok (.invokespecial 3, 3) := by decide +kernel
theorem d5_4 : decode jdk_68_method_2_code 4 = .ok (.getstatic 18, 3) := by decide +kernel
theorem d5_7 : decode jdk_68_method_2_code 7 = .ok (.ifCond .eq 18, 3) := by decide +kernel
theorem d5_10 : decode jdk_68_method_2_code 10 = .ok (.aload_n 0, 1) := by decide +kernel
theorem d5_11 : decode jdk_68_method_2_code 11 = .ok (.iload_n 1, 1) := by decide +kernel
theorem d5_12 : decode jdk_68_method_2_code 12 = .ok (.newarray .byte, 2) := by decide +kernel
theorem d5_14 : decode jdk_68_method_2_code 14 = .ok (.putfield 15, 3) := by decide +kernel
theorem d5_17 : decode jdk_68_method_2_code 17 = .ok (.aload_n 0, 1) := by decide +kernel
theorem d5_18 : decode jdk_68_method_2_code 18 = .ok (.iconst 0, 1) := by decide +kernel
theorem d5_19 : decode jdk_68_method_2_code 19 = .ok (.putfield 22, 3) := by decide +kernel
theorem d5_22 : decode jdk_68_method_2_code 22 = .ok (.goto 16, 3) := by decide +kernel
theorem d5_38 : decode jdk_68_method_2_code 38 = .ok (.return_, 1) := by decide +kernel
theorem rm_abi (sb : Addr) (O0 : Old Z n0 h0) (H : own_H Z a0 zc fm) (Eb : Exa Z h0 sb "java/lang/StringBuilder") (Fv : Fld Z h0 sb "java/lang/AbstractStringBuilder" "value" "[B" .null) (Fc : Fld Z h0 sb "java/lang/AbstractStringBuilder" "coder" "B" (.int 0)) (Fn : Fld Z h0 sb "java/lang/AbstractStringBuilder" "count" "I" (.int 0)) (Fm : Fld Z h0 sb "java/lang/AbstractStringBuilder" "maybeLatin1" "Z" (.int 0)) (gb : n0 ≤ sb) :
  own_Met false l Z n0 [] [] ⟨"java/lang/AbstractStringBuilder", "<init>", "(I)V"⟩ jdk_68_method_2_code 2 none [] (own_R 1 1 16 12) #[(.ref sb), (.int 16)] h0 (fun v h => v = none ∧ Keep h0 h [sb] ∧ ∃ (va : Addr) (kv : ClassId), h0.size ≤ va ∧ own_B Z h n0 sb va kv 0 16 0 (own_bL [])) := by
  refine own_ent (a0 := a0) (nm := "<init>") (Ls := #[.val (.ref sb), .val (.int 16)]) own_pn4 O0 EW.nil ?_
  intro p e _ m _ below _ _ T0 Q hQ A0
  refine own_aloadN (q := 1) A0 d5_0 rfl rfl ?_
  refine own_initO (q := 4) (W := 0) A0 (H.k 33 rfl) (H.k 34 rfl) (H.k 35 rfl) d5_1 rfl (by decide) (Nat.le_of_eq rfl) (by decide) ?_
  intro T1 A2
  refine own_getS (q := 7) A2 (H.k 36 rfl) Via.refl H.SC d5_4 ?_
  intro T3 A4
  refine own_ifcF (q := 10) A4 d5_7 (show ¬ zc = (0 : Int32) from H.hz) ?_
  refine own_aloadN (q := 11) A4 d5_10 rfl rfl ?_
  refine own_iloadN (q := 12) A4 d5_11 rfl ?_
  refine own_newPv (q := 14) (ty := .byte) (dv := .int 0) A4 rfl rfl (H.k 12 rfl) d5_12 16 (by decide) (by decide) (by decide) (by decide) (by decide) ?_
  intro T5 h6 a7 k8 g9 g10 A11 E12 X13
  have z14 : sb ≠ a7 := Nat.ne_of_lt (Nat.lt_of_lt_of_le Eb.lt (Nat.le_of_eq g9))
  have K15 := (Keep.refl h0 [sb]).ext E12
  have f16 := Eb.ext E12
  have f17 := Fv.ext E12
  have f18 := Fc.ext E12
  have f19 := Fn.ext E12
  have f20 := Fm.ext E12
  have f21 : Arv Z h6 a7 k8 .byte (16 : Int32) [(.int 0), (.int 0), (.int 0), (.int 0), (.int 0), (.int 0), (.int 0), (.int 0), (.int 0), (.int 0), (.int 0), (.int 0), (.int 0), (.int 0), (.int 0), (.int 0)] (.int 0) := X13
  refine own_putF (host := "") (q := 17) A11 (Or.inl (H.k 37 rfl)) Via.refl f17 f16 (Or.inl (H.k 38 rfl)) (H.k 22 rfl) (ty := (.array .byte)) (by decide) rfl rfl gb (Or.inr (Or.inl rfl)) d5_14 ?_
  intro T22 h23 A24 W25
  have K26 := K15.wr W25 (Or.inl (by simp))
  have f27 := f16.wr W25
  have f28 := f17.same W25
  have f29 := f18.other W25 (Or.inr (slot_ne (Or.inl (H.k 40 rfl)) (Or.inl (H.k 38 rfl)) (by decide) (by decide : parseFieldDescriptor "B" = some .byte) (by decide : parseFieldDescriptor "[B" = some (.array .byte))))
  have f30 := f19.other W25 (Or.inr (slot_ne (Or.inl (H.k 65 rfl)) (Or.inl (H.k 38 rfl)) (by decide) (by decide : parseFieldDescriptor "I" = some .int) (by decide : parseFieldDescriptor "[B" = some (.array .byte))))
  have f31 := f20.other W25 (Or.inr (slot_ne (Or.inl (H.k 317 rfl)) (Or.inl (H.k 38 rfl)) (by decide) (by decide : parseFieldDescriptor "Z" = some .boolean) (by decide : parseFieldDescriptor "[B" = some (.array .byte))))
  have f32 := f21.other W25 (Ne.symm z14)
  refine own_aloadN (q := 18) A24 d5_17 rfl rfl ?_
  refine own_iconst (q := 19) A24 (0 : Int32) d5_18 rfl ?_
  refine own_putF (host := "") (q := 22) A24 (Or.inl (H.k 39 rfl)) Via.refl f29 f27 (Or.inl (H.k 40 rfl)) (H.k 22 rfl) (ty := .byte) (by decide) rfl rfl gb (Or.inr (Or.inl rfl)) d5_19 ?_
  intro T33 h34 A35 W36
  have K37 := K26.wr W36 (Or.inl (by simp))
  have f38 := f27.wr W36
  have f39 := f28.other W36 (Or.inr (slot_ne (Or.inl (H.k 38 rfl)) (Or.inl (H.k 40 rfl)) (by decide) (by decide : parseFieldDescriptor "[B" = some (.array .byte)) (by decide : parseFieldDescriptor "B" = some .byte)))
  have f40 := f29.same W36
  have f41 := f30.other W36 (Or.inr (slot_ne (Or.inl (H.k 65 rfl)) (Or.inl (H.k 40 rfl)) (by decide) (by decide : parseFieldDescriptor "I" = some .int) (by decide : parseFieldDescriptor "B" = some .byte)))
  have f42 := f31.other W36 (Or.inr (slot_ne (Or.inl (H.k 317 rfl)) (Or.inl (H.k 40 rfl)) (by decide) (by decide : parseFieldDescriptor "Z" = some .boolean) (by decide : parseFieldDescriptor "B" = some .byte)))
  have f43 := f32.other W36 (Ne.symm z14)
  refine own_goto (q := 38) A35 d5_22 ?_
  exact own_ret0 A35 hQ d5_38 ⟨rfl, K37, a7, _, (Nat.le_trans (Keep.refl h0 [sb]).1 (Nat.le_of_eq g9)), (own_B_mk f38 f39 f40 f41 f42 f43 gb g10 z14)⟩
theorem d4_0 : decode jdk_67_method_1_code 0 = .ok (.aload_n 0, 1) := by decide +kernel
theorem d4_1 : decode jdk_67_method_1_code 1 = .ok (.bipush 16, 2) := by decide +kernel
theorem d4_3 : decode jdk_67_method_1_code 3 = .ok (.invokespecial 1, 3) := by decide +kernel
theorem d4_6 : decode jdk_67_method_1_code 6 = .ok (.return_, 1) := by decide +kernel
theorem own_pn6 : plainName "java/lang/StringBuilder" = true := by first | (simp [plainName, overriddenIn]; done) | decide +kernel
theorem rm_sbi (sb : Addr) (O0 : Old Z n0 h0) (H : own_H Z a0 zc fm) (Eb : Exa Z h0 sb "java/lang/StringBuilder") (Fv : Fld Z h0 sb "java/lang/AbstractStringBuilder" "value" "[B" .null) (Fc : Fld Z h0 sb "java/lang/AbstractStringBuilder" "coder" "B" (.int 0)) (Fn : Fld Z h0 sb "java/lang/AbstractStringBuilder" "count" "I" (.int 0)) (Fm : Fld Z h0 sb "java/lang/AbstractStringBuilder" "maybeLatin1" "Z" (.int 0)) (gb : n0 ≤ sb) :
  own_Met false l Z n0 [] [] ⟨"java/lang/StringBuilder", "<init>", "()V"⟩ jdk_67_method_1_code 1 none [] (own_R 2 1 16 25) #[(.ref sb)] h0 (fun v h => v = none ∧ Keep h0 h [sb] ∧ ∃ (va : Addr) (kv : ClassId), h0.size ≤ va ∧ own_B Z h n0 sb va kv 0 16 0 (own_bL [])) := by
  refine own_ent (a0 := a0) (nm := "<init>") (Ls := #[.val (.ref sb)]) own_pn6 O0 EW.nil ?_
  intro p e _ m _ below _ _ T0 Q hQ A0
  refine own_aloadN (q := 1) A0 d4_0 rfl rfl ?_
  refine own_bipush (q := 3) A0 (16 : Int32) d4_1 rfl ?_
  refine own_special (q := 6) (W := 0) (argsL := [(.int 16)]) (rest := []) A0 rfl (H.k 27 rfl) (H.k 28 rfl) (H.k 32 rfl) (by decide) (own_pay (rm_abi sb A0.old H Eb Fv Fc Fn Fm gb) (H.k 32 rfl) (H.k 31 rfl) (by decide) (by decide)) own_nW (Nat.le_of_eq rfl) own_pd5 rfl rfl rfl d4_3 (by decide) (by decide) ?_
  rintro v2 T3 h4 A5 ⟨rfl, q1⟩
  show own_Run p e below Q m T3 6 #[.val (.ref sb)] []
  exact own_ret0 A5 hQ d4_6 ⟨rfl, q1⟩
theorem d11_0 : decode jdk_68_method_9_code 0 = .ok (.aload_n 0, 1) := by decide +kernel
theorem d11_1 : decode jdk_68_method_9_code 1 = .ok (.getfield 15, 3) := by decide +kernel
theorem d11_4 : decode jdk_68_method_9_code 4 = .ok (.arraylength, 1) := by decide +kernel
theorem d11_5 : decode jdk_68_method_9_code 5 = .ok (.aload_n 0, 1) := by decide +kernel
theorem d11_6 : decode jdk_68_method_9_code 6 = .ok (.getfield 22, 3) := by decide +kernel
theorem d11_9 : decode jdk_68_method_9_code 9 = .ok (.ishr, 1) := by decide +kernel
theorem d11_10 : decode jdk_68_method_9_code 10 = .ok (.istore_n 2, 1) := by decide +kernel
theorem d11_11 : decode jdk_68_method_9_code 11 = .ok (.iload_n 1, 1) := by decide +kernel
theorem d11_12 : decode jdk_68_method_9_code 12 = .ok (.iload_n 2, 1) := by decide +kernel
theorem d11_13 : decode jdk_68_method_9_code 13 = .ok (.isub, 1) := by decide +kernel
theorem d11_14 : decode jdk_68_method_9_code 14 = .ok (.ifCond .le 24, 3) := by decide +kernel
theorem d11_38 : decode jdk_68_method_9_code 38 = .ok (.return_, 1) := by decide +kernel
theorem rm_ens (sb va : Addr) (kv : ClassId) (cd S n : Int32) (vs : List Value) (c : Int32) (O0 : Old Z n0 h0) (H : own_H Z a0 zc fm) (B : own_B Z h0 n0 sb va kv cd S n vs) (hc : ¬ (0 : Int32) < c - (S >>> (cd &&& 31))) :
  own_Met false l Z n0 [] [] ⟨"java/lang/AbstractStringBuilder", "ensureCapacityInternal", "(I)V"⟩ jdk_68_method_9_code 3 none [] (own_R 0 0 0 0) #[(.ref sb), (.int c)] h0 (fun v h => v = none ∧ h0 = h) := by
  refine own_ent (a0 := a0) (nm := "ensureCapacityInternal") (Ls := #[.val (.ref sb), .val (.int c), .unset]) own_pn4 O0 EW.nil ?_
  intro p e _ m _ below _ _ T0 Q hQ A0
  refine own_aloadN (q := 1) A0 d11_0 rfl rfl ?_
  refine own_getF (host := "") (q := 4) A0 (Or.inl (H.k 37 rfl)) Via.refl B.V d11_1 ?_
  intro T1 A2
  refine own_arrlenv (q := 5) A2 B.K d11_4 ?_
  refine own_aloadN (q := 6) A2 d11_5 rfl rfl ?_
  refine own_getF (host := "") (q := 9) A2 (Or.inl (H.k 39 rfl)) Via.refl B.C d11_6 ?_
  intro T3 A4
  refine own_ishr (q := 10) A4 d11_9 ?_
  refine own_istoreN (q := 11) (L' := #[.val (.ref sb), .val (.int c), .val (.int ((S >>> (cd &&& 31))))]) A4 d11_10 rfl ?_
  refine own_iloadN (q := 12) A4 d11_11 rfl ?_
  refine own_iloadN (q := 13) A4 d11_12 rfl ?_
  refine own_isub (q := 14) A4 d11_13 ?_
  refine own_ifcT (q := 38) A4 d11_14 (show ¬ (0 : Int32) < (c - ((S >>> (cd &&& 31)))) from hc) ?_
  exact own_ret0 A4 hQ d11_38 ⟨rfl, rfl⟩
def own_apf (cd S n kb k : Int32) (us vs : List Value) : Prop := (¬ n <<< (cd &&& 31) < 0) ∧ (¬ kb < 0) ∧ (kb >>> (cd &&& 31) = k) ∧ ((n <<< (cd &&& 31)).toNatClampNeg + kb.toNatClampNeg ≤ S.toNatClampNeg) ∧ ((n <<< (cd &&& 31)).toNatClampNeg + kb.toNatClampNeg ≤ vs.length) ∧ (us = (List.range kb.toNatClampNeg).map fun i => us.getD ((0 : Int32).toNatClampNeg + i) (.int 0)) ∧ (¬ (0 : Int32) < (n + k) - (S >>> (cd &&& 31))) ∧ (cd = 0 ∨ cd = 1)
theorem own_apf.nn {cd S n kb k : Int32} {us vs : List Value} (P : own_apf cd S n kb k us vs) : ¬ n <<< (cd &&& 31) < 0 := P.1
theorem own_apf.k0 {cd S n kb k : Int32} {us vs : List Value} (P : own_apf cd S n kb k us vs) : ¬ kb < 0 := P.2.1
theorem own_apf.kr {cd S n kb k : Int32} {us vs : List Value} (P : own_apf cd S n kb k us vs) : kb >>> (cd &&& 31) = k := P.2.2.1
theorem own_apf.le {cd S n kb k : Int32} {us vs : List Value} (P : own_apf cd S n kb k us vs) : (n <<< (cd &&& 31)).toNatClampNeg + kb.toNatClampNeg ≤ S.toNatClampNeg := P.2.2.2.1
theorem own_apf.lv {cd S n kb k : Int32} {us vs : List Value} (P : own_apf cd S n kb k us vs) : (n <<< (cd &&& 31)).toNatClampNeg + kb.toNatClampNeg ≤ vs.length := P.2.2.2.2.1
theorem own_apf.us {cd S n kb k : Int32} {us vs : List Value} (P : own_apf cd S n kb k us vs) : us = (List.range kb.toNatClampNeg).map fun i => us.getD ((0 : Int32).toNatClampNeg + i) (.int 0) := P.2.2.2.2.2.1
theorem own_apf.cap {cd S n kb k : Int32} {us vs : List Value} (P : own_apf cd S n kb k us vs) : ¬ (0 : Int32) < (n + k) - (S >>> (cd &&& 31)) := P.2.2.2.2.2.2.1
theorem own_apf.cd {cd S n kb k : Int32} {us vs : List Value} (P : own_apf cd S n kb k us vs) : cd = 0 ∨ cd = 1 := P.2.2.2.2.2.2.2
theorem own_apf_D {cd S n kb k : Int32} {us vs : List Value} (h4 : (n <<< (cd &&& 31)).toNatClampNeg + kb.toNatClampNeg ≤ vs.length) (h5 : us = (List.range kb.toNatClampNeg).map fun i => us.getD ((0 : Int32).toNatClampNeg + i) (.int 0)) (h0 : ¬ n <<< (cd &&& 31) < 0 := by decide) (h1 : ¬ kb < 0 := by decide) (h2 : kb >>> (cd &&& 31) = k := by decide) (h3 : (n <<< (cd &&& 31)).toNatClampNeg + kb.toNatClampNeg ≤ S.toNatClampNeg := by decide) (h6 : ¬ (0 : Int32) < (n + k) - (S >>> (cd &&& 31)) := by decide) (h7 : cd = 0 ∨ cd = 1 := by decide) : own_apf cd S n kb k us vs := ⟨h0, h1, h2, h3, h4, h5, h6, h7⟩
def own_spl (i kb : Int32) (us vs : List Value) : List Value := vs.take i.toNatClampNeg ++ us ++ vs.drop (i.toNatClampNeg + kb.toNatClampNeg)
theorem d13_0 : decode jdk_68_method_71_code 0 = .ok (.getstatic 18, 3) := by decide +kernel
theorem d13_3 : decode jdk_68_method_71_code 3 = .ok (.ifCond .eq 18, 3) := by decide +kernel
theorem d13_6 : decode jdk_68_method_71_code 6 = .ok (.aload_n 0, 1) := by decide +kernel
theorem d13_7 : decode jdk_68_method_71_code 7 = .ok (.getfield 22, 3) := by decide +kernel
theorem d13_10 : decode jdk_68_method_71_code 10 = .ok (.aload_n 1, 1) := by decide +kernel
theorem d13_11 : decode jdk_68_method_71_code 11 = .ok (.invokevirtual 40, 3) := by decide +kernel
theorem d13_14 : decode jdk_68_method_71_code 14 = .ok (.if_icmp .eq 7, 3) := by decide +kernel
theorem d13_17 : decode jdk_68_method_71_code 17 = .ok (.aload_n 0, 1) := by decide +kernel
theorem d13_18 : decode jdk_68_method_71_code 18 = .ok (.invokevirtual 195, 3) := by decide +kernel
theorem d13_21 : decode jdk_68_method_71_code 21 = .ok (.return_, 1) := by decide +kernel
theorem rm_ifS (sb va : Addr) (kv : ClassId) (cd S n : Int32) (vs : List Value) (x t : Addr) (kt : ClassId) (kb k : Int32) (us : List Value) (O0 : Old Z n0 h0) (H : own_H Z a0 zc fm) (B : own_B Z h0 n0 sb va kv cd S n vs) (X : own_X Z h0 x t kt cd kb us) (P : own_apf cd S n kb k us vs) :
  own_Met false l Z n0 [] [] ⟨"java/lang/AbstractStringBuilder", "inflateIfNeededFor", "(Ljava/lang/String;)V"⟩ jdk_68_method_71_code 2 none [] (own_R 1 0 0 13) #[(.ref sb), (.ref x)] h0 (fun v h => v = none ∧ h0 = h) := by
  refine own_ent (a0 := a0) (nm := "inflateIfNeededFor") (Ls := #[.val (.ref sb), .val (.ref x)]) own_pn4 O0 EW.nil ?_
  intro p e _ m _ below _ _ T0 Q hQ A0
  refine own_getS (q := 3) A0 (H.k 36 rfl) Via.refl H.SC d13_0 ?_
  intro T1 A2
  refine own_ifcF (q := 6) A2 d13_3 (show ¬ zc = (0 : Int32) from H.hz) ?_
  refine own_aloadN (q := 7) A2 d13_6 rfl rfl ?_
  refine own_getF (host := "") (q := 10) A2 (Or.inl (H.k 39 rfl)) Via.refl B.C d13_7 ?_
  intro T3 A4
  refine own_aloadN (q := 11) A4 d13_10 rfl rfl ?_
  refine own_virtual (q := 14) (W := 1) (argsL := []) (rest := [(.int cd)]) A4 (H.k 81 rfl) (H.k 58 rfl) (H.k 60 rfl) (H.k 59 rfl) (by decide) (own_pay (rm_cod x cd A4.old H X.C P.cd) (H.k 61 rfl) (H.k 10 rfl) (by decide) (by decide)) own_nW (Nat.le_of_eq rfl) X.E own_pd9 rfl rfl rfl d13_11 (by decide) (by decide) ?_
  rintro v5 T6 h7 A8 ⟨rfl, rfl⟩
  show own_Run p e below Q m T6 14 #[.val (.ref sb), .val (.ref x)] [(.int cd), (.int cd)]
  refine own_icmpT (q := 21) A8 d13_14 (show cd = cd from rfl) ?_
  exact own_ret0 A8 hQ d13_21 ⟨rfl, rfl⟩
theorem d14_0 : decode jdk_42_method_147_code 0 = .ok (.aload_n 0, 1) := by decide +kernel
theorem d14_1 : decode jdk_42_method_147_code 1 = .ok (.invokevirtual 335, 3) := by decide +kernel
theorem d14_4 : decode jdk_42_method_147_code 4 = .ok (.iload_n 3, 1) := by decide +kernel
theorem d14_5 : decode jdk_42_method_147_code 5 = .ok (.if_icmp .ne 23, 3) := by decide +kernel
theorem d14_8 : decode jdk_42_method_147_code 8 = .ok (.aload_n 0, 1) := by decide +kernel
theorem d14_9 : decode jdk_42_method_147_code 9 = .ok (.getfield 9, 3) := by decide +kernel
theorem d14_12 : decode jdk_42_method_147_code 12 = .ok (.iconst 0, 1) := by decide +kernel
theorem d14_13 : decode jdk_42_method_147_code 13 = .ok (.aload_n 1, 1) := by decide +kernel
theorem d14_14 : decode jdk_42_method_147_code 14 = .ok (.iload_n 2, 1) := by decide +kernel
theorem d14_15 : decode jdk_42_method_147_code 15 = .ok (.iload_n 3, 1) := by decide +kernel
theorem d14_16 : decode jdk_42_method_147_code 16 = .ok (.ishl, 1) := by decide +kernel
theorem d14_17 : decode jdk_42_method_147_code 17 = .ok (.aload_n 0, 1) := by decide +kernel
theorem d14_18 : decode jdk_42_method_147_code 18 = .ok (.getfield 9, 3) := by decide +kernel
theorem d14_21 : decode jdk_42_method_147_code 21 = .ok (.arraylength, 1) := by decide +kernel
theorem d14_22 : decode jdk_42_method_147_code 22 = .ok (.invokestatic 212, 3) := by decide +kernel
theorem d14_25 : decode jdk_42_method_147_code 25 = .ok (.goto 18, 3) := by decide +kernel
theorem d14_28 : decode jdk_42_method_147_code 28 = .ok (.aload_n 0, 1) := by decide +kernel
theorem d14_29 : decode jdk_42_method_147_code 29 = .ok (.getfield 9, 3) := by decide +kernel
theorem d14_32 : decode jdk_42_method_147_code 32 = .ok (.iconst 0, 1) := by decide +kernel
theorem d14_33 : decode jdk_42_method_147_code 33 = .ok (.aload_n 1, 1) := by decide +kernel
theorem d14_34 : decode jdk_42_method_147_code 34 = .ok (.iload_n 2, 1) := by decide +kernel
theorem d14_35 : decode jdk_42_method_147_code 35 = .ok (.aload_n 0, 1) := by decide +kernel
theorem d14_36 : decode jdk_42_method_147_code 36 = .ok (.getfield 9, 3) := by decide +kernel
theorem d14_39 : decode jdk_42_method_147_code 39 = .ok (.arraylength, 1) := by decide +kernel
theorem d14_40 : decode jdk_42_method_147_code 40 = .ok (.invokestatic 106, 3) := by decide +kernel
theorem d14_43 : decode jdk_42_method_147_code 43 = .ok (.return_, 1) := by decide +kernel
theorem rm_gbS (x t : Addr) (kt : ClassId) (cd kb k : Int32) (us : List Value) (va : Addr) (kv : ClassId) (S n : Int32) (vs : List Value) (O0 : Old Z n0 h0) (H : own_H Z a0 zc fm) (X : own_X Z h0 x t kt cd kb us) (Kv : Arv Z h0 va kv .byte S vs (.int 0)) (gv : n0 ≤ va) (P : own_apf cd S n kb k us vs) :
  own_Met false l Z n0 [] [] ⟨"java/lang/String", "getBytes", "([BIB)V"⟩ jdk_42_method_147_code 4 none [] (own_R 1 0 0 18) #[(.ref x), (.ref va), (.int n), (.int cd)] h0 (fun v h => v = none ∧ Keep h0 h [va] ∧ Arv Z h va kv .byte S (own_spl (n <<< (cd &&& 31)) kb us vs) (.int 0)) := by
  refine own_ent (a0 := a0) (nm := "getBytes") (Ls := #[.val (.ref x), .val (.ref va), .val (.int n), .val (.int cd)]) own_pn2 O0 EW.nil ?_
  intro p e _ m _ below _ _ T0 Q hQ A0
  refine own_aloadN (q := 1) A0 d14_0 rfl rfl ?_
  refine own_virtual (q := 4) (W := 0) (argsL := []) (rest := []) A0 (H.k 57 rfl) (H.k 58 rfl) (H.k 60 rfl) (H.k 59 rfl) (by decide) (own_pay (rm_cod x cd A0.old H X.C P.cd) (H.k 61 rfl) (H.k 10 rfl) (by decide) (by decide)) own_nW (Nat.le_of_eq rfl) X.E own_pd9 rfl rfl rfl d14_1 (by decide) (by decide) ?_
  rintro v1 T2 h3 A4 ⟨rfl, rfl⟩
  show own_Run p e below Q m T2 4 #[.val (.ref x), .val (.ref va), .val (.int n), .val (.int cd)] [(.int cd)]
  refine own_iloadN (q := 5) A4 d14_4 rfl ?_
  refine own_icmpF (q := 8) A4 d14_5 (show cd = cd from rfl) ?_
  refine own_aloadN (q := 9) A4 d14_8 rfl rfl ?_
  refine own_getF (host := "") (q := 12) A4 (Or.inl (H.k 56 rfl)) Via.refl X.V d14_9 ?_
  intro T5 A6
  refine own_iconst (q := 13) A6 (0 : Int32) d14_12 rfl ?_
  refine own_aloadN (q := 14) A6 d14_13 rfl rfl ?_
  refine own_iloadN (q := 15) A6 d14_14 rfl ?_
  refine own_iloadN (q := 16) A6 d14_15 rfl ?_
  refine own_ishl (q := 17) A6 d14_16 ?_
  refine own_aloadN (q := 18) A6 d14_17 rfl rfl ?_
  refine own_getF (host := "") (q := 21) A6 (Or.inl (H.k 56 rfl)) Via.refl X.V d14_18 ?_
  intro T7 A8
  refine own_arrlenv (q := 22) A8 X.K d14_21 ?_
  refine own_acopy (q := 25) (W := 0) A8 (H.k 87 rfl) (H.k 90 rfl) (H.k 88 rfl) (H.k 89 rfl) X.K Kv rfl (by decide) P.nn P.k0 (by rw [show (0 : Int32).toNatClampNeg = 0 from rfl, Nat.zero_add]; exact Nat.le_refl _) P.le P.us P.lv gv (Or.inr (Or.inl rfl)) rfl d14_22 (by decide) (Nat.le_of_eq rfl) (by decide) ?_
  intro T9 h10 A11 K12 V13
  refine own_goto (q := 43) A11 d14_25 ?_
  exact own_ret0 A11 hQ d14_43 ⟨rfl, K12, V13⟩
theorem d12_0 : decode jdk_68_method_73_code 0 = .ok (.aload_n 0, 1) := by decide +kernel
theorem d12_1 : decode jdk_68_method_73_code 1 = .ok (.aload_n 2, 1) := by decide +kernel
theorem d12_2 : decode jdk_68_method_73_code 2 = .ok (.invokevirtual 397, 3) := by decide +kernel
theorem d12_5 : decode jdk_68_method_73_code 5 = .ok (.aload_n 2, 1) := by decide +kernel
theorem d12_6 : decode jdk_68_method_73_code 6 = .ok (.aload_n 0, 1) := by decide +kernel
theorem d12_7 : decode jdk_68_method_73_code 7 = .ok (.getfield 15, 3) := by decide +kernel
theorem d12_10 : decode jdk_68_method_73_code 10 = .ok (.iload_n 1, 1) := by decide +kernel
theorem d12_11 : decode jdk_68_method_73_code 11 = .ok (.aload_n 0, 1) := by decide +kernel
theorem d12_12 : decode jdk_68_method_73_code 12 = .ok (.getfield 22, 3) := by decide +kernel
theorem d12_15 : decode jdk_68_method_73_code 15 = .ok (.invokevirtual 399, 3) := by decide +kernel
theorem d12_18 : decode jdk_68_method_73_code 18 = .ok (.return_, 1) := by decide +kernel
theorem rm_psS (sb va : Addr) (kv : ClassId) (cd S n : Int32) (vs : List Value) (x t : Addr) (kt : ClassId) (kb k : Int32) (us : List Value) (O0 : Old Z n0 h0) (H : own_H Z a0 zc fm) (B : own_B Z h0 n0 sb va kv cd S n vs) (X : own_X Z h0 x t kt cd kb us) (P : own_apf cd S n kb k us vs) :
  own_Met false l Z n0 [] [] ⟨"java/lang/AbstractStringBuilder", "putStringAt", "(ILjava/lang/String;)V"⟩ jdk_68_method_73_code 3 none [] (own_R 2 0 0 33) #[(.ref sb), (.int n), (.ref x)] h0 (fun v h => v = none ∧ Keep h0 h [va] ∧ Arv Z h va kv .byte S (own_spl (n <<< (cd &&& 31)) kb us vs) (.int 0)) := by
  refine own_ent (a0 := a0) (nm := "putStringAt") (Ls := #[.val (.ref sb), .val (.int n), .val (.ref x)]) own_pn4 O0 EW.nil ?_
  intro p e _ m _ below _ _ T0 Q hQ A0
  refine own_aloadN (q := 1) A0 d12_0 rfl rfl ?_
  refine own_aloadN (q := 2) A0 d12_1 rfl rfl ?_
  refine own_private (q := 5) (W := 0) (argsL := [(.ref x)]) (rest := []) A0 (H.k 76 rfl) (H.k 77 rfl) (H.k 79 rfl) (H.k 78 rfl) (H.k 80 rfl) (by decide) (own_pay (rm_ifS sb va kv cd S n vs x t kt kb k us A0.old H B X P) (H.k 80 rfl) (H.k 31 rfl) (by decide) (by decide)) own_nW (Nat.le_of_eq rfl) B.E own_pd11 rfl rfl rfl d12_2 (by decide) (by decide) ?_
  rintro v1 T2 h3 A4 ⟨rfl, rfl⟩
  show own_Run p e below Q m T2 5 #[.val (.ref sb), .val (.int n), .val (.ref x)] []
  refine own_aloadN (q := 6) A4 d12_5 rfl rfl ?_
  refine own_aloadN (q := 7) A4 d12_6 rfl rfl ?_
  refine own_getF (host := "") (q := 10) A4 (Or.inl (H.k 37 rfl)) Via.refl B.V d12_7 ?_
  intro T5 A6
  refine own_iloadN (q := 11) A6 d12_10 rfl ?_
  refine own_aloadN (q := 12) A6 d12_11 rfl rfl ?_
  refine own_getF (host := "") (q := 15) A6 (Or.inl (H.k 39 rfl)) Via.refl B.C d12_12 ?_
  intro T7 A8
  refine own_virtual (q := 18) (W := 0) (argsL := [(.ref va), (.int n), (.int cd)]) (rest := []) A8 (H.k 82 rfl) (H.k 83 rfl) (H.k 85 rfl) (H.k 84 rfl) (by decide) (own_pay (rm_gbS x t kt cd kb k us va kv S n vs A8.old H X B.K B.gv P) (H.k 86 rfl) (H.k 10 rfl) (by decide) (by decide)) own_nW (Nat.le_of_eq rfl) X.E own_pd12 rfl rfl rfl d12_15 (by decide) (by decide) ?_
  rintro v10 T11 h12 A13 ⟨rfl, q9⟩
  show own_Run p e below Q m T11 18 #[.val (.ref sb), .val (.int n), .val (.ref x)] []
  exact own_ret0 A13 hQ d12_18 ⟨rfl, q9⟩
theorem d8_0 : decode jdk_68_method_22_code 0 = .ok (.aload_n 1, 1) := by decide +kernel
theorem d8_1 : decode jdk_68_method_22_code 1 = .ok (.ifnonnull 8, 3) := by decide +kernel
theorem d8_9 : decode jdk_68_method_22_code 9 = .ok (.aload_n 1, 1) := by decide +kernel
theorem d8_10 : decode jdk_68_method_22_code 10 = .ok (.invokevirtual 32, 3) := by decide +kernel
theorem d8_13 : decode jdk_68_method_22_code 13 = .ok (.istore_n 2, 1) := by decide +kernel
theorem d8_14 : decode jdk_68_method_22_code 14 = .ok (.aload_n 0, 1) := by decide +kernel
theorem d8_15 : decode jdk_68_method_22_code 15 = .ok (.aload_n 0, 1) := by decide +kernel
theorem d8_16 : decode jdk_68_method_22_code 16 = .ok (.getfield 79, 3) := by decide +kernel
theorem d8_19 : decode jdk_68_method_22_code 19 = .ok (.iload_n 2, 1) := by decide +kernel
theorem d8_20 : decode jdk_68_method_22_code 20 = .ok (.iadd, 1) := by decide +kernel
theorem d8_21 : decode jdk_68_method_22_code 21 = .ok (.invokevirtual 100, 3) := by decide +kernel
theorem d8_24 : decode jdk_68_method_22_code 24 = .ok (.aload_n 0, 1) := by decide +kernel
theorem d8_25 : decode jdk_68_method_22_code 25 = .ok (.aload_n 0, 1) := by decide +kernel
theorem d8_26 : decode jdk_68_method_22_code 26 = .ok (.getfield 79, 3) := by decide +kernel
theorem d8_29 : decode jdk_68_method_22_code 29 = .ok (.aload_n 1, 1) := by decide +kernel
theorem d8_30 : decode jdk_68_method_22_code 30 = .ok (.invokevirtual 208, 3) := by decide +kernel
theorem d8_33 : decode jdk_68_method_22_code 33 = .ok (.aload_n 0, 1) := by decide +kernel
theorem d8_34 : decode jdk_68_method_22_code 34 = .ok (.dup, 1) := by decide +kernel
theorem d8_35 : decode jdk_68_method_22_code 35 = .ok (.getfield 79, 3) := by decide +kernel
theorem d8_38 : decode jdk_68_method_22_code 38 = .ok (.iload_n 2, 1) := by decide +kernel
theorem d8_39 : decode jdk_68_method_22_code 39 = .ok (.iadd, 1) := by decide +kernel
theorem d8_40 : decode jdk_68_method_22_code 40 = .ok (.putfield 79, 3) := by decide +kernel
theorem d8_43 : decode jdk_68_method_22_code 43 = .ok (.aload_n 0, 1) := by decide +kernel
theorem d8_44 : decode jdk_68_method_22_code 44 = .ok (.areturn, 1) := by decide +kernel
theorem rm_aaS (sb va : Addr) (kv : ClassId) (cd S n : Int32) (vs : List Value) (x t : Addr) (kt : ClassId) (kb k : Int32) (us : List Value) (O0 : Old Z n0 h0) (H : own_H Z a0 zc fm) (B : own_B Z h0 n0 sb va kv cd S n vs) (X : own_X Z h0 x t kt cd kb us) (P : own_apf cd S n kb k us vs) :
  own_Met false l Z n0 [] [] ⟨"java/lang/AbstractStringBuilder", "append", "(Ljava/lang/String;)Ljava/lang/AbstractStringBuilder;"⟩ jdk_68_method_22_code 3 (some (.object "java/lang/AbstractStringBuilder")) [] (own_R 3 0 0 47) #[(.ref sb), (.ref x)] h0 (fun v h => v = some (.ref sb) ∧ Keep h0 h [sb, va] ∧ own_B Z h n0 sb va kv cd S (n + k) (own_spl (n <<< (cd &&& 31)) kb us vs)) := by
  refine own_ent (a0 := a0) (nm := "append") (Ls := #[.val (.ref sb), .val (.ref x), .unset]) own_pn4 O0 EW.nil ?_
  intro p e _ m _ below _ _ T0 Q hQ A0
  refine own_aloadN (q := 1) A0 d8_0 rfl rfl ?_
  refine own_ifnonnullT (q := 9) A0 d8_1 ?_
  refine own_aloadN (q := 10) A0 d8_9 rfl rfl ?_
  refine own_virtual (q := 13) (W := 0) (argsL := []) (rest := []) A0 (H.k 51 rfl) (H.k 52 rfl) (H.k 54 rfl) (H.k 53 rfl) (by decide) (own_pay (rm_len x t kt cd kb _ A0.old H X P.cd) (H.k 55 rfl) (H.k 10 rfl) (by decide) (by decide)) own_nW (Nat.le_of_eq rfl) X.E own_pd8 rfl rfl rfl d8_10 (by decide) (by decide) ?_
  rintro v1 T2 h3 A4 ⟨rfl, rfl⟩
  show own_Run p e below Q m T2 13 #[.val (.ref sb), .val (.ref x), .unset] [(.int (kb >>> (cd &&& 31)))]
  rw [show (kb >>> (cd &&& 31)) = k from P.kr]
  refine own_istoreN (q := 14) (L' := #[.val (.ref sb), .val (.ref x), .val (.int k)]) A4 d8_13 rfl ?_
  refine own_aloadN (q := 15) A4 d8_14 rfl rfl ?_
  refine own_aloadN (q := 16) A4 d8_15 rfl rfl ?_
  refine own_getF (host := "") (q := 19) A4 (Or.inl (H.k 64 rfl)) Via.refl B.N d8_16 ?_
  intro T5 A6
  refine own_iloadN (q := 20) A6 d8_19 rfl ?_
  refine own_iadd (q := 21) A6 d8_20 ?_
  refine own_private (q := 24) (W := 0) (argsL := [(.int (n + k))]) (rest := []) A6 (H.k 66 rfl) (H.k 67 rfl) (H.k 69 rfl) (H.k 68 rfl) (H.k 70 rfl) (by decide) (own_pay (rm_ens sb va kv cd S n _ (n + k) A6.old H B P.cap) (H.k 70 rfl) (H.k 31 rfl) (by decide) (by decide)) own_nW (Nat.le_of_eq rfl) B.E own_pd5 rfl rfl rfl d8_21 (by decide) (by decide) ?_
  rintro v7 T8 h9 A10 ⟨rfl, rfl⟩
  show own_Run p e below Q m T8 24 #[.val (.ref sb), .val (.ref x), .val (.int k)] []
  refine own_aloadN (q := 25) A10 d8_24 rfl rfl ?_
  refine own_aloadN (q := 26) A10 d8_25 rfl rfl ?_
  refine own_getF (host := "") (q := 29) A10 (Or.inl (H.k 64 rfl)) Via.refl B.N d8_26 ?_
  intro T11 A12
  refine own_aloadN (q := 30) A12 d8_29 rfl rfl ?_
  refine own_private (q := 33) (W := 0) (argsL := [(.int n), (.ref x)]) (rest := []) A12 (H.k 71 rfl) (H.k 72 rfl) (H.k 74 rfl) (H.k 73 rfl) (H.k 75 rfl) (by decide) (own_pay (rm_psS sb va kv cd S n vs x t kt kb k us A12.old H B X P) (H.k 75 rfl) (H.k 31 rfl) (by decide) (by decide)) own_nW (Nat.le_of_eq rfl) B.E own_pd10 rfl rfl rfl d8_30 (by decide) (by decide) ?_
  rintro v15 T16 h17 A18 ⟨rfl, K13, V14⟩
  show own_Run p e below Q m T16 33 #[.val (.ref sb), .val (.ref x), .val (.int k)] []
  have f19 := B.E.keep K13
  have f20 := B.V.keep K13 (ninS B.ne nin0)
  have f21 := B.C.keep K13 (ninS B.ne nin0)
  have f22 := B.N.keep K13 (ninS B.ne nin0)
  have f23 := B.M.keep K13 (ninS B.ne nin0)
  have K24 := (Keep.refl h0 [sb, va]).trans K13 (allS (Or.inl (by simp)) all0)
  refine own_aloadN (q := 34) A18 d8_33 rfl rfl ?_
  refine own_dup (q := 35) A18 d8_34 rfl ?_
  refine own_getF (host := "") (q := 38) A18 (Or.inl (H.k 64 rfl)) Via.refl f22 d8_35 ?_
  intro T25 A26
  refine own_iloadN (q := 39) A26 d8_38 rfl ?_
  refine own_iadd (q := 40) A26 d8_39 ?_
  refine own_putF (host := "") (q := 43) A26 (Or.inl (H.k 64 rfl)) Via.refl f22 f19 (Or.inl (H.k 65 rfl)) (H.k 22 rfl) (ty := .int) (by decide) rfl rfl B.gb (Or.inr (Or.inl rfl)) d8_40 ?_
  intro T27 h28 A29 W30
  have K31 := K24.wr W30 (Or.inl (by simp))
  have f32 := f19.wr W30
  have f33 := f20.other W30 (Or.inr (slot_ne (Or.inl (H.k 38 rfl)) (Or.inl (H.k 65 rfl)) (by decide) (by decide : parseFieldDescriptor "[B" = some (.array .byte)) (by decide : parseFieldDescriptor "I" = some .int)))
  have f34 := f21.other W30 (Or.inr (slot_ne (Or.inl (H.k 40 rfl)) (Or.inl (H.k 65 rfl)) (by decide) (by decide : parseFieldDescriptor "B" = some .byte) (by decide : parseFieldDescriptor "I" = some .int)))
  have f35 := f22.same W30
  have f36 := f23.other W30 (Or.inr (slot_ne (Or.inl (H.k 317 rfl)) (Or.inl (H.k 65 rfl)) (by decide) (by decide : parseFieldDescriptor "Z" = some .boolean) (by decide : parseFieldDescriptor "I" = some .int)))
  have f37 := V14.other W30 (Ne.symm B.ne)
  refine own_aloadN (q := 44) A29 d8_43 rfl rfl ?_
  exact own_retA A29 hQ rfl rfl rfl d8_44 ⟨rfl, K31, (own_B_mk f32 f33 f34 f35 f36 f37 B.gb B.gv B.ne)⟩
theorem d7_0 : decode jdk_67_method_7_code 0 = .ok (.aload_n 0, 1) := by decide +kernel
theorem d7_1 : decode jdk_67_method_7_code 1 = .ok (.aload_n 1, 1) := by decide +kernel
theorem d7_2 : decode jdk_67_method_7_code 2 = .ok (.invokespecial 29, 3) := by decide +kernel
theorem d7_5 : decode jdk_67_method_7_code 5 = .ok (.pop, 1) := by decide +kernel
theorem d7_6 : decode jdk_67_method_7_code 6 = .ok (.aload_n 0, 1) := by decide +kernel
theorem d7_7 : decode jdk_67_method_7_code 7 = .ok (.areturn, 1) := by decide +kernel
theorem d56_0 : decode jdk_68_method_11_code 0 = .ok (.aload_n 0, 1) := by decide +kernel
theorem d56_1 : decode jdk_68_method_11_code 1 = .ok (.invokevirtual 83, 3) := by decide +kernel
theorem d56_4 : decode jdk_68_method_11_code 4 = .ok (.ifCond .ne 4, 3) := by decide +kernel
theorem d56_7 : decode jdk_68_method_11_code 7 = .ok (.return_, 1) := by decide +kernel
theorem d56_8 : decode jdk_68_method_11_code 8 = .ok (.aload_n 0, 1) := by decide +kernel
theorem d56_9 : decode jdk_68_method_11_code 9 = .ok (.getfield 15, 3) := by decide +kernel
theorem d56_12 : decode jdk_68_method_11_code 12 = .ok (.arraylength, 1) := by decide +kernel
theorem d56_13 : decode jdk_68_method_11_code 13 = .ok (.invokestatic 26, 3) := by decide +kernel
theorem d56_16 : decode jdk_68_method_11_code 16 = .ok (.astore_n 1, 1) := by decide +kernel
theorem d56_17 : decode jdk_68_method_11_code 17 = .ok (.aload_n 0, 1) := by decide +kernel
theorem d56_18 : decode jdk_68_method_11_code 18 = .ok (.getfield 15, 3) := by decide +kernel
theorem d56_21 : decode jdk_68_method_11_code 21 = .ok (.iconst 0, 1) := by decide +kernel
theorem d56_22 : decode jdk_68_method_11_code 22 = .ok (.aload_n 1, 1) := by decide +kernel
theorem d56_23 : decode jdk_68_method_11_code 23 = .ok (.iconst 0, 1) := by decide +kernel
theorem d56_24 : decode jdk_68_method_11_code 24 = .ok (.aload_n 0, 1) := by decide +kernel
theorem d56_25 : decode jdk_68_method_11_code 25 = .ok (.getfield 79, 3) := by decide +kernel
theorem d56_28 : decode jdk_68_method_11_code 28 = .ok (.invokestatic 125, 3) := by decide +kernel
theorem d56_31 : decode jdk_68_method_11_code 31 = .ok (.aload_n 0, 1) := by decide +kernel
theorem d56_32 : decode jdk_68_method_11_code 32 = .ok (.aload_n 1, 1) := by decide +kernel
theorem d56_33 : decode jdk_68_method_11_code 33 = .ok (.putfield 15, 3) := by decide +kernel
theorem d56_36 : decode jdk_68_method_11_code 36 = .ok (.aload_n 0, 1) := by decide +kernel
theorem d56_37 : decode jdk_68_method_11_code 37 = .ok (.iconst 1, 1) := by decide +kernel
theorem d56_38 : decode jdk_68_method_11_code 38 = .ok (.putfield 22, 3) := by decide +kernel
theorem d56_41 : decode jdk_68_method_11_code 41 = .ok (.return_, 1) := by decide +kernel
theorem rm_in1 (sb : Addr) (O0 : Old Z n0 h0) (H : own_H Z a0 zc fm) (Eb : Exa Z h0 sb "java/lang/StringBuilder") (Fc : Fld Z h0 sb "java/lang/AbstractStringBuilder" "coder" "B" (.int 1)) :
  own_Met false l Z n0 [] [] ⟨"java/lang/AbstractStringBuilder", "inflate", "()V"⟩ jdk_68_method_11_code 2 none [] (own_R 1 0 0 12) #[(.ref sb)] h0 (fun v h => v = none ∧ h0 = h) := by
  refine own_ent (a0 := a0) (nm := "inflate") (Ls := #[.val (.ref sb), .unset]) own_pn4 O0 EW.nil ?_
  intro p e _ m _ below _ _ T0 Q hQ A0
  refine own_aloadN (q := 1) A0 d56_0 rfl rfl ?_
  refine own_virtual (q := 4) (W := 0) (argsL := []) (rest := []) A0 (H.k 100 rfl) (H.k 101 rfl) (H.k 103 rfl) (H.k 102 rfl) (by decide) (own_pay (rm_bil1 sb A0.old H Fc) (H.k 104 rfl) (H.k 31 rfl) (by decide) (by decide)) own_nW (Nat.le_of_eq rfl) Eb own_pd15 rfl rfl rfl d56_1 (by decide) (by decide) ?_
  rintro v1 T2 h3 A4 ⟨rfl, rfl⟩
  show own_Run p e below Q m T2 4 #[.val (.ref sb), .unset] [(.int 0)]
  refine own_ifcF (q := 7) A4 d56_4 (show (0 : Int32) = (0 : Int32) from by decide) ?_
  exact own_ret0 A4 hQ d56_7 ⟨rfl, rfl⟩
theorem rm_in0_0 (sb va : Addr) (kv : ClassId) (vs : List Value) (O0 : Old Z n0 h0) (H : own_H Z a0 zc fm) (B : own_B Z h0 n0 sb va kv 0 16 0 vs) :
  own_Met false l Z n0 [] [] ⟨"java/lang/AbstractStringBuilder", "inflate", "()V"⟩ jdk_68_method_11_code 2 none [] (own_R 5 1 32 76) #[(.ref sb)] h0 (fun v h => v = none ∧ Keep h0 h [sb] ∧ ∃ (vb : Addr) (kz : ClassId), h0.size ≤ vb ∧ own_B Z h n0 sb vb kz 1 32 0 (own_bU ([] : List Int32))) := by
  refine own_ent (a0 := a0) (nm := "inflate") (Ls := #[.val (.ref sb), .unset]) own_pn4 O0 EW.nil ?_
  intro p e _ m _ below _ _ T0 Q hQ A0
  refine own_aloadN (q := 1) A0 d56_0 rfl rfl ?_
  refine own_virtual (q := 4) (W := 0) (argsL := []) (rest := []) A0 (H.k 100 rfl) (H.k 101 rfl) (H.k 103 rfl) (H.k 102 rfl) (by decide) (own_pay (rm_bil0 sb A0.old H B.C) (H.k 104 rfl) (H.k 31 rfl) (by decide) (by decide)) own_nW (Nat.le_of_eq rfl) B.E own_pd15 rfl rfl rfl d56_1 (by decide) (by decide) ?_
  rintro v1 T2 h3 A4 ⟨rfl, rfl⟩
  show own_Run p e below Q m T2 4 #[.val (.ref sb), .unset] [(.int 1)]
  refine own_ifcT (q := 8) A4 d56_4 (show ¬ (1 : Int32) = (0 : Int32) from by decide) ?_
  refine own_aloadN (q := 9) A4 d56_8 rfl rfl ?_
  refine own_getF (host := "") (q := 12) A4 (Or.inl (H.k 37 rfl)) Via.refl B.V d56_9 ?_
  intro T5 A6
  refine own_arrlenv (q := 13) A6 B.K d56_12 ?_
  refine own_static (q := 16) (W := 0) (argsL := [(.int 16)]) (rest := []) A6 (H.k 278 rfl) (H.k 279 rfl) (H.k 242 rfl) (H.k 280 rfl) (by decide) (own_pay (rm_nbf16  A6.old H ) (H.k 280 rfl) (H.k 242 rfl) (by decide) (by decide)) own_nW (Nat.le_of_eq rfl) own_pd45 rfl rfl rfl d56_13 (by decide) (by decide) ?_
  rintro v13 T14 h15 A16 ⟨t7, k8, rfl, g9, g10, K11, V12⟩
  show own_Run p e below Q m T14 16 #[.val (.ref sb), .unset] [(.ref t7)]
  have z17 : sb ≠ t7 := Nat.ne_of_lt (Nat.lt_of_lt_of_le B.E.lt g10)
  have z18 : va ≠ t7 := Nat.ne_of_lt (Nat.lt_of_lt_of_le B.K.lt g10)
  have f19 := B.E.keep K11
  have f20 := B.V.keep K11 nin0
  have f21 := B.C.keep K11 nin0
  have f22 := B.N.keep K11 nin0
  have f23 := B.M.keep K11 nin0
  have f24 := B.K.keep K11 nin0
  have K25 := (Keep.refl h0 [sb]).trans K11 all0
  refine own_astoreN (q := 17) (L' := #[.val (.ref sb), .val (.ref t7)]) A16 d56_16 rfl rfl ?_
  refine own_aloadN (q := 18) A16 d56_17 rfl rfl ?_
  refine own_getF (host := "") (q := 21) A16 (Or.inl (H.k 37 rfl)) Via.refl f20 d56_18 ?_
  intro T26 A27
  refine own_iconst (q := 22) A27 (0 : Int32) d56_21 rfl ?_
  refine own_aloadN (q := 23) A27 d56_22 rfl rfl ?_
  refine own_iconst (q := 24) A27 (0 : Int32) d56_23 rfl ?_
  refine own_aloadN (q := 25) A27 d56_24 rfl rfl ?_
  refine own_getF (host := "") (q := 28) A27 (Or.inl (H.k 64 rfl)) Via.refl f22 d56_25 ?_
  intro T28 A29
  refine own_static (q := 31) (W := 0) (argsL := [(.ref va), (.int 0), (.ref t7), (.int 0), (.int 0)]) (rest := []) A29 (H.k 285 rfl) (H.k 286 rfl) (H.k 107 rfl) (H.k 287 rfl) (by decide) (own_pay (rm_lf0 va kv 16 vs t7 k8 _ 0   A29.old H f24 (by decide) V12 rfl g9 z18 (by decide) (by decide)  ) (H.k 287 rfl) (H.k 107 rfl) (by decide) (by decide)) own_nW (Nat.le_of_eq rfl) own_pd46 rfl rfl rfl d56_28 (by decide) (by decide) ?_
  rintro v32 T33 h34 A35 ⟨rfl, K30, V31⟩
  show own_Run p e below Q m T33 31 #[.val (.ref sb), .val (.ref t7)] []
  have f36 := f19.keep K30
  have f37 := f20.keep K30 (ninS z17 nin0)
  have f38 := f21.keep K30 (ninS z17 nin0)
  have f39 := f22.keep K30 (ninS z17 nin0)
  have f40 := f23.keep K30 (ninS z17 nin0)
  have K41 := K25.trans K30 (allS (Or.inr (Nat.le_trans (Keep.refl h0 [sb]).1 g10)) all0)
  have f42 : Arv Z h34 t7 k8 .byte (32 : Int32) (own_bU ([] : List Int32)) (.int 0) := V31
  refine own_aloadN (q := 32) A35 d56_31 rfl rfl ?_
  refine own_aloadN (q := 33) A35 d56_32 rfl rfl ?_
  refine own_putF (host := "") (q := 36) A35 (Or.inl (H.k 37 rfl)) Via.refl f37 f36 (Or.inl (H.k 38 rfl)) (H.k 22 rfl) (ty := (.array .byte)) (by decide) rfl rfl B.gb (Or.inr (Or.inl rfl)) d56_33 ?_
  intro T43 h44 A45 W46
  have K47 := K41.wr W46 (Or.inl (by simp))
  have f48 := f36.wr W46
  have f49 := f37.same W46
  have f50 := f38.other W46 (Or.inr (slot_ne (Or.inl (H.k 40 rfl)) (Or.inl (H.k 38 rfl)) (by decide) (by decide : parseFieldDescriptor "B" = some .byte) (by decide : parseFieldDescriptor "[B" = some (.array .byte))))
  have f51 := f39.other W46 (Or.inr (slot_ne (Or.inl (H.k 65 rfl)) (Or.inl (H.k 38 rfl)) (by decide) (by decide : parseFieldDescriptor "I" = some .int) (by decide : parseFieldDescriptor "[B" = some (.array .byte))))
  have f52 := f40.other W46 (Or.inr (slot_ne (Or.inl (H.k 317 rfl)) (Or.inl (H.k 38 rfl)) (by decide) (by decide : parseFieldDescriptor "Z" = some .boolean) (by decide : parseFieldDescriptor "[B" = some (.array .byte))))
  have f53 := f42.other W46 (Ne.symm z17)
  refine own_aloadN (q := 37) A45 d56_36 rfl rfl ?_
  refine own_iconst (q := 38) A45 (1 : Int32) d56_37 rfl ?_
  refine own_putF (host := "") (q := 41) A45 (Or.inl (H.k 39 rfl)) Via.refl f50 f48 (Or.inl (H.k 40 rfl)) (H.k 22 rfl) (ty := .byte) (by decide) rfl rfl B.gb (Or.inr (Or.inl rfl)) d56_38 ?_
  intro T54 h55 A56 W57
  have K58 := K47.wr W57 (Or.inl (by simp))
  have f59 := f48.wr W57
  have f60 := f49.other W57 (Or.inr (slot_ne (Or.inl (H.k 38 rfl)) (Or.inl (H.k 40 rfl)) (by decide) (by decide : parseFieldDescriptor "[B" = some (.array .byte)) (by decide : parseFieldDescriptor "B" = some .byte)))
  have f61 := f50.same W57
  have f62 := f51.other W57 (Or.inr (slot_ne (Or.inl (H.k 65 rfl)) (Or.inl (H.k 40 rfl)) (by decide) (by decide : parseFieldDescriptor "I" = some .int) (by decide : parseFieldDescriptor "B" = some .byte)))
  have f63 := f52.other W57 (Or.inr (slot_ne (Or.inl (H.k 317 rfl)) (Or.inl (H.k 40 rfl)) (by decide) (by decide : parseFieldDescriptor "Z" = some .boolean) (by decide : parseFieldDescriptor "B" = some .byte)))
  have f64 := f53.other W57 (Ne.symm z17)
  exact own_ret0 A56 hQ d56_41 ⟨rfl, K58, t7, _, (Nat.le_trans (Keep.refl h0 [sb]).1 g10), (own_B_mk f59 f60 f61 f62 f63 f64 B.gb g9 z17)⟩
theorem rm_in0_1 (sb va : Addr) (kv : ClassId) (vs : List Value) (chx : Int32) (O0 : Old Z n0 h0) (H : own_H Z a0 zc fm) (B : own_B Z h0 n0 sb va kv 0 16 1 vs) (u0 : vs.getD 0 (.int 0) = .int (StrChars.lo8 chx)) (hchx0 : ¬ chx < 0) (hchx1 : ¬ (255 : Int32) < chx) :
  own_Met false l Z n0 [] [] ⟨"java/lang/AbstractStringBuilder", "inflate", "()V"⟩ jdk_68_method_11_code 2 none [] (own_R 5 1 32 76) #[(.ref sb)] h0 (fun v h => v = none ∧ Keep h0 h [sb] ∧ ∃ (vb : Addr) (kz : ClassId), h0.size ≤ vb ∧ own_B Z h n0 sb vb kz 1 32 1 (own_bU [chx])) := by
  refine own_ent (a0 := a0) (nm := "inflate") (Ls := #[.val (.ref sb), .unset]) own_pn4 O0 EW.nil ?_
  intro p e _ m _ below _ _ T0 Q hQ A0
  refine own_aloadN (q := 1) A0 d56_0 rfl rfl ?_
  refine own_virtual (q := 4) (W := 0) (argsL := []) (rest := []) A0 (H.k 100 rfl) (H.k 101 rfl) (H.k 103 rfl) (H.k 102 rfl) (by decide) (own_pay (rm_bil0 sb A0.old H B.C) (H.k 104 rfl) (H.k 31 rfl) (by decide) (by decide)) own_nW (Nat.le_of_eq rfl) B.E own_pd15 rfl rfl rfl d56_1 (by decide) (by decide) ?_
  rintro v1 T2 h3 A4 ⟨rfl, rfl⟩
  show own_Run p e below Q m T2 4 #[.val (.ref sb), .unset] [(.int 1)]
  refine own_ifcT (q := 8) A4 d56_4 (show ¬ (1 : Int32) = (0 : Int32) from by decide) ?_
  refine own_aloadN (q := 9) A4 d56_8 rfl rfl ?_
  refine own_getF (host := "") (q := 12) A4 (Or.inl (H.k 37 rfl)) Via.refl B.V d56_9 ?_
  intro T5 A6
  refine own_arrlenv (q := 13) A6 B.K d56_12 ?_
  refine own_static (q := 16) (W := 0) (argsL := [(.int 16)]) (rest := []) A6 (H.k 278 rfl) (H.k 279 rfl) (H.k 242 rfl) (H.k 280 rfl) (by decide) (own_pay (rm_nbf16  A6.old H ) (H.k 280 rfl) (H.k 242 rfl) (by decide) (by decide)) own_nW (Nat.le_of_eq rfl) own_pd45 rfl rfl rfl d56_13 (by decide) (by decide) ?_
  rintro v13 T14 h15 A16 ⟨t7, k8, rfl, g9, g10, K11, V12⟩
  show own_Run p e below Q m T14 16 #[.val (.ref sb), .unset] [(.ref t7)]
  have z17 : sb ≠ t7 := Nat.ne_of_lt (Nat.lt_of_lt_of_le B.E.lt g10)
  have z18 : va ≠ t7 := Nat.ne_of_lt (Nat.lt_of_lt_of_le B.K.lt g10)
  have f19 := B.E.keep K11
  have f20 := B.V.keep K11 nin0
  have f21 := B.C.keep K11 nin0
  have f22 := B.N.keep K11 nin0
  have f23 := B.M.keep K11 nin0
  have f24 := B.K.keep K11 nin0
  have K25 := (Keep.refl h0 [sb]).trans K11 all0
  refine own_astoreN (q := 17) (L' := #[.val (.ref sb), .val (.ref t7)]) A16 d56_16 rfl rfl ?_
  refine own_aloadN (q := 18) A16 d56_17 rfl rfl ?_
  refine own_getF (host := "") (q := 21) A16 (Or.inl (H.k 37 rfl)) Via.refl f20 d56_18 ?_
  intro T26 A27
  refine own_iconst (q := 22) A27 (0 : Int32) d56_21 rfl ?_
  refine own_aloadN (q := 23) A27 d56_22 rfl rfl ?_
  refine own_iconst (q := 24) A27 (0 : Int32) d56_23 rfl ?_
  refine own_aloadN (q := 25) A27 d56_24 rfl rfl ?_
  refine own_getF (host := "") (q := 28) A27 (Or.inl (H.k 64 rfl)) Via.refl f22 d56_25 ?_
  intro T28 A29
  refine own_static (q := 31) (W := 0) (argsL := [(.ref va), (.int 0), (.ref t7), (.int 0), (.int 1)]) (rest := []) A29 (H.k 285 rfl) (H.k 286 rfl) (H.k 107 rfl) (H.k 287 rfl) (by decide) (own_pay (rm_lf1 va kv 16 vs t7 k8 _ 0 0 chx A29.old H f24 (by decide) V12 rfl g9 z18 (by decide) (by decide) own_pi_D u0 hchx0 hchx1) (H.k 287 rfl) (H.k 107 rfl) (by decide) (by decide)) own_nW (Nat.le_of_eq rfl) own_pd46 rfl rfl rfl d56_28 (by decide) (by decide) ?_
  rintro v32 T33 h34 A35 ⟨rfl, K30, V31⟩
  show own_Run p e below Q m T33 31 #[.val (.ref sb), .val (.ref t7)] []
  have f36 := f19.keep K30
  have f37 := f20.keep K30 (ninS z17 nin0)
  have f38 := f21.keep K30 (ninS z17 nin0)
  have f39 := f22.keep K30 (ninS z17 nin0)
  have f40 := f23.keep K30 (ninS z17 nin0)
  have K41 := K25.trans K30 (allS (Or.inr (Nat.le_trans (Keep.refl h0 [sb]).1 g10)) all0)
  have f42 : Arv Z h34 t7 k8 .byte (32 : Int32) (own_bU [chx]) (.int 0) := V31
  refine own_aloadN (q := 32) A35 d56_31 rfl rfl ?_
  refine own_aloadN (q := 33) A35 d56_32 rfl rfl ?_
  refine own_putF (host := "") (q := 36) A35 (Or.inl (H.k 37 rfl)) Via.refl f37 f36 (Or.inl (H.k 38 rfl)) (H.k 22 rfl) (ty := (.array .byte)) (by decide) rfl rfl B.gb (Or.inr (Or.inl rfl)) d56_33 ?_
  intro T43 h44 A45 W46
  have K47 := K41.wr W46 (Or.inl (by simp))
  have f48 := f36.wr W46
  have f49 := f37.same W46
  have f50 := f38.other W46 (Or.inr (slot_ne (Or.inl (H.k 40 rfl)) (Or.inl (H.k 38 rfl)) (by decide) (by decide : parseFieldDescriptor "B" = some .byte) (by decide : parseFieldDescriptor "[B" = some (.array .byte))))
  have f51 := f39.other W46 (Or.inr (slot_ne (Or.inl (H.k 65 rfl)) (Or.inl (H.k 38 rfl)) (by decide) (by decide : parseFieldDescriptor "I" = some .int) (by decide : parseFieldDescriptor "[B" = some (.array .byte))))
  have f52 := f40.other W46 (Or.inr (slot_ne (Or.inl (H.k 317 rfl)) (Or.inl (H.k 38 rfl)) (by decide) (by decide : parseFieldDescriptor "Z" = some .boolean) (by decide : parseFieldDescriptor "[B" = some (.array .byte))))
  have f53 := f42.other W46 (Ne.symm z17)
  refine own_aloadN (q := 37) A45 d56_36 rfl rfl ?_
  refine own_iconst (q := 38) A45 (1 : Int32) d56_37 rfl ?_
  refine own_putF (host := "") (q := 41) A45 (Or.inl (H.k 39 rfl)) Via.refl f50 f48 (Or.inl (H.k 40 rfl)) (H.k 22 rfl) (ty := .byte) (by decide) rfl rfl B.gb (Or.inr (Or.inl rfl)) d56_38 ?_
  intro T54 h55 A56 W57
  have K58 := K47.wr W57 (Or.inl (by simp))
  have f59 := f48.wr W57
  have f60 := f49.other W57 (Or.inr (slot_ne (Or.inl (H.k 38 rfl)) (Or.inl (H.k 40 rfl)) (by decide) (by decide : parseFieldDescriptor "[B" = some (.array .byte)) (by decide : parseFieldDescriptor "B" = some .byte)))
  have f61 := f50.same W57
  have f62 := f51.other W57 (Or.inr (slot_ne (Or.inl (H.k 65 rfl)) (Or.inl (H.k 40 rfl)) (by decide) (by decide : parseFieldDescriptor "I" = some .int) (by decide : parseFieldDescriptor "B" = some .byte)))
  have f63 := f52.other W57 (Or.inr (slot_ne (Or.inl (H.k 317 rfl)) (Or.inl (H.k 40 rfl)) (by decide) (by decide : parseFieldDescriptor "Z" = some .boolean) (by decide : parseFieldDescriptor "B" = some .byte)))
  have f64 := f53.other W57 (Ne.symm z17)
  exact own_ret0 A56 hQ d56_41 ⟨rfl, K58, t7, _, (Nat.le_trans (Keep.refl h0 [sb]).1 g10), (own_B_mk f59 f60 f61 f62 f63 f64 B.gb g9 z17)⟩
theorem rm_in0_2 (sb va : Addr) (kv : ClassId) (vs : List Value) (chx chy : Int32) (O0 : Old Z n0 h0) (H : own_H Z a0 zc fm) (B : own_B Z h0 n0 sb va kv 0 16 2 vs) (u0 : vs.getD 0 (.int 0) = .int (StrChars.lo8 chx)) (u1 : vs.getD 1 (.int 0) = .int (StrChars.lo8 chy)) (hchx0 : ¬ chx < 0) (hchx1 : ¬ (255 : Int32) < chx) (hchy0 : ¬ chy < 0) (hchy1 : ¬ (255 : Int32) < chy) :
  own_Met false l Z n0 [] [] ⟨"java/lang/AbstractStringBuilder", "inflate", "()V"⟩ jdk_68_method_11_code 2 none [] (own_R 5 1 32 76) #[(.ref sb)] h0 (fun v h => v = none ∧ Keep h0 h [sb] ∧ ∃ (vb : Addr) (kz : ClassId), h0.size ≤ vb ∧ own_B Z h n0 sb vb kz 1 32 2 (own_bU [chx, chy])) := by
  refine own_ent (a0 := a0) (nm := "inflate") (Ls := #[.val (.ref sb), .unset]) own_pn4 O0 EW.nil ?_
  intro p e _ m _ below _ _ T0 Q hQ A0
  refine own_aloadN (q := 1) A0 d56_0 rfl rfl ?_
  refine own_virtual (q := 4) (W := 0) (argsL := []) (rest := []) A0 (H.k 100 rfl) (H.k 101 rfl) (H.k 103 rfl) (H.k 102 rfl) (by decide) (own_pay (rm_bil0 sb A0.old H B.C) (H.k 104 rfl) (H.k 31 rfl) (by decide) (by decide)) own_nW (Nat.le_of_eq rfl) B.E own_pd15 rfl rfl rfl d56_1 (by decide) (by decide) ?_
  rintro v1 T2 h3 A4 ⟨rfl, rfl⟩
  show own_Run p e below Q m T2 4 #[.val (.ref sb), .unset] [(.int 1)]
  refine own_ifcT (q := 8) A4 d56_4 (show ¬ (1 : Int32) = (0 : Int32) from by decide) ?_
  refine own_aloadN (q := 9) A4 d56_8 rfl rfl ?_
  refine own_getF (host := "") (q := 12) A4 (Or.inl (H.k 37 rfl)) Via.refl B.V d56_9 ?_
  intro T5 A6
  refine own_arrlenv (q := 13) A6 B.K d56_12 ?_
  refine own_static (q := 16) (W := 0) (argsL := [(.int 16)]) (rest := []) A6 (H.k 278 rfl) (H.k 279 rfl) (H.k 242 rfl) (H.k 280 rfl) (by decide) (own_pay (rm_nbf16  A6.old H ) (H.k 280 rfl) (H.k 242 rfl) (by decide) (by decide)) own_nW (Nat.le_of_eq rfl) own_pd45 rfl rfl rfl d56_13 (by decide) (by decide) ?_
  rintro v13 T14 h15 A16 ⟨t7, k8, rfl, g9, g10, K11, V12⟩
  show own_Run p e below Q m T14 16 #[.val (.ref sb), .unset] [(.ref t7)]
  have z17 : sb ≠ t7 := Nat.ne_of_lt (Nat.lt_of_lt_of_le B.E.lt g10)
  have z18 : va ≠ t7 := Nat.ne_of_lt (Nat.lt_of_lt_of_le B.K.lt g10)
  have f19 := B.E.keep K11
  have f20 := B.V.keep K11 nin0
  have f21 := B.C.keep K11 nin0
  have f22 := B.N.keep K11 nin0
  have f23 := B.M.keep K11 nin0
  have f24 := B.K.keep K11 nin0
  have K25 := (Keep.refl h0 [sb]).trans K11 all0
  refine own_astoreN (q := 17) (L' := #[.val (.ref sb), .val (.ref t7)]) A16 d56_16 rfl rfl ?_
  refine own_aloadN (q := 18) A16 d56_17 rfl rfl ?_
  refine own_getF (host := "") (q := 21) A16 (Or.inl (H.k 37 rfl)) Via.refl f20 d56_18 ?_
  intro T26 A27
  refine own_iconst (q := 22) A27 (0 : Int32) d56_21 rfl ?_
  refine own_aloadN (q := 23) A27 d56_22 rfl rfl ?_
  refine own_iconst (q := 24) A27 (0 : Int32) d56_23 rfl ?_
  refine own_aloadN (q := 25) A27 d56_24 rfl rfl ?_
  refine own_getF (host := "") (q := 28) A27 (Or.inl (H.k 64 rfl)) Via.refl f22 d56_25 ?_
  intro T28 A29
  refine own_static (q := 31) (W := 0) (argsL := [(.ref va), (.int 0), (.ref t7), (.int 0), (.int 2)]) (rest := []) A29 (H.k 285 rfl) (H.k 286 rfl) (H.k 107 rfl) (H.k 287 rfl) (by decide) (own_pay (rm_lf2 va kv 16 vs t7 k8 _ 0 0 2 chx chy A29.old H f24 (by decide) V12 rfl g9 z18 (by decide) (by decide) own_pi_D own_pi_D u0 u1 hchx0 hchx1 hchy0 hchy1) (H.k 287 rfl) (H.k 107 rfl) (by decide) (by decide)) own_nW (Nat.le_of_eq rfl) own_pd46 rfl rfl rfl d56_28 (by decide) (by decide) ?_
  rintro v32 T33 h34 A35 ⟨rfl, K30, V31⟩
  show own_Run p e below Q m T33 31 #[.val (.ref sb), .val (.ref t7)] []
  have f36 := f19.keep K30
  have f37 := f20.keep K30 (ninS z17 nin0)
  have f38 := f21.keep K30 (ninS z17 nin0)
  have f39 := f22.keep K30 (ninS z17 nin0)
  have f40 := f23.keep K30 (ninS z17 nin0)
  have K41 := K25.trans K30 (allS (Or.inr (Nat.le_trans (Keep.refl h0 [sb]).1 g10)) all0)
  have f42 : Arv Z h34 t7 k8 .byte (32 : Int32) (own_bU [chx, chy]) (.int 0) := V31
  refine own_aloadN (q := 32) A35 d56_31 rfl rfl ?_
  refine own_aloadN (q := 33) A35 d56_32 rfl rfl ?_
  refine own_putF (host := "") (q := 36) A35 (Or.inl (H.k 37 rfl)) Via.refl f37 f36 (Or.inl (H.k 38 rfl)) (H.k 22 rfl) (ty := (.array .byte)) (by decide) rfl rfl B.gb (Or.inr (Or.inl rfl)) d56_33 ?_
  intro T43 h44 A45 W46
  have K47 := K41.wr W46 (Or.inl (by simp))
  have f48 := f36.wr W46
  have f49 := f37.same W46
  have f50 := f38.other W46 (Or.inr (slot_ne (Or.inl (H.k 40 rfl)) (Or.inl (H.k 38 rfl)) (by decide) (by decide : parseFieldDescriptor "B" = some .byte) (by decide : parseFieldDescriptor "[B" = some (.array .byte))))
  have f51 := f39.other W46 (Or.inr (slot_ne (Or.inl (H.k 65 rfl)) (Or.inl (H.k 38 rfl)) (by decide) (by decide : parseFieldDescriptor "I" = some .int) (by decide : parseFieldDescriptor "[B" = some (.array .byte))))
  have f52 := f40.other W46 (Or.inr (slot_ne (Or.inl (H.k 317 rfl)) (Or.inl (H.k 38 rfl)) (by decide) (by decide : parseFieldDescriptor "Z" = some .boolean) (by decide : parseFieldDescriptor "[B" = some (.array .byte))))
  have f53 := f42.other W46 (Ne.symm z17)
  refine own_aloadN (q := 37) A45 d56_36 rfl rfl ?_
  refine own_iconst (q := 38) A45 (1 : Int32) d56_37 rfl ?_
  refine own_putF (host := "") (q := 41) A45 (Or.inl (H.k 39 rfl)) Via.refl f50 f48 (Or.inl (H.k 40 rfl)) (H.k 22 rfl) (ty := .byte) (by decide) rfl rfl B.gb (Or.inr (Or.inl rfl)) d56_38 ?_
  intro T54 h55 A56 W57
  have K58 := K47.wr W57 (Or.inl (by simp))
  have f59 := f48.wr W57
  have f60 := f49.other W57 (Or.inr (slot_ne (Or.inl (H.k 38 rfl)) (Or.inl (H.k 40 rfl)) (by decide) (by decide : parseFieldDescriptor "[B" = some (.array .byte)) (by decide : parseFieldDescriptor "B" = some .byte)))
  have f61 := f50.same W57
  have f62 := f51.other W57 (Or.inr (slot_ne (Or.inl (H.k 65 rfl)) (Or.inl (H.k 40 rfl)) (by decide) (by decide : parseFieldDescriptor "I" = some .int) (by decide : parseFieldDescriptor "B" = some .byte)))
  have f63 := f52.other W57 (Or.inr (slot_ne (Or.inl (H.k 317 rfl)) (Or.inl (H.k 40 rfl)) (by decide) (by decide : parseFieldDescriptor "Z" = some .boolean) (by decide : parseFieldDescriptor "B" = some .byte)))
  have f64 := f53.other W57 (Ne.symm z17)
  exact own_ret0 A56 hQ d56_41 ⟨rfl, K58, t7, _, (Nat.le_trans (Keep.refl h0 [sb]).1 g10), (own_B_mk f59 f60 f61 f62 f63 f64 B.gb g9 z17)⟩
theorem rm_in0_3 (sb va : Addr) (kv : ClassId) (vs : List Value) (chx chy chz : Int32) (O0 : Old Z n0 h0) (H : own_H Z a0 zc fm) (B : own_B Z h0 n0 sb va kv 0 16 3 vs) (u0 : vs.getD 0 (.int 0) = .int (StrChars.lo8 chx)) (u1 : vs.getD 1 (.int 0) = .int (StrChars.lo8 chy)) (u2 : vs.getD 2 (.int 0) = .int (StrChars.lo8 chz)) (hchx0 : ¬ chx < 0) (hchx1 : ¬ (255 : Int32) < chx) (hchy0 : ¬ chy < 0) (hchy1 : ¬ (255 : Int32) < chy) (hchz0 : ¬ chz < 0) (hchz1 : ¬ (255 : Int32) < chz) :
  own_Met false l Z n0 [] [] ⟨"java/lang/AbstractStringBuilder", "inflate", "()V"⟩ jdk_68_method_11_code 2 none [] (own_R 5 1 32 76) #[(.ref sb)] h0 (fun v h => v = none ∧ Keep h0 h [sb] ∧ ∃ (vb : Addr) (kz : ClassId), h0.size ≤ vb ∧ own_B Z h n0 sb vb kz 1 32 3 (own_bU [chx, chy, chz])) := by
  refine own_ent (a0 := a0) (nm := "inflate") (Ls := #[.val (.ref sb), .unset]) own_pn4 O0 EW.nil ?_
  intro p e _ m _ below _ _ T0 Q hQ A0
  refine own_aloadN (q := 1) A0 d56_0 rfl rfl ?_
  refine own_virtual (q := 4) (W := 0) (argsL := []) (rest := []) A0 (H.k 100 rfl) (H.k 101 rfl) (H.k 103 rfl) (H.k 102 rfl) (by decide) (own_pay (rm_bil0 sb A0.old H B.C) (H.k 104 rfl) (H.k 31 rfl) (by decide) (by decide)) own_nW (Nat.le_of_eq rfl) B.E own_pd15 rfl rfl rfl d56_1 (by decide) (by decide) ?_
  rintro v1 T2 h3 A4 ⟨rfl, rfl⟩
  show own_Run p e below Q m T2 4 #[.val (.ref sb), .unset] [(.int 1)]
  refine own_ifcT (q := 8) A4 d56_4 (show ¬ (1 : Int32) = (0 : Int32) from by decide) ?_
  refine own_aloadN (q := 9) A4 d56_8 rfl rfl ?_
  refine own_getF (host := "") (q := 12) A4 (Or.inl (H.k 37 rfl)) Via.refl B.V d56_9 ?_
  intro T5 A6
  refine own_arrlenv (q := 13) A6 B.K d56_12 ?_
  refine own_static (q := 16) (W := 0) (argsL := [(.int 16)]) (rest := []) A6 (H.k 278 rfl) (H.k 279 rfl) (H.k 242 rfl) (H.k 280 rfl) (by decide) (own_pay (rm_nbf16  A6.old H ) (H.k 280 rfl) (H.k 242 rfl) (by decide) (by decide)) own_nW (Nat.le_of_eq rfl) own_pd45 rfl rfl rfl d56_13 (by decide) (by decide) ?_
  rintro v13 T14 h15 A16 ⟨t7, k8, rfl, g9, g10, K11, V12⟩
  show own_Run p e below Q m T14 16 #[.val (.ref sb), .unset] [(.ref t7)]
  have z17 : sb ≠ t7 := Nat.ne_of_lt (Nat.lt_of_lt_of_le B.E.lt g10)
  have z18 : va ≠ t7 := Nat.ne_of_lt (Nat.lt_of_lt_of_le B.K.lt g10)
  have f19 := B.E.keep K11
  have f20 := B.V.keep K11 nin0
  have f21 := B.C.keep K11 nin0
  have f22 := B.N.keep K11 nin0
  have f23 := B.M.keep K11 nin0
  have f24 := B.K.keep K11 nin0
  have K25 := (Keep.refl h0 [sb]).trans K11 all0
  refine own_astoreN (q := 17) (L' := #[.val (.ref sb), .val (.ref t7)]) A16 d56_16 rfl rfl ?_
  refine own_aloadN (q := 18) A16 d56_17 rfl rfl ?_
  refine own_getF (host := "") (q := 21) A16 (Or.inl (H.k 37 rfl)) Via.refl f20 d56_18 ?_
  intro T26 A27
  refine own_iconst (q := 22) A27 (0 : Int32) d56_21 rfl ?_
  refine own_aloadN (q := 23) A27 d56_22 rfl rfl ?_
  refine own_iconst (q := 24) A27 (0 : Int32) d56_23 rfl ?_
  refine own_aloadN (q := 25) A27 d56_24 rfl rfl ?_
  refine own_getF (host := "") (q := 28) A27 (Or.inl (H.k 64 rfl)) Via.refl f22 d56_25 ?_
  intro T28 A29
  refine own_static (q := 31) (W := 0) (argsL := [(.ref va), (.int 0), (.ref t7), (.int 0), (.int 3)]) (rest := []) A29 (H.k 285 rfl) (H.k 286 rfl) (H.k 107 rfl) (H.k 287 rfl) (by decide) (own_pay (rm_lf3 va kv 16 vs t7 k8 _ 0 0 2 4 chx chy chz A29.old H f24 (by decide) V12 rfl g9 z18 (by decide) (by decide) own_pi_D own_pi_D own_pi_D u0 u1 u2 hchx0 hchx1 hchy0 hchy1 hchz0 hchz1) (H.k 287 rfl) (H.k 107 rfl) (by decide) (by decide)) own_nW (Nat.le_of_eq rfl) own_pd46 rfl rfl rfl d56_28 (by decide) (by decide) ?_
  rintro v32 T33 h34 A35 ⟨rfl, K30, V31⟩
  show own_Run p e below Q m T33 31 #[.val (.ref sb), .val (.ref t7)] []
  have f36 := f19.keep K30
  have f37 := f20.keep K30 (ninS z17 nin0)
  have f38 := f21.keep K30 (ninS z17 nin0)
  have f39 := f22.keep K30 (ninS z17 nin0)
  have f40 := f23.keep K30 (ninS z17 nin0)
  have K41 := K25.trans K30 (allS (Or.inr (Nat.le_trans (Keep.refl h0 [sb]).1 g10)) all0)
  have f42 : Arv Z h34 t7 k8 .byte (32 : Int32) (own_bU [chx, chy, chz]) (.int 0) := V31
  refine own_aloadN (q := 32) A35 d56_31 rfl rfl ?_
  refine own_aloadN (q := 33) A35 d56_32 rfl rfl ?_
  refine own_putF (host := "") (q := 36) A35 (Or.inl (H.k 37 rfl)) Via.refl f37 f36 (Or.inl (H.k 38 rfl)) (H.k 22 rfl) (ty := (.array .byte)) (by decide) rfl rfl B.gb (Or.inr (Or.inl rfl)) d56_33 ?_
  intro T43 h44 A45 W46
  have K47 := K41.wr W46 (Or.inl (by simp))
  have f48 := f36.wr W46
  have f49 := f37.same W46
  have f50 := f38.other W46 (Or.inr (slot_ne (Or.inl (H.k 40 rfl)) (Or.inl (H.k 38 rfl)) (by decide) (by decide : parseFieldDescriptor "B" = some .byte) (by decide : parseFieldDescriptor "[B" = some (.array .byte))))
  have f51 := f39.other W46 (Or.inr (slot_ne (Or.inl (H.k 65 rfl)) (Or.inl (H.k 38 rfl)) (by decide) (by decide : parseFieldDescriptor "I" = some .int) (by decide : parseFieldDescriptor "[B" = some (.array .byte))))
  have f52 := f40.other W46 (Or.inr (slot_ne (Or.inl (H.k 317 rfl)) (Or.inl (H.k 38 rfl)) (by decide) (by decide : parseFieldDescriptor "Z" = some .boolean) (by decide : parseFieldDescriptor "[B" = some (.array .byte))))
  have f53 := f42.other W46 (Ne.symm z17)
  refine own_aloadN (q := 37) A45 d56_36 rfl rfl ?_
  refine own_iconst (q := 38) A45 (1 : Int32) d56_37 rfl ?_
  refine own_putF (host := "") (q := 41) A45 (Or.inl (H.k 39 rfl)) Via.refl f50 f48 (Or.inl (H.k 40 rfl)) (H.k 22 rfl) (ty := .byte) (by decide) rfl rfl B.gb (Or.inr (Or.inl rfl)) d56_38 ?_
  intro T54 h55 A56 W57
  have K58 := K47.wr W57 (Or.inl (by simp))
  have f59 := f48.wr W57
  have f60 := f49.other W57 (Or.inr (slot_ne (Or.inl (H.k 38 rfl)) (Or.inl (H.k 40 rfl)) (by decide) (by decide : parseFieldDescriptor "[B" = some (.array .byte)) (by decide : parseFieldDescriptor "B" = some .byte)))
  have f61 := f50.same W57
  have f62 := f51.other W57 (Or.inr (slot_ne (Or.inl (H.k 65 rfl)) (Or.inl (H.k 40 rfl)) (by decide) (by decide : parseFieldDescriptor "I" = some .int) (by decide : parseFieldDescriptor "B" = some .byte)))
  have f63 := f52.other W57 (Or.inr (slot_ne (Or.inl (H.k 317 rfl)) (Or.inl (H.k 40 rfl)) (by decide) (by decide : parseFieldDescriptor "Z" = some .boolean) (by decide : parseFieldDescriptor "B" = some .byte)))
  have f64 := f53.other W57 (Ne.symm z17)
  exact own_ret0 A56 hQ d56_41 ⟨rfl, K58, t7, _, (Nat.le_trans (Keep.refl h0 [sb]).1 g10), (own_B_mk f59 f60 f61 f62 f63 f64 B.gb g9 z17)⟩
theorem rm_ifU (sb va : Addr) (kv : ClassId) (n : Int32) (vs lt : List Value) (x t : Addr) (kt : ClassId) (kb k : Int32) (us : List Value) (O0 : Old Z n0 h0) (H : own_H Z a0 zc fm) (B : own_B Z h0 n0 sb va kv 0 16 n vs) (X : own_X Z h0 x t kt 1 kb us) (M : own_Met false l Z n0 [] [] ⟨"java/lang/AbstractStringBuilder", "inflate", "()V"⟩ jdk_68_method_11_code 2 none [] (own_R 5 1 32 76) #[.ref sb] h0 (fun v h => v = none ∧ Keep h0 h [sb] ∧ ∃ (vb : Addr) (kz : ClassId), h0.size ≤ vb ∧ own_B Z h n0 sb vb kz 1 32 n lt)) (P : own_apf 1 32 n kb k us lt) (nxb : x ≠ sb) (ntb : t ≠ sb) :
  own_Met false l Z n0 [] [] ⟨"java/lang/AbstractStringBuilder", "inflateIfNeededFor", "(Ljava/lang/String;)V"⟩ jdk_68_method_71_code 2 none [] (own_R 6 1 32 89) #[(.ref sb), (.ref x)] h0 (fun v h => v = none ∧ Keep h0 h [sb] ∧ ∃ (vb : Addr) (kz : ClassId), h0.size ≤ vb ∧ own_B Z h n0 sb vb kz 1 32 n lt) := by
  refine own_ent (a0 := a0) (nm := "inflateIfNeededFor") (Ls := #[.val (.ref sb), .val (.ref x)]) own_pn4 O0 EW.nil ?_
  intro p e _ m _ below _ _ T0 Q hQ A0
  refine own_getS (q := 3) A0 (H.k 36 rfl) Via.refl H.SC d13_0 ?_
  intro T1 A2
  refine own_ifcF (q := 6) A2 d13_3 (show ¬ zc = (0 : Int32) from H.hz) ?_
  refine own_aloadN (q := 7) A2 d13_6 rfl rfl ?_
  refine own_getF (host := "") (q := 10) A2 (Or.inl (H.k 39 rfl)) Via.refl B.C d13_7 ?_
  intro T3 A4
  refine own_aloadN (q := 11) A4 d13_10 rfl rfl ?_
  refine own_virtual (q := 14) (W := 1) (argsL := []) (rest := [(.int 0)]) A4 (H.k 81 rfl) (H.k 58 rfl) (H.k 60 rfl) (H.k 59 rfl) (by decide) (own_pay (rm_cod x (1 : Int32) A4.old H X.C (by decide)) (H.k 61 rfl) (H.k 10 rfl) (by decide) (by decide)) own_nW (Nat.le_of_eq rfl) X.E own_pd9 rfl rfl rfl d13_11 (by decide) (by decide) ?_
  rintro v5 T6 h7 A8 ⟨rfl, rfl⟩
  show own_Run p e below Q m T6 14 #[.val (.ref sb), .val (.ref x)] [(.int 1), (.int 0)]
  refine own_icmpF (q := 17) A8 d13_14 (show ¬ (0 : Int32) = (1 : Int32) from by decide) ?_
  refine own_aloadN (q := 18) A8 d13_17 rfl rfl ?_
  refine own_private (q := 21) (W := 0) (argsL := []) (rest := []) A8 (H.k 273 rfl) (H.k 274 rfl) (H.k 276 rfl) (H.k 275 rfl) (H.k 277 rfl) (by decide) (own_pay M (H.k 277 rfl) (H.k 31 rfl) (by decide) (by decide)) own_nW (Nat.le_of_eq rfl) B.E own_pd4 rfl rfl rfl d13_18 (by decide) (by decide) ?_
  rintro v10 T11 h12 A13 ⟨rfl, q9⟩
  show own_Run p e below Q m T11 21 #[.val (.ref sb), .val (.ref x)] []
  exact own_ret0 A13 hQ d13_21 ⟨rfl, q9⟩
theorem rm_psU (sb va : Addr) (kv : ClassId) (n : Int32) (vs lt : List Value) (x t : Addr) (kt : ClassId) (kb k : Int32) (us : List Value) (O0 : Old Z n0 h0) (H : own_H Z a0 zc fm) (B : own_B Z h0 n0 sb va kv 0 16 n vs) (X : own_X Z h0 x t kt 1 kb us) (M : own_Met false l Z n0 [] [] ⟨"java/lang/AbstractStringBuilder", "inflate", "()V"⟩ jdk_68_method_11_code 2 none [] (own_R 5 1 32 76) #[.ref sb] h0 (fun v h => v = none ∧ Keep h0 h [sb] ∧ ∃ (vb : Addr) (kz : ClassId), h0.size ≤ vb ∧ own_B Z h n0 sb vb kz 1 32 n lt)) (P : own_apf 1 32 n kb k us lt) (nxb : x ≠ sb) (ntb : t ≠ sb) :
  own_Met false l Z n0 [] [] ⟨"java/lang/AbstractStringBuilder", "putStringAt", "(ILjava/lang/String;)V"⟩ jdk_68_method_73_code 3 none [] (own_R 7 1 32 102) #[(.ref sb), (.int n), (.ref x)] h0 (fun v h => v = none ∧ Keep h0 h [sb] ∧ ∃ (vb : Addr) (kz : ClassId), h0.size ≤ vb ∧ own_B Z h n0 sb vb kz 1 32 n (own_spl (n <<< ((1 : Int32) &&& 31)) kb us lt)) := by
  refine own_ent (a0 := a0) (nm := "putStringAt") (Ls := #[.val (.ref sb), .val (.int n), .val (.ref x)]) own_pn4 O0 EW.nil ?_
  intro p e _ m _ below _ _ T0 Q hQ A0
  refine own_aloadN (q := 1) A0 d12_0 rfl rfl ?_
  refine own_aloadN (q := 2) A0 d12_1 rfl rfl ?_
  refine own_private (q := 5) (W := 0) (argsL := [(.ref x)]) (rest := []) A0 (H.k 76 rfl) (H.k 77 rfl) (H.k 79 rfl) (H.k 78 rfl) (H.k 80 rfl) (by decide) (own_pay (rm_ifU sb va kv n vs lt x t kt kb k us A0.old H B X M P nxb ntb) (H.k 80 rfl) (H.k 31 rfl) (by decide) (by decide)) own_nW (Nat.le_of_eq rfl) B.E own_pd11 rfl rfl rfl d12_2 (by decide) (by decide) ?_
  rintro v6 T7 h8 A9 ⟨rfl, K5, vb1, kz2, g3, B4⟩
  show own_Run p e below Q m T7 5 #[.val (.ref sb), .val (.int n), .val (.ref x)] []
  have z10 : sb ≠ vb1 := Nat.ne_of_lt (Nat.lt_of_lt_of_le B.E.lt g3)
  have z11 : va ≠ vb1 := Nat.ne_of_lt (Nat.lt_of_lt_of_le B.K.lt g3)
  have z12 : x ≠ vb1 := Nat.ne_of_lt (Nat.lt_of_lt_of_le X.E.lt g3)
  have z13 : t ≠ vb1 := Nat.ne_of_lt (Nat.lt_of_lt_of_le X.K.lt g3)
  have f14 := X.E.keep K5
  have f15 := X.C.keep K5 (ninS nxb nin0)
  have f16 := X.V.keep K5 (ninS nxb nin0)
  have f17 := X.K.keep K5 (ninS ntb nin0)
  have K18 := (Keep.refl h0 [sb]).trans K5 (allS (Or.inl (by simp)) all0)
  refine own_aloadN (q := 6) A9 d12_5 rfl rfl ?_
  refine own_aloadN (q := 7) A9 d12_6 rfl rfl ?_
  refine own_getF (host := "") (q := 10) A9 (Or.inl (H.k 37 rfl)) Via.refl B4.V d12_7 ?_
  intro T19 A20
  refine own_iloadN (q := 11) A20 d12_10 rfl ?_
  refine own_aloadN (q := 12) A20 d12_11 rfl rfl ?_
  refine own_getF (host := "") (q := 15) A20 (Or.inl (H.k 39 rfl)) Via.refl B4.C d12_12 ?_
  intro T21 A22
  refine own_virtual (q := 18) (W := 0) (argsL := [(.ref vb1), (.int n), (.int 1)]) (rest := []) A22 (H.k 82 rfl) (H.k 83 rfl) (H.k 85 rfl) (H.k 84 rfl) (by decide) (own_pay (rm_gbS x t kt 1 kb k us vb1 kz2 32 n lt A22.old H (own_X_mk f14 f15 f16 f17) B4.K B4.gv P) (H.k 86 rfl) (H.k 10 rfl) (by decide) (by decide)) own_nW (Nat.le_of_eq rfl) f14 own_pd12 rfl rfl rfl d12_15 (by decide) (by decide) ?_
  rintro v25 T26 h27 A28 ⟨rfl, K23, V24⟩
  show own_Run p e below Q m T26 18 #[.val (.ref sb), .val (.int n), .val (.ref x)] []
  have f29 := B4.E.keep K23
  have f30 := B4.V.keep K23 (ninS B4.ne nin0)
  have f31 := B4.C.keep K23 (ninS B4.ne nin0)
  have f32 := B4.N.keep K23 (ninS B4.ne nin0)
  have f33 := B4.M.keep K23 (ninS B4.ne nin0)
  have K34 := K18.trans K23 (allS (Or.inr (Nat.le_trans (Keep.refl h0 [sb]).1 g3)) all0)
  exact own_ret0 A28 hQ d12_18 ⟨rfl, K34, vb1, _, (Nat.le_trans (Keep.refl h0 [sb]).1 g3), (own_B_mk f29 f30 f31 f32 f33 V24 B4.gb B4.gv B4.ne)⟩
theorem rm_aaU (sb va : Addr) (kv : ClassId) (n : Int32) (vs lt : List Value) (x t : Addr) (kt : ClassId) (kb k : Int32) (us : List Value) (O0 : Old Z n0 h0) (H : own_H Z a0 zc fm) (B : own_B Z h0 n0 sb va kv 0 16 n vs) (X : own_X Z h0 x t kt 1 kb us) (M : own_Met false l Z n0 [] [] ⟨"java/lang/AbstractStringBuilder", "inflate", "()V"⟩ jdk_68_method_11_code 2 none [] (own_R 5 1 32 76) #[.ref sb] h0 (fun v h => v = none ∧ Keep h0 h [sb] ∧ ∃ (vb : Addr) (kz : ClassId), h0.size ≤ vb ∧ own_B Z h n0 sb vb kz 1 32 n lt)) (P : own_apf 1 32 n kb k us lt) (nxb : x ≠ sb) (ntb : t ≠ sb) (cap : ¬ (0 : Int32) < (n + k) - ((16 : Int32) >>> ((0 : Int32) &&& 31))) :
  own_Met false l Z n0 [] [] ⟨"java/lang/AbstractStringBuilder", "append", "(Ljava/lang/String;)Ljava/lang/AbstractStringBuilder;"⟩ jdk_68_method_22_code 3 (some (.object "java/lang/AbstractStringBuilder")) [] (own_R 8 1 32 116) #[(.ref sb), (.ref x)] h0 (fun v h => v = some (.ref sb) ∧ Keep h0 h [sb] ∧ ∃ (vb : Addr) (kz : ClassId), h0.size ≤ vb ∧ own_B Z h n0 sb vb kz 1 32 (n + k) (own_spl (n <<< ((1 : Int32) &&& 31)) kb us lt)) := by
  refine own_ent (a0 := a0) (nm := "append") (Ls := #[.val (.ref sb), .val (.ref x), .unset]) own_pn4 O0 EW.nil ?_
  intro p e _ m _ below _ _ T0 Q hQ A0
  refine own_aloadN (q := 1) A0 d8_0 rfl rfl ?_
  refine own_ifnonnullT (q := 9) A0 d8_1 ?_
  refine own_aloadN (q := 10) A0 d8_9 rfl rfl ?_
  refine own_virtual (q := 13) (W := 0) (argsL := []) (rest := []) A0 (H.k 51 rfl) (H.k 52 rfl) (H.k 54 rfl) (H.k 53 rfl) (by decide) (own_pay (rm_len x t kt (1 : Int32) kb _ A0.old H X P.cd) (H.k 55 rfl) (H.k 10 rfl) (by decide) (by decide)) own_nW (Nat.le_of_eq rfl) X.E own_pd8 rfl rfl rfl d8_10 (by decide) (by decide) ?_
  rintro v1 T2 h3 A4 ⟨rfl, rfl⟩
  show own_Run p e below Q m T2 13 #[.val (.ref sb), .val (.ref x), .unset] [(.int (kb >>> ((1 : Int32) &&& 31)))]
  rw [show (kb >>> ((1 : Int32) &&& 31)) = k from P.kr]
  refine own_istoreN (q := 14) (L' := #[.val (.ref sb), .val (.ref x), .val (.int k)]) A4 d8_13 rfl ?_
  refine own_aloadN (q := 15) A4 d8_14 rfl rfl ?_
  refine own_aloadN (q := 16) A4 d8_15 rfl rfl ?_
  refine own_getF (host := "") (q := 19) A4 (Or.inl (H.k 64 rfl)) Via.refl B.N d8_16 ?_
  intro T5 A6
  refine own_iloadN (q := 20) A6 d8_19 rfl ?_
  refine own_iadd (q := 21) A6 d8_20 ?_
  refine own_private (q := 24) (W := 0) (argsL := [(.int (n + k))]) (rest := []) A6 (H.k 66 rfl) (H.k 67 rfl) (H.k 69 rfl) (H.k 68 rfl) (H.k 70 rfl) (by decide) (own_pay (rm_ens sb va kv (0 : Int32) (16 : Int32) n _ (n + k) A6.old H B cap) (H.k 70 rfl) (H.k 31 rfl) (by decide) (by decide)) own_nW (Nat.le_of_eq rfl) B.E own_pd5 rfl rfl rfl d8_21 (by decide) (by decide) ?_
  rintro v7 T8 h9 A10 ⟨rfl, rfl⟩
  show own_Run p e below Q m T8 24 #[.val (.ref sb), .val (.ref x), .val (.int k)] []
  refine own_aloadN (q := 25) A10 d8_24 rfl rfl ?_
  refine own_aloadN (q := 26) A10 d8_25 rfl rfl ?_
  refine own_getF (host := "") (q := 29) A10 (Or.inl (H.k 64 rfl)) Via.refl B.N d8_26 ?_
  intro T11 A12
  refine own_aloadN (q := 30) A12 d8_29 rfl rfl ?_
  refine own_private (q := 33) (W := 0) (argsL := [(.int n), (.ref x)]) (rest := []) A12 (H.k 71 rfl) (H.k 72 rfl) (H.k 74 rfl) (H.k 73 rfl) (H.k 75 rfl) (by decide) (own_pay (rm_psU sb va kv n vs lt x t kt kb k us A12.old H B X M P nxb ntb) (H.k 75 rfl) (H.k 31 rfl) (by decide) (by decide)) own_nW (Nat.le_of_eq rfl) B.E own_pd10 rfl rfl rfl d8_30 (by decide) (by decide) ?_
  rintro v18 T19 h20 A21 ⟨rfl, K17, vb13, kz14, g15, B16⟩
  show own_Run p e below Q m T19 33 #[.val (.ref sb), .val (.ref x), .val (.int k)] []
  have z22 : sb ≠ vb13 := Nat.ne_of_lt (Nat.lt_of_lt_of_le B.E.lt g15)
  have K23 := (Keep.refl h0 [sb]).trans K17 (allS (Or.inl (by simp)) all0)
  refine own_aloadN (q := 34) A21 d8_33 rfl rfl ?_
  refine own_dup (q := 35) A21 d8_34 rfl ?_
  refine own_getF (host := "") (q := 38) A21 (Or.inl (H.k 64 rfl)) Via.refl B16.N d8_35 ?_
  intro T24 A25
  refine own_iloadN (q := 39) A25 d8_38 rfl ?_
  refine own_iadd (q := 40) A25 d8_39 ?_
  refine own_putF (host := "") (q := 43) A25 (Or.inl (H.k 64 rfl)) Via.refl B16.N B16.E (Or.inl (H.k 65 rfl)) (H.k 22 rfl) (ty := .int) (by decide) rfl rfl B16.gb (Or.inr (Or.inl rfl)) d8_40 ?_
  intro T26 h27 A28 W29
  have K30 := K23.wr W29 (Or.inl (by simp))
  have f31 := B16.E.wr W29
  have f32 := B16.V.other W29 (Or.inr (slot_ne (Or.inl (H.k 38 rfl)) (Or.inl (H.k 65 rfl)) (by decide) (by decide : parseFieldDescriptor "[B" = some (.array .byte)) (by decide : parseFieldDescriptor "I" = some .int)))
  have f33 := B16.C.other W29 (Or.inr (slot_ne (Or.inl (H.k 40 rfl)) (Or.inl (H.k 65 rfl)) (by decide) (by decide : parseFieldDescriptor "B" = some .byte) (by decide : parseFieldDescriptor "I" = some .int)))
  have f34 := B16.N.same W29
  have f35 := B16.M.other W29 (Or.inr (slot_ne (Or.inl (H.k 317 rfl)) (Or.inl (H.k 65 rfl)) (by decide) (by decide : parseFieldDescriptor "Z" = some .boolean) (by decide : parseFieldDescriptor "I" = some .int)))
  have f36 := B16.K.other W29 (Ne.symm B16.ne)
  refine own_aloadN (q := 44) A28 d8_43 rfl rfl ?_
  exact own_retA A28 hQ rfl rfl rfl d8_44 ⟨rfl, K30, vb13, _, (Nat.le_trans (Keep.refl h0 [sb]).1 g15), (own_B_mk f31 f32 f33 f34 f35 f36 B16.gb B16.gv B16.ne)⟩
theorem rm_ifL (sb x : Addr) (O0 : Old Z n0 h0) (H : own_H Z a0 zc fm) (Eb : Exa Z h0 sb "java/lang/StringBuilder") (Fc : Fld Z h0 sb "java/lang/AbstractStringBuilder" "coder" "B" (.int 1)) (Ex : Exa Z h0 x "java/lang/String") (Cx : Fld Z h0 x "java/lang/String" "coder" "B" (.int 0)) :
  own_Met false l Z n0 [] [] ⟨"java/lang/AbstractStringBuilder", "inflateIfNeededFor", "(Ljava/lang/String;)V"⟩ jdk_68_method_71_code 2 none [] (own_R 2 0 0 25) #[(.ref sb), (.ref x)] h0 (fun v h => v = none ∧ h0 = h) := by
  refine own_ent (a0 := a0) (nm := "inflateIfNeededFor") (Ls := #[.val (.ref sb), .val (.ref x)]) own_pn4 O0 EW.nil ?_
  intro p e _ m _ below _ _ T0 Q hQ A0
  refine own_getS (q := 3) A0 (H.k 36 rfl) Via.refl H.SC d13_0 ?_
  intro T1 A2
  refine own_ifcF (q := 6) A2 d13_3 (show ¬ zc = (0 : Int32) from H.hz) ?_
  refine own_aloadN (q := 7) A2 d13_6 rfl rfl ?_
  refine own_getF (host := "") (q := 10) A2 (Or.inl (H.k 39 rfl)) Via.refl Fc d13_7 ?_
  intro T3 A4
  refine own_aloadN (q := 11) A4 d13_10 rfl rfl ?_
  refine own_virtual (q := 14) (W := 1) (argsL := []) (rest := [(.int 1)]) A4 (H.k 81 rfl) (H.k 58 rfl) (H.k 60 rfl) (H.k 59 rfl) (by decide) (own_pay (rm_cod x (0 : Int32) A4.old H Cx (by decide)) (H.k 61 rfl) (H.k 10 rfl) (by decide) (by decide)) own_nW (Nat.le_of_eq rfl) Ex own_pd9 rfl rfl rfl d13_11 (by decide) (by decide) ?_
  rintro v5 T6 h7 A8 ⟨rfl, rfl⟩
  show own_Run p e below Q m T6 14 #[.val (.ref sb), .val (.ref x)] [(.int 0), (.int 1)]
  refine own_icmpF (q := 17) A8 d13_14 (show ¬ (1 : Int32) = (0 : Int32) from by decide) ?_
  refine own_aloadN (q := 18) A8 d13_17 rfl rfl ?_
  refine own_private (q := 21) (W := 0) (argsL := []) (rest := []) A8 (H.k 273 rfl) (H.k 274 rfl) (H.k 276 rfl) (H.k 275 rfl) (H.k 277 rfl) (by decide) (own_pay (rm_in1 sb A8.old H Eb Fc) (H.k 277 rfl) (H.k 31 rfl) (by decide) (by decide)) own_nW (Nat.le_of_eq rfl) Eb own_pd4 rfl rfl rfl d13_18 (by decide) (by decide) ?_
  rintro v9 T10 h11 A12 ⟨rfl, rfl⟩
  show own_Run p e below Q m T10 21 #[.val (.ref sb), .val (.ref x)] []
  exact own_ret0 A12 hQ d13_21 ⟨rfl, rfl⟩
theorem rm_gbL (sb va : Addr) (kv : ClassId) (n : Int32) (vs ns : List Value) (x t : Addr) (kt : ClassId) (k : Int32) (us : List Value) (O0 : Old Z n0 h0) (H : own_H Z a0 zc fm) (B : own_B Z h0 n0 sb va kv 1 32 n vs) (X : own_X Z h0 x t kt 0 k us) (M : own_Met false l Z n0 [] [] ⟨"java/lang/StringLatin1", "inflate", "([BI[BII)V"⟩ jdk_43_method_50_code 5 none [] (own_R 4 0 0 60) #[.ref t, .int 0, .ref va, .int n, .int k] h0 (fun v h => v = none ∧ Keep h0 h [va] ∧ Arv Z h va kv .byte 32 ns (.int 0))) :
  own_Met false l Z n0 [] [] ⟨"java/lang/String", "getBytes", "([BIB)V"⟩ jdk_42_method_147_code 4 none [] (own_R 5 0 0 76) #[(.ref x), (.ref va), (.int n), (.int 1)] h0 (fun v h => v = none ∧ Keep h0 h [va] ∧ Arv Z h va kv .byte 32 ns (.int 0)) := by
  refine own_ent (a0 := a0) (nm := "getBytes") (Ls := #[.val (.ref x), .val (.ref va), .val (.int n), .val (.int 1)]) own_pn2 O0 EW.nil ?_
  intro p e _ m _ below _ _ T0 Q hQ A0
  refine own_aloadN (q := 1) A0 d14_0 rfl rfl ?_
  refine own_virtual (q := 4) (W := 0) (argsL := []) (rest := []) A0 (H.k 57 rfl) (H.k 58 rfl) (H.k 60 rfl) (H.k 59 rfl) (by decide) (own_pay (rm_cod x (0 : Int32) A0.old H X.C (by decide)) (H.k 61 rfl) (H.k 10 rfl) (by decide) (by decide)) own_nW (Nat.le_of_eq rfl) X.E own_pd9 rfl rfl rfl d14_1 (by decide) (by decide) ?_
  rintro v1 T2 h3 A4 ⟨rfl, rfl⟩
  show own_Run p e below Q m T2 4 #[.val (.ref x), .val (.ref va), .val (.int n), .val (.int 1)] [(.int 0)]
  refine own_iloadN (q := 5) A4 d14_4 rfl ?_
  refine own_icmpT (q := 28) A4 d14_5 (show ¬ (0 : Int32) = (1 : Int32) from by decide) ?_
  refine own_aloadN (q := 29) A4 d14_28 rfl rfl ?_
  refine own_getF (host := "") (q := 32) A4 (Or.inl (H.k 56 rfl)) Via.refl X.V d14_29 ?_
  intro T5 A6
  refine own_iconst (q := 33) A6 (0 : Int32) d14_32 rfl ?_
  refine own_aloadN (q := 34) A6 d14_33 rfl rfl ?_
  refine own_iloadN (q := 35) A6 d14_34 rfl ?_
  refine own_aloadN (q := 36) A6 d14_35 rfl rfl ?_
  refine own_getF (host := "") (q := 39) A6 (Or.inl (H.k 56 rfl)) Via.refl X.V d14_36 ?_
  intro T7 A8
  refine own_arrlenv (q := 40) A8 X.K d14_39 ?_
  refine own_static (q := 43) (W := 0) (argsL := [(.ref t), (.int 0), (.ref va), (.int n), (.int k)]) (rest := []) A8 (H.k 315 rfl) (H.k 286 rfl) (H.k 107 rfl) (H.k 287 rfl) (by decide) (own_pay M (H.k 287 rfl) (H.k 107 rfl) (by decide) (by decide)) own_nW (Nat.le_of_eq rfl) own_pd46 rfl rfl rfl d14_40 (by decide) (by decide) ?_
  rintro v10 T11 h12 A13 ⟨rfl, q9⟩
  show own_Run p e below Q m T11 43 #[.val (.ref x), .val (.ref va), .val (.int n), .val (.int 1)] []
  exact own_ret0 A13 hQ d14_43 ⟨rfl, q9⟩
theorem rm_psL (sb va : Addr) (kv : ClassId) (n : Int32) (vs ns : List Value) (x t : Addr) (kt : ClassId) (k : Int32) (us : List Value) (O0 : Old Z n0 h0) (H : own_H Z a0 zc fm) (B : own_B Z h0 n0 sb va kv 1 32 n vs) (X : own_X Z h0 x t kt 0 k us) (M : own_Met false l Z n0 [] [] ⟨"java/lang/StringLatin1", "inflate", "([BI[BII)V"⟩ jdk_43_method_50_code 5 none [] (own_R 4 0 0 60) #[.ref t, .int 0, .ref va, .int n, .int k] h0 (fun v h => v = none ∧ Keep h0 h [va] ∧ Arv Z h va kv .byte 32 ns (.int 0))) :
  own_Met false l Z n0 [] [] ⟨"java/lang/AbstractStringBuilder", "putStringAt", "(ILjava/lang/String;)V"⟩ jdk_68_method_73_code 3 none [] (own_R 6 0 0 91) #[(.ref sb), (.int n), (.ref x)] h0 (fun v h => v = none ∧ Keep h0 h [va] ∧ Arv Z h va kv .byte 32 ns (.int 0)) := by
  refine own_ent (a0 := a0) (nm := "putStringAt") (Ls := #[.val (.ref sb), .val (.int n), .val (.ref x)]) own_pn4 O0 EW.nil ?_
  intro p e _ m _ below _ _ T0 Q hQ A0
  refine own_aloadN (q := 1) A0 d12_0 rfl rfl ?_
  refine own_aloadN (q := 2) A0 d12_1 rfl rfl ?_
  refine own_private (q := 5) (W := 0) (argsL := [(.ref x)]) (rest := []) A0 (H.k 76 rfl) (H.k 77 rfl) (H.k 79 rfl) (H.k 78 rfl) (H.k 80 rfl) (by decide) (own_pay (rm_ifL sb x A0.old H B.E B.C X.E X.C) (H.k 80 rfl) (H.k 31 rfl) (by decide) (by decide)) own_nW (Nat.le_of_eq rfl) B.E own_pd11 rfl rfl rfl d12_2 (by decide) (by decide) ?_
  rintro v1 T2 h3 A4 ⟨rfl, rfl⟩
  show own_Run p e below Q m T2 5 #[.val (.ref sb), .val (.int n), .val (.ref x)] []
  refine own_aloadN (q := 6) A4 d12_5 rfl rfl ?_
  refine own_aloadN (q := 7) A4 d12_6 rfl rfl ?_
  refine own_getF (host := "") (q := 10) A4 (Or.inl (H.k 37 rfl)) Via.refl B.V d12_7 ?_
  intro T5 A6
  refine own_iloadN (q := 11) A6 d12_10 rfl ?_
  refine own_aloadN (q := 12) A6 d12_11 rfl rfl ?_
  refine own_getF (host := "") (q := 15) A6 (Or.inl (H.k 39 rfl)) Via.refl B.C d12_12 ?_
  intro T7 A8
  refine own_virtual (q := 18) (W := 0) (argsL := [(.ref va), (.int n), (.int 1)]) (rest := []) A8 (H.k 82 rfl) (H.k 83 rfl) (H.k 85 rfl) (H.k 84 rfl) (by decide) (own_pay (rm_gbL sb va kv n vs ns x t kt k us A8.old H B X M) (H.k 86 rfl) (H.k 10 rfl) (by decide) (by decide)) own_nW (Nat.le_of_eq rfl) X.E own_pd12 rfl rfl rfl d12_15 (by decide) (by decide) ?_
  rintro v10 T11 h12 A13 ⟨rfl, q9⟩
  show own_Run p e below Q m T11 18 #[.val (.ref sb), .val (.int n), .val (.ref x)] []
  exact own_ret0 A13 hQ d12_18 ⟨rfl, q9⟩
theorem rm_aaL (sb va : Addr) (kv : ClassId) (n : Int32) (vs ns : List Value) (x t : Addr) (kt : ClassId) (k : Int32) (us : List Value) (O0 : Old Z n0 h0) (H : own_H Z a0 zc fm) (B : own_B Z h0 n0 sb va kv 1 32 n vs) (X : own_X Z h0 x t kt 0 k us) (M : own_Met false l Z n0 [] [] ⟨"java/lang/StringLatin1", "inflate", "([BI[BII)V"⟩ jdk_43_method_50_code 5 none [] (own_R 4 0 0 60) #[.ref t, .int 0, .ref va, .int n, .int k] h0 (fun v h => v = none ∧ Keep h0 h [va] ∧ Arv Z h va kv .byte 32 ns (.int 0))) (cap : ¬ (0 : Int32) < (n + k) - ((32 : Int32) >>> ((1 : Int32) &&& 31))) :
  own_Met false l Z n0 [] [] ⟨"java/lang/AbstractStringBuilder", "append", "(Ljava/lang/String;)Ljava/lang/AbstractStringBuilder;"⟩ jdk_68_method_22_code 3 (some (.object "java/lang/AbstractStringBuilder")) [] (own_R 7 0 0 105) #[(.ref sb), (.ref x)] h0 (fun v h => v = some (.ref sb) ∧ Keep h0 h [sb, va] ∧ own_B Z h n0 sb va kv 1 32 (n + k) ns) := by
  refine own_ent (a0 := a0) (nm := "append") (Ls := #[.val (.ref sb), .val (.ref x), .unset]) own_pn4 O0 EW.nil ?_
  intro p e _ m _ below _ _ T0 Q hQ A0
  refine own_aloadN (q := 1) A0 d8_0 rfl rfl ?_
  refine own_ifnonnullT (q := 9) A0 d8_1 ?_
  refine own_aloadN (q := 10) A0 d8_9 rfl rfl ?_
  refine own_virtual (q := 13) (W := 0) (argsL := []) (rest := []) A0 (H.k 51 rfl) (H.k 52 rfl) (H.k 54 rfl) (H.k 53 rfl) (by decide) (own_pay (rm_len x t kt (0 : Int32) k _ A0.old H X (by decide)) (H.k 55 rfl) (H.k 10 rfl) (by decide) (by decide)) own_nW (Nat.le_of_eq rfl) X.E own_pd8 rfl rfl rfl d8_10 (by decide) (by decide) ?_
  rintro v1 T2 h3 A4 ⟨rfl, rfl⟩
  show own_Run p e below Q m T2 13 #[.val (.ref sb), .val (.ref x), .unset] [(.int (k >>> ((0 : Int32) &&& 31)))]
  rw [show (k >>> ((0 : Int32) &&& 31)) = k from own_shr0 _]
  refine own_istoreN (q := 14) (L' := #[.val (.ref sb), .val (.ref x), .val (.int k)]) A4 d8_13 rfl ?_
  refine own_aloadN (q := 15) A4 d8_14 rfl rfl ?_
  refine own_aloadN (q := 16) A4 d8_15 rfl rfl ?_
  refine own_getF (host := "") (q := 19) A4 (Or.inl (H.k 64 rfl)) Via.refl B.N d8_16 ?_
  intro T5 A6
  refine own_iloadN (q := 20) A6 d8_19 rfl ?_
  refine own_iadd (q := 21) A6 d8_20 ?_
  refine own_private (q := 24) (W := 0) (argsL := [(.int (n + k))]) (rest := []) A6 (H.k 66 rfl) (H.k 67 rfl) (H.k 69 rfl) (H.k 68 rfl) (H.k 70 rfl) (by decide) (own_pay (rm_ens sb va kv (1 : Int32) (32 : Int32) n _ (n + k) A6.old H B cap) (H.k 70 rfl) (H.k 31 rfl) (by decide) (by decide)) own_nW (Nat.le_of_eq rfl) B.E own_pd5 rfl rfl rfl d8_21 (by decide) (by decide) ?_
  rintro v7 T8 h9 A10 ⟨rfl, rfl⟩
  show own_Run p e below Q m T8 24 #[.val (.ref sb), .val (.ref x), .val (.int k)] []
  refine own_aloadN (q := 25) A10 d8_24 rfl rfl ?_
  refine own_aloadN (q := 26) A10 d8_25 rfl rfl ?_
  refine own_getF (host := "") (q := 29) A10 (Or.inl (H.k 64 rfl)) Via.refl B.N d8_26 ?_
  intro T11 A12
  refine own_aloadN (q := 30) A12 d8_29 rfl rfl ?_
  refine own_private (q := 33) (W := 0) (argsL := [(.int n), (.ref x)]) (rest := []) A12 (H.k 71 rfl) (H.k 72 rfl) (H.k 74 rfl) (H.k 73 rfl) (H.k 75 rfl) (by decide) (own_pay (rm_psL sb va kv n vs ns x t kt k us A12.old H B X M) (H.k 75 rfl) (H.k 31 rfl) (by decide) (by decide)) own_nW (Nat.le_of_eq rfl) B.E own_pd10 rfl rfl rfl d8_30 (by decide) (by decide) ?_
  rintro v15 T16 h17 A18 ⟨rfl, K13, V14⟩
  show own_Run p e below Q m T16 33 #[.val (.ref sb), .val (.ref x), .val (.int k)] []
  have f19 := B.E.keep K13
  have f20 := B.V.keep K13 (ninS B.ne nin0)
  have f21 := B.C.keep K13 (ninS B.ne nin0)
  have f22 := B.N.keep K13 (ninS B.ne nin0)
  have f23 := B.M.keep K13 (ninS B.ne nin0)
  have K24 := (Keep.refl h0 [sb, va]).trans K13 (allS (Or.inl (by simp)) all0)
  refine own_aloadN (q := 34) A18 d8_33 rfl rfl ?_
  refine own_dup (q := 35) A18 d8_34 rfl ?_
  refine own_getF (host := "") (q := 38) A18 (Or.inl (H.k 64 rfl)) Via.refl f22 d8_35 ?_
  intro T25 A26
  refine own_iloadN (q := 39) A26 d8_38 rfl ?_
  refine own_iadd (q := 40) A26 d8_39 ?_
  refine own_putF (host := "") (q := 43) A26 (Or.inl (H.k 64 rfl)) Via.refl f22 f19 (Or.inl (H.k 65 rfl)) (H.k 22 rfl) (ty := .int) (by decide) rfl rfl B.gb (Or.inr (Or.inl rfl)) d8_40 ?_
  intro T27 h28 A29 W30
  have K31 := K24.wr W30 (Or.inl (by simp))
  have f32 := f19.wr W30
  have f33 := f20.other W30 (Or.inr (slot_ne (Or.inl (H.k 38 rfl)) (Or.inl (H.k 65 rfl)) (by decide) (by decide : parseFieldDescriptor "[B" = some (.array .byte)) (by decide : parseFieldDescriptor "I" = some .int)))
  have f34 := f21.other W30 (Or.inr (slot_ne (Or.inl (H.k 40 rfl)) (Or.inl (H.k 65 rfl)) (by decide) (by decide : parseFieldDescriptor "B" = some .byte) (by decide : parseFieldDescriptor "I" = some .int)))
  have f35 := f22.same W30
  have f36 := f23.other W30 (Or.inr (slot_ne (Or.inl (H.k 317 rfl)) (Or.inl (H.k 65 rfl)) (by decide) (by decide : parseFieldDescriptor "Z" = some .boolean) (by decide : parseFieldDescriptor "I" = some .int)))
  have f37 := V14.other W30 (Ne.symm B.ne)
  refine own_aloadN (q := 44) A29 d8_43 rfl rfl ?_
  exact own_retA A29 hQ rfl rfl rfl d8_44 ⟨rfl, K31, (own_B_mk f32 f33 f34 f35 f36 f37 B.gb B.gv B.ne)⟩
theorem rm_saS (sb va : Addr) (kv : ClassId) (cd S n : Int32) (vs : List Value) (x t : Addr) (kt : ClassId) (kb k : Int32) (us : List Value) (O0 : Old Z n0 h0) (H : own_H Z a0 zc fm) (B : own_B Z h0 n0 sb va kv cd S n vs) (X : own_X Z h0 x t kt cd kb us) (P : own_apf cd S n kb k us vs) :
  own_Met false l Z n0 [] [] ⟨"java/lang/StringBuilder", "append", "(Ljava/lang/String;)Ljava/lang/StringBuilder;"⟩ jdk_67_method_7_code 2 (some (.object "java/lang/StringBuilder")) [] (own_R 9 1 32 130) #[(.ref sb), (.ref x)] h0 (fun v h => v = some (.ref sb) ∧ Keep h0 h [sb, va] ∧ own_B Z h n0 sb va kv cd S (n + k) (own_spl (n <<< (cd &&& 31)) kb us vs)) := by
  refine own_ent (a0 := a0) (nm := "append") (Ls := #[.val (.ref sb), .val (.ref x)]) own_pn6 O0 EW.nil ?_
  intro p e _ m _ below _ _ T0 Q hQ A0
  refine own_aloadN (q := 1) A0 d7_0 rfl rfl ?_
  refine own_aloadN (q := 2) A0 d7_1 rfl rfl ?_
  refine own_super (q := 5) (W := 0) (argsL := [(.ref x)]) (rest := []) A0 (H.k 46 rfl) (own_same (H.k 47 rfl) (H.k 125 rfl) (H.k 126 rfl) rfl (by decide)) (H.k 47 rfl) (H.k 48 rfl) (H.k 50 rfl) (by decide) (own_pay (rm_aaS sb va kv cd S n vs x t kt kb k us A0.old H B X P) (H.k 50 rfl) (H.k 31 rfl) (by decide) (by decide)) own_nW (Nat.le_of_eq rfl) B.E own_pd7 rfl rfl rfl d7_2 (by decide) (by decide) ?_
  rintro v2 T3 h4 A5 ⟨rfl, q1⟩
  show own_Run p e below Q m T3 5 #[.val (.ref sb), .val (.ref x)] [(.ref sb)]
  refine own_pop (q := 6) A5 d7_5 rfl ?_
  refine own_aloadN (q := 7) A5 d7_6 rfl rfl ?_
  exact own_retA A5 hQ rfl rfl rfl d7_7 ⟨rfl, q1⟩
theorem rm_saU (sb va : Addr) (kv : ClassId) (n : Int32) (vs lt : List Value) (x t : Addr) (kt : ClassId) (kb k : Int32) (us : List Value) (O0 : Old Z n0 h0) (H : own_H Z a0 zc fm) (B : own_B Z h0 n0 sb va kv 0 16 n vs) (X : own_X Z h0 x t kt 1 kb us) (M : own_Met false l Z n0 [] [] ⟨"java/lang/AbstractStringBuilder", "inflate", "()V"⟩ jdk_68_method_11_code 2 none [] (own_R 5 1 32 76) #[.ref sb] h0 (fun v h => v = none ∧ Keep h0 h [sb] ∧ ∃ (vb : Addr) (kz : ClassId), h0.size ≤ vb ∧ own_B Z h n0 sb vb kz 1 32 n lt)) (P : own_apf 1 32 n kb k us lt) (nxb : x ≠ sb) (ntb : t ≠ sb) (cap : ¬ (0 : Int32) < (n + k) - ((16 : Int32) >>> ((0 : Int32) &&& 31))) :
  own_Met false l Z n0 [] [] ⟨"java/lang/StringBuilder", "append", "(Ljava/lang/String;)Ljava/lang/StringBuilder;"⟩ jdk_67_method_7_code 2 (some (.object "java/lang/StringBuilder")) [] (own_R 9 1 32 130) #[(.ref sb), (.ref x)] h0 (fun v h => v = some (.ref sb) ∧ Keep h0 h [sb] ∧ ∃ (vb : Addr) (kz : ClassId), h0.size ≤ vb ∧ own_B Z h n0 sb vb kz 1 32 (n + k) (own_spl (n <<< ((1 : Int32) &&& 31)) kb us lt)) := by
  refine own_ent (a0 := a0) (nm := "append") (Ls := #[.val (.ref sb), .val (.ref x)]) own_pn6 O0 EW.nil ?_
  intro p e _ m _ below _ _ T0 Q hQ A0
  refine own_aloadN (q := 1) A0 d7_0 rfl rfl ?_
  refine own_aloadN (q := 2) A0 d7_1 rfl rfl ?_
  refine own_super (q := 5) (W := 0) (argsL := [(.ref x)]) (rest := []) A0 (H.k 46 rfl) (own_same (H.k 47 rfl) (H.k 125 rfl) (H.k 126 rfl) rfl (by decide)) (H.k 47 rfl) (H.k 48 rfl) (H.k 50 rfl) (by decide) (own_pay (rm_aaU sb va kv n vs lt x t kt kb k us A0.old H B X M P nxb ntb cap) (H.k 50 rfl) (H.k 31 rfl) (by decide) (by decide)) own_nW (Nat.le_of_eq rfl) B.E own_pd7 rfl rfl rfl d7_2 (by decide) (by decide) ?_
  rintro v2 T3 h4 A5 ⟨rfl, q1⟩
  show own_Run p e below Q m T3 5 #[.val (.ref sb), .val (.ref x)] [(.ref sb)]
  refine own_pop (q := 6) A5 d7_5 rfl ?_
  refine own_aloadN (q := 7) A5 d7_6 rfl rfl ?_
  exact own_retA A5 hQ rfl rfl rfl d7_7 ⟨rfl, q1⟩
theorem rm_saL (sb va : Addr) (kv : ClassId) (n : Int32) (vs ns : List Value) (x t : Addr) (kt : ClassId) (k : Int32) (us : List Value) (O0 : Old Z n0 h0) (H : own_H Z a0 zc fm) (B : own_B Z h0 n0 sb va kv 1 32 n vs) (X : own_X Z h0 x t kt 0 k us) (M : own_Met false l Z n0 [] [] ⟨"java/lang/StringLatin1", "inflate", "([BI[BII)V"⟩ jdk_43_method_50_code 5 none [] (own_R 4 0 0 60) #[.ref t, .int 0, .ref va, .int n, .int k] h0 (fun v h => v = none ∧ Keep h0 h [va] ∧ Arv Z h va kv .byte 32 ns (.int 0))) (cap : ¬ (0 : Int32) < (n + k) - ((32 : Int32) >>> ((1 : Int32) &&& 31))) :
  own_Met false l Z n0 [] [] ⟨"java/lang/StringBuilder", "append", "(Ljava/lang/String;)Ljava/lang/StringBuilder;"⟩ jdk_67_method_7_code 2 (some (.object "java/lang/StringBuilder")) [] (own_R 9 1 32 130) #[(.ref sb), (.ref x)] h0 (fun v h => v = some (.ref sb) ∧ Keep h0 h [sb, va] ∧ own_B Z h n0 sb va kv 1 32 (n + k) ns) := by
  refine own_ent (a0 := a0) (nm := "append") (Ls := #[.val (.ref sb), .val (.ref x)]) own_pn6 O0 EW.nil ?_
  intro p e _ m _ below _ _ T0 Q hQ A0
  refine own_aloadN (q := 1) A0 d7_0 rfl rfl ?_
  refine own_aloadN (q := 2) A0 d7_1 rfl rfl ?_
  refine own_super (q := 5) (W := 0) (argsL := [(.ref x)]) (rest := []) A0 (H.k 46 rfl) (own_same (H.k 47 rfl) (H.k 125 rfl) (H.k 126 rfl) rfl (by decide)) (H.k 47 rfl) (H.k 48 rfl) (H.k 50 rfl) (by decide) (own_pay (rm_aaL sb va kv n vs ns x t kt k us A0.old H B X M cap) (H.k 50 rfl) (H.k 31 rfl) (by decide) (by decide)) own_nW (Nat.le_of_eq rfl) B.E own_pd7 rfl rfl rfl d7_2 (by decide) (by decide) ?_
  rintro v2 T3 h4 A5 ⟨rfl, q1⟩
  show own_Run p e below Q m T3 5 #[.val (.ref sb), .val (.ref x)] [(.ref sb)]
  refine own_pop (q := 6) A5 d7_5 rfl ?_
  refine own_aloadN (q := 7) A5 d7_6 rfl rfl ?_
  exact own_retA A5 hQ rfl rfl rfl d7_7 ⟨rfl, q1⟩
theorem own_ap00 (sb va x : Addr) (O0 : Old Z n0 h0) (H : own_H Z a0 zc fm) (t : Addr) (kt : ClassId) (cx N : Int32) (us : List Value) (X : own_X Z h0 x t kt cx N us) (cod : StrChars.Road.CodA ([] : List Int32) cx N us) (ntv : t ≠ va) (nxb : x ≠ sb) (ntb : t ≠ sb) (r1 : ∀ c ∈ ([] : List Int32), ¬ c < 0) (r2 : ∀ c ∈ ([] : List Int32), ¬ c < 0) (B : own_SB Z h0 n0 sb va ([] : List Int32)) :
  own_Met false l Z n0 [] [] ⟨"java/lang/StringBuilder", "append", "(Ljava/lang/String;)Ljava/lang/StringBuilder;"⟩ jdk_67_method_7_code 2 (some (.object "java/lang/StringBuilder")) [] (own_R 9 1 32 130) #[(.ref sb), (.ref x)] h0 (fun v h => v = some (.ref sb) ∧ Keep h0 h [sb, va] ∧ ∃ vb, (vb = va ∨ h0.size ≤ vb) ∧ own_SB Z h n0 sb vb (([] : List Int32) ++ ([] : List Int32))) := by
  rcases B with ⟨kv, B, wb⟩ | ⟨kv, B, wb⟩
  · rcases cod with ⟨rfl, rfl, rfl, w⟩ | ⟨rfl, rfl, rfl, w⟩
    · exact (rm_saS sb va kv 0 16 0 _ x t kt 0 0 _ O0 H B X (own_apf_D (Nat.le_of_ble_eq_true rfl) rfl)).mono (fun v h ⟨q1, K, B2⟩ => ⟨q1, K, va, Or.inl rfl, Or.inl ⟨kv, B2.n (show (0 : Int32) + 0 = 0 from by decide), own_allA wb w⟩⟩)
    · exact absurd w (by simp)
  · exact absurd wb (by simp)
theorem own_ap01 (sb va x : Addr) (d0 : Int32) (O0 : Old Z n0 h0) (H : own_H Z a0 zc fm) (t : Addr) (kt : ClassId) (cx N : Int32) (us : List Value) (X : own_X Z h0 x t kt cx N us) (cod : StrChars.Road.CodA [d0] cx N us) (ntv : t ≠ va) (nxb : x ≠ sb) (ntb : t ≠ sb) (r1 : ∀ c ∈ ([] : List Int32), ¬ c < 0) (r2 : ∀ c ∈ [d0], ¬ c < 0) (B : own_SB Z h0 n0 sb va ([] : List Int32)) :
  own_Met false l Z n0 [] [] ⟨"java/lang/StringBuilder", "append", "(Ljava/lang/String;)Ljava/lang/StringBuilder;"⟩ jdk_67_method_7_code 2 (some (.object "java/lang/StringBuilder")) [] (own_R 9 1 32 130) #[(.ref sb), (.ref x)] h0 (fun v h => v = some (.ref sb) ∧ Keep h0 h [sb, va] ∧ ∃ vb, (vb = va ∨ h0.size ≤ vb) ∧ own_SB Z h n0 sb vb (([] : List Int32) ++ [d0])) := by
  rcases B with ⟨kv, B, wb⟩ | ⟨kv, B, wb⟩
  · rcases cod with ⟨rfl, rfl, rfl, w⟩ | ⟨rfl, rfl, rfl, w⟩
    · exact (rm_saS sb va kv 0 16 0 _ x t kt 1 1 _ O0 H B X (own_apf_D (Nat.le_of_ble_eq_true rfl) rfl)).mono (fun v h ⟨q1, K, B2⟩ => ⟨q1, K, va, Or.inl rfl, Or.inl ⟨kv, B2.n (show (0 : Int32) + 1 = 1 from by decide), own_allA wb w⟩⟩)
    · exact (rm_saU sb va kv 0 _ (own_bU ([] : List Int32)) x t kt 2 1 _ O0 H B X (rm_in0_0 sb va kv _  O0 H B  ) (own_apf_D (Nat.le_of_ble_eq_true rfl) rfl) nxb ntb (by decide)).mono (fun v h ⟨q1, K, vb, kz, g, B2⟩ => ⟨q1, own_keepM K, vb, Or.inr g, Or.inr ⟨kz, B2.n (show (0 : Int32) + 1 = 1 from by decide), own_exR _ w⟩⟩)
  · exact absurd wb (by simp)
theorem own_ap02 (sb va x : Addr) (d0 d1 : Int32) (O0 : Old Z n0 h0) (H : own_H Z a0 zc fm) (t : Addr) (kt : ClassId) (cx N : Int32) (us : List Value) (X : own_X Z h0 x t kt cx N us) (cod : StrChars.Road.CodA [d0, d1] cx N us) (ntv : t ≠ va) (nxb : x ≠ sb) (ntb : t ≠ sb) (r1 : ∀ c ∈ ([] : List Int32), ¬ c < 0) (r2 : ∀ c ∈ [d0, d1], ¬ c < 0) (B : own_SB Z h0 n0 sb va ([] : List Int32)) :
  own_Met false l Z n0 [] [] ⟨"java/lang/StringBuilder", "append", "(Ljava/lang/String;)Ljava/lang/StringBuilder;"⟩ jdk_67_method_7_code 2 (some (.object "java/lang/StringBuilder")) [] (own_R 9 1 32 130) #[(.ref sb), (.ref x)] h0 (fun v h => v = some (.ref sb) ∧ Keep h0 h [sb, va] ∧ ∃ vb, (vb = va ∨ h0.size ≤ vb) ∧ own_SB Z h n0 sb vb (([] : List Int32) ++ [d0, d1])) := by
  rcases B with ⟨kv, B, wb⟩ | ⟨kv, B, wb⟩
  · rcases cod with ⟨rfl, rfl, rfl, w⟩ | ⟨rfl, rfl, rfl, w⟩
    · exact (rm_saS sb va kv 0 16 0 _ x t kt 2 2 _ O0 H B X (own_apf_D (Nat.le_of_ble_eq_true rfl) rfl)).mono (fun v h ⟨q1, K, B2⟩ => ⟨q1, K, va, Or.inl rfl, Or.inl ⟨kv, B2.n (show (0 : Int32) + 2 = 2 from by decide), own_allA wb w⟩⟩)
    · exact (rm_saU sb va kv 0 _ (own_bU ([] : List Int32)) x t kt 4 2 _ O0 H B X (rm_in0_0 sb va kv _  O0 H B  ) (own_apf_D (Nat.le_of_ble_eq_true rfl) rfl) nxb ntb (by decide)).mono (fun v h ⟨q1, K, vb, kz, g, B2⟩ => ⟨q1, own_keepM K, vb, Or.inr g, Or.inr ⟨kz, B2.n (show (0 : Int32) + 2 = 2 from by decide), own_exR _ w⟩⟩)
  · exact absurd wb (by simp)
theorem own_ap10 (sb va x : Addr) (c0 : Int32) (O0 : Old Z n0 h0) (H : own_H Z a0 zc fm) (t : Addr) (kt : ClassId) (cx N : Int32) (us : List Value) (X : own_X Z h0 x t kt cx N us) (cod : StrChars.Road.CodA ([] : List Int32) cx N us) (ntv : t ≠ va) (nxb : x ≠ sb) (ntb : t ≠ sb) (r1 : ∀ c ∈ [c0], ¬ c < 0) (r2 : ∀ c ∈ ([] : List Int32), ¬ c < 0) (hu : ∀ c ∈ [c0], ¬ (255 : Int32) < c) (B : own_SB Z h0 n0 sb va [c0]) :
  own_Met false l Z n0 [] [] ⟨"java/lang/StringBuilder", "append", "(Ljava/lang/String;)Ljava/lang/StringBuilder;"⟩ jdk_67_method_7_code 2 (some (.object "java/lang/StringBuilder")) [] (own_R 9 1 32 130) #[(.ref sb), (.ref x)] h0 (fun v h => v = some (.ref sb) ∧ Keep h0 h [sb, va] ∧ ∃ vb, (vb = va ∨ h0.size ≤ vb) ∧ own_SB Z h n0 sb vb ([c0] ++ ([] : List Int32))) := by
  rcases B with ⟨kv, B, wb⟩ | ⟨kv, B, wb⟩
  · rcases cod with ⟨rfl, rfl, rfl, w⟩ | ⟨rfl, rfl, rfl, w⟩
    · exact (rm_saS sb va kv 0 16 1 _ x t kt 0 0 _ O0 H B X (own_apf_D (Nat.le_of_ble_eq_true rfl) rfl)).mono (fun v h ⟨q1, K, B2⟩ => ⟨q1, K, va, Or.inl rfl, Or.inl ⟨kv, B2.n (show (1 : Int32) + 0 = 1 from by decide), own_allA wb w⟩⟩)
    · exact absurd w (by simp)
  · exact absurd wb (fun ⟨c, h1, h2⟩ => hu c h1 h2)
theorem own_ap11 (sb va x : Addr) (c0 d0 : Int32) (O0 : Old Z n0 h0) (H : own_H Z a0 zc fm) (t : Addr) (kt : ClassId) (cx N : Int32) (us : List Value) (X : own_X Z h0 x t kt cx N us) (cod : StrChars.Road.CodA [d0] cx N us) (ntv : t ≠ va) (nxb : x ≠ sb) (ntb : t ≠ sb) (r1 : ∀ c ∈ [c0], ¬ c < 0) (r2 : ∀ c ∈ [d0], ¬ c < 0) (hu : ∀ c ∈ [c0], ¬ (255 : Int32) < c) (B : own_SB Z h0 n0 sb va [c0]) :
  own_Met false l Z n0 [] [] ⟨"java/lang/StringBuilder", "append", "(Ljava/lang/String;)Ljava/lang/StringBuilder;"⟩ jdk_67_method_7_code 2 (some (.object "java/lang/StringBuilder")) [] (own_R 9 1 32 130) #[(.ref sb), (.ref x)] h0 (fun v h => v = some (.ref sb) ∧ Keep h0 h [sb, va] ∧ ∃ vb, (vb = va ∨ h0.size ≤ vb) ∧ own_SB Z h n0 sb vb ([c0] ++ [d0])) := by
  rcases B with ⟨kv, B, wb⟩ | ⟨kv, B, wb⟩
  · rcases cod with ⟨rfl, rfl, rfl, w⟩ | ⟨rfl, rfl, rfl, w⟩
    · exact (rm_saS sb va kv 0 16 1 _ x t kt 1 1 _ O0 H B X (own_apf_D (Nat.le_of_ble_eq_true rfl) rfl)).mono (fun v h ⟨q1, K, B2⟩ => ⟨q1, K, va, Or.inl rfl, Or.inl ⟨kv, B2.n (show (1 : Int32) + 1 = 2 from by decide), own_allA wb w⟩⟩)
    · exact (rm_saU sb va kv 1 _ (own_bU [c0]) x t kt 2 1 _ O0 H B X (rm_in0_1 sb va kv _ c0 O0 H B rfl (r1 c0 (by simp)) (wb c0 (by simp))) (own_apf_D (Nat.le_of_ble_eq_true rfl) rfl) nxb ntb (by decide)).mono (fun v h ⟨q1, K, vb, kz, g, B2⟩ => ⟨q1, own_keepM K, vb, Or.inr g, Or.inr ⟨kz, B2.n (show (1 : Int32) + 1 = 2 from by decide), own_exR _ w⟩⟩)
  · exact absurd wb (fun ⟨c, h1, h2⟩ => hu c h1 h2)
theorem own_ap12 (sb va x : Addr) (c0 d0 d1 : Int32) (O0 : Old Z n0 h0) (H : own_H Z a0 zc fm) (t : Addr) (kt : ClassId) (cx N : Int32) (us : List Value) (X : own_X Z h0 x t kt cx N us) (cod : StrChars.Road.CodA [d0, d1] cx N us) (ntv : t ≠ va) (nxb : x ≠ sb) (ntb : t ≠ sb) (r1 : ∀ c ∈ [c0], ¬ c < 0) (r2 : ∀ c ∈ [d0, d1], ¬ c < 0) (hu : ∀ c ∈ [c0], ¬ (255 : Int32) < c) (B : own_SB Z h0 n0 sb va [c0]) :
  own_Met false l Z n0 [] [] ⟨"java/lang/StringBuilder", "append", "(Ljava/lang/String;)Ljava/lang/StringBuilder;"⟩ jdk_67_method_7_code 2 (some (.object "java/lang/StringBuilder")) [] (own_R 9 1 32 130) #[(.ref sb), (.ref x)] h0 (fun v h => v = some (.ref sb) ∧ Keep h0 h [sb, va] ∧ ∃ vb, (vb = va ∨ h0.size ≤ vb) ∧ own_SB Z h n0 sb vb ([c0] ++ [d0, d1])) := by
  rcases B with ⟨kv, B, wb⟩ | ⟨kv, B, wb⟩
  · rcases cod with ⟨rfl, rfl, rfl, w⟩ | ⟨rfl, rfl, rfl, w⟩
    · exact (rm_saS sb va kv 0 16 1 _ x t kt 2 2 _ O0 H B X (own_apf_D (Nat.le_of_ble_eq_true rfl) rfl)).mono (fun v h ⟨q1, K, B2⟩ => ⟨q1, K, va, Or.inl rfl, Or.inl ⟨kv, B2.n (show (1 : Int32) + 2 = 3 from by decide), own_allA wb w⟩⟩)
    · exact (rm_saU sb va kv 1 _ (own_bU [c0]) x t kt 4 2 _ O0 H B X (rm_in0_1 sb va kv _ c0 O0 H B rfl (r1 c0 (by simp)) (wb c0 (by simp))) (own_apf_D (Nat.le_of_ble_eq_true rfl) rfl) nxb ntb (by decide)).mono (fun v h ⟨q1, K, vb, kz, g, B2⟩ => ⟨q1, own_keepM K, vb, Or.inr g, Or.inr ⟨kz, B2.n (show (1 : Int32) + 2 = 3 from by decide), own_exR _ w⟩⟩)
  · exact absurd wb (fun ⟨c, h1, h2⟩ => hu c h1 h2)
theorem own_ap20 (sb va x : Addr) (c0 c1 : Int32) (O0 : Old Z n0 h0) (H : own_H Z a0 zc fm) (t : Addr) (kt : ClassId) (cx N : Int32) (us : List Value) (X : own_X Z h0 x t kt cx N us) (cod : StrChars.Road.CodA ([] : List Int32) cx N us) (ntv : t ≠ va) (nxb : x ≠ sb) (ntb : t ≠ sb) (r1 : ∀ c ∈ [c0, c1], ¬ c < 0) (r2 : ∀ c ∈ ([] : List Int32), ¬ c < 0) (B : own_SB Z h0 n0 sb va [c0, c1]) :
  own_Met false l Z n0 [] [] ⟨"java/lang/StringBuilder", "append", "(Ljava/lang/String;)Ljava/lang/StringBuilder;"⟩ jdk_67_method_7_code 2 (some (.object "java/lang/StringBuilder")) [] (own_R 9 1 32 130) #[(.ref sb), (.ref x)] h0 (fun v h => v = some (.ref sb) ∧ Keep h0 h [sb, va] ∧ ∃ vb, (vb = va ∨ h0.size ≤ vb) ∧ own_SB Z h n0 sb vb ([c0, c1] ++ ([] : List Int32))) := by
  rcases B with ⟨kv, B, wb⟩ | ⟨kv, B, wb⟩
  · rcases cod with ⟨rfl, rfl, rfl, w⟩ | ⟨rfl, rfl, rfl, w⟩
    · exact (rm_saS sb va kv 0 16 2 _ x t kt 0 0 _ O0 H B X (own_apf_D (Nat.le_of_ble_eq_true rfl) rfl)).mono (fun v h ⟨q1, K, B2⟩ => ⟨q1, K, va, Or.inl rfl, Or.inl ⟨kv, B2.n (show (2 : Int32) + 0 = 2 from by decide), own_allA wb w⟩⟩)
    · exact absurd w (by simp)
  · rcases cod with ⟨rfl, rfl, rfl, w⟩ | ⟨rfl, rfl, rfl, w⟩
    · exact (rm_saL sb va kv 2 _ (own_bU [c0, c1]) x t kt 0 _ O0 H B X (rm_lf0 t kt 0 _ va kv _ 2   O0 H X.K (by decide) B.K rfl B.gv ntv (by decide) (by decide)   ) (by decide)).mono (fun v h ⟨q1, K, B2⟩ => ⟨q1, K, va, Or.inl rfl, Or.inr ⟨kv, B2.n (show (2 : Int32) + 0 = 2 from by decide), own_exL _ wb⟩⟩)
    · exact absurd w (by simp)
theorem own_ap21 (sb va x : Addr) (c0 c1 d0 : Int32) (O0 : Old Z n0 h0) (H : own_H Z a0 zc fm) (t : Addr) (kt : ClassId) (cx N : Int32) (us : List Value) (X : own_X Z h0 x t kt cx N us) (cod : StrChars.Road.CodA [d0] cx N us) (ntv : t ≠ va) (nxb : x ≠ sb) (ntb : t ≠ sb) (r1 : ∀ c ∈ [c0, c1], ¬ c < 0) (r2 : ∀ c ∈ [d0], ¬ c < 0) (B : own_SB Z h0 n0 sb va [c0, c1]) :
  own_Met false l Z n0 [] [] ⟨"java/lang/StringBuilder", "append", "(Ljava/lang/String;)Ljava/lang/StringBuilder;"⟩ jdk_67_method_7_code 2 (some (.object "java/lang/StringBuilder")) [] (own_R 9 1 32 130) #[(.ref sb), (.ref x)] h0 (fun v h => v = some (.ref sb) ∧ Keep h0 h [sb, va] ∧ ∃ vb, (vb = va ∨ h0.size ≤ vb) ∧ own_SB Z h n0 sb vb ([c0, c1] ++ [d0])) := by
  rcases B with ⟨kv, B, wb⟩ | ⟨kv, B, wb⟩
  · rcases cod with ⟨rfl, rfl, rfl, w⟩ | ⟨rfl, rfl, rfl, w⟩
    · exact (rm_saS sb va kv 0 16 2 _ x t kt 1 1 _ O0 H B X (own_apf_D (Nat.le_of_ble_eq_true rfl) rfl)).mono (fun v h ⟨q1, K, B2⟩ => ⟨q1, K, va, Or.inl rfl, Or.inl ⟨kv, B2.n (show (2 : Int32) + 1 = 3 from by decide), own_allA wb w⟩⟩)
    · exact (rm_saU sb va kv 2 _ (own_bU [c0, c1]) x t kt 2 1 _ O0 H B X (rm_in0_2 sb va kv _ c0 c1 O0 H B rfl rfl (r1 c0 (by simp)) (wb c0 (by simp)) (r1 c1 (by simp)) (wb c1 (by simp))) (own_apf_D (Nat.le_of_ble_eq_true rfl) rfl) nxb ntb (by decide)).mono (fun v h ⟨q1, K, vb, kz, g, B2⟩ => ⟨q1, own_keepM K, vb, Or.inr g, Or.inr ⟨kz, B2.n (show (2 : Int32) + 1 = 3 from by decide), own_exR _ w⟩⟩)
  · rcases cod with ⟨rfl, rfl, rfl, w⟩ | ⟨rfl, rfl, rfl, w⟩
    · exact (rm_saL sb va kv 2 _ (((own_bU [c0, c1]).set 4 (.int (StrChars.lo8 d0))).set (4 + 1) (.int (StrChars.hi8 d0))) x t kt 1 _ O0 H B X (rm_lf1 t kt 1 _ va kv _ 2 4 d0 O0 H X.K (by decide) B.K rfl B.gv ntv (by decide) (by decide) own_pi_D rfl (r2 d0 (by simp)) (w d0 (by simp))) (by decide)).mono (fun v h ⟨q1, K, B2⟩ => ⟨q1, K, va, Or.inl rfl, Or.inr ⟨kv, B2.n (show (2 : Int32) + 1 = 3 from by decide), own_exL _ wb⟩⟩)
    · exact (rm_saS sb va kv 1 32 2 _ x t kt 2 1 _ O0 H B X (own_apf_D (Nat.le_of_ble_eq_true rfl) rfl)).mono (fun v h ⟨q1, K, B2⟩ => ⟨q1, K, va, Or.inl rfl, Or.inr ⟨kv, B2.n (show (2 : Int32) + 1 = 3 from by decide), own_exL _ wb⟩⟩)
theorem own_ap22 (sb va x : Addr) (c0 c1 d0 d1 : Int32) (O0 : Old Z n0 h0) (H : own_H Z a0 zc fm) (t : Addr) (kt : ClassId) (cx N : Int32) (us : List Value) (X : own_X Z h0 x t kt cx N us) (cod : StrChars.Road.CodA [d0, d1] cx N us) (ntv : t ≠ va) (nxb : x ≠ sb) (ntb : t ≠ sb) (r1 : ∀ c ∈ [c0, c1], ¬ c < 0) (r2 : ∀ c ∈ [d0, d1], ¬ c < 0) (B : own_SB Z h0 n0 sb va [c0, c1]) :
  own_Met false l Z n0 [] [] ⟨"java/lang/StringBuilder", "append", "(Ljava/lang/String;)Ljava/lang/StringBuilder;"⟩ jdk_67_method_7_code 2 (some (.object "java/lang/StringBuilder")) [] (own_R 9 1 32 130) #[(.ref sb), (.ref x)] h0 (fun v h => v = some (.ref sb) ∧ Keep h0 h [sb, va] ∧ ∃ vb, (vb = va ∨ h0.size ≤ vb) ∧ own_SB Z h n0 sb vb ([c0, c1] ++ [d0, d1])) := by
  rcases B with ⟨kv, B, wb⟩ | ⟨kv, B, wb⟩
  · rcases cod with ⟨rfl, rfl, rfl, w⟩ | ⟨rfl, rfl, rfl, w⟩
    · exact (rm_saS sb va kv 0 16 2 _ x t kt 2 2 _ O0 H B X (own_apf_D (Nat.le_of_ble_eq_true rfl) rfl)).mono (fun v h ⟨q1, K, B2⟩ => ⟨q1, K, va, Or.inl rfl, Or.inl ⟨kv, B2.n (show (2 : Int32) + 2 = 4 from by decide), own_allA wb w⟩⟩)
    · exact (rm_saU sb va kv 2 _ (own_bU [c0, c1]) x t kt 4 2 _ O0 H B X (rm_in0_2 sb va kv _ c0 c1 O0 H B rfl rfl (r1 c0 (by simp)) (wb c0 (by simp)) (r1 c1 (by simp)) (wb c1 (by simp))) (own_apf_D (Nat.le_of_ble_eq_true rfl) rfl) nxb ntb (by decide)).mono (fun v h ⟨q1, K, vb, kz, g, B2⟩ => ⟨q1, own_keepM K, vb, Or.inr g, Or.inr ⟨kz, B2.n (show (2 : Int32) + 2 = 4 from by decide), own_exR _ w⟩⟩)
  · rcases cod with ⟨rfl, rfl, rfl, w⟩ | ⟨rfl, rfl, rfl, w⟩
    · exact (rm_saL sb va kv 2 _ (((((own_bU [c0, c1]).set 4 (.int (StrChars.lo8 d0))).set (4 + 1) (.int (StrChars.hi8 d0))).set 6 (.int (StrChars.lo8 d1))).set (6 + 1) (.int (StrChars.hi8 d1))) x t kt 2 _ O0 H B X (rm_lf2 t kt 2 _ va kv _ 2 4 6 d0 d1 O0 H X.K (by decide) B.K rfl B.gv ntv (by decide) (by decide) own_pi_D own_pi_D rfl rfl (r2 d0 (by simp)) (w d0 (by simp)) (r2 d1 (by simp)) (w d1 (by simp))) (by decide)).mono (fun v h ⟨q1, K, B2⟩ => ⟨q1, K, va, Or.inl rfl, Or.inr ⟨kv, B2.n (show (2 : Int32) + 2 = 4 from by decide), own_exL _ wb⟩⟩)
    · exact (rm_saS sb va kv 1 32 2 _ x t kt 4 2 _ O0 H B X (own_apf_D (Nat.le_of_ble_eq_true rfl) rfl)).mono (fun v h ⟨q1, K, B2⟩ => ⟨q1, K, va, Or.inl rfl, Or.inr ⟨kv, B2.n (show (2 : Int32) + 2 = 4 from by decide), own_exL _ wb⟩⟩)
theorem own_ap30 (sb va x : Addr) (c0 c1 c2 : Int32) (O0 : Old Z n0 h0) (H : own_H Z a0 zc fm) (t : Addr) (kt : ClassId) (cx N : Int32) (us : List Value) (X : own_X Z h0 x t kt cx N us) (cod : StrChars.Road.CodA ([] : List Int32) cx N us) (ntv : t ≠ va) (nxb : x ≠ sb) (ntb : t ≠ sb) (r1 : ∀ c ∈ [c0, c1, c2], ¬ c < 0) (r2 : ∀ c ∈ ([] : List Int32), ¬ c < 0) (B : own_SB Z h0 n0 sb va [c0, c1, c2]) :
  own_Met false l Z n0 [] [] ⟨"java/lang/StringBuilder", "append", "(Ljava/lang/String;)Ljava/lang/StringBuilder;"⟩ jdk_67_method_7_code 2 (some (.object "java/lang/StringBuilder")) [] (own_R 9 1 32 130) #[(.ref sb), (.ref x)] h0 (fun v h => v = some (.ref sb) ∧ Keep h0 h [sb, va] ∧ ∃ vb, (vb = va ∨ h0.size ≤ vb) ∧ own_SB Z h n0 sb vb ([c0, c1, c2] ++ ([] : List Int32))) := by
  rcases B with ⟨kv, B, wb⟩ | ⟨kv, B, wb⟩
  · rcases cod with ⟨rfl, rfl, rfl, w⟩ | ⟨rfl, rfl, rfl, w⟩
    · exact (rm_saS sb va kv 0 16 3 _ x t kt 0 0 _ O0 H B X (own_apf_D (Nat.le_of_ble_eq_true rfl) rfl)).mono (fun v h ⟨q1, K, B2⟩ => ⟨q1, K, va, Or.inl rfl, Or.inl ⟨kv, B2.n (show (3 : Int32) + 0 = 3 from by decide), own_allA wb w⟩⟩)
    · exact absurd w (by simp)
  · rcases cod with ⟨rfl, rfl, rfl, w⟩ | ⟨rfl, rfl, rfl, w⟩
    · exact (rm_saL sb va kv 3 _ (own_bU [c0, c1, c2]) x t kt 0 _ O0 H B X (rm_lf0 t kt 0 _ va kv _ 3   O0 H X.K (by decide) B.K rfl B.gv ntv (by decide) (by decide)   ) (by decide)).mono (fun v h ⟨q1, K, B2⟩ => ⟨q1, K, va, Or.inl rfl, Or.inr ⟨kv, B2.n (show (3 : Int32) + 0 = 3 from by decide), own_exL _ wb⟩⟩)
    · exact absurd w (by simp)
theorem own_ap31 (sb va x : Addr) (c0 c1 c2 d0 : Int32) (O0 : Old Z n0 h0) (H : own_H Z a0 zc fm) (t : Addr) (kt : ClassId) (cx N : Int32) (us : List Value) (X : own_X Z h0 x t kt cx N us) (cod : StrChars.Road.CodA [d0] cx N us) (ntv : t ≠ va) (nxb : x ≠ sb) (ntb : t ≠ sb) (r1 : ∀ c ∈ [c0, c1, c2], ¬ c < 0) (r2 : ∀ c ∈ [d0], ¬ c < 0) (B : own_SB Z h0 n0 sb va [c0, c1, c2]) :
  own_Met false l Z n0 [] [] ⟨"java/lang/StringBuilder", "append", "(Ljava/lang/String;)Ljava/lang/StringBuilder;"⟩ jdk_67_method_7_code 2 (some (.object "java/lang/StringBuilder")) [] (own_R 9 1 32 130) #[(.ref sb), (.ref x)] h0 (fun v h => v = some (.ref sb) ∧ Keep h0 h [sb, va] ∧ ∃ vb, (vb = va ∨ h0.size ≤ vb) ∧ own_SB Z h n0 sb vb ([c0, c1, c2] ++ [d0])) := by
  rcases B with ⟨kv, B, wb⟩ | ⟨kv, B, wb⟩
  · rcases cod with ⟨rfl, rfl, rfl, w⟩ | ⟨rfl, rfl, rfl, w⟩
    · exact (rm_saS sb va kv 0 16 3 _ x t kt 1 1 _ O0 H B X (own_apf_D (Nat.le_of_ble_eq_true rfl) rfl)).mono (fun v h ⟨q1, K, B2⟩ => ⟨q1, K, va, Or.inl rfl, Or.inl ⟨kv, B2.n (show (3 : Int32) + 1 = 4 from by decide), own_allA wb w⟩⟩)
    · exact (rm_saU sb va kv 3 _ (own_bU [c0, c1, c2]) x t kt 2 1 _ O0 H B X (rm_in0_3 sb va kv _ c0 c1 c2 O0 H B rfl rfl rfl (r1 c0 (by simp)) (wb c0 (by simp)) (r1 c1 (by simp)) (wb c1 (by simp)) (r1 c2 (by simp)) (wb c2 (by simp))) (own_apf_D (Nat.le_of_ble_eq_true rfl) rfl) nxb ntb (by decide)).mono (fun v h ⟨q1, K, vb, kz, g, B2⟩ => ⟨q1, own_keepM K, vb, Or.inr g, Or.inr ⟨kz, B2.n (show (3 : Int32) + 1 = 4 from by decide), own_exR _ w⟩⟩)
  · rcases cod with ⟨rfl, rfl, rfl, w⟩ | ⟨rfl, rfl, rfl, w⟩
    · exact (rm_saL sb va kv 3 _ (((own_bU [c0, c1, c2]).set 6 (.int (StrChars.lo8 d0))).set (6 + 1) (.int (StrChars.hi8 d0))) x t kt 1 _ O0 H B X (rm_lf1 t kt 1 _ va kv _ 3 6 d0 O0 H X.K (by decide) B.K rfl B.gv ntv (by decide) (by decide) own_pi_D rfl (r2 d0 (by simp)) (w d0 (by simp))) (by decide)).mono (fun v h ⟨q1, K, B2⟩ => ⟨q1, K, va, Or.inl rfl, Or.inr ⟨kv, B2.n (show (3 : Int32) + 1 = 4 from by decide), own_exL _ wb⟩⟩)
    · exact (rm_saS sb va kv 1 32 3 _ x t kt 2 1 _ O0 H B X (own_apf_D (Nat.le_of_ble_eq_true rfl) rfl)).mono (fun v h ⟨q1, K, B2⟩ => ⟨q1, K, va, Or.inl rfl, Or.inr ⟨kv, B2.n (show (3 : Int32) + 1 = 4 from by decide), own_exL _ wb⟩⟩)
theorem own_ap32 (sb va x : Addr) (c0 c1 c2 d0 d1 : Int32) (O0 : Old Z n0 h0) (H : own_H Z a0 zc fm) (t : Addr) (kt : ClassId) (cx N : Int32) (us : List Value) (X : own_X Z h0 x t kt cx N us) (cod : StrChars.Road.CodA [d0, d1] cx N us) (ntv : t ≠ va) (nxb : x ≠ sb) (ntb : t ≠ sb) (r1 : ∀ c ∈ [c0, c1, c2], ¬ c < 0) (r2 : ∀ c ∈ [d0, d1], ¬ c < 0) (B : own_SB Z h0 n0 sb va [c0, c1, c2]) :
  own_Met false l Z n0 [] [] ⟨"java/lang/StringBuilder", "append", "(Ljava/lang/String;)Ljava/lang/StringBuilder;"⟩ jdk_67_method_7_code 2 (some (.object "java/lang/StringBuilder")) [] (own_R 9 1 32 130) #[(.ref sb), (.ref x)] h0 (fun v h => v = some (.ref sb) ∧ Keep h0 h [sb, va] ∧ ∃ vb, (vb = va ∨ h0.size ≤ vb) ∧ own_SB Z h n0 sb vb ([c0, c1, c2] ++ [d0, d1])) := by
  rcases B with ⟨kv, B, wb⟩ | ⟨kv, B, wb⟩
  · rcases cod with ⟨rfl, rfl, rfl, w⟩ | ⟨rfl, rfl, rfl, w⟩
    · exact (rm_saS sb va kv 0 16 3 _ x t kt 2 2 _ O0 H B X (own_apf_D (Nat.le_of_ble_eq_true rfl) rfl)).mono (fun v h ⟨q1, K, B2⟩ => ⟨q1, K, va, Or.inl rfl, Or.inl ⟨kv, B2.n (show (3 : Int32) + 2 = 5 from by decide), own_allA wb w⟩⟩)
    · exact (rm_saU sb va kv 3 _ (own_bU [c0, c1, c2]) x t kt 4 2 _ O0 H B X (rm_in0_3 sb va kv _ c0 c1 c2 O0 H B rfl rfl rfl (r1 c0 (by simp)) (wb c0 (by simp)) (r1 c1 (by simp)) (wb c1 (by simp)) (r1 c2 (by simp)) (wb c2 (by simp))) (own_apf_D (Nat.le_of_ble_eq_true rfl) rfl) nxb ntb (by decide)).mono (fun v h ⟨q1, K, vb, kz, g, B2⟩ => ⟨q1, own_keepM K, vb, Or.inr g, Or.inr ⟨kz, B2.n (show (3 : Int32) + 2 = 5 from by decide), own_exR _ w⟩⟩)
  · rcases cod with ⟨rfl, rfl, rfl, w⟩ | ⟨rfl, rfl, rfl, w⟩
    · exact (rm_saL sb va kv 3 _ (((((own_bU [c0, c1, c2]).set 6 (.int (StrChars.lo8 d0))).set (6 + 1) (.int (StrChars.hi8 d0))).set 8 (.int (StrChars.lo8 d1))).set (8 + 1) (.int (StrChars.hi8 d1))) x t kt 2 _ O0 H B X (rm_lf2 t kt 2 _ va kv _ 3 6 8 d0 d1 O0 H X.K (by decide) B.K rfl B.gv ntv (by decide) (by decide) own_pi_D own_pi_D rfl rfl (r2 d0 (by simp)) (w d0 (by simp)) (r2 d1 (by simp)) (w d1 (by simp))) (by decide)).mono (fun v h ⟨q1, K, B2⟩ => ⟨q1, K, va, Or.inl rfl, Or.inr ⟨kv, B2.n (show (3 : Int32) + 2 = 5 from by decide), own_exL _ wb⟩⟩)
    · exact (rm_saS sb va kv 1 32 3 _ x t kt 4 2 _ O0 H B X (own_apf_D (Nat.le_of_ble_eq_true rfl) rfl)).mono (fun v h ⟨q1, K, B2⟩ => ⟨q1, K, va, Or.inl rfl, Or.inr ⟨kv, B2.n (show (3 : Int32) + 2 = 5 from by decide), own_exL _ wb⟩⟩)
theorem rm_app (sb va x : Addr) (bd : Nat) (cs ds : List Int32) (O0 : Old Z n0 h0) (H : own_H Z a0 zc fm) (B : own_SB Z h0 n0 sb va cs) (S : own_Su Z h0 bd x ds) (hb : bd ≤ va) (l1 : cs.length ≤ 3) (l2 : ds.length ≤ 2) (r1 : ∀ c ∈ cs, ¬ c < 0) (r2 : ∀ c ∈ ds, ¬ c < 0) (hu : cs.length = 1 → ∀ c ∈ cs, ¬ (255 : Int32) < c) :
  own_Met false l Z n0 [] [] ⟨"java/lang/StringBuilder", "append", "(Ljava/lang/String;)Ljava/lang/StringBuilder;"⟩ jdk_67_method_7_code 2 (some (.object "java/lang/StringBuilder")) [] (own_R 9 1 32 130) #[(.ref sb), (.ref x)] h0 (fun v h => v = some (.ref sb) ∧ Keep h0 h [sb, va] ∧ ∃ vb, (vb = va ∨ h0.size ≤ vb) ∧ own_SB Z h n0 sb vb (cs ++ ds)) := by
  obtain ⟨t, kt, cx, N, us, ht, X, cod⟩ := S
  have ntv : t ≠ va := Nat.ne_of_lt (Nat.lt_of_lt_of_le ht hb)
  have nxb : x ≠ sb := Exa.ne X.E B.E (by decide)
  have ntb : t ≠ sb := Ne.symm (Exa.neArv B.E X.K (H.k 22 rfl))
  rcases cs with _ | ⟨c0, _ | ⟨c1, _ | ⟨c2, _ | ⟨c3, cs⟩⟩⟩⟩
  · rcases ds with _ | ⟨d0, _ | ⟨d1, _ | ⟨d2, ds⟩⟩⟩
    · exact own_ap00 sb va x  O0 H t kt cx N us X cod ntv nxb ntb r1 r2 B
    · exact own_ap01 sb va x d0 O0 H t kt cx N us X cod ntv nxb ntb r1 r2 B
    · exact own_ap02 sb va x d0 d1 O0 H t kt cx N us X cod ntv nxb ntb r1 r2 B
    · exact absurd l2 (by simp only [List.length_cons]; omega)
  · rcases ds with _ | ⟨d0, _ | ⟨d1, _ | ⟨d2, ds⟩⟩⟩
    · exact own_ap10 sb va x c0 O0 H t kt cx N us X cod ntv nxb ntb r1 r2 (hu rfl) B
    · exact own_ap11 sb va x c0 d0 O0 H t kt cx N us X cod ntv nxb ntb r1 r2 (hu rfl) B
    · exact own_ap12 sb va x c0 d0 d1 O0 H t kt cx N us X cod ntv nxb ntb r1 r2 (hu rfl) B
    · exact absurd l2 (by simp only [List.length_cons]; omega)
  · rcases ds with _ | ⟨d0, _ | ⟨d1, _ | ⟨d2, ds⟩⟩⟩
    · exact own_ap20 sb va x c0 c1 O0 H t kt cx N us X cod ntv nxb ntb r1 r2 B
    · exact own_ap21 sb va x c0 c1 d0 O0 H t kt cx N us X cod ntv nxb ntb r1 r2 B
    · exact own_ap22 sb va x c0 c1 d0 d1 O0 H t kt cx N us X cod ntv nxb ntb r1 r2 B
    · exact absurd l2 (by simp only [List.length_cons]; omega)
  · rcases ds with _ | ⟨d0, _ | ⟨d1, _ | ⟨d2, ds⟩⟩⟩
    · exact own_ap30 sb va x c0 c1 c2 O0 H t kt cx N us X cod ntv nxb ntb r1 r2 B
    · exact own_ap31 sb va x c0 c1 c2 d0 O0 H t kt cx N us X cod ntv nxb ntb r1 r2 B
    · exact own_ap32 sb va x c0 c1 c2 d0 d1 O0 H t kt cx N us X cod ntv nxb ntb r1 r2 B
    · exact absurd l2 (by simp only [List.length_cons]; omega)
  · exact absurd l1 (by simp only [List.length_cons]; omega)
theorem rm_can0 (O0 : Old Z n0 h0) (H : own_H Z a0 zc fm) :
  own_Met false l Z n0 [] [] ⟨"java/lang/StringLatin1", "canEncode", "(C)Z"⟩ jdk_43_method_3_code 1 (some .boolean) [] (own_R 0 0 0 0) #[(.int 0)] h0 (fun v h => v = some (.int 1) ∧ h0 = h) := by
  refine own_ent (a0 := a0) (nm := "canEncode") (Ls := #[.val (.int 0)]) own_pn0 O0 EW.nil ?_
  intro p e _ m _ below _ _ T0 Q hQ A0
  refine own_iloadN (q := 1) A0 d18_0 rfl ?_
  refine own_sipush (q := 4) A0 (255 : Int32) d18_1 rfl ?_
  refine own_icmpF (q := 7) A0 d18_4 (show ¬ (255 : Int32) < (0 : Int32) from by decide) ?_
  refine own_iconst (q := 8) A0 (1 : Int32) d18_7 rfl ?_
  refine own_goto (q := 12) A0 d18_8 ?_
  exact own_retN A0 hQ (t := .boolean) (by simp) d18_12 ⟨rfl, rfl⟩
theorem d65_0 : decode jdk_52_method_71_code 0 = .ok (.iload_n 1, 1) := by decide +kernel
theorem d65_1 : decode jdk_52_method_71_code 1 = .ok (.aload_n 0, 1) := by decide +kernel
theorem d65_2 : decode jdk_52_method_71_code 2 = .ok (.invokestatic 67, 3) := by decide +kernel
theorem d65_5 : decode jdk_52_method_71_code 5 = .ok (.aload_n 0, 1) := by decide +kernel
theorem d65_6 : decode jdk_52_method_71_code 6 = .ok (.iload_n 1, 1) := by decide +kernel
theorem d65_7 : decode jdk_52_method_71_code 7 = .ok (.iload_n 2, 1) := by decide +kernel
theorem d65_8 : decode jdk_52_method_71_code 8 = .ok (.invokestatic 111, 3) := by decide +kernel
theorem d65_11 : decode jdk_52_method_71_code 11 = .ok (.return_, 1) := by decide +kernel
theorem rm_pcs (va : Addr) (kv : ClassId) (vs : List Value) (n : Int32) (j : Nat) (O0 : Old Z n0 h0) (H : own_H Z a0 zc fm) (Kv : Arv Z h0 va kv .byte 32 vs (.int 0)) (gv : n0 ≤ va) (lw : vs.length = 32) (P : own_pi 32 n j) (a1 : ¬ n < 0) (a2 : n < (32 : Int32) >>> ((1 : Int32) &&& 31)) :
  own_Met false l Z n0 [] [] ⟨"java/lang/StringUTF16", "putCharSB", "([BII)V"⟩ jdk_52_method_71_code 3 none [] (own_R 3 0 0 40) #[(.ref va), (.int n), (.int 0)] h0 (fun v h => v = none ∧ Keep h0 h [va] ∧ Arv Z h va kv .byte 32 ((vs.set j (.int (StrChars.lo8 (0 : Int32)))).set (j + 1) (.int (StrChars.hi8 (0 : Int32)))) (.int 0)) := by
  refine own_ent (a0 := a0) (nm := "putCharSB") (Ls := #[.val (.ref va), .val (.int n), .val (.int 0)]) own_pn1 O0 EW.nil ?_
  intro p e _ m _ below _ _ T0 Q hQ A0
  refine own_iloadN (q := 1) A0 d65_0 rfl ?_
  refine own_aloadN (q := 2) A0 d65_1 rfl rfl ?_
  refine own_static (q := 5) (W := 0) (argsL := [(.int n), (.ref va)]) (rest := []) A0 (H.k 306 rfl) (H.k 307 rfl) (H.k 242 rfl) (H.k 308 rfl) (by decide) (own_pay (rm_uci va kv 32 vs n A0.old H Kv a1 a2) (H.k 308 rfl) (H.k 242 rfl) (by decide) (by decide)) own_nW (Nat.le_of_eq rfl) own_pd50 rfl rfl rfl d65_2 (by decide) (by decide) ?_
  rintro v1 T2 h3 A4 ⟨rfl, rfl⟩
  show own_Run p e below Q m T2 5 #[.val (.ref va), .val (.int n), .val (.int 0)] []
  refine own_aloadN (q := 6) A4 d65_5 rfl rfl ?_
  refine own_iloadN (q := 7) A4 d65_6 rfl ?_
  refine own_iloadN (q := 8) A4 d65_7 rfl ?_
  refine own_static (q := 11) (W := 0) (argsL := [(.ref va), (.int n), (.int 0)]) (rest := []) A4 (H.k 266 rfl) (H.k 267 rfl) (H.k 242 rfl) (H.k 268 rfl) (by decide) (own_pay (rm_pc va kv 32 vs n j 0 A4.old H Kv gv P (by rw [lw]; exact P.n)) (H.k 268 rfl) (H.k 242 rfl) (by decide) (by decide)) own_nW (Nat.le_of_eq rfl) own_pd44 rfl rfl rfl d65_8 (by decide) (by decide) ?_
  rintro v6 T7 h8 A9 ⟨rfl, q5⟩
  show own_Run p e below Q m T7 11 #[.val (.ref va), .val (.int n), .val (.int 0)] []
  exact own_ret0 A9 hQ d65_11 ⟨rfl, q5⟩
theorem d16_0 : decode jdk_68_method_31_code 0 = .ok (.aload_n 0, 1) := by decide +kernel
theorem d16_1 : decode jdk_68_method_31_code 1 = .ok (.aload_n 0, 1) := by decide +kernel
theorem d16_2 : decode jdk_68_method_31_code 2 = .ok (.getfield 79, 3) := by decide +kernel
theorem d16_5 : decode jdk_68_method_31_code 5 = .ok (.iconst 1, 1) := by decide +kernel
theorem d16_6 : decode jdk_68_method_31_code 6 = .ok (.iadd, 1) := by decide +kernel
theorem d16_7 : decode jdk_68_method_31_code 7 = .ok (.invokevirtual 100, 3) := by decide +kernel
theorem d16_10 : decode jdk_68_method_31_code 10 = .ok (.aload_n 0, 1) := by decide +kernel
theorem d16_11 : decode jdk_68_method_31_code 11 = .ok (.invokevirtual 83, 3) := by decide +kernel
theorem d16_14 : decode jdk_68_method_31_code 14 = .ok (.ifCond .eq 31, 3) := by decide +kernel
theorem d16_17 : decode jdk_68_method_31_code 17 = .ok (.iload_n 1, 1) := by decide +kernel
theorem d16_18 : decode jdk_68_method_31_code 18 = .ok (.invokestatic 191, 3) := by decide +kernel
theorem d16_21 : decode jdk_68_method_31_code 21 = .ok (.ifCond .eq 24, 3) := by decide +kernel
theorem d16_24 : decode jdk_68_method_31_code 24 = .ok (.aload_n 0, 1) := by decide +kernel
theorem d16_25 : decode jdk_68_method_31_code 25 = .ok (.getfield 15, 3) := by decide +kernel
theorem d16_28 : decode jdk_68_method_31_code 28 = .ok (.aload_n 0, 1) := by decide +kernel
theorem d16_29 : decode jdk_68_method_31_code 29 = .ok (.dup, 1) := by decide +kernel
theorem d16_30 : decode jdk_68_method_31_code 30 = .ok (.getfield 79, 3) := by decide +kernel
theorem d16_33 : decode jdk_68_method_31_code 33 = .ok (.dup_x1, 1) := by decide +kernel
theorem d16_34 : decode jdk_68_method_31_code 34 = .ok (.iconst 1, 1) := by decide +kernel
theorem d16_35 : decode jdk_68_method_31_code 35 = .ok (.iadd, 1) := by decide +kernel
theorem d16_36 : decode jdk_68_method_31_code 36 = .ok (.putfield 79, 3) := by decide +kernel
theorem d16_39 : decode jdk_68_method_31_code 39 = .ok (.iload_n 1, 1) := by decide +kernel
theorem d16_40 : decode jdk_68_method_31_code 40 = .ok (.i2b, 1) := by decide +kernel
theorem d16_41 : decode jdk_68_method_31_code 41 = .ok (.bastore, 1) := by decide +kernel
theorem d16_42 : decode jdk_68_method_31_code 42 = .ok (.goto 33, 3) := by decide +kernel
theorem d16_45 : decode jdk_68_method_31_code 45 = .ok (.aload_n 0, 1) := by decide +kernel
theorem d16_46 : decode jdk_68_method_31_code 46 = .ok (.invokevirtual 83, 3) := by decide +kernel
theorem d16_49 : decode jdk_68_method_31_code 49 = .ok (.ifCond .eq 7, 3) := by decide +kernel
theorem d16_56 : decode jdk_68_method_31_code 56 = .ok (.aload_n 0, 1) := by decide +kernel
theorem d16_57 : decode jdk_68_method_31_code 57 = .ok (.getfield 15, 3) := by decide +kernel
theorem d16_60 : decode jdk_68_method_31_code 60 = .ok (.aload_n 0, 1) := by decide +kernel
theorem d16_61 : decode jdk_68_method_31_code 61 = .ok (.dup, 1) := by decide +kernel
theorem d16_62 : decode jdk_68_method_31_code 62 = .ok (.getfield 79, 3) := by decide +kernel
theorem d16_65 : decode jdk_68_method_31_code 65 = .ok (.dup_x1, 1) := by decide +kernel
theorem d16_66 : decode jdk_68_method_31_code 66 = .ok (.iconst 1, 1) := by decide +kernel
theorem d16_67 : decode jdk_68_method_31_code 67 = .ok (.iadd, 1) := by decide +kernel
theorem d16_68 : decode jdk_68_method_31_code 68 = .ok (.putfield 79, 3) := by decide +kernel
theorem d16_71 : decode jdk_68_method_31_code 71 = .ok (.iload_n 1, 1) := by decide +kernel
theorem d16_72 : decode jdk_68_method_31_code 72 = .ok (.invokestatic 197, 3) := by decide +kernel
theorem d16_75 : decode jdk_68_method_31_code 75 = .ok (.aload_n 0, 1) := by decide +kernel
theorem d16_76 : decode jdk_68_method_31_code 76 = .ok (.areturn, 1) := by decide +kernel
theorem rm_caL (sb va : Addr) (kv : ClassId) (vs : List Value) (n : Int32) (j : Nat) (O0 : Old Z n0 h0) (H : own_H Z a0 zc fm) (B : own_B Z h0 n0 sb va kv 0 16 n vs) (cap : ¬ (0 : Int32) < (n + 1) - ((16 : Int32) >>> ((0 : Int32) &&& 31))) (lw : vs.length = 16) (a1 : ¬ n < 0) (a2 : n.toNatClampNeg = j) (a3 : j < 16) :
  own_Met false l Z n0 [] [] ⟨"java/lang/AbstractStringBuilder", "append", "(C)Ljava/lang/AbstractStringBuilder;"⟩ jdk_68_method_31_code 2 (some (.object "java/lang/AbstractStringBuilder")) [] (own_R 1 0 0 14) #[(.ref sb), (.int 0)] h0 (fun v h => v = some (.ref sb) ∧ Keep h0 h [sb, va] ∧ own_B Z h n0 sb va kv 0 16 (n + 1) (vs.set j (.int 0))) := by
  refine own_ent (a0 := a0) (nm := "append") (Ls := #[.val (.ref sb), .val (.int 0)]) own_pn4 O0 EW.nil ?_
  intro p e _ m _ below _ _ T0 Q hQ A0
  refine own_aloadN (q := 1) A0 d16_0 rfl rfl ?_
  refine own_aloadN (q := 2) A0 d16_1 rfl rfl ?_
  refine own_getF (host := "") (q := 5) A0 (Or.inl (H.k 64 rfl)) Via.refl B.N d16_2 ?_
  intro T1 A2
  refine own_iconst (q := 6) A2 (1 : Int32) d16_5 rfl ?_
  refine own_iadd (q := 7) A2 d16_6 ?_
  refine own_private (q := 10) (W := 0) (argsL := [(.int (n + (1 : Int32)))]) (rest := []) A2 (H.k 66 rfl) (H.k 67 rfl) (H.k 69 rfl) (H.k 68 rfl) (H.k 70 rfl) (by decide) (own_pay (rm_ens sb va kv (0 : Int32) (16 : Int32) n _ (n + (1 : Int32)) A2.old H B cap) (H.k 70 rfl) (H.k 31 rfl) (by decide) (by decide)) own_nW (Nat.le_of_eq rfl) B.E own_pd5 rfl rfl rfl d16_7 (by decide) (by decide) ?_
  rintro v3 T4 h5 A6 ⟨rfl, rfl⟩
  show own_Run p e below Q m T4 10 #[.val (.ref sb), .val (.int 0)] []
  refine own_aloadN (q := 11) A6 d16_10 rfl rfl ?_
  refine own_virtual (q := 14) (W := 0) (argsL := []) (rest := []) A6 (H.k 100 rfl) (H.k 101 rfl) (H.k 103 rfl) (H.k 102 rfl) (by decide) (own_pay (rm_bil0 sb A6.old H B.C) (H.k 104 rfl) (H.k 31 rfl) (by decide) (by decide)) own_nW (Nat.le_of_eq rfl) B.E own_pd15 rfl rfl rfl d16_11 (by decide) (by decide) ?_
  rintro v7 T8 h9 A10 ⟨rfl, rfl⟩
  show own_Run p e below Q m T8 14 #[.val (.ref sb), .val (.int 0)] [(.int 1)]
  refine own_ifcF (q := 17) A10 d16_14 (show ¬ (1 : Int32) = (0 : Int32) from by decide) ?_
  refine own_iloadN (q := 18) A10 d16_17 rfl ?_
  refine own_static (q := 21) (W := 0) (argsL := [(.int 0)]) (rest := []) A10 (H.k 105 rfl) (H.k 106 rfl) (H.k 107 rfl) (H.k 108 rfl) (by decide) (own_pay (rm_can0  A10.old H ) (H.k 108 rfl) (H.k 107 rfl) (by decide) (by decide)) own_nW (Nat.le_of_eq rfl) own_pd16 rfl rfl rfl d16_18 (by decide) (by decide) ?_
  rintro v11 T12 h13 A14 ⟨rfl, rfl⟩
  show own_Run p e below Q m T12 21 #[.val (.ref sb), .val (.int 0)] [(.int 1)]
  refine own_ifcF (q := 24) A14 d16_21 (show ¬ (1 : Int32) = (0 : Int32) from by decide) ?_
  refine own_aloadN (q := 25) A14 d16_24 rfl rfl ?_
  refine own_getF (host := "") (q := 28) A14 (Or.inl (H.k 37 rfl)) Via.refl B.V d16_25 ?_
  intro T15 A16
  refine own_aloadN (q := 29) A16 d16_28 rfl rfl ?_
  refine own_dup (q := 30) A16 d16_29 rfl ?_
  refine own_getF (host := "") (q := 33) A16 (Or.inl (H.k 64 rfl)) Via.refl B.N d16_30 ?_
  intro T17 A18
  refine own_dupX1 (q := 34) A18 d16_33 rfl rfl ?_
  refine own_iconst (q := 35) A18 (1 : Int32) d16_34 rfl ?_
  refine own_iadd (q := 36) A18 d16_35 ?_
  refine own_putF (host := "") (q := 39) A18 (Or.inl (H.k 64 rfl)) Via.refl B.N B.E (Or.inl (H.k 65 rfl)) (H.k 22 rfl) (ty := .int) (by decide) rfl rfl B.gb (Or.inr (Or.inl rfl)) d16_36 ?_
  intro T19 h20 A21 W22
  have K23 := (Keep.refl h0 [sb, va]).wr W22 (Or.inl (by simp))
  have f24 := B.E.wr W22
  have f25 := B.V.other W22 (Or.inr (slot_ne (Or.inl (H.k 38 rfl)) (Or.inl (H.k 65 rfl)) (by decide) (by decide : parseFieldDescriptor "[B" = some (.array .byte)) (by decide : parseFieldDescriptor "I" = some .int)))
  have f26 := B.C.other W22 (Or.inr (slot_ne (Or.inl (H.k 40 rfl)) (Or.inl (H.k 65 rfl)) (by decide) (by decide : parseFieldDescriptor "B" = some .byte) (by decide : parseFieldDescriptor "I" = some .int)))
  have f27 := B.N.same W22
  have f28 := B.M.other W22 (Or.inr (slot_ne (Or.inl (H.k 317 rfl)) (Or.inl (H.k 65 rfl)) (by decide) (by decide : parseFieldDescriptor "Z" = some .boolean) (by decide : parseFieldDescriptor "I" = some .int)))
  have f29 := B.K.other W22 (Ne.symm B.ne)
  refine own_iloadN (q := 40) A21 d16_39 rfl ?_
  refine own_i2b (q := 41) A21 d16_40 ?_
  refine own_stBv (q := 42) A21 f29 j a1 a2 a3 (by rw [lw]; exact a3) B.gv (Or.inr (Or.inl rfl)) d16_41 ?_
  intro T30 h31 sl32 A33 W34 X35
  have f36 : Arv Z h31 va kv .byte (16 : Int32) (vs.set j (.int 0)) (.int 0) := X35
  have K37 := K23.wr W34 (Or.inl (by simp))
  have f38 := f24.wr W34
  have f39 := f25.other W34 (Or.inl B.ne)
  have f40 := f26.other W34 (Or.inl B.ne)
  have f41 := f27.other W34 (Or.inl B.ne)
  have f42 := f28.other W34 (Or.inl B.ne)
  have f43 : Arv Z h31 va kv .byte (16 : Int32) (vs.set j (.int 0)) (.int 0) := f36
  refine own_goto (q := 75) A33 d16_42 ?_
  refine own_aloadN (q := 76) A33 d16_75 rfl rfl ?_
  exact own_retA A33 hQ rfl rfl rfl d16_76 ⟨rfl, K37, (own_B_mk f38 f39 f40 f41 f42 f43 B.gb B.gv B.ne)⟩
theorem d15_0 : decode jdk_67_method_14_code 0 = .ok (.aload_n 0, 1) := by decide +kernel
theorem d15_1 : decode jdk_67_method_14_code 1 = .ok (.iload_n 1, 1) := by decide +kernel
theorem d15_2 : decode jdk_67_method_14_code 2 = .ok (.invokespecial 50, 3) := by decide +kernel
theorem d15_5 : decode jdk_67_method_14_code 5 = .ok (.pop, 1) := by decide +kernel
theorem d15_6 : decode jdk_67_method_14_code 6 = .ok (.aload_n 0, 1) := by decide +kernel
theorem d15_7 : decode jdk_67_method_14_code 7 = .ok (.areturn, 1) := by decide +kernel
theorem rm_caU (sb va : Addr) (kv : ClassId) (vs : List Value) (n : Int32) (j : Nat) (O0 : Old Z n0 h0) (H : own_H Z a0 zc fm) (B : own_B Z h0 n0 sb va kv 1 32 n vs) (cap : ¬ (0 : Int32) < (n + 1) - ((32 : Int32) >>> ((1 : Int32) &&& 31))) (lw : vs.length = 32) (P : own_pi 32 n j) (a1 : ¬ n < 0) (a2 : n < (32 : Int32) >>> ((1 : Int32) &&& 31)) :
  own_Met false l Z n0 [] [] ⟨"java/lang/AbstractStringBuilder", "append", "(C)Ljava/lang/AbstractStringBuilder;"⟩ jdk_68_method_31_code 2 (some (.object "java/lang/AbstractStringBuilder")) [] (own_R 4 0 0 54) #[(.ref sb), (.int 0)] h0 (fun v h => v = some (.ref sb) ∧ Keep h0 h [sb, va] ∧ own_B Z h n0 sb va kv 1 32 (n + 1) ((vs.set j (.int (StrChars.lo8 (0 : Int32)))).set (j + 1) (.int (StrChars.hi8 (0 : Int32))))) := by
  refine own_ent (a0 := a0) (nm := "append") (Ls := #[.val (.ref sb), .val (.int 0)]) own_pn4 O0 EW.nil ?_
  intro p e _ m _ below _ _ T0 Q hQ A0
  refine own_aloadN (q := 1) A0 d16_0 rfl rfl ?_
  refine own_aloadN (q := 2) A0 d16_1 rfl rfl ?_
  refine own_getF (host := "") (q := 5) A0 (Or.inl (H.k 64 rfl)) Via.refl B.N d16_2 ?_
  intro T1 A2
  refine own_iconst (q := 6) A2 (1 : Int32) d16_5 rfl ?_
  refine own_iadd (q := 7) A2 d16_6 ?_
  refine own_private (q := 10) (W := 0) (argsL := [(.int (n + (1 : Int32)))]) (rest := []) A2 (H.k 66 rfl) (H.k 67 rfl) (H.k 69 rfl) (H.k 68 rfl) (H.k 70 rfl) (by decide) (own_pay (rm_ens sb va kv (1 : Int32) (32 : Int32) n _ (n + (1 : Int32)) A2.old H B cap) (H.k 70 rfl) (H.k 31 rfl) (by decide) (by decide)) own_nW (Nat.le_of_eq rfl) B.E own_pd5 rfl rfl rfl d16_7 (by decide) (by decide) ?_
  rintro v3 T4 h5 A6 ⟨rfl, rfl⟩
  show own_Run p e below Q m T4 10 #[.val (.ref sb), .val (.int 0)] []
  refine own_aloadN (q := 11) A6 d16_10 rfl rfl ?_
  refine own_virtual (q := 14) (W := 0) (argsL := []) (rest := []) A6 (H.k 100 rfl) (H.k 101 rfl) (H.k 103 rfl) (H.k 102 rfl) (by decide) (own_pay (rm_bil1 sb A6.old H B.C) (H.k 104 rfl) (H.k 31 rfl) (by decide) (by decide)) own_nW (Nat.le_of_eq rfl) B.E own_pd15 rfl rfl rfl d16_11 (by decide) (by decide) ?_
  rintro v7 T8 h9 A10 ⟨rfl, rfl⟩
  show own_Run p e below Q m T8 14 #[.val (.ref sb), .val (.int 0)] [(.int 0)]
  refine own_ifcT (q := 45) A10 d16_14 (show (0 : Int32) = (0 : Int32) from by decide) ?_
  refine own_aloadN (q := 46) A10 d16_45 rfl rfl ?_
  refine own_virtual (q := 49) (W := 0) (argsL := []) (rest := []) A10 (H.k 100 rfl) (H.k 101 rfl) (H.k 103 rfl) (H.k 102 rfl) (by decide) (own_pay (rm_bil1 sb A10.old H B.C) (H.k 104 rfl) (H.k 31 rfl) (by decide) (by decide)) own_nW (Nat.le_of_eq rfl) B.E own_pd15 rfl rfl rfl d16_46 (by decide) (by decide) ?_
  rintro v11 T12 h13 A14 ⟨rfl, rfl⟩
  show own_Run p e below Q m T12 49 #[.val (.ref sb), .val (.int 0)] [(.int 0)]
  refine own_ifcT (q := 56) A14 d16_49 (show (0 : Int32) = (0 : Int32) from by decide) ?_
  refine own_aloadN (q := 57) A14 d16_56 rfl rfl ?_
  refine own_getF (host := "") (q := 60) A14 (Or.inl (H.k 37 rfl)) Via.refl B.V d16_57 ?_
  intro T15 A16
  refine own_aloadN (q := 61) A16 d16_60 rfl rfl ?_
  refine own_dup (q := 62) A16 d16_61 rfl ?_
  refine own_getF (host := "") (q := 65) A16 (Or.inl (H.k 64 rfl)) Via.refl B.N d16_62 ?_
  intro T17 A18
  refine own_dupX1 (q := 66) A18 d16_65 rfl rfl ?_
  refine own_iconst (q := 67) A18 (1 : Int32) d16_66 rfl ?_
  refine own_iadd (q := 68) A18 d16_67 ?_
  refine own_putF (host := "") (q := 71) A18 (Or.inl (H.k 64 rfl)) Via.refl B.N B.E (Or.inl (H.k 65 rfl)) (H.k 22 rfl) (ty := .int) (by decide) rfl rfl B.gb (Or.inr (Or.inl rfl)) d16_68 ?_
  intro T19 h20 A21 W22
  have K23 := (Keep.refl h0 [sb, va]).wr W22 (Or.inl (by simp))
  have f24 := B.E.wr W22
  have f25 := B.V.other W22 (Or.inr (slot_ne (Or.inl (H.k 38 rfl)) (Or.inl (H.k 65 rfl)) (by decide) (by decide : parseFieldDescriptor "[B" = some (.array .byte)) (by decide : parseFieldDescriptor "I" = some .int)))
  have f26 := B.C.other W22 (Or.inr (slot_ne (Or.inl (H.k 40 rfl)) (Or.inl (H.k 65 rfl)) (by decide) (by decide : parseFieldDescriptor "B" = some .byte) (by decide : parseFieldDescriptor "I" = some .int)))
  have f27 := B.N.same W22
  have f28 := B.M.other W22 (Or.inr (slot_ne (Or.inl (H.k 317 rfl)) (Or.inl (H.k 65 rfl)) (by decide) (by decide : parseFieldDescriptor "Z" = some .boolean) (by decide : parseFieldDescriptor "I" = some .int)))
  have f29 := B.K.other W22 (Ne.symm B.ne)
  refine own_iloadN (q := 72) A21 d16_71 rfl ?_
  refine own_static (q := 75) (W := 0) (argsL := [(.ref va), (.int n), (.int 0)]) (rest := []) A21 (H.k 303 rfl) (H.k 304 rfl) (H.k 242 rfl) (H.k 305 rfl) (by decide) (own_pay (rm_pcs va kv vs n j A21.old H f29 B.gv lw P a1 a2) (H.k 305 rfl) (H.k 242 rfl) (by decide) (by decide)) own_nW (Nat.le_of_eq rfl) own_pd44 rfl rfl rfl d16_72 (by decide) (by decide) ?_
  rintro v32 T33 h34 A35 ⟨rfl, K30, V31⟩
  show own_Run p e below Q m T33 75 #[.val (.ref sb), .val (.int 0)] []
  have f36 := f24.keep K30
  have f37 := f25.keep K30 (ninS B.ne nin0)
  have f38 := f26.keep K30 (ninS B.ne nin0)
  have f39 := f27.keep K30 (ninS B.ne nin0)
  have f40 := f28.keep K30 (ninS B.ne nin0)
  have K41 := K23.trans K30 (allS (Or.inl (by simp)) all0)
  refine own_aloadN (q := 76) A35 d16_75 rfl rfl ?_
  exact own_retA A35 hQ rfl rfl rfl d16_76 ⟨rfl, K41, (own_B_mk f36 f37 f38 f39 f40 V31 B.gb B.gv B.ne)⟩
theorem rm_scL (sb va : Addr) (kv : ClassId) (vs : List Value) (n : Int32) (j : Nat) (O0 : Old Z n0 h0) (H : own_H Z a0 zc fm) (B : own_B Z h0 n0 sb va kv 0 16 n vs) (cap : ¬ (0 : Int32) < (n + 1) - ((16 : Int32) >>> ((0 : Int32) &&& 31))) (lw : vs.length = 16) (a1 : ¬ n < 0) (a2 : n.toNatClampNeg = j) (a3 : j < 16) :
  own_Met false l Z n0 [] [] ⟨"java/lang/StringBuilder", "append", "(C)Ljava/lang/StringBuilder;"⟩ jdk_67_method_14_code 2 (some (.object "java/lang/StringBuilder")) [] (own_R 5 0 0 67) #[(.ref sb), (.int 0)] h0 (fun v h => v = some (.ref sb) ∧ Keep h0 h [sb, va] ∧ own_B Z h n0 sb va kv 0 16 (n + 1) (vs.set j (.int 0))) := by
  refine own_ent (a0 := a0) (nm := "append") (Ls := #[.val (.ref sb), .val (.int 0)]) own_pn6 O0 EW.nil ?_
  intro p e _ m _ below _ _ T0 Q hQ A0
  refine own_aloadN (q := 1) A0 d15_0 rfl rfl ?_
  refine own_iloadN (q := 2) A0 d15_1 rfl ?_
  refine own_super (q := 5) (W := 0) (argsL := [(.int 0)]) (rest := []) A0 (H.k 96 rfl) (own_same (H.k 97 rfl) (H.k 125 rfl) (H.k 126 rfl) rfl (by decide)) (H.k 97 rfl) (H.k 48 rfl) (H.k 99 rfl) (by decide) (own_pay (rm_caL sb va kv vs n j A0.old H B cap lw a1 a2 a3) (H.k 99 rfl) (H.k 31 rfl) (by decide) (by decide)) own_nW (Nat.le_of_eq rfl) B.E own_pd14 rfl rfl rfl d15_2 (by decide) (by decide) ?_
  rintro v2 T3 h4 A5 ⟨rfl, q1⟩
  show own_Run p e below Q m T3 5 #[.val (.ref sb), .val (.int 0)] [(.ref sb)]
  refine own_pop (q := 6) A5 d15_5 rfl ?_
  refine own_aloadN (q := 7) A5 d15_6 rfl rfl ?_
  exact own_retA A5 hQ rfl rfl rfl d15_7 ⟨rfl, q1⟩
theorem rm_scU (sb va : Addr) (kv : ClassId) (vs : List Value) (n : Int32) (j : Nat) (O0 : Old Z n0 h0) (H : own_H Z a0 zc fm) (B : own_B Z h0 n0 sb va kv 1 32 n vs) (cap : ¬ (0 : Int32) < (n + 1) - ((32 : Int32) >>> ((1 : Int32) &&& 31))) (lw : vs.length = 32) (P : own_pi 32 n j) (a1 : ¬ n < 0) (a2 : n < (32 : Int32) >>> ((1 : Int32) &&& 31)) :
  own_Met false l Z n0 [] [] ⟨"java/lang/StringBuilder", "append", "(C)Ljava/lang/StringBuilder;"⟩ jdk_67_method_14_code 2 (some (.object "java/lang/StringBuilder")) [] (own_R 5 0 0 67) #[(.ref sb), (.int 0)] h0 (fun v h => v = some (.ref sb) ∧ Keep h0 h [sb, va] ∧ own_B Z h n0 sb va kv 1 32 (n + 1) ((vs.set j (.int (StrChars.lo8 (0 : Int32)))).set (j + 1) (.int (StrChars.hi8 (0 : Int32))))) := by
  refine own_ent (a0 := a0) (nm := "append") (Ls := #[.val (.ref sb), .val (.int 0)]) own_pn6 O0 EW.nil ?_
  intro p e _ m _ below _ _ T0 Q hQ A0
  refine own_aloadN (q := 1) A0 d15_0 rfl rfl ?_
  refine own_iloadN (q := 2) A0 d15_1 rfl ?_
  refine own_super (q := 5) (W := 0) (argsL := [(.int 0)]) (rest := []) A0 (H.k 96 rfl) (own_same (H.k 97 rfl) (H.k 125 rfl) (H.k 126 rfl) rfl (by decide)) (H.k 97 rfl) (H.k 48 rfl) (H.k 99 rfl) (by decide) (own_pay (rm_caU sb va kv vs n j A0.old H B cap lw P a1 a2) (H.k 99 rfl) (H.k 31 rfl) (by decide) (by decide)) own_nW (Nat.le_of_eq rfl) B.E own_pd14 rfl rfl rfl d15_2 (by decide) (by decide) ?_
  rintro v2 T3 h4 A5 ⟨rfl, q1⟩
  show own_Run p e below Q m T3 5 #[.val (.ref sb), .val (.int 0)] [(.ref sb)]
  refine own_pop (q := 6) A5 d15_5 rfl ?_
  refine own_aloadN (q := 7) A5 d15_6 rfl rfl ?_
  exact own_retA A5 hQ rfl rfl rfl d15_7 ⟨rfl, q1⟩
theorem rm_ap0 (sb va : Addr) (cs : List Int32) (O0 : Old Z n0 h0) (H : own_H Z a0 zc fm) (B : own_SB Z h0 n0 sb va cs) (l1 : cs.length ≤ 2) :
  own_Met false l Z n0 [] [] ⟨"java/lang/StringBuilder", "append", "(C)Ljava/lang/StringBuilder;"⟩ jdk_67_method_14_code 2 (some (.object "java/lang/StringBuilder")) [] (own_R 5 0 0 67) #[(.ref sb), (.int 0)] h0 (fun v h => v = some (.ref sb) ∧ Keep h0 h [sb, va] ∧ own_SB Z h n0 sb va (cs ++ [0])) := by
  rcases cs with _ | ⟨c0, _ | ⟨c1, _ | ⟨c2, cs⟩⟩⟩
  · rcases B with ⟨kv, B, wb⟩ | ⟨kv, B, wb⟩
    · exact (rm_scL sb va kv _ 0 0 O0 H B (by decide) rfl (by decide) (by decide) (by decide)).mono (fun v h ⟨q1, K, B2⟩ => ⟨q1, K, Or.inl ⟨kv, B2.n (show (0 : Int32) + 1 = 1 from by decide), own_allA wb (own_fc (by decide) (fun _ z => nomatch z))⟩⟩)
    · exact absurd wb (by simp)
  · rcases B with ⟨kv, B, wb⟩ | ⟨kv, B, wb⟩
    · exact (rm_scL sb va kv _ 1 1 O0 H B (by decide) rfl (by decide) (by decide) (by decide)).mono (fun v h ⟨q1, K, B2⟩ => ⟨q1, K, Or.inl ⟨kv, B2.n (show (1 : Int32) + 1 = 2 from by decide), own_allA wb (own_fc (by decide) (fun _ z => nomatch z))⟩⟩)
    · exact (rm_scU sb va kv _ 1 2 O0 H B (by decide) rfl own_pi_D (by decide) (by decide)).mono (fun v h ⟨q1, K, B2⟩ => ⟨q1, K, Or.inr ⟨kv, B2.n (show (1 : Int32) + 1 = 2 from by decide), own_exL _ wb⟩⟩)
  · rcases B with ⟨kv, B, wb⟩ | ⟨kv, B, wb⟩
    · exact (rm_scL sb va kv _ 2 2 O0 H B (by decide) rfl (by decide) (by decide) (by decide)).mono (fun v h ⟨q1, K, B2⟩ => ⟨q1, K, Or.inl ⟨kv, B2.n (show (2 : Int32) + 1 = 3 from by decide), own_allA wb (own_fc (by decide) (fun _ z => nomatch z))⟩⟩)
    · exact (rm_scU sb va kv _ 2 4 O0 H B (by decide) rfl own_pi_D (by decide) (by decide)).mono (fun v h ⟨q1, K, B2⟩ => ⟨q1, K, Or.inr ⟨kv, B2.n (show (2 : Int32) + 1 = 3 from by decide), own_exL _ wb⟩⟩)
  · exact absurd l1 (by simp only [List.length_cons]; omega)
theorem d28_0 : decode jdk_29_method_69_code 0 = .ok (.iload_n 0, 1) := by decide +kernel
theorem d28_1 : decode jdk_29_method_69_code 1 = .ok (.iload_n 1, 1) := by decide +kernel
theorem d28_2 : decode jdk_29_method_69_code 2 = .ok (.if_icmp .gt 7, 3) := by decide +kernel
theorem d28_5 : decode jdk_29_method_69_code 5 = .ok (.iload_n 0, 1) := by decide +kernel
theorem d28_6 : decode jdk_29_method_69_code 6 = .ok (.goto 4, 3) := by decide +kernel
theorem d28_9 : decode jdk_29_method_69_code 9 = .ok (.iload_n 1, 1) := by decide +kernel
theorem d28_10 : decode jdk_29_method_69_code 10 = .ok (.ireturn, 1) := by decide +kernel
theorem rm_min (i j : Int32) (O0 : Old Z n0 h0) (H : own_H Z a0 zc fm) :
  own_Met false l Z n0 [] [] ⟨"java/lang/Math", "min", "(II)I"⟩ jdk_29_method_69_code 2 (some .int) [] (own_R 0 0 0 0) #[(.int i), (.int j)] h0 (fun v h => v = some (.int (if j < i then j else i)) ∧ h0 = h) := by
  refine own_enterP (a0 := a0) (nm := "min") (own := "java/lang/Math") (Ls := #[.val (.int i), .val (.int j)]) (Jvm.Free.JP.mathPlain rfl (by decide +kernel)) O0 EW.nil (fun m => by first | (simp [entryFrame, mkF, argsToLocals, Value.category, maxLocals]; done) | rfl) ?_
  intro p e _ m _ below _ _ T0 Q hQ A0
  refine own_iloadN (q := 1) A0 d28_0 rfl ?_
  refine own_iloadN (q := 2) A0 d28_1 rfl ?_
  refine own_icmp (q := 9) (q' := 5) A0 d28_2 ?_ ?_
  · rintro (c1 : j < i)
    refine own_iloadN (q := 10) A0 d28_9 rfl ?_
    exact own_retI A0 hQ d28_10 ⟨by rw [if_pos c1], rfl⟩
  · rintro (c1 : ¬ j < i)
    refine own_iloadN (q := 6) A0 d28_5 rfl ?_
    refine own_goto (q := 10) A0 d28_6 ?_
    exact own_retI A0 hQ d28_10 ⟨by rw [if_neg c1], rfl⟩
theorem d35_0 : decode jdk_29_method_65_code 0 = .ok (.iload_n 0, 1) := by decide +kernel
theorem d35_1 : decode jdk_29_method_65_code 1 = .ok (.iload_n 1, 1) := by decide +kernel
theorem d35_2 : decode jdk_29_method_65_code 2 = .ok (.if_icmp .lt 7, 3) := by decide +kernel
theorem d35_5 : decode jdk_29_method_65_code 5 = .ok (.iload_n 0, 1) := by decide +kernel
theorem d35_6 : decode jdk_29_method_65_code 6 = .ok (.goto 4, 3) := by decide +kernel
theorem d35_9 : decode jdk_29_method_65_code 9 = .ok (.iload_n 1, 1) := by decide +kernel
theorem d35_10 : decode jdk_29_method_65_code 10 = .ok (.ireturn, 1) := by decide +kernel
theorem rm_max (i j : Int32) (O0 : Old Z n0 h0) (H : own_H Z a0 zc fm) :
  own_Met false l Z n0 [] [] ⟨"java/lang/Math", "max", "(II)I"⟩ jdk_29_method_65_code 2 (some .int) [] (own_R 0 0 0 0) #[(.int i), (.int j)] h0 (fun v h => v = some (.int (if i < j then j else i)) ∧ h0 = h) := by
  refine own_enterP (a0 := a0) (nm := "max") (own := "java/lang/Math") (Ls := #[.val (.int i), .val (.int j)]) (Jvm.Free.JP.mathPlain rfl (by decide +kernel)) O0 EW.nil (fun m => by first | (simp [entryFrame, mkF, argsToLocals, Value.category, maxLocals]; done) | rfl) ?_
  intro p e _ m _ below _ _ T0 Q hQ A0
  refine own_iloadN (q := 1) A0 d35_0 rfl ?_
  refine own_iloadN (q := 2) A0 d35_1 rfl ?_
  refine own_icmp (q := 9) (q' := 5) A0 d35_2 ?_ ?_
  · rintro (c1 : i < j)
    refine own_iloadN (q := 10) A0 d35_9 rfl ?_
    exact own_retI A0 hQ d35_10 ⟨by rw [if_pos c1], rfl⟩
  · rintro (c1 : ¬ i < j)
    refine own_iloadN (q := 6) A0 d35_5 rfl ?_
    refine own_goto (q := 10) A0 d35_6 ?_
    exact own_retI A0 hQ d35_10 ⟨by rw [if_neg c1], rfl⟩
theorem d27_0 : decode jdk_65_method_131_code 0 = .ok (.iload_n 1, 1) := by decide +kernel
theorem d27_1 : decode jdk_65_method_131_code 1 = .ok (.iload_n 0, 1) := by decide +kernel
theorem d27_2 : decode jdk_65_method_131_code 2 = .ok (.if_icmp .ge 35, 3) := by decide +kernel
theorem d27_37 : decode jdk_65_method_131_code 37 = .ok (.return_, 1) := by decide +kernel
theorem own_pn7 : plainName "java/util/Arrays" = true := by first | (simp [plainName, overriddenIn]; done) | decide +kernel
theorem rm_chk (i j : Int32) (O0 : Old Z n0 h0) (H : own_H Z a0 zc fm) (g0 : ¬ j < i) :
  own_Met false l Z n0 [] [] ⟨"java/util/Arrays", "checkLength", "(II)V"⟩ jdk_65_method_131_code 2 none [] (own_R 0 0 0 0) #[(.int i), (.int j)] h0 (fun v h => v = none ∧ h0 = h) := by
  refine own_ent (a0 := a0) (nm := "checkLength") (Ls := #[.val (.int i), .val (.int j)]) own_pn7 O0 EW.nil ?_
  intro p e _ m _ below _ _ T0 Q hQ A0
  refine own_iloadN (q := 1) A0 d27_0 rfl ?_
  refine own_iloadN (q := 2) A0 d27_1 rfl ?_
  refine own_icmpT (q := 37) A0 d27_2 (show ¬ j < i from g0) ?_
  exact own_ret0 A0 hQ d27_37 ⟨rfl, rfl⟩
def own_cut (n : Int32) (cap : Nat) (N i j : Int32) (vs us : List Value) : Prop := (¬ j < i) ∧ (j - i = n) ∧ ((if n < (N - i) then n else (N - i)) = n) ∧ (¬ i < 0) ∧ (¬ n < 0) ∧ (n.toNatClampNeg = cap) ∧ (cap ≤ 10) ∧ (i.toNatClampNeg + n.toNatClampNeg ≤ N.toNatClampNeg) ∧ (us = (List.range n.toNatClampNeg).map fun a => vs.getD (i.toNatClampNeg + a) (.int 0)) ∧ (i = 0 → ¬ j = N)
theorem own_cut.ij {n : Int32} {cap : Nat} {N i j : Int32} {vs us : List Value} (P : own_cut n cap N i j vs us) : ¬ j < i := P.1
theorem own_cut.d {n : Int32} {cap : Nat} {N i j : Int32} {vs us : List Value} (P : own_cut n cap N i j vs us) : j - i = n := P.2.1
theorem own_cut.mn {n : Int32} {cap : Nat} {N i j : Int32} {vs us : List Value} (P : own_cut n cap N i j vs us) : (if n < (N - i) then n else (N - i)) = n := P.2.2.1
theorem own_cut.i0 {n : Int32} {cap : Nat} {N i j : Int32} {vs us : List Value} (P : own_cut n cap N i j vs us) : ¬ i < 0 := P.2.2.2.1
theorem own_cut.nn {n : Int32} {cap : Nat} {N i j : Int32} {vs us : List Value} (P : own_cut n cap N i j vs us) : ¬ n < 0 := P.2.2.2.2.1
theorem own_cut.hc {n : Int32} {cap : Nat} {N i j : Int32} {vs us : List Value} (P : own_cut n cap N i j vs us) : n.toNatClampNeg = cap := P.2.2.2.2.2.1
theorem own_cut.cb {n : Int32} {cap : Nat} {N i j : Int32} {vs us : List Value} (P : own_cut n cap N i j vs us) : cap ≤ 10 := P.2.2.2.2.2.2.1
theorem own_cut.le {n : Int32} {cap : Nat} {N i j : Int32} {vs us : List Value} (P : own_cut n cap N i j vs us) : i.toNatClampNeg + n.toNatClampNeg ≤ N.toNatClampNeg := P.2.2.2.2.2.2.2.1
theorem own_cut.us {n : Int32} {cap : Nat} {N i j : Int32} {vs us : List Value} (P : own_cut n cap N i j vs us) : us = (List.range n.toNatClampNeg).map fun a => vs.getD (i.toNatClampNeg + a) (.int 0) := P.2.2.2.2.2.2.2.2.1
theorem own_cut.ne {n : Int32} {cap : Nat} {N i j : Int32} {vs us : List Value} (P : own_cut n cap N i j vs us) : i = 0 → ¬ j = N := P.2.2.2.2.2.2.2.2.2
theorem own_cut_D {n : Int32} {cap : Nat} {N i j : Int32} {vs us : List Value} (h8 : us = (List.range n.toNatClampNeg).map fun a => vs.getD (i.toNatClampNeg + a) (.int 0)) (h0 : ¬ j < i := by decide) (h1 : j - i = n := by decide) (h2 : (if n < (N - i) then n else (N - i)) = n := by decide) (h3 : ¬ i < 0 := by decide) (h4 : ¬ n < 0 := by decide) (h5 : n.toNatClampNeg = cap := by decide) (h6 : cap ≤ 10 := by decide) (h7 : i.toNatClampNeg + n.toNatClampNeg ≤ N.toNatClampNeg := by decide) (h9 : i = 0 → ¬ j = N := by decide) : own_cut n cap N i j vs us := ⟨h0, h1, h2, h3, h4, h5, h6, h7, h8, h9⟩
theorem d26_0 : decode jdk_65_method_133_code 0 = .ok (.iload_n 1, 1) := by decide +kernel
theorem d26_1 : decode jdk_65_method_133_code 1 = .ok (.iload_n 2, 1) := by decide +kernel
theorem d26_2 : decode jdk_65_method_133_code 2 = .ok (.invokestatic 343, 3) := by decide +kernel
theorem d26_5 : decode jdk_65_method_133_code 5 = .ok (.iload_n 2, 1) := by decide +kernel
theorem d26_6 : decode jdk_65_method_133_code 6 = .ok (.iload_n 1, 1) := by decide +kernel
theorem d26_7 : decode jdk_65_method_133_code 7 = .ok (.isub, 1) := by decide +kernel
theorem d26_8 : decode jdk_65_method_133_code 8 = .ok (.istore_n 3, 1) := by decide +kernel
theorem d26_9 : decode jdk_65_method_133_code 9 = .ok (.iload_n 3, 1) := by decide +kernel
theorem d26_10 : decode jdk_65_method_133_code 10 = .ok (.newarray .byte, 2) := by decide +kernel
theorem d26_12 : decode jdk_65_method_133_code 12 = .ok (.astore 4, 2) := by decide +kernel
theorem d26_14 : decode jdk_65_method_133_code 14 = .ok (.aload_n 0, 1) := by decide +kernel
theorem d26_15 : decode jdk_65_method_133_code 15 = .ok (.iload_n 1, 1) := by decide +kernel
theorem d26_16 : decode jdk_65_method_133_code 16 = .ok (.aload 4, 2) := by decide +kernel
theorem d26_18 : decode jdk_65_method_133_code 18 = .ok (.iconst 0, 1) := by decide +kernel
theorem d26_19 : decode jdk_65_method_133_code 19 = .ok (.aload_n 0, 1) := by decide +kernel
theorem d26_20 : decode jdk_65_method_133_code 20 = .ok (.arraylength, 1) := by decide +kernel
theorem d26_21 : decode jdk_65_method_133_code 21 = .ok (.iload_n 1, 1) := by decide +kernel
theorem d26_22 : decode jdk_65_method_133_code 22 = .ok (.isub, 1) := by decide +kernel
theorem d26_23 : decode jdk_65_method_133_code 23 = .ok (.iload_n 3, 1) := by decide +kernel
theorem d26_24 : decode jdk_65_method_133_code 24 = .ok (.invokestatic 304, 3) := by decide +kernel
theorem d26_27 : decode jdk_65_method_133_code 27 = .ok (.invokestatic 150, 3) := by decide +kernel
theorem d26_30 : decode jdk_65_method_133_code 30 = .ok (.aload 4, 2) := by decide +kernel
theorem d26_32 : decode jdk_65_method_133_code 32 = .ok (.areturn, 1) := by decide +kernel
theorem rm_cb (va : Addr) (kv : ClassId) (n : Int32) (cap : Nat) (N i j : Int32) (vs us : List Value) (O0 : Old Z n0 h0) (H : own_H Z a0 zc fm) (Kv : Arv Z h0 va kv .byte N vs (.int 0)) (P : own_cut n cap N i j vs us) :
  own_Met false l Z n0 [] [] ⟨"java/util/Arrays", "copyOfRangeByte", "([BII)[B"⟩ jdk_65_method_133_code 5 (some (.array .byte)) [] (own_R 1 1 10 18) #[(.ref va), (.int i), (.int j)] h0 (fun v h => ∃ (t : Addr) (k : ClassId), v = some (.ref t) ∧ n0 ≤ t ∧ h0.size ≤ t ∧ Keep h0 h [] ∧ Arv Z h t k .byte n us (.int 0)) := by
  refine own_ent (a0 := a0) (nm := "copyOfRangeByte") (Ls := #[.val (.ref va), .val (.int i), .val (.int j), .unset, .unset]) own_pn7 O0 EW.nil ?_
  intro p e _ m _ below _ _ T0 Q hQ A0
  refine own_iloadN (q := 1) A0 d26_0 rfl ?_
  refine own_iloadN (q := 2) A0 d26_1 rfl ?_
  refine own_static (q := 5) (W := 0) (argsL := [(.int i), (.int j)]) (rest := []) A0 (H.k 144 rfl) (H.k 145 rfl) (H.k 139 rfl) (H.k 146 rfl) (by decide) (own_pay (rm_chk i j A0.old H P.ij) (H.k 146 rfl) (H.k 139 rfl) (by decide) (by decide)) own_nW (Nat.le_of_eq rfl) own_pd22 rfl rfl rfl d26_2 (by decide) (by decide) ?_
  rintro v1 T2 h3 A4 ⟨rfl, rfl⟩
  show own_Run p e below Q m T2 5 #[.val (.ref va), .val (.int i), .val (.int j), .unset, .unset] []
  refine own_iloadN (q := 6) A4 d26_5 rfl ?_
  refine own_iloadN (q := 7) A4 d26_6 rfl ?_
  refine own_isub (q := 8) A4 d26_7 ?_
  rw [show (j - i) = n from P.d]
  refine own_istoreN (q := 9) (L' := #[.val (.ref va), .val (.int i), .val (.int j), .val (.int n), .unset]) A4 d26_8 rfl ?_
  refine own_iloadN (q := 10) A4 d26_9 rfl ?_
  refine own_newPv (q := 12) (ty := .byte) (dv := .int 0) A4 rfl rfl (H.k 12 rfl) d26_10 cap P.nn P.hc (by have := P.cb; omega) (by decide) (by have := P.cb; show 0 + cap ≤ 10; omega) ?_
  intro T5 h6 a7 k8 g9 g10 A11 E12 X13
  have z14 : va ≠ a7 := Nat.ne_of_lt (Nat.lt_of_lt_of_le Kv.lt (Nat.le_of_eq g9))
  have K15 := (Keep.refl h0 []).ext E12
  have f16 := Kv.ext E12
  refine own_astore (q := 14) (L' := #[.val (.ref va), .val (.int i), .val (.int j), .val (.int n), .val (.ref a7)]) A11 d26_12 rfl rfl ?_
  refine own_aloadN (q := 15) A11 d26_14 rfl rfl ?_
  refine own_iloadN (q := 16) A11 d26_15 rfl ?_
  refine own_aload (q := 18) A11 d26_16 rfl rfl ?_
  refine own_iconst (q := 19) A11 (0 : Int32) d26_18 rfl ?_
  refine own_aloadN (q := 20) A11 d26_19 rfl rfl ?_
  refine own_arrlenv (q := 21) A11 f16 d26_20 ?_
  refine own_iloadN (q := 22) A11 d26_21 rfl ?_
  refine own_isub (q := 23) A11 d26_22 ?_
  refine own_iloadN (q := 24) A11 d26_23 rfl ?_
  refine own_static (q := 27) (W := 4) (argsL := [(.int (N - i)), (.int n)]) (rest := [(.int 0), (.ref a7), (.int i), (.ref va)]) A11 (H.k 147 rfl) (H.k 148 rfl) (H.k 149 rfl) (H.k 150 rfl) (by decide) (own_pay (rm_min (N - i) n A11.old H ) (H.k 150 rfl) (H.k 149 rfl) (by decide) (by decide)) own_nW (Nat.le_of_eq rfl) own_pd23 rfl rfl rfl d26_24 (by decide) (by have := P.cb; show 0 + 0 + cap + 0 ≤ 10; omega) ?_
  rintro v17 T18 h19 A20 ⟨rfl, rfl⟩
  show own_Run p e below Q m T18 27 #[.val (.ref va), .val (.int i), .val (.int j), .val (.int n), .val (.ref a7)] [(.int (if n < (N - i) then n else (N - i))), (.int 0), (.ref a7), (.int i), (.ref va)]
  rw [show (if n < (N - i) then n else (N - i)) = n from P.mn]
  refine own_acopy (q := 30) (W := 0) A20 (H.k 151 rfl) (H.k 90 rfl) (H.k 88 rfl) (H.k 89 rfl) (us := us) f16 X13 rfl P.i0 (by decide) P.nn P.le (by rw [show (0 : Int32).toNatClampNeg = 0 from rfl, Nat.zero_add]; exact Nat.le_refl _) P.us (by rw [List.length_replicate, P.hc, show (0 : Int32).toNatClampNeg = 0 from rfl, Nat.zero_add]; exact Nat.le_refl _) g10 (Or.inr (Or.inl rfl)) rfl d26_27 (by decide) (Nat.le_of_eq rfl) (by decide) ?_
  intro T21 h22 A23 K24 V25
  rw [own_cutl P.hc] at V25
  have K26 := K15.trans K24 (allS (Or.inr (Nat.le_trans (Keep.refl h0 []).1 (Nat.le_of_eq g9))) all0)
  refine own_aload (q := 32) A23 d26_30 rfl rfl ?_
  exact own_retA A23 hQ rfl rfl rfl d26_32 ⟨a7, _, rfl, g10, (Nat.le_trans (Keep.refl h0 []).1 (Nat.le_of_eq g9)), K26, V25⟩ (by decide) (by have := P.cb; show 0 + 0 + cap + 0 ≤ 10; omega)
theorem d25_0 : decode jdk_65_method_132_code 0 = .ok (.iload_n 1, 1) := by decide +kernel
theorem d25_1 : decode jdk_65_method_132_code 1 = .ok (.ifCond .ne 9, 3) := by decide +kernel
theorem d25_4 : decode jdk_65_method_132_code 4 = .ok (.iload_n 2, 1) := by decide +kernel
theorem d25_5 : decode jdk_65_method_132_code 5 = .ok (.aload_n 0, 1) := by decide +kernel
theorem d25_6 : decode jdk_65_method_132_code 6 = .ok (.arraylength, 1) := by decide +kernel
theorem d25_7 : decode jdk_65_method_132_code 7 = .ok (.if_icmp .eq 10, 3) := by decide +kernel
theorem d25_10 : decode jdk_65_method_132_code 10 = .ok (.aload_n 0, 1) := by decide +kernel
theorem d25_11 : decode jdk_65_method_132_code 11 = .ok (.iload_n 1, 1) := by decide +kernel
theorem d25_12 : decode jdk_65_method_132_code 12 = .ok (.iload_n 2, 1) := by decide +kernel
theorem d25_13 : decode jdk_65_method_132_code 13 = .ok (.invokestatic 339, 3) := by decide +kernel
theorem d25_16 : decode jdk_65_method_132_code 16 = .ok (.areturn, 1) := by decide +kernel
theorem rm_cr (va : Addr) (kv : ClassId) (n : Int32) (cap : Nat) (N i j : Int32) (vs us : List Value) (O0 : Old Z n0 h0) (H : own_H Z a0 zc fm) (Kv : Arv Z h0 va kv .byte N vs (.int 0)) (P : own_cut n cap N i j vs us) :
  own_Met false l Z n0 [] [] ⟨"java/util/Arrays", "copyOfRange", "([BII)[B"⟩ jdk_65_method_132_code 3 (some (.array .byte)) [] (own_R 2 1 10 34) #[(.ref va), (.int i), (.int j)] h0 (fun v h => ∃ (t : Addr) (k : ClassId), v = some (.ref t) ∧ n0 ≤ t ∧ h0.size ≤ t ∧ Keep h0 h [] ∧ Arv Z h t k .byte n us (.int 0)) := by
  refine own_ent (a0 := a0) (nm := "copyOfRange") (Ls := #[.val (.ref va), .val (.int i), .val (.int j)]) own_pn7 O0 EW.nil ?_
  intro p e _ m _ below _ _ T0 Q hQ A0
  refine own_iloadN (q := 1) A0 d25_0 rfl ?_
  refine own_ifc (q := 10) (q' := 4) A0 d25_1 ?_ ?_
  · rintro (c1 : ¬ i = (0 : Int32))
    refine own_aloadN (q := 11) A0 d25_10 rfl rfl ?_
    refine own_iloadN (q := 12) A0 d25_11 rfl ?_
    refine own_iloadN (q := 13) A0 d25_12 rfl ?_
    refine own_static (q := 16) (W := 0) (argsL := [(.ref va), (.int i), (.int j)]) (rest := []) A0 (H.k 141 rfl) (H.k 142 rfl) (H.k 139 rfl) (H.k 143 rfl) (by decide) (own_pay (rm_cb va kv n cap N i j vs us A0.old H Kv P) (H.k 143 rfl) (H.k 139 rfl) (by decide) (by decide)) own_nW (Nat.le_of_eq rfl) own_pd21 rfl rfl rfl d25_13 (by decide) (by decide) ?_
    rintro v5 T6 h7 A8 ⟨t2, k4, rfl, q3⟩
    show own_Run p e below Q m T6 16 #[.val (.ref va), .val (.int i), .val (.int j)] [(.ref t2)]
    exact own_retA A8 hQ rfl rfl rfl d25_16 ⟨t2, k4, rfl, q3⟩
  · rintro (c1 : i = (0 : Int32))
    refine own_iloadN (q := 5) A0 d25_4 rfl ?_
    refine own_aloadN (q := 6) A0 d25_5 rfl rfl ?_
    refine own_arrlenv (q := 7) A0 Kv d25_6 ?_
    refine own_icmpF (q := 10) A0 d25_7 (show ¬ j = N from P.ne c1) ?_
    refine own_aloadN (q := 11) A0 d25_10 rfl rfl ?_
    refine own_iloadN (q := 12) A0 d25_11 rfl ?_
    refine own_iloadN (q := 13) A0 d25_12 rfl ?_
    refine own_static (q := 16) (W := 0) (argsL := [(.ref va), (.int i), (.int j)]) (rest := []) A0 (H.k 141 rfl) (H.k 142 rfl) (H.k 139 rfl) (H.k 143 rfl) (by decide) (own_pay (rm_cb va kv n cap N i j vs us A0.old H Kv P) (H.k 143 rfl) (H.k 139 rfl) (by decide) (by decide)) own_nW (Nat.le_of_eq rfl) own_pd21 rfl rfl rfl d25_13 (by decide) (by decide) ?_
    rintro v12 T13 h14 A15 ⟨t9, k11, rfl, q10⟩
    show own_Run p e below Q m T13 16 #[.val (.ref va), .val (.int i), .val (.int j)] [(.ref t9)]
    exact own_retA A15 hQ rfl rfl rfl d25_16 ⟨t9, k11, rfl, q10⟩
theorem d22_0 : decode jdk_68_method_64_code 0 = .ok (.aload_n 0, 1) := by decide +kernel
theorem d22_1 : decode jdk_68_method_64_code 1 = .ok (.getfield 15, 3) := by decide +kernel
theorem d22_4 : decode jdk_68_method_64_code 4 = .ok (.areturn, 1) := by decide +kernel
theorem rm_gv (sb va : Addr) (O0 : Old Z n0 h0) (H : own_H Z a0 zc fm) (Fv : Fld Z h0 sb "java/lang/AbstractStringBuilder" "value" "[B" (.ref va)) :
  own_Met false l Z n0 [] [] ⟨"java/lang/AbstractStringBuilder", "getValue", "()[B"⟩ jdk_68_method_64_code 1 (some (.array .byte)) [] (own_R 0 0 0 0) #[(.ref sb)] h0 (fun v h => v = some (.ref va) ∧ h0 = h) := by
  refine own_ent (a0 := a0) (nm := "getValue") (Ls := #[.val (.ref sb)]) own_pn4 O0 EW.nil ?_
  intro p e _ m _ below _ _ T0 Q hQ A0
  refine own_aloadN (q := 1) A0 d22_0 rfl rfl ?_
  refine own_getF (host := "") (q := 4) A0 (Or.inl (H.k 37 rfl)) Via.refl Fv d22_1 ?_
  intro T1 A2
  exact own_retA A2 hQ rfl rfl rfl d22_4 ⟨rfl, rfl⟩
theorem d24_0 : decode jdk_68_method_6_code 0 = .ok (.aload_n 0, 1) := by decide +kernel
theorem d24_1 : decode jdk_68_method_6_code 1 = .ok (.getfield 79, 3) := by decide +kernel
theorem d24_4 : decode jdk_68_method_6_code 4 = .ok (.ireturn, 1) := by decide +kernel
theorem rm_aln (sb : Addr) (n : Int32) (O0 : Old Z n0 h0) (H : own_H Z a0 zc fm) (Fn : Fld Z h0 sb "java/lang/AbstractStringBuilder" "count" "I" (.int n)) :
  own_Met false l Z n0 [] [] ⟨"java/lang/AbstractStringBuilder", "length", "()I"⟩ jdk_68_method_6_code 1 (some .int) [] (own_R 0 0 0 0) #[(.ref sb)] h0 (fun v h => v = some (.int n) ∧ h0 = h) := by
  refine own_ent (a0 := a0) (nm := "length") (Ls := #[.val (.ref sb)]) own_pn4 O0 EW.nil ?_
  intro p e _ m _ below _ _ T0 Q hQ A0
  refine own_aloadN (q := 1) A0 d24_0 rfl rfl ?_
  refine own_getF (host := "") (q := 4) A0 (Or.inl (H.k 64 rfl)) Via.refl Fn d24_1 ?_
  intro T1 A2
  exact own_retI A2 hQ d24_4 ⟨rfl, rfl⟩
theorem d23_0 : decode jdk_67_method_93_code 0 = .ok (.aload_n 0, 1) := by decide +kernel
theorem d23_1 : decode jdk_67_method_93_code 1 = .ok (.invokespecial 343, 3) := by decide +kernel
theorem d23_4 : decode jdk_67_method_93_code 4 = .ok (.ireturn, 1) := by decide +kernel
theorem rm_sln (sb : Addr) (n : Int32) (O0 : Old Z n0 h0) (H : own_H Z a0 zc fm) (Eb : Exa Z h0 sb "java/lang/StringBuilder") (Fn : Fld Z h0 sb "java/lang/AbstractStringBuilder" "count" "I" (.int n)) :
  own_Met false l Z n0 [] [] ⟨"java/lang/StringBuilder", "length", "()I"⟩ jdk_67_method_93_code 1 (some .int) [] (own_R 1 0 0 12) #[(.ref sb)] h0 (fun v h => v = some (.int n) ∧ h0 = h) := by
  refine own_ent (a0 := a0) (nm := "length") (Ls := #[.val (.ref sb)]) own_pn6 O0 EW.nil ?_
  intro p e _ m _ below _ _ T0 Q hQ A0
  refine own_aloadN (q := 1) A0 d23_0 rfl rfl ?_
  refine own_super (q := 4) (W := 0) (argsL := []) (rest := []) A0 (H.k 134 rfl) (own_same (H.k 130 rfl) (H.k 125 rfl) (H.k 126 rfl) rfl (by decide)) (H.k 130 rfl) (H.k 48 rfl) (H.k 135 rfl) (by decide) (own_pay (rm_aln sb n A0.old H Fn) (H.k 135 rfl) (H.k 31 rfl) (by decide) (by decide)) own_nW (Nat.le_of_eq rfl) Eb own_pd8 rfl rfl rfl d23_1 (by decide) (by decide) ?_
  rintro v1 T2 h3 A4 ⟨rfl, rfl⟩
  show own_Run p e below Q m T2 4 #[.val (.ref sb)] [(.int n)]
  exact own_retI A4 hQ d23_4 ⟨rfl, rfl⟩
theorem d21_0 : decode jdk_42_method_150_code 0 = .ok (.aload_n 0, 1) := by decide +kernel
theorem d21_1 : decode jdk_42_method_150_code 1 = .ok (.invokespecial 1, 3) := by decide +kernel
theorem d21_4 : decode jdk_42_method_150_code 4 = .ok (.aload_n 1, 1) := by decide +kernel
theorem d21_5 : decode jdk_42_method_150_code 5 = .ok (.invokevirtual 552, 3) := by decide +kernel
theorem d21_8 : decode jdk_42_method_150_code 8 = .ok (.astore_n 3, 1) := by decide +kernel
theorem d21_9 : decode jdk_42_method_150_code 9 = .ok (.aload_n 1, 1) := by decide +kernel
theorem d21_10 : decode jdk_42_method_150_code 10 = .ok (.invokevirtual 549, 3) := by decide +kernel
theorem d21_13 : decode jdk_42_method_150_code 13 = .ok (.istore 4, 2) := by decide +kernel
theorem d21_15 : decode jdk_42_method_150_code 15 = .ok (.aload_n 1, 1) := by decide +kernel
theorem d21_16 : decode jdk_42_method_150_code 16 = .ok (.invokevirtual 1047, 3) := by decide +kernel
theorem d21_19 : decode jdk_42_method_150_code 19 = .ok (.ifCond .eq 22, 3) := by decide +kernel
theorem d21_22 : decode jdk_42_method_150_code 22 = .ok (.aload_n 0, 1) := by decide +kernel
theorem d21_23 : decode jdk_42_method_150_code 23 = .ok (.iconst 0, 1) := by decide +kernel
theorem d21_24 : decode jdk_42_method_150_code 24 = .ok (.putfield 15, 3) := by decide +kernel
theorem d21_27 : decode jdk_42_method_150_code 27 = .ok (.aload_n 0, 1) := by decide +kernel
theorem d21_28 : decode jdk_42_method_150_code 28 = .ok (.aload_n 3, 1) := by decide +kernel
theorem d21_29 : decode jdk_42_method_150_code 29 = .ok (.iconst 0, 1) := by decide +kernel
theorem d21_30 : decode jdk_42_method_150_code 30 = .ok (.iload 4, 2) := by decide +kernel
theorem d21_32 : decode jdk_42_method_150_code 32 = .ok (.invokestatic 54, 3) := by decide +kernel
theorem d21_35 : decode jdk_42_method_150_code 35 = .ok (.putfield 9, 3) := by decide +kernel
theorem d21_38 : decode jdk_42_method_150_code 38 = .ok (.goto 59, 3) := by decide +kernel
theorem d21_41 : decode jdk_42_method_150_code 41 = .ok (.getstatic 38, 3) := by decide +kernel
theorem d21_44 : decode jdk_42_method_150_code 44 = .ok (.ifCond .eq 35, 3) := by decide +kernel
theorem d21_47 : decode jdk_42_method_150_code 47 = .ok (.aload_n 1, 1) := by decide +kernel
theorem d21_48 : decode jdk_42_method_150_code 48 = .ok (.getfield 1048, 3) := by decide +kernel
theorem d21_51 : decode jdk_42_method_150_code 51 = .ok (.ifCond .eq 28, 3) := by decide +kernel
theorem d21_79 : decode jdk_42_method_150_code 79 = .ok (.aload_n 0, 1) := by decide +kernel
theorem d21_80 : decode jdk_42_method_150_code 80 = .ok (.iconst 1, 1) := by decide +kernel
theorem d21_81 : decode jdk_42_method_150_code 81 = .ok (.putfield 15, 3) := by decide +kernel
theorem d21_84 : decode jdk_42_method_150_code 84 = .ok (.aload_n 0, 1) := by decide +kernel
theorem d21_85 : decode jdk_42_method_150_code 85 = .ok (.aload_n 3, 1) := by decide +kernel
theorem d21_86 : decode jdk_42_method_150_code 86 = .ok (.iconst 0, 1) := by decide +kernel
theorem d21_87 : decode jdk_42_method_150_code 87 = .ok (.iload 4, 2) := by decide +kernel
theorem d21_89 : decode jdk_42_method_150_code 89 = .ok (.iconst 1, 1) := by decide +kernel
theorem d21_90 : decode jdk_42_method_150_code 90 = .ok (.ishl, 1) := by decide +kernel
theorem d21_91 : decode jdk_42_method_150_code 91 = .ok (.invokestatic 54, 3) := by decide +kernel
theorem d21_94 : decode jdk_42_method_150_code 94 = .ok (.putfield 9, 3) := by decide +kernel
theorem d21_97 : decode jdk_42_method_150_code 97 = .ok (.return_, 1) := by decide +kernel
theorem rm_iaL (a : Addr) (sb va : Addr) (kv : ClassId) (T n : Int32) (cap : Nat) (vs us : List Value) (O0 : Old Z n0 h0) (H : own_H Z a0 zc fm) (Ea : Exa Z h0 a "java/lang/String") (Ca : Fld Z h0 a "java/lang/String" "coder" "B" (.int 0)) (Va : Fld Z h0 a "java/lang/String" "value" "[B" .null) (ga : n0 ≤ a) (nab : a ≠ sb) (nav : a ≠ va) (B : own_B Z h0 n0 sb va kv 0 16 T vs) (P : own_cut n cap 16 0 T vs us) :
  own_Met false l Z n0 [] [] ⟨"java/lang/String", "<init>", "(Ljava/lang/AbstractStringBuilder;Ljava/lang/Void;)V"⟩ jdk_42_method_150_code 5 none [] (own_R 3 1 10 49) #[(.ref a), (.ref sb), .null] h0 (fun v h => v = none ∧ Keep h0 h [a] ∧ ∃ (t : Addr) (kt : ClassId), own_X Z h a t kt 0 n us) := by
  refine own_ent (a0 := a0) (nm := "<init>") (Ls := #[.val (.ref a), .val (.ref sb), .val .null, .unset, .unset]) own_pn2 O0 EW.nil ?_
  intro p e _ m _ below _ _ T0 Q hQ A0
  refine own_aloadN (q := 1) A0 d21_0 rfl rfl ?_
  refine own_initO (q := 4) (W := 0) A0 (H.k 122 rfl) (H.k 34 rfl) (H.k 35 rfl) d21_1 rfl (by decide) (Nat.le_of_eq rfl) (by decide) ?_
  intro T1 A2
  refine own_aloadN (q := 5) A2 d21_4 rfl rfl ?_
  refine own_virtual (q := 8) (W := 0) (argsL := []) (rest := []) A2 (H.k 123 rfl) (H.k 124 rfl) (H.k 126 rfl) (H.k 125 rfl) (by decide) (own_pay (rm_gv sb va A2.old H B.V) (H.k 127 rfl) (H.k 31 rfl) (by decide) (by decide)) own_nW (Nat.le_of_eq rfl) B.E own_pd20 rfl rfl rfl d21_5 (by decide) (by decide) ?_
  rintro v3 T4 h5 A6 ⟨rfl, rfl⟩
  show own_Run p e below Q m T4 8 #[.val (.ref a), .val (.ref sb), .val .null, .unset, .unset] [(.ref va)]
  refine own_astoreN (q := 9) (L' := #[.val (.ref a), .val (.ref sb), .val .null, .val (.ref va), .unset]) A6 d21_8 rfl rfl ?_
  refine own_aloadN (q := 10) A6 d21_9 rfl rfl ?_
  refine own_virtualUp (q := 13) (W := 0) (argsL := []) (rest := []) A6 (H.k 128 rfl) (own_same (H.k 130 rfl) (H.k 125 rfl) (H.k 126 rfl) rfl (by decide)) (H.k 129 rfl) (by decide) (H.k 131 rfl) (H.k 132 rfl) (own_pay (rm_sln sb T A6.old H B.E B.N) (H.k 133 rfl) (H.k 23 rfl) (by decide) (by decide)) own_nW (Nat.le_of_eq rfl) B.E own_pd8 rfl rfl rfl d21_10 (by decide) (by decide) ?_
  rintro v7 T8 h9 A10 ⟨rfl, rfl⟩
  show own_Run p e below Q m T8 13 #[.val (.ref a), .val (.ref sb), .val .null, .val (.ref va), .unset] [(.int T)]
  refine own_istore (q := 15) (L' := #[.val (.ref a), .val (.ref sb), .val .null, .val (.ref va), .val (.int T)]) A10 d21_13 rfl ?_
  refine own_aloadN (q := 16) A10 d21_15 rfl rfl ?_
  refine own_virtual (q := 19) (W := 0) (argsL := []) (rest := []) A10 (H.k 136 rfl) (H.k 101 rfl) (H.k 103 rfl) (H.k 102 rfl) (by decide) (own_pay (rm_bil0 sb A10.old H B.C) (H.k 104 rfl) (H.k 31 rfl) (by decide) (by decide)) own_nW (Nat.le_of_eq rfl) B.E own_pd15 rfl rfl rfl d21_16 (by decide) (by decide) ?_
  rintro v11 T12 h13 A14 ⟨rfl, rfl⟩
  show own_Run p e below Q m T12 19 #[.val (.ref a), .val (.ref sb), .val .null, .val (.ref va), .val (.int T)] [(.int 1)]
  refine own_ifcF (q := 22) A14 d21_19 (show ¬ (1 : Int32) = (0 : Int32) from by decide) ?_
  refine own_aloadN (q := 23) A14 d21_22 rfl rfl ?_
  refine own_iconst (q := 24) A14 (0 : Int32) d21_23 rfl ?_
  refine own_putF (host := "") (q := 27) A14 (Or.inl (H.k 63 rfl)) Via.refl Ca Ea (Or.inr ⟨(H.k 14 rfl), rfl, rfl⟩) (H.k 11 rfl) (ty := .byte) (by decide) rfl rfl ga (Or.inr (Or.inl rfl)) d21_24 ?_
  intro T15 h16 A17 W18
  have K19 := (Keep.refl h0 [a]).wr W18 (Or.inl (by simp))
  have f20 := Ea.wr W18
  have f21 := Ca.same W18
  have f22 := Va.other W18 (Or.inr (slot_ne (Or.inr (H.k 13 rfl)) (Or.inr (H.k 14 rfl)) (by decide) (by decide : parseFieldDescriptor "[B" = some (.array .byte)) (by decide : parseFieldDescriptor "B" = some .byte)))
  have f23 := B.E.wr W18
  have f24 := B.V.other W18 (Or.inl (Ne.symm nab))
  have f25 := B.C.other W18 (Or.inl (Ne.symm nab))
  have f26 := B.N.other W18 (Or.inl (Ne.symm nab))
  have f27 := B.M.other W18 (Or.inl (Ne.symm nab))
  have f28 := B.K.other W18 (Ne.symm nav)
  refine own_aloadN (q := 28) A17 d21_27 rfl rfl ?_
  refine own_aloadN (q := 29) A17 d21_28 rfl rfl ?_
  refine own_iconst (q := 30) A17 (0 : Int32) d21_29 rfl ?_
  refine own_iload (q := 32) A17 d21_30 rfl ?_
  refine own_static (q := 35) (W := 1) (argsL := [(.ref va), (.int 0), (.int T)]) (rest := [(.ref a)]) A17 (H.k 137 rfl) (H.k 138 rfl) (H.k 139 rfl) (H.k 140 rfl) (by decide) (own_pay (rm_cr va kv n cap 16 0 T vs us A17.old H f28 P) (H.k 140 rfl) (H.k 139 rfl) (by decide) (by decide)) own_nW (Nat.le_of_eq rfl) own_pd21 rfl rfl rfl d21_32 (by decide) (by decide) ?_
  rintro v35 T36 h37 A38 ⟨t29, k30, rfl, g31, g32, K33, V34⟩
  show own_Run p e below Q m T36 35 #[.val (.ref a), .val (.ref sb), .val .null, .val (.ref va), .val (.int T)] [(.ref t29), (.ref a)]
  have z39 : a ≠ t29 := Nat.ne_of_lt (Nat.lt_of_lt_of_le f20.lt g32)
  have f40 := f20.keep K33
  have f41 := f21.keep K33 nin0
  have f42 := f22.keep K33 nin0
  have K43 := K19.trans K33 all0
  refine own_putF (host := "") (q := 38) A38 (Or.inl (H.k 56 rfl)) Via.refl f42 f40 (Or.inr ⟨(H.k 13 rfl), rfl, rfl⟩) (H.k 11 rfl) (ty := (.array .byte)) (by decide) rfl rfl ga (Or.inr (Or.inl rfl)) d21_35 ?_
  intro T44 h45 A46 W47
  have K48 := K43.wr W47 (Or.inl (by simp))
  have f49 := f40.wr W47
  have f50 := f41.other W47 (Or.inr (slot_ne (Or.inr (H.k 14 rfl)) (Or.inr (H.k 13 rfl)) (by decide) (by decide : parseFieldDescriptor "B" = some .byte) (by decide : parseFieldDescriptor "[B" = some (.array .byte))))
  have f51 := f42.same W47
  have f52 := V34.other W47 (Ne.symm z39)
  refine own_goto (q := 97) A46 d21_38 ?_
  exact own_ret0 A46 hQ d21_97 ⟨rfl, K48, t29, k30, own_X_mk f49 f50 f51 f52⟩
theorem d20_0 : decode jdk_42_method_53_code 0 = .ok (.aload_n 0, 1) := by decide +kernel
theorem d20_1 : decode jdk_42_method_53_code 1 = .ok (.aload_n 1, 1) := by decide +kernel
theorem d20_2 : decode jdk_42_method_53_code 2 = .ok (.aconst_null, 1) := by decide +kernel
theorem d20_3 : decode jdk_42_method_53_code 3 = .ok (.invokespecial 489, 3) := by decide +kernel
theorem d20_6 : decode jdk_42_method_53_code 6 = .ok (.return_, 1) := by decide +kernel
theorem rm_ibL (a : Addr) (sb va : Addr) (kv : ClassId) (T n : Int32) (cap : Nat) (vs us : List Value) (O0 : Old Z n0 h0) (H : own_H Z a0 zc fm) (Ea : Exa Z h0 a "java/lang/String") (Ca : Fld Z h0 a "java/lang/String" "coder" "B" (.int 0)) (Va : Fld Z h0 a "java/lang/String" "value" "[B" .null) (ga : n0 ≤ a) (nab : a ≠ sb) (nav : a ≠ va) (B : own_B Z h0 n0 sb va kv 0 16 T vs) (P : own_cut n cap 16 0 T vs us) :
  own_Met false l Z n0 [] [] ⟨"java/lang/String", "<init>", "(Ljava/lang/StringBuilder;)V"⟩ jdk_42_method_53_code 2 none [] (own_R 4 1 10 65) #[(.ref a), (.ref sb)] h0 (fun v h => v = none ∧ Keep h0 h [a] ∧ ∃ (t : Addr) (kt : ClassId), own_X Z h a t kt 0 n us) := by
  refine own_ent (a0 := a0) (nm := "<init>") (Ls := #[.val (.ref a), .val (.ref sb)]) own_pn2 O0 EW.nil ?_
  intro p e _ m _ below _ _ T0 Q hQ A0
  refine own_aloadN (q := 1) A0 d20_0 rfl rfl ?_
  refine own_aloadN (q := 2) A0 d20_1 rfl rfl ?_
  refine own_aconstNull (q := 3) A0 d20_2 ?_
  refine own_special (q := 6) (W := 0) (argsL := [(.ref sb), .null]) (rest := []) A0 rfl (H.k 119 rfl) (H.k 120 rfl) (H.k 121 rfl) (by decide) (own_pay (rm_iaL a sb va kv T n cap vs us A0.old H Ea Ca Va ga nab nav B P) (H.k 121 rfl) (H.k 10 rfl) (by decide) (by decide)) own_nW (Nat.le_of_eq rfl) own_pd19 rfl rfl rfl d20_3 (by decide) (by decide) ?_
  rintro v2 T3 h4 A5 ⟨rfl, q1⟩
  show own_Run p e below Q m T3 6 #[.val (.ref a), .val (.ref sb)] []
  exact own_ret0 A5 hQ d20_6 ⟨rfl, q1⟩
theorem d19_0 : decode jdk_67_method_42_code 0 = .ok (.new 18, 3) := by decide +kernel
theorem d19_3 : decode jdk_67_method_42_code 3 = .ok (.dup, 1) := by decide +kernel
theorem d19_4 : decode jdk_67_method_42_code 4 = .ok (.aload_n 0, 1) := by decide +kernel
theorem d19_5 : decode jdk_67_method_42_code 5 = .ok (.invokespecial 137, 3) := by decide +kernel
theorem d19_8 : decode jdk_67_method_42_code 8 = .ok (.areturn, 1) := by decide +kernel
theorem rm_iaU (a : Addr) (sb va : Addr) (kv : ClassId) (T n : Int32) (cap : Nat) (vs us : List Value) (O0 : Old Z n0 h0) (H : own_H Z a0 zc fm) (Ea : Exa Z h0 a "java/lang/String") (Ca : Fld Z h0 a "java/lang/String" "coder" "B" (.int 0)) (Va : Fld Z h0 a "java/lang/String" "value" "[B" .null) (ga : n0 ≤ a) (nab : a ≠ sb) (nav : a ≠ va) (B : own_B Z h0 n0 sb va kv 1 32 T vs) (P : own_cut n cap 32 0 (T <<< ((1 : Int32) &&& 31)) vs us) :
  own_Met false l Z n0 [] [] ⟨"java/lang/String", "<init>", "(Ljava/lang/AbstractStringBuilder;Ljava/lang/Void;)V"⟩ jdk_42_method_150_code 5 none [] (own_R 3 1 10 49) #[(.ref a), (.ref sb), .null] h0 (fun v h => v = none ∧ Keep h0 h [a] ∧ ∃ (t : Addr) (kt : ClassId), own_X Z h a t kt 1 n us) := by
  refine own_ent (a0 := a0) (nm := "<init>") (Ls := #[.val (.ref a), .val (.ref sb), .val .null, .unset, .unset]) own_pn2 O0 EW.nil ?_
  intro p e _ m _ below _ _ T0 Q hQ A0
  refine own_aloadN (q := 1) A0 d21_0 rfl rfl ?_
  refine own_initO (q := 4) (W := 0) A0 (H.k 122 rfl) (H.k 34 rfl) (H.k 35 rfl) d21_1 rfl (by decide) (Nat.le_of_eq rfl) (by decide) ?_
  intro T1 A2
  refine own_aloadN (q := 5) A2 d21_4 rfl rfl ?_
  refine own_virtual (q := 8) (W := 0) (argsL := []) (rest := []) A2 (H.k 123 rfl) (H.k 124 rfl) (H.k 126 rfl) (H.k 125 rfl) (by decide) (own_pay (rm_gv sb va A2.old H B.V) (H.k 127 rfl) (H.k 31 rfl) (by decide) (by decide)) own_nW (Nat.le_of_eq rfl) B.E own_pd20 rfl rfl rfl d21_5 (by decide) (by decide) ?_
  rintro v3 T4 h5 A6 ⟨rfl, rfl⟩
  show own_Run p e below Q m T4 8 #[.val (.ref a), .val (.ref sb), .val .null, .unset, .unset] [(.ref va)]
  refine own_astoreN (q := 9) (L' := #[.val (.ref a), .val (.ref sb), .val .null, .val (.ref va), .unset]) A6 d21_8 rfl rfl ?_
  refine own_aloadN (q := 10) A6 d21_9 rfl rfl ?_
  refine own_virtualUp (q := 13) (W := 0) (argsL := []) (rest := []) A6 (H.k 128 rfl) (own_same (H.k 130 rfl) (H.k 125 rfl) (H.k 126 rfl) rfl (by decide)) (H.k 129 rfl) (by decide) (H.k 131 rfl) (H.k 132 rfl) (own_pay (rm_sln sb T A6.old H B.E B.N) (H.k 133 rfl) (H.k 23 rfl) (by decide) (by decide)) own_nW (Nat.le_of_eq rfl) B.E own_pd8 rfl rfl rfl d21_10 (by decide) (by decide) ?_
  rintro v7 T8 h9 A10 ⟨rfl, rfl⟩
  show own_Run p e below Q m T8 13 #[.val (.ref a), .val (.ref sb), .val .null, .val (.ref va), .unset] [(.int T)]
  refine own_istore (q := 15) (L' := #[.val (.ref a), .val (.ref sb), .val .null, .val (.ref va), .val (.int T)]) A10 d21_13 rfl ?_
  refine own_aloadN (q := 16) A10 d21_15 rfl rfl ?_
  refine own_virtual (q := 19) (W := 0) (argsL := []) (rest := []) A10 (H.k 136 rfl) (H.k 101 rfl) (H.k 103 rfl) (H.k 102 rfl) (by decide) (own_pay (rm_bil1 sb A10.old H B.C) (H.k 104 rfl) (H.k 31 rfl) (by decide) (by decide)) own_nW (Nat.le_of_eq rfl) B.E own_pd15 rfl rfl rfl d21_16 (by decide) (by decide) ?_
  rintro v11 T12 h13 A14 ⟨rfl, rfl⟩
  show own_Run p e below Q m T12 19 #[.val (.ref a), .val (.ref sb), .val .null, .val (.ref va), .val (.int T)] [(.int 0)]
  refine own_ifcT (q := 41) A14 d21_19 (show (0 : Int32) = (0 : Int32) from by decide) ?_
  refine own_getS (q := 44) A14 (H.k 62 rfl) Via.refl H.SC d21_41 ?_
  intro T15 A16
  refine own_ifcF (q := 47) A16 d21_44 (show ¬ zc = (0 : Int32) from H.hz) ?_
  refine own_aloadN (q := 48) A16 d21_47 rfl rfl ?_
  refine own_getF (host := "") (q := 51) A16 (Or.inl (H.k 316 rfl)) Via.refl B.M d21_48 ?_
  intro T17 A18
  refine own_ifcT (q := 79) A18 d21_51 (show (0 : Int32) = (0 : Int32) from by decide) ?_
  refine own_aloadN (q := 80) A18 d21_79 rfl rfl ?_
  refine own_iconst (q := 81) A18 (1 : Int32) d21_80 rfl ?_
  refine own_putF (host := "") (q := 84) A18 (Or.inl (H.k 63 rfl)) Via.refl Ca Ea (Or.inr ⟨(H.k 14 rfl), rfl, rfl⟩) (H.k 11 rfl) (ty := .byte) (by decide) rfl rfl ga (Or.inr (Or.inl rfl)) d21_81 ?_
  intro T19 h20 A21 W22
  have K23 := (Keep.refl h0 [a]).wr W22 (Or.inl (by simp))
  have f24 := Ea.wr W22
  have f25 := Ca.same W22
  have f26 := Va.other W22 (Or.inr (slot_ne (Or.inr (H.k 13 rfl)) (Or.inr (H.k 14 rfl)) (by decide) (by decide : parseFieldDescriptor "[B" = some (.array .byte)) (by decide : parseFieldDescriptor "B" = some .byte)))
  have f27 := B.E.wr W22
  have f28 := B.V.other W22 (Or.inl (Ne.symm nab))
  have f29 := B.C.other W22 (Or.inl (Ne.symm nab))
  have f30 := B.N.other W22 (Or.inl (Ne.symm nab))
  have f31 := B.M.other W22 (Or.inl (Ne.symm nab))
  have f32 := B.K.other W22 (Ne.symm nav)
  refine own_aloadN (q := 85) A21 d21_84 rfl rfl ?_
  refine own_aloadN (q := 86) A21 d21_85 rfl rfl ?_
  refine own_iconst (q := 87) A21 (0 : Int32) d21_86 rfl ?_
  refine own_iload (q := 89) A21 d21_87 rfl ?_
  refine own_iconst (q := 90) A21 (1 : Int32) d21_89 rfl ?_
  refine own_ishl (q := 91) A21 d21_90 ?_
  refine own_static (q := 94) (W := 1) (argsL := [(.ref va), (.int 0), (.int ((T <<< ((1 : Int32) &&& 31))))]) (rest := [(.ref a)]) A21 (H.k 137 rfl) (H.k 138 rfl) (H.k 139 rfl) (H.k 140 rfl) (by decide) (own_pay (rm_cr va kv n cap 32 0 (T <<< ((1 : Int32) &&& 31)) vs us A21.old H f32 P) (H.k 140 rfl) (H.k 139 rfl) (by decide) (by decide)) own_nW (Nat.le_of_eq rfl) own_pd21 rfl rfl rfl d21_91 (by decide) (by decide) ?_
  rintro v39 T40 h41 A42 ⟨t33, k34, rfl, g35, g36, K37, V38⟩
  show own_Run p e below Q m T40 94 #[.val (.ref a), .val (.ref sb), .val .null, .val (.ref va), .val (.int T)] [(.ref t33), (.ref a)]
  have z43 : a ≠ t33 := Nat.ne_of_lt (Nat.lt_of_lt_of_le f24.lt g36)
  have f44 := f24.keep K37
  have f45 := f25.keep K37 nin0
  have f46 := f26.keep K37 nin0
  have K47 := K23.trans K37 all0
  refine own_putF (host := "") (q := 97) A42 (Or.inl (H.k 56 rfl)) Via.refl f46 f44 (Or.inr ⟨(H.k 13 rfl), rfl, rfl⟩) (H.k 11 rfl) (ty := (.array .byte)) (by decide) rfl rfl ga (Or.inr (Or.inl rfl)) d21_94 ?_
  intro T48 h49 A50 W51
  have K52 := K47.wr W51 (Or.inl (by simp))
  have f53 := f44.wr W51
  have f54 := f45.other W51 (Or.inr (slot_ne (Or.inr (H.k 14 rfl)) (Or.inr (H.k 13 rfl)) (by decide) (by decide : parseFieldDescriptor "B" = some .byte) (by decide : parseFieldDescriptor "[B" = some (.array .byte))))
  have f55 := f46.same W51
  have f56 := V38.other W51 (Ne.symm z43)
  exact own_ret0 A50 hQ d21_97 ⟨rfl, K52, t33, k34, own_X_mk f53 f54 f55 f56⟩
theorem rm_ibU (a : Addr) (sb va : Addr) (kv : ClassId) (T n : Int32) (cap : Nat) (vs us : List Value) (O0 : Old Z n0 h0) (H : own_H Z a0 zc fm) (Ea : Exa Z h0 a "java/lang/String") (Ca : Fld Z h0 a "java/lang/String" "coder" "B" (.int 0)) (Va : Fld Z h0 a "java/lang/String" "value" "[B" .null) (ga : n0 ≤ a) (nab : a ≠ sb) (nav : a ≠ va) (B : own_B Z h0 n0 sb va kv 1 32 T vs) (P : own_cut n cap 32 0 (T <<< ((1 : Int32) &&& 31)) vs us) :
  own_Met false l Z n0 [] [] ⟨"java/lang/String", "<init>", "(Ljava/lang/StringBuilder;)V"⟩ jdk_42_method_53_code 2 none [] (own_R 4 1 10 65) #[(.ref a), (.ref sb)] h0 (fun v h => v = none ∧ Keep h0 h [a] ∧ ∃ (t : Addr) (kt : ClassId), own_X Z h a t kt 1 n us) := by
  refine own_ent (a0 := a0) (nm := "<init>") (Ls := #[.val (.ref a), .val (.ref sb)]) own_pn2 O0 EW.nil ?_
  intro p e _ m _ below _ _ T0 Q hQ A0
  refine own_aloadN (q := 1) A0 d20_0 rfl rfl ?_
  refine own_aloadN (q := 2) A0 d20_1 rfl rfl ?_
  refine own_aconstNull (q := 3) A0 d20_2 ?_
  refine own_special (q := 6) (W := 0) (argsL := [(.ref sb), .null]) (rest := []) A0 rfl (H.k 119 rfl) (H.k 120 rfl) (H.k 121 rfl) (by decide) (own_pay (rm_iaU a sb va kv T n cap vs us A0.old H Ea Ca Va ga nab nav B P) (H.k 121 rfl) (H.k 10 rfl) (by decide) (by decide)) own_nW (Nat.le_of_eq rfl) own_pd19 rfl rfl rfl d20_3 (by decide) (by decide) ?_
  rintro v2 T3 h4 A5 ⟨rfl, q1⟩
  show own_Run p e below Q m T3 6 #[.val (.ref a), .val (.ref sb)] []
  exact own_ret0 A5 hQ d20_6 ⟨rfl, q1⟩
theorem rm_tsL (sb va : Addr) (kv : ClassId) (T n : Int32) (cap : Nat) (vs us : List Value) (O0 : Old Z n0 h0) (H : own_H Z a0 zc fm) (B : own_B Z h0 n0 sb va kv 0 16 T vs) (P : own_cut n cap 16 0 T vs us) :
  own_Met false l Z n0 [] [] ⟨"java/lang/StringBuilder", "toString", "()Ljava/lang/String;"⟩ jdk_67_method_42_code 1 (some (.object "java/lang/String")) [] (own_R 5 2 14 79) #[(.ref sb)] h0 (fun v h => ∃ (a : Addr), v = some (.ref a) ∧ Keep h0 h [] ∧ ∃ (t : Addr) (kt : ClassId), own_X Z h a t kt 0 n us) := by
  refine own_ent (a0 := a0) (nm := "toString") (Ls := #[.val (.ref sb)]) own_pn6 O0 EW.nil ?_
  intro p e _ m _ below _ _ T0 Q hQ A0
  refine own_newO (q := 3) A0 (H.k 114 rfl) (H.k 11 rfl) (H.k 10 rfl) d19_0 (by decide) (by decide) ?_
  intro T1 h2 a3 g4 g5 A6 E7 X8 D9
  have z10 : sb ≠ a3 := Nat.ne_of_lt (Nat.lt_of_lt_of_le B.E.lt (Nat.le_of_eq g4))
  have z11 : va ≠ a3 := Nat.ne_of_lt (Nat.lt_of_lt_of_le B.K.lt (Nat.le_of_eq g4))
  have K12 := (Keep.refl h0 []).ext E7
  have f13 := B.E.ext E7
  have f14 := B.V.ext E7
  have f15 := B.C.ext E7
  have f16 := B.N.ext E7
  have f17 := B.M.ext E7
  have f18 := B.K.ext E7
  have f19 : Fld Z h2 a3 "java/lang/String" "value" "[B" .null := D9 (Or.inr (H.k 13 rfl)) (ty := (.array .byte)) (by decide)
  have f20 : Fld Z h2 a3 "java/lang/String" "coder" "B" (.int 0) := D9 (Or.inr (H.k 14 rfl)) (ty := .byte) (by decide)
  refine own_dup (q := 4) A6 d19_3 rfl ?_
  refine own_aloadN (q := 5) A6 d19_4 rfl rfl ?_
  refine own_special (q := 8) (W := 1) (argsL := [(.ref sb)]) (rest := [(.ref a3)]) A6 rfl (H.k 115 rfl) (H.k 116 rfl) (H.k 118 rfl) (by decide) (own_pay (rm_ibL a3 sb va kv T n cap vs us A6.old H X8 f20 f19 g5 (Ne.symm z10) (Ne.symm z11) (own_B_mk f13 f14 f15 f16 f17 f18 B.gb B.gv B.ne) P) (H.k 118 rfl) (H.k 10 rfl) (by decide) (by decide)) own_nW (Nat.le_of_eq rfl) own_pd18 rfl rfl rfl d19_5 (by decide) (by decide) ?_
  rintro v23 T24 h25 A26 ⟨rfl, K21, q22⟩
  show own_Run p e below Q m T24 8 #[.val (.ref sb)] [(.ref a3)]
  have K27 := K12.trans K21 (allS (Or.inr (Nat.le_trans (Keep.refl h0 []).1 (Nat.le_of_eq g4))) all0)
  exact own_retA A26 hQ rfl rfl rfl d19_8 ⟨a3, rfl, K27, q22⟩
theorem rm_tsU (sb va : Addr) (kv : ClassId) (T n : Int32) (cap : Nat) (vs us : List Value) (O0 : Old Z n0 h0) (H : own_H Z a0 zc fm) (B : own_B Z h0 n0 sb va kv 1 32 T vs) (P : own_cut n cap 32 0 (T <<< ((1 : Int32) &&& 31)) vs us) :
  own_Met false l Z n0 [] [] ⟨"java/lang/StringBuilder", "toString", "()Ljava/lang/String;"⟩ jdk_67_method_42_code 1 (some (.object "java/lang/String")) [] (own_R 5 2 14 79) #[(.ref sb)] h0 (fun v h => ∃ (a : Addr), v = some (.ref a) ∧ Keep h0 h [] ∧ ∃ (t : Addr) (kt : ClassId), own_X Z h a t kt 1 n us) := by
  refine own_ent (a0 := a0) (nm := "toString") (Ls := #[.val (.ref sb)]) own_pn6 O0 EW.nil ?_
  intro p e _ m _ below _ _ T0 Q hQ A0
  refine own_newO (q := 3) A0 (H.k 114 rfl) (H.k 11 rfl) (H.k 10 rfl) d19_0 (by decide) (by decide) ?_
  intro T1 h2 a3 g4 g5 A6 E7 X8 D9
  have z10 : sb ≠ a3 := Nat.ne_of_lt (Nat.lt_of_lt_of_le B.E.lt (Nat.le_of_eq g4))
  have z11 : va ≠ a3 := Nat.ne_of_lt (Nat.lt_of_lt_of_le B.K.lt (Nat.le_of_eq g4))
  have K12 := (Keep.refl h0 []).ext E7
  have f13 := B.E.ext E7
  have f14 := B.V.ext E7
  have f15 := B.C.ext E7
  have f16 := B.N.ext E7
  have f17 := B.M.ext E7
  have f18 := B.K.ext E7
  have f19 : Fld Z h2 a3 "java/lang/String" "value" "[B" .null := D9 (Or.inr (H.k 13 rfl)) (ty := (.array .byte)) (by decide)
  have f20 : Fld Z h2 a3 "java/lang/String" "coder" "B" (.int 0) := D9 (Or.inr (H.k 14 rfl)) (ty := .byte) (by decide)
  refine own_dup (q := 4) A6 d19_3 rfl ?_
  refine own_aloadN (q := 5) A6 d19_4 rfl rfl ?_
  refine own_special (q := 8) (W := 1) (argsL := [(.ref sb)]) (rest := [(.ref a3)]) A6 rfl (H.k 115 rfl) (H.k 116 rfl) (H.k 118 rfl) (by decide) (own_pay (rm_ibU a3 sb va kv T n cap vs us A6.old H X8 f20 f19 g5 (Ne.symm z10) (Ne.symm z11) (own_B_mk f13 f14 f15 f16 f17 f18 B.gb B.gv B.ne) P) (H.k 118 rfl) (H.k 10 rfl) (by decide) (by decide)) own_nW (Nat.le_of_eq rfl) own_pd18 rfl rfl rfl d19_5 (by decide) (by decide) ?_
  rintro v23 T24 h25 A26 ⟨rfl, K21, q22⟩
  show own_Run p e below Q m T24 8 #[.val (.ref sb)] [(.ref a3)]
  have K27 := K12.trans K21 (allS (Or.inr (Nat.le_trans (Keep.refl h0 []).1 (Nat.le_of_eq g4))) all0)
  exact own_retA A26 hQ rfl rfl rfl d19_8 ⟨a3, rfl, K27, q22⟩
theorem rm_tos (sb va : Addr) (cs : List Int32) (O0 : Old Z n0 h0) (H : own_H Z a0 zc fm) (B : own_SB Z h0 n0 sb va cs) (l0 : 0 < cs.length) (l1 : cs.length ≤ 5) :
  own_Met false l Z n0 [] [] ⟨"java/lang/StringBuilder", "toString", "()Ljava/lang/String;"⟩ jdk_67_method_42_code 1 (some (.object "java/lang/String")) [] (own_R 5 2 14 79) #[(.ref sb)] h0 (fun v h => ∃ (a : Addr), v = some (.ref a) ∧ Keep h0 h [] ∧ own_Str Z h a cs) := by
  rcases cs with _ | ⟨c0, _ | ⟨c1, _ | ⟨c2, _ | ⟨c3, _ | ⟨c4, _ | ⟨c5, cs⟩⟩⟩⟩⟩⟩
  · exact absurd l0 (by simp)
  · rcases B with ⟨kv, B, wb⟩ | ⟨kv, B, wb⟩
    · exact (rm_tsL sb va kv 1 1 1 _ [.int (StrChars.lo8 c0)] O0 H B (own_cut_D rfl)).mono (fun v h ⟨a, q1, K, t, kt, X⟩ => ⟨a, q1, K, t, kt, 0, 1, _, X, Or.inl ⟨rfl, rfl, rfl, wb⟩⟩)
    · exact (rm_tsU sb va kv 1 2 2 _ [.int (StrChars.lo8 c0), .int (StrChars.hi8 c0)] O0 H B (own_cut_D rfl)).mono (fun v h ⟨a, q1, K, t, kt, X⟩ => ⟨a, q1, K, t, kt, 1, 2, _, X, Or.inr ⟨rfl, rfl, rfl, wb⟩⟩)
  · rcases B with ⟨kv, B, wb⟩ | ⟨kv, B, wb⟩
    · exact (rm_tsL sb va kv 2 2 2 _ [.int (StrChars.lo8 c0), .int (StrChars.lo8 c1)] O0 H B (own_cut_D rfl)).mono (fun v h ⟨a, q1, K, t, kt, X⟩ => ⟨a, q1, K, t, kt, 0, 2, _, X, Or.inl ⟨rfl, rfl, rfl, wb⟩⟩)
    · exact (rm_tsU sb va kv 2 4 4 _ [.int (StrChars.lo8 c0), .int (StrChars.hi8 c0), .int (StrChars.lo8 c1), .int (StrChars.hi8 c1)] O0 H B (own_cut_D rfl)).mono (fun v h ⟨a, q1, K, t, kt, X⟩ => ⟨a, q1, K, t, kt, 1, 4, _, X, Or.inr ⟨rfl, rfl, rfl, wb⟩⟩)
  · rcases B with ⟨kv, B, wb⟩ | ⟨kv, B, wb⟩
    · exact (rm_tsL sb va kv 3 3 3 _ [.int (StrChars.lo8 c0), .int (StrChars.lo8 c1), .int (StrChars.lo8 c2)] O0 H B (own_cut_D rfl)).mono (fun v h ⟨a, q1, K, t, kt, X⟩ => ⟨a, q1, K, t, kt, 0, 3, _, X, Or.inl ⟨rfl, rfl, rfl, wb⟩⟩)
    · exact (rm_tsU sb va kv 3 6 6 _ [.int (StrChars.lo8 c0), .int (StrChars.hi8 c0), .int (StrChars.lo8 c1), .int (StrChars.hi8 c1), .int (StrChars.lo8 c2), .int (StrChars.hi8 c2)] O0 H B (own_cut_D rfl)).mono (fun v h ⟨a, q1, K, t, kt, X⟩ => ⟨a, q1, K, t, kt, 1, 6, _, X, Or.inr ⟨rfl, rfl, rfl, wb⟩⟩)
  · rcases B with ⟨kv, B, wb⟩ | ⟨kv, B, wb⟩
    · exact (rm_tsL sb va kv 4 4 4 _ [.int (StrChars.lo8 c0), .int (StrChars.lo8 c1), .int (StrChars.lo8 c2), .int (StrChars.lo8 c3)] O0 H B (own_cut_D rfl)).mono (fun v h ⟨a, q1, K, t, kt, X⟩ => ⟨a, q1, K, t, kt, 0, 4, _, X, Or.inl ⟨rfl, rfl, rfl, wb⟩⟩)
    · exact (rm_tsU sb va kv 4 8 8 _ [.int (StrChars.lo8 c0), .int (StrChars.hi8 c0), .int (StrChars.lo8 c1), .int (StrChars.hi8 c1), .int (StrChars.lo8 c2), .int (StrChars.hi8 c2), .int (StrChars.lo8 c3), .int (StrChars.hi8 c3)] O0 H B (own_cut_D rfl)).mono (fun v h ⟨a, q1, K, t, kt, X⟩ => ⟨a, q1, K, t, kt, 1, 8, _, X, Or.inr ⟨rfl, rfl, rfl, wb⟩⟩)
  · rcases B with ⟨kv, B, wb⟩ | ⟨kv, B, wb⟩
    · exact (rm_tsL sb va kv 5 5 5 _ [.int (StrChars.lo8 c0), .int (StrChars.lo8 c1), .int (StrChars.lo8 c2), .int (StrChars.lo8 c3), .int (StrChars.lo8 c4)] O0 H B (own_cut_D rfl)).mono (fun v h ⟨a, q1, K, t, kt, X⟩ => ⟨a, q1, K, t, kt, 0, 5, _, X, Or.inl ⟨rfl, rfl, rfl, wb⟩⟩)
    · exact (rm_tsU sb va kv 5 10 10 _ [.int (StrChars.lo8 c0), .int (StrChars.hi8 c0), .int (StrChars.lo8 c1), .int (StrChars.hi8 c1), .int (StrChars.lo8 c2), .int (StrChars.hi8 c2), .int (StrChars.lo8 c3), .int (StrChars.hi8 c3), .int (StrChars.lo8 c4), .int (StrChars.hi8 c4)] O0 H B (own_cut_D rfl)).mono (fun v h ⟨a, q1, K, t, kt, X⟩ => ⟨a, q1, K, t, kt, 1, 10, _, X, Or.inr ⟨rfl, rfl, rfl, wb⟩⟩)
  · exact absurd l1 (by simp only [List.length_cons]; omega)
theorem d3_0 : decode prog_6_method_9_code 0 = .ok (.new 26, 3) := by decide +kernel
theorem d3_3 : decode prog_6_method_9_code 3 = .ok (.dup, 1) := by decide +kernel
theorem d3_4 : decode prog_6_method_9_code 4 = .ok (.invokespecial 28, 3) := by decide +kernel
theorem d3_7 : decode prog_6_method_9_code 7 = .ok (.aload_n 0, 1) := by decide +kernel
theorem d3_8 : decode prog_6_method_9_code 8 = .ok (.invokevirtual 59, 3) := by decide +kernel
theorem d3_11 : decode prog_6_method_9_code 11 = .ok (.iconst 0, 1) := by decide +kernel
theorem d3_12 : decode prog_6_method_9_code 12 = .ok (.invokevirtual 91, 3) := by decide +kernel
theorem d3_15 : decode prog_6_method_9_code 15 = .ok (.aload_n 1, 1) := by decide +kernel
theorem d3_16 : decode prog_6_method_9_code 16 = .ok (.invokevirtual 59, 3) := by decide +kernel
theorem d3_19 : decode prog_6_method_9_code 19 = .ok (.invokevirtual 51, 3) := by decide +kernel
theorem d3_22 : decode prog_6_method_9_code 22 = .ok (.areturn, 1) := by decide +kernel
theorem own_pn8 : plainName "com/example/any_row/anyrow/EntityKey" = true := by first | (simp [plainName, overriddenIn]; done) | decide +kernel
theorem rm_sk (x1 x2 : Addr) (cs ds : List Int32) (O0 : Old Z n0 h0) (H : own_H Z a0 zc fm) (S1 : own_Str Z h0 x1 cs) (S2 : own_Str Z h0 x2 ds) (l1 : cs.length ≤ 2) (l2 : ds.length ≤ 2) (r1 : ∀ c ∈ cs, ¬ c < 0) (r2 : ∀ c ∈ ds, ¬ c < 0) :
  own_Met false l Z n0 [] [] ⟨"com/example/any_row/anyrow/EntityKey", "storageKey", "(Ljava/lang/String;Ljava/lang/String;)Ljava/lang/String;"⟩ prog_6_method_9_code 2 (some (.object "java/lang/String")) [] (own_R 10 6 98 143) #[(.ref x1), (.ref x2)] h0 (fun v h => ∃ (a : Addr), v = some (.ref a) ∧ Keep h0 h [] ∧ own_Str Z h a (cs ++ [0] ++ ds)) := by
  refine own_ent (a0 := a0) (nm := "storageKey") (Ls := #[.val (.ref x1), .val (.ref x2)]) own_pn8 O0 EW.nil ?_
  intro p e _ m _ below _ _ T0 Q hQ A0
  refine own_newO (q := 3) A0 (H.k 21 rfl) (H.k 22 rfl) (H.k 23 rfl) d3_0 (by decide) (by decide) ?_
  intro T1 h2 a3 g4 g5 A6 E7 X8 D9
  have K10 := (Keep.refl h0 []).ext E7
  have f11 : Fld Z h2 a3 "java/lang/AbstractStringBuilder" "value" "[B" .null := D9 (Or.inl (H.k 38 rfl)) (ty := (.array .byte)) (by decide)
  have f12 : Fld Z h2 a3 "java/lang/AbstractStringBuilder" "coder" "B" (.int 0) := D9 (Or.inl (H.k 40 rfl)) (ty := .byte) (by decide)
  have f13 : Fld Z h2 a3 "java/lang/AbstractStringBuilder" "count" "I" (.int 0) := D9 (Or.inl (H.k 65 rfl)) (ty := .int) (by decide)
  have f14 : Fld Z h2 a3 "java/lang/AbstractStringBuilder" "maybeLatin1" "Z" (.int 0) := D9 (Or.inl (H.k 317 rfl)) (ty := .boolean) (by decide)
  refine own_dup (q := 4) A6 d3_3 rfl ?_
  refine own_special (q := 7) (W := 1) (argsL := []) (rest := [(.ref a3)]) A6 rfl (H.k 24 rfl) (H.k 25 rfl) (H.k 26 rfl) (by decide) (own_pay (rm_sbi a3 A6.old H X8 f11 f12 f13 f14 g5) (H.k 26 rfl) (H.k 23 rfl) (by decide) (by decide)) own_nW (Nat.le_of_eq rfl) own_pd4 rfl rfl rfl d3_4 (by decide) (by decide) ?_
  rintro v21 T22 h23 A24 ⟨rfl, K15, va16, k17, g18, B19⟩
  show own_Run p e below Q m T22 7 #[.val (.ref x1), .val (.ref x2)] [(.ref a3)]
  have K25 := K10.trans K15 (allS (Or.inr (Nat.le_trans (Keep.refl h0 []).1 (Nat.le_of_eq g4))) all0)
  have S20 : own_SB Z h23 n0 a3 va16 [] := Or.inl ⟨_, B19, (fun _ z => nomatch z)⟩
  refine own_aloadN (q := 8) A24 d3_7 rfl rfl ?_
  refine own_virtual (q := 11) (W := 0) (argsL := [(.ref x1)]) (rest := []) A24 (H.k 41 rfl) (H.k 42 rfl) (H.k 44 rfl) (H.k 43 rfl) (by decide) (own_pay (rm_app a3 va16 x1 h0.size [] cs A24.old H S20 (S1.su.keep K25) (Nat.le_trans K10.1 g18) (Nat.zero_le _) l1 (fun _ z => nomatch z) r1 (fun q => absurd q (by decide))) (H.k 45 rfl) (H.k 23 rfl) (by decide) (by decide)) own_nW (Nat.le_of_eq rfl) S20.E own_pd6 rfl rfl rfl d3_8 (by decide) (by decide) ?_
  rintro v31 T32 h33 A34 ⟨rfl, K26, vb27, g28, S29⟩
  show own_Run p e below Q m T32 11 #[.val (.ref x1), .val (.ref x2)] [(.ref a3)]
  have g30 : h0.size ≤ vb27 := g28.elim (fun q => q ▸ (Nat.le_trans K10.1 g18)) (fun q => Nat.le_trans K25.1 q)
  have K35 := K25.trans K26 (allS (Or.inr (Nat.le_trans (Keep.refl h0 []).1 (Nat.le_of_eq g4))) (allS (Or.inr (Nat.le_trans K10.1 g18)) all0))
  refine own_iconst (q := 12) A34 (0 : Int32) d3_11 rfl ?_
  refine own_virtual (q := 15) (W := 0) (argsL := [(.int 0)]) (rest := []) A34 (H.k 91 rfl) (H.k 92 rfl) (H.k 94 rfl) (H.k 93 rfl) (by decide) (own_pay (rm_ap0 a3 vb27 ([] ++ cs) A34.old H S29 l1) (H.k 95 rfl) (H.k 23 rfl) (by decide) (by decide)) own_nW (Nat.le_of_eq rfl) S29.E own_pd13 rfl rfl rfl d3_12 (by decide) (by decide) ?_
  rintro v38 T39 h40 A41 ⟨rfl, K36, S37⟩
  show own_Run p e below Q m T39 15 #[.val (.ref x1), .val (.ref x2)] [(.ref a3)]
  have K42 := K35.trans K36 (allS (Or.inr (Nat.le_trans (Keep.refl h0 []).1 (Nat.le_of_eq g4))) (allS (Or.inr g30) all0))
  refine own_aloadN (q := 16) A41 d3_15 rfl rfl ?_
  refine own_virtual (q := 19) (W := 0) (argsL := [(.ref x2)]) (rest := []) A41 (H.k 41 rfl) (H.k 42 rfl) (H.k 44 rfl) (H.k 43 rfl) (by decide) (own_pay (rm_app a3 vb27 x2 h0.size (cs ++ [0]) ds A41.old H S37 (S2.su.keep K42) g30 (by rw [List.length_append]; exact Nat.succ_le_succ l1) l2 (own_allA r1 (own_fc (by decide) (fun _ z => nomatch z))) r2 (own_hu cs)) (H.k 45 rfl) (H.k 23 rfl) (by decide) (by decide)) own_nW (Nat.le_of_eq rfl) S37.E own_pd6 rfl rfl rfl d3_16 (by decide) (by decide) ?_
  rintro v48 T49 h50 A51 ⟨rfl, K43, vb44, g45, S46⟩
  show own_Run p e below Q m T49 19 #[.val (.ref x1), .val (.ref x2)] [(.ref a3)]
  have g47 : h0.size ≤ vb44 := g45.elim (fun q => q ▸ g30) (fun q => Nat.le_trans K42.1 q)
  have K52 := K42.trans K43 (allS (Or.inr (Nat.le_trans (Keep.refl h0 []).1 (Nat.le_of_eq g4))) (allS (Or.inr g30) all0))
  refine own_virtual (q := 22) (W := 0) (argsL := []) (rest := []) A51 (H.k 109 rfl) (H.k 110 rfl) (H.k 112 rfl) (H.k 111 rfl) (by decide) (own_pay (rm_tos a3 vb44 _ A51.old H S46 (by simp only [List.length_append, List.length_singleton]; omega) (by simp only [List.length_append, List.length_singleton]; omega)) (H.k 113 rfl) (H.k 23 rfl) (by decide) (by decide)) own_nW (Nat.le_of_eq rfl) S46.E own_pd17 rfl rfl rfl d3_19 (by decide) (by decide) ?_
  rintro v56 T57 h58 A59 ⟨a53, rfl, K54, S55⟩
  show own_Run p e below Q m T57 22 #[.val (.ref x1), .val (.ref x2)] [(.ref a53)]
  have K60 := K52.trans K54 all0
  exact own_retA A59 hQ rfl rfl rfl d3_22 ⟨a53, rfl, K60, S55⟩
-- part d
theorem d34_0 : decode jdk_43_method_4_code 0 = .ok (.iload_n 0, 1) := by decide +kernel
theorem d34_1 : decode jdk_43_method_4_code 1 = .ok (.ifCond .lt 14, 3) := by decide +kernel
theorem d34_4 : decode jdk_43_method_4_code 4 = .ok (.iload_n 0, 1) := by decide +kernel
theorem d34_5 : decode jdk_43_method_4_code 5 = .ok (.sipush 255, 3) := by decide +kernel
theorem d34_8 : decode jdk_43_method_4_code 8 = .ok (.if_icmp .gt 7, 3) := by decide +kernel
theorem d34_11 : decode jdk_43_method_4_code 11 = .ok (.iconst 1, 1) := by decide +kernel
theorem d34_12 : decode jdk_43_method_4_code 12 = .ok (.goto 4, 3) := by decide +kernel
theorem d34_16 : decode jdk_43_method_4_code 16 = .ok (.ireturn, 1) := by decide +kernel
theorem rm_cai (O0 : Old Z n0 h0) (H : own_H Z a0 zc fm) :
  own_Met false l Z n0 [] [] ⟨"java/lang/StringLatin1", "canEncode", "(I)Z"⟩ jdk_43_method_4_code 1 (some .boolean) [] (own_R 0 0 0 0) #[(.int 0)] h0 (fun v h => v = some (.int 1) ∧ h0 = h) := by
  refine own_ent (a0 := a0) (nm := "canEncode") (Ls := #[.val (.int 0)]) own_pn0 O0 EW.nil ?_
  intro p e _ m _ below _ _ T0 Q hQ A0
  refine own_iloadN (q := 1) A0 d34_0 rfl ?_
  refine own_ifcF (q := 4) A0 d34_1 (show ¬ (0 : Int32) < (0 : Int32) from by decide) ?_
  refine own_iloadN (q := 5) A0 d34_4 rfl ?_
  refine own_sipush (q := 8) A0 (255 : Int32) d34_5 rfl ?_
  refine own_icmpF (q := 11) A0 d34_8 (show ¬ (255 : Int32) < (0 : Int32) from by decide) ?_
  refine own_iconst (q := 12) A0 (1 : Int32) d34_11 rfl ?_
  refine own_goto (q := 16) A0 d34_12 ?_
  exact own_retN A0 hQ (t := .boolean) (by simp) d34_16 ⟨rfl, rfl⟩
theorem d36_0 : decode jdk_43_method_23_code 0 = .ok (.iload_n 1, 1) := by decide +kernel
theorem d36_1 : decode jdk_43_method_23_code 1 = .ok (.i2b, 1) := by decide +kernel
theorem d36_2 : decode jdk_43_method_23_code 2 = .ok (.istore 4, 2) := by decide +kernel
theorem d36_4 : decode jdk_43_method_23_code 4 = .ok (.iload_n 2, 1) := by decide +kernel
theorem d36_5 : decode jdk_43_method_23_code 5 = .ok (.istore 5, 2) := by decide +kernel
theorem d36_7 : decode jdk_43_method_23_code 7 = .ok (.iload 5, 2) := by decide +kernel
theorem d36_9 : decode jdk_43_method_23_code 9 = .ok (.iload_n 3, 1) := by decide +kernel
theorem d36_10 : decode jdk_43_method_23_code 10 = .ok (.if_icmp .ge 21, 3) := by decide +kernel
theorem d36_13 : decode jdk_43_method_23_code 13 = .ok (.aload_n 0, 1) := by decide +kernel
theorem d36_14 : decode jdk_43_method_23_code 14 = .ok (.iload 5, 2) := by decide +kernel
theorem d36_16 : decode jdk_43_method_23_code 16 = .ok (.baload, 1) := by decide +kernel
theorem d36_17 : decode jdk_43_method_23_code 17 = .ok (.iload 4, 2) := by decide +kernel
theorem d36_19 : decode jdk_43_method_23_code 19 = .ok (.if_icmp .ne 6, 3) := by decide +kernel
theorem d36_22 : decode jdk_43_method_23_code 22 = .ok (.iload 5, 2) := by decide +kernel
theorem d36_24 : decode jdk_43_method_23_code 24 = .ok (.ireturn, 1) := by decide +kernel
theorem d36_25 : decode jdk_43_method_23_code 25 = .ok (.iinc 5 1, 3) := by decide +kernel
theorem d36_28 : decode jdk_43_method_23_code 28 = .ok (.goto (-21), 3) := by decide +kernel
theorem rm_lc0 (t : Addr) (kt : ClassId) (T : Int32) (us : List Value) (O0 : Old Z n0 h0) (H : own_H Z a0 zc fm) (Kt : Arv Z h0 t kt .byte T us (.int 0)) (bT : 0 < T.toNatClampNeg) (q0 : (0 : Int32) < T) (u0 : us.getD 0 (.int 0) = .int 0) :
  own_Met false l Z n0 [] [] ⟨"java/lang/StringLatin1", "indexOfChar", "([BIII)I"⟩ jdk_43_method_23_code 6 (some .int) [] (own_R 0 0 0 0) #[(.ref t), (.int 0), (.int 0), (.int T)] h0 (fun v h => v = some (.int 0) ∧ h0 = h) := by
  refine own_ent (a0 := a0) (nm := "indexOfChar") (Ls := #[.val (.ref t), .val (.int 0), .val (.int 0), .val (.int T), .unset, .unset]) own_pn0 O0 EW.nil ?_
  intro p e _ m _ below _ _ T0 Q hQ A0
  refine own_iloadN (q := 1) A0 d36_0 rfl ?_
  refine own_i2b (q := 2) A0 d36_1 ?_
  rw [show (((0 : Int32)).toInt8.toInt32) = (0 : Int32) from by decide]
  refine own_istore (q := 4) (L' := #[.val (.ref t), .val (.int 0), .val (.int 0), .val (.int T), .val (.int 0), .unset]) A0 d36_2 rfl ?_
  refine own_iloadN (q := 5) A0 d36_4 rfl ?_
  refine own_istore (q := 7) (L' := #[.val (.ref t), .val (.int 0), .val (.int 0), .val (.int T), .val (.int 0), .val (.int 0)]) A0 d36_5 rfl ?_
  refine own_iload (q := 9) A0 d36_7 rfl ?_
  refine own_iloadN (q := 10) A0 d36_9 rfl ?_
  refine own_icmpF (q := 13) A0 d36_10 (show (0 : Int32) < T from q0) ?_
  refine own_aloadN (q := 14) A0 d36_13 rfl rfl ?_
  refine own_iload (q := 16) A0 d36_14 rfl ?_
  refine own_baloadv (q := 17) (v := (.int 0)) A0 Kt 0 (by decide) (by decide) (by omega) u0 d36_16 ?_
  refine own_iload (q := 19) A0 d36_17 rfl ?_
  refine own_icmpF (q := 22) A0 d36_19 (show (0 : Int32) = (0 : Int32) from rfl) ?_
  refine own_iload (q := 24) A0 d36_22 rfl ?_
  exact own_retI A0 hQ d36_24 ⟨rfl, rfl⟩
theorem rm_lc1 (t : Addr) (kt : ClassId) (T : Int32) (us : List Value) (chp : Int32) (O0 : Old Z n0 h0) (H : own_H Z a0 zc fm) (Kt : Arv Z h0 t kt .byte T us (.int 0)) (bT : 1 < T.toNatClampNeg) (q0 : (0 : Int32) < T) (q1 : (1 : Int32) < T) (u0 : us.getD 0 (.int 0) = .int (StrChars.lo8 chp)) (y0 : ¬ (StrChars.lo8 chp) = 0) (u1 : us.getD 1 (.int 0) = .int 0) :
  own_Met false l Z n0 [] [] ⟨"java/lang/StringLatin1", "indexOfChar", "([BIII)I"⟩ jdk_43_method_23_code 6 (some .int) [] (own_R 0 0 0 0) #[(.ref t), (.int 0), (.int 0), (.int T)] h0 (fun v h => v = some (.int 1) ∧ h0 = h) := by
  refine own_ent (a0 := a0) (nm := "indexOfChar") (Ls := #[.val (.ref t), .val (.int 0), .val (.int 0), .val (.int T), .unset, .unset]) own_pn0 O0 EW.nil ?_
  intro p e _ m _ below _ _ T0 Q hQ A0
  refine own_iloadN (q := 1) A0 d36_0 rfl ?_
  refine own_i2b (q := 2) A0 d36_1 ?_
  rw [show (((0 : Int32)).toInt8.toInt32) = (0 : Int32) from by decide]
  refine own_istore (q := 4) (L' := #[.val (.ref t), .val (.int 0), .val (.int 0), .val (.int T), .val (.int 0), .unset]) A0 d36_2 rfl ?_
  refine own_iloadN (q := 5) A0 d36_4 rfl ?_
  refine own_istore (q := 7) (L' := #[.val (.ref t), .val (.int 0), .val (.int 0), .val (.int T), .val (.int 0), .val (.int 0)]) A0 d36_5 rfl ?_
  refine own_iload (q := 9) A0 d36_7 rfl ?_
  refine own_iloadN (q := 10) A0 d36_9 rfl ?_
  refine own_icmpF (q := 13) A0 d36_10 (show (0 : Int32) < T from q0) ?_
  refine own_aloadN (q := 14) A0 d36_13 rfl rfl ?_
  refine own_iload (q := 16) A0 d36_14 rfl ?_
  refine own_baloadv (q := 17) (v := (.int (StrChars.lo8 chp))) A0 Kt 0 (by decide) (by decide) (by omega) u0 d36_16 ?_
  refine own_iload (q := 19) A0 d36_17 rfl ?_
  refine own_icmpT (q := 25) A0 d36_19 (show ¬ (StrChars.lo8 chp) = (0 : Int32) from y0) ?_
  refine own_iinc (q := 28) (v := (1 : Int32)) (L' := #[.val (.ref t), .val (.int 0), .val (.int 0), .val (.int T), .val (.int 0), .val (.int ((0 : Int32) + (1 : Int32)))]) A0 d36_25 rfl rfl rfl ?_
  rw [show ((0 : Int32) + (1 : Int32)) = (1 : Int32) from by decide]
  refine own_goto (q := 7) A0 d36_28 ?_
  refine own_iload (q := 9) A0 d36_7 rfl ?_
  refine own_iloadN (q := 10) A0 d36_9 rfl ?_
  refine own_icmpF (q := 13) A0 d36_10 (show (1 : Int32) < T from q1) ?_
  refine own_aloadN (q := 14) A0 d36_13 rfl rfl ?_
  refine own_iload (q := 16) A0 d36_14 rfl ?_
  refine own_baloadv (q := 17) (v := (.int 0)) A0 Kt 1 (by decide) (by decide) (by omega) u1 d36_16 ?_
  refine own_iload (q := 19) A0 d36_17 rfl ?_
  refine own_icmpF (q := 22) A0 d36_19 (show (0 : Int32) = (0 : Int32) from rfl) ?_
  refine own_iload (q := 24) A0 d36_22 rfl ?_
  exact own_retI A0 hQ d36_24 ⟨rfl, rfl⟩
theorem rm_lc2 (t : Addr) (kt : ClassId) (T : Int32) (us : List Value) (chp chq : Int32) (O0 : Old Z n0 h0) (H : own_H Z a0 zc fm) (Kt : Arv Z h0 t kt .byte T us (.int 0)) (bT : 2 < T.toNatClampNeg) (q0 : (0 : Int32) < T) (q1 : (1 : Int32) < T) (q2 : (2 : Int32) < T) (u0 : us.getD 0 (.int 0) = .int (StrChars.lo8 chp)) (y0 : ¬ (StrChars.lo8 chp) = 0) (u1 : us.getD 1 (.int 0) = .int (StrChars.lo8 chq)) (y1 : ¬ (StrChars.lo8 chq) = 0) (u2 : us.getD 2 (.int 0) = .int 0) :
  own_Met false l Z n0 [] [] ⟨"java/lang/StringLatin1", "indexOfChar", "([BIII)I"⟩ jdk_43_method_23_code 6 (some .int) [] (own_R 0 0 0 0) #[(.ref t), (.int 0), (.int 0), (.int T)] h0 (fun v h => v = some (.int 2) ∧ h0 = h) := by
  refine own_ent (a0 := a0) (nm := "indexOfChar") (Ls := #[.val (.ref t), .val (.int 0), .val (.int 0), .val (.int T), .unset, .unset]) own_pn0 O0 EW.nil ?_
  intro p e _ m _ below _ _ T0 Q hQ A0
  refine own_iloadN (q := 1) A0 d36_0 rfl ?_
  refine own_i2b (q := 2) A0 d36_1 ?_
  rw [show (((0 : Int32)).toInt8.toInt32) = (0 : Int32) from by decide]
  refine own_istore (q := 4) (L' := #[.val (.ref t), .val (.int 0), .val (.int 0), .val (.int T), .val (.int 0), .unset]) A0 d36_2 rfl ?_
  refine own_iloadN (q := 5) A0 d36_4 rfl ?_
  refine own_istore (q := 7) (L' := #[.val (.ref t), .val (.int 0), .val (.int 0), .val (.int T), .val (.int 0), .val (.int 0)]) A0 d36_5 rfl ?_
  refine own_iload (q := 9) A0 d36_7 rfl ?_
  refine own_iloadN (q := 10) A0 d36_9 rfl ?_
  refine own_icmpF (q := 13) A0 d36_10 (show (0 : Int32) < T from q0) ?_
  refine own_aloadN (q := 14) A0 d36_13 rfl rfl ?_
  refine own_iload (q := 16) A0 d36_14 rfl ?_
  refine own_baloadv (q := 17) (v := (.int (StrChars.lo8 chp))) A0 Kt 0 (by decide) (by decide) (by omega) u0 d36_16 ?_
  refine own_iload (q := 19) A0 d36_17 rfl ?_
  refine own_icmpT (q := 25) A0 d36_19 (show ¬ (StrChars.lo8 chp) = (0 : Int32) from y0) ?_
  refine own_iinc (q := 28) (v := (1 : Int32)) (L' := #[.val (.ref t), .val (.int 0), .val (.int 0), .val (.int T), .val (.int 0), .val (.int ((0 : Int32) + (1 : Int32)))]) A0 d36_25 rfl rfl rfl ?_
  rw [show ((0 : Int32) + (1 : Int32)) = (1 : Int32) from by decide]
  refine own_goto (q := 7) A0 d36_28 ?_
  refine own_iload (q := 9) A0 d36_7 rfl ?_
  refine own_iloadN (q := 10) A0 d36_9 rfl ?_
  refine own_icmpF (q := 13) A0 d36_10 (show (1 : Int32) < T from q1) ?_
  refine own_aloadN (q := 14) A0 d36_13 rfl rfl ?_
  refine own_iload (q := 16) A0 d36_14 rfl ?_
  refine own_baloadv (q := 17) (v := (.int (StrChars.lo8 chq))) A0 Kt 1 (by decide) (by decide) (by omega) u1 d36_16 ?_
  refine own_iload (q := 19) A0 d36_17 rfl ?_
  refine own_icmpT (q := 25) A0 d36_19 (show ¬ (StrChars.lo8 chq) = (0 : Int32) from y1) ?_
  refine own_iinc (q := 28) (v := (1 : Int32)) (L' := #[.val (.ref t), .val (.int 0), .val (.int 0), .val (.int T), .val (.int 0), .val (.int ((1 : Int32) + (1 : Int32)))]) A0 d36_25 rfl rfl rfl ?_
  rw [show ((1 : Int32) + (1 : Int32)) = (2 : Int32) from by decide]
  refine own_goto (q := 7) A0 d36_28 ?_
  refine own_iload (q := 9) A0 d36_7 rfl ?_
  refine own_iloadN (q := 10) A0 d36_9 rfl ?_
  refine own_icmpF (q := 13) A0 d36_10 (show (2 : Int32) < T from q2) ?_
  refine own_aloadN (q := 14) A0 d36_13 rfl rfl ?_
  refine own_iload (q := 16) A0 d36_14 rfl ?_
  refine own_baloadv (q := 17) (v := (.int 0)) A0 Kt 2 (by decide) (by decide) (by omega) u2 d36_16 ?_
  refine own_iload (q := 19) A0 d36_17 rfl ?_
  refine own_icmpF (q := 22) A0 d36_19 (show (0 : Int32) = (0 : Int32) from rfl) ?_
  refine own_iload (q := 24) A0 d36_22 rfl ?_
  exact own_retI A0 hQ d36_24 ⟨rfl, rfl⟩
theorem d33_0 : decode jdk_43_method_22_code 0 = .ok (.iload_n 1, 1) := by decide +kernel
theorem d33_1 : decode jdk_43_method_22_code 1 = .ok (.invokestatic 88, 3) := by decide +kernel
theorem d33_4 : decode jdk_43_method_22_code 4 = .ok (.ifCond .ne 5, 3) := by decide +kernel
theorem d33_9 : decode jdk_43_method_22_code 9 = .ok (.iload_n 2, 1) := by decide +kernel
theorem d33_10 : decode jdk_43_method_22_code 10 = .ok (.iconst 0, 1) := by decide +kernel
theorem d33_11 : decode jdk_43_method_22_code 11 = .ok (.invokestatic 92, 3) := by decide +kernel
theorem d33_14 : decode jdk_43_method_22_code 14 = .ok (.istore_n 2, 1) := by decide +kernel
theorem d33_15 : decode jdk_43_method_22_code 15 = .ok (.iload_n 3, 1) := by decide +kernel
theorem d33_16 : decode jdk_43_method_22_code 16 = .ok (.aload_n 0, 1) := by decide +kernel
theorem d33_17 : decode jdk_43_method_22_code 17 = .ok (.arraylength, 1) := by decide +kernel
theorem d33_18 : decode jdk_43_method_22_code 18 = .ok (.invokestatic 38, 3) := by decide +kernel
theorem d33_21 : decode jdk_43_method_22_code 21 = .ok (.istore_n 3, 1) := by decide +kernel
theorem d33_22 : decode jdk_43_method_22_code 22 = .ok (.iload_n 2, 1) := by decide +kernel
theorem d33_23 : decode jdk_43_method_22_code 23 = .ok (.iload_n 3, 1) := by decide +kernel
theorem d33_24 : decode jdk_43_method_22_code 24 = .ok (.if_icmp .lt 5, 3) := by decide +kernel
theorem d33_29 : decode jdk_43_method_22_code 29 = .ok (.aload_n 0, 1) := by decide +kernel
theorem d33_30 : decode jdk_43_method_22_code 30 = .ok (.iload_n 1, 1) := by decide +kernel
theorem d33_31 : decode jdk_43_method_22_code 31 = .ok (.iload_n 2, 1) := by decide +kernel
theorem d33_32 : decode jdk_43_method_22_code 32 = .ok (.iload_n 3, 1) := by decide +kernel
theorem d33_33 : decode jdk_43_method_22_code 33 = .ok (.invokestatic 95, 3) := by decide +kernel
theorem d33_36 : decode jdk_43_method_22_code 36 = .ok (.ireturn, 1) := by decide +kernel
theorem rm_li (t : Addr) (kt : ClassId) (T : Int32) (us : List Value) (r : Int32) (O0 : Old Z n0 h0) (H : own_H Z a0 zc fm) (Kt : Arv Z h0 t kt .byte T us (.int 0)) (q0 : (0 : Int32) < T) (M : own_Met false l Z n0 [] [] ⟨"java/lang/StringLatin1", "indexOfChar", "([BIII)I"⟩ jdk_43_method_23_code 6 (some .int) [] (own_R 0 0 0 0) #[.ref t, .int 0, .int 0, .int T] h0 (fun v h => v = some (.int r) ∧ h0 = h)) :
  own_Met false l Z n0 [] [] ⟨"java/lang/StringLatin1", "indexOf", "([BIII)I"⟩ jdk_43_method_22_code 4 (some .int) [] (own_R 1 0 0 17) #[(.ref t), (.int 0), (.int 0), (.int T)] h0 (fun v h => v = some (.int r) ∧ h0 = h) := by
  refine own_ent (a0 := a0) (nm := "indexOf") (Ls := #[.val (.ref t), .val (.int 0), .val (.int 0), .val (.int T)]) own_pn0 O0 EW.nil ?_
  intro p e _ m _ below _ _ T0 Q hQ A0
  refine own_iloadN (q := 1) A0 d33_0 rfl ?_
  refine own_static (q := 4) (W := 0) (argsL := [(.int 0)]) (rest := []) A0 (H.k 174 rfl) (H.k 175 rfl) (H.k 107 rfl) (H.k 176 rfl) (by decide) (own_pay (rm_cai  A0.old H ) (H.k 176 rfl) (H.k 107 rfl) (by decide) (by decide)) own_nW (Nat.le_of_eq rfl) own_pd27 rfl rfl rfl d33_1 (by decide) (by decide) ?_
  rintro v1 T2 h3 A4 ⟨rfl, rfl⟩
  show own_Run p e below Q m T2 4 #[.val (.ref t), .val (.int 0), .val (.int 0), .val (.int T)] [(.int 1)]
  refine own_ifcT (q := 9) A4 d33_4 (show ¬ (1 : Int32) = (0 : Int32) from by decide) ?_
  refine own_iloadN (q := 10) A4 d33_9 rfl ?_
  refine own_iconst (q := 11) A4 (0 : Int32) d33_10 rfl ?_
  refine own_static (q := 14) (W := 0) (argsL := [(.int 0), (.int 0)]) (rest := []) A4 (H.k 177 rfl) (H.k 178 rfl) (H.k 149 rfl) (H.k 179 rfl) (by decide) (own_pay (rm_max 0 0 A4.old H ) (H.k 179 rfl) (H.k 149 rfl) (by decide) (by decide)) own_nW (Nat.le_of_eq rfl) own_pd23 rfl rfl rfl d33_11 (by decide) (by decide) ?_
  rintro v5 T6 h7 A8 ⟨rfl, rfl⟩
  show own_Run p e below Q m T6 14 #[.val (.ref t), .val (.int 0), .val (.int 0), .val (.int T)] [(.int (if (0 : Int32) < (0 : Int32) then (0 : Int32) else (0 : Int32)))]
  rw [show (if (0 : Int32) < (0 : Int32) then (0 : Int32) else (0 : Int32)) = (0 : Int32) from by decide]
  refine own_istoreN (q := 15) (L' := #[.val (.ref t), .val (.int 0), .val (.int 0), .val (.int T)]) A8 d33_14 rfl ?_
  refine own_iloadN (q := 16) A8 d33_15 rfl ?_
  refine own_aloadN (q := 17) A8 d33_16 rfl rfl ?_
  refine own_arrlenv (q := 18) A8 Kt d33_17 ?_
  refine own_static (q := 21) (W := 0) (argsL := [(.int T), (.int T)]) (rest := []) A8 (H.k 180 rfl) (H.k 148 rfl) (H.k 149 rfl) (H.k 150 rfl) (by decide) (own_pay (rm_min T T A8.old H ) (H.k 150 rfl) (H.k 149 rfl) (by decide) (by decide)) own_nW (Nat.le_of_eq rfl) own_pd23 rfl rfl rfl d33_18 (by decide) (by decide) ?_
  rintro v9 T10 h11 A12 ⟨rfl, rfl⟩
  show own_Run p e below Q m T10 21 #[.val (.ref t), .val (.int 0), .val (.int 0), .val (.int T)] [(.int (if T < T then T else T))]
  rw [show (if T < T then T else T) = T from ite_self _]
  refine own_istoreN (q := 22) (L' := #[.val (.ref t), .val (.int 0), .val (.int 0), .val (.int T)]) A12 d33_21 rfl ?_
  refine own_iloadN (q := 23) A12 d33_22 rfl ?_
  refine own_iloadN (q := 24) A12 d33_23 rfl ?_
  refine own_icmpT (q := 29) A12 d33_24 (show (0 : Int32) < T from q0) ?_
  refine own_aloadN (q := 30) A12 d33_29 rfl rfl ?_
  refine own_iloadN (q := 31) A12 d33_30 rfl ?_
  refine own_iloadN (q := 32) A12 d33_31 rfl ?_
  refine own_iloadN (q := 33) A12 d33_32 rfl ?_
  refine own_static (q := 36) (W := 0) (argsL := [(.ref t), (.int 0), (.int 0), (.int T)]) (rest := []) A12 (H.k 181 rfl) (H.k 182 rfl) (H.k 107 rfl) (H.k 183 rfl) (by decide) (own_pay M (H.k 183 rfl) (H.k 107 rfl) (by decide) (by decide)) own_nW (Nat.le_of_eq rfl) own_pd26 rfl rfl rfl d33_33 (by decide) (by decide) ?_
  rintro v13 T14 h15 A16 ⟨rfl, rfl⟩
  show own_Run p e below Q m T14 36 #[.val (.ref t), .val (.int 0), .val (.int 0), .val (.int T)] [(.int r)]
  exact own_retI A16 hQ d33_36 ⟨rfl, rfl⟩
theorem d31_0 : decode jdk_42_method_80_code 0 = .ok (.aload_n 0, 1) := by decide +kernel
theorem d31_1 : decode jdk_42_method_80_code 1 = .ok (.invokevirtual 492, 3) := by decide +kernel
theorem d31_4 : decode jdk_42_method_80_code 4 = .ok (.ifCond .eq 19, 3) := by decide +kernel
theorem d31_7 : decode jdk_42_method_80_code 7 = .ok (.aload_n 0, 1) := by decide +kernel
theorem d31_8 : decode jdk_42_method_80_code 8 = .ok (.getfield 9, 3) := by decide +kernel
theorem d31_11 : decode jdk_42_method_80_code 11 = .ok (.iload_n 1, 1) := by decide +kernel
theorem d31_12 : decode jdk_42_method_80_code 12 = .ok (.iload_n 2, 1) := by decide +kernel
theorem d31_13 : decode jdk_42_method_80_code 13 = .ok (.aload_n 0, 1) := by decide +kernel
theorem d31_14 : decode jdk_42_method_80_code 14 = .ok (.invokevirtual 505, 3) := by decide +kernel
theorem d31_17 : decode jdk_42_method_80_code 17 = .ok (.invokestatic 637, 3) := by decide +kernel
theorem d31_20 : decode jdk_42_method_80_code 20 = .ok (.goto 16, 3) := by decide +kernel
theorem d31_23 : decode jdk_42_method_80_code 23 = .ok (.aload_n 0, 1) := by decide +kernel
theorem d31_24 : decode jdk_42_method_80_code 24 = .ok (.getfield 9, 3) := by decide +kernel
theorem d31_27 : decode jdk_42_method_80_code 27 = .ok (.iload_n 1, 1) := by decide +kernel
theorem d31_28 : decode jdk_42_method_80_code 28 = .ok (.iload_n 2, 1) := by decide +kernel
theorem d31_29 : decode jdk_42_method_80_code 29 = .ok (.aload_n 0, 1) := by decide +kernel
theorem d31_30 : decode jdk_42_method_80_code 30 = .ok (.invokevirtual 505, 3) := by decide +kernel
theorem d31_33 : decode jdk_42_method_80_code 33 = .ok (.invokestatic 640, 3) := by decide +kernel
theorem d31_36 : decode jdk_42_method_80_code 36 = .ok (.ireturn, 1) := by decide +kernel
theorem rm_iiL (x t : Addr) (kt : ClassId) (T : Int32) (us : List Value) (r : Int32) (O0 : Old Z n0 h0) (H : own_H Z a0 zc fm) (X : own_X Z h0 x t kt 0 T us) (q0 : (0 : Int32) < T) (M : own_Met false l Z n0 [] [] ⟨"java/lang/StringLatin1", "indexOfChar", "([BIII)I"⟩ jdk_43_method_23_code 6 (some .int) [] (own_R 0 0 0 0) #[.ref t, .int 0, .int 0, .int T] h0 (fun v h => v = some (.int r) ∧ h0 = h)) :
  own_Met false l Z n0 [] [] ⟨"java/lang/String", "indexOf", "(II)I"⟩ jdk_42_method_80_code 3 (some .int) [] (own_R 2 0 0 32) #[(.ref x), (.int 0), (.int 0)] h0 (fun v h => v = some (.int r) ∧ h0 = h) := by
  refine own_ent (a0 := a0) (nm := "indexOf") (Ls := #[.val (.ref x), .val (.int 0), .val (.int 0)]) own_pn2 O0 EW.nil ?_
  intro p e _ m _ below _ _ T0 Q hQ A0
  refine own_aloadN (q := 1) A0 d31_0 rfl rfl ?_
  refine own_virtual (q := 4) (W := 0) (argsL := []) (rest := []) A0 (H.k 165 rfl) (H.k 166 rfl) (H.k 168 rfl) (H.k 167 rfl) (by decide) (own_pay (rm_sil0 x A0.old H X.C) (H.k 169 rfl) (H.k 10 rfl) (by decide) (by decide)) own_nW (Nat.le_of_eq rfl) X.E own_pd15 rfl rfl rfl d31_1 (by decide) (by decide) ?_
  rintro v1 T2 h3 A4 ⟨rfl, rfl⟩
  show own_Run p e below Q m T2 4 #[.val (.ref x), .val (.int 0), .val (.int 0)] [(.int 1)]
  refine own_ifcF (q := 7) A4 d31_4 (show ¬ (1 : Int32) = (0 : Int32) from by decide) ?_
  refine own_aloadN (q := 8) A4 d31_7 rfl rfl ?_
  refine own_getF (host := "") (q := 11) A4 (Or.inl (H.k 56 rfl)) Via.refl X.V d31_8 ?_
  intro T5 A6
  refine own_iloadN (q := 12) A6 d31_11 rfl ?_
  refine own_iloadN (q := 13) A6 d31_12 rfl ?_
  refine own_aloadN (q := 14) A6 d31_13 rfl rfl ?_
  refine own_virtual (q := 17) (W := 3) (argsL := []) (rest := [(.int 0), (.int 0), (.ref t)]) A6 (H.k 170 rfl) (H.k 52 rfl) (H.k 54 rfl) (H.k 53 rfl) (by decide) (own_pay (rm_len x t kt (0 : Int32) T _ A6.old H X (by decide)) (H.k 55 rfl) (H.k 10 rfl) (by decide) (by decide)) own_nW (Nat.le_of_eq rfl) X.E own_pd8 rfl rfl rfl d31_14 (by decide) (by decide) ?_
  rintro v7 T8 h9 A10 ⟨rfl, rfl⟩
  show own_Run p e below Q m T8 17 #[.val (.ref x), .val (.int 0), .val (.int 0)] [(.int (T >>> ((0 : Int32) &&& 31))), (.int 0), (.int 0), (.ref t)]
  rw [show (T >>> ((0 : Int32) &&& 31)) = T from own_shr0 _]
  refine own_static (q := 20) (W := 0) (argsL := [(.ref t), (.int 0), (.int 0), (.int T)]) (rest := []) A10 (H.k 171 rfl) (H.k 172 rfl) (H.k 107 rfl) (H.k 173 rfl) (by decide) (own_pay (rm_li t kt T us r A10.old H X.K q0 M) (H.k 173 rfl) (H.k 107 rfl) (by decide) (by decide)) own_nW (Nat.le_of_eq rfl) own_pd26 rfl rfl rfl d31_17 (by decide) (by decide) ?_
  rintro v11 T12 h13 A14 ⟨rfl, rfl⟩
  show own_Run p e below Q m T12 20 #[.val (.ref x), .val (.int 0), .val (.int 0)] [(.int r)]
  refine own_goto (q := 36) A14 d31_20 ?_
  exact own_retI A14 hQ d31_36 ⟨rfl, rfl⟩
theorem d30_0 : decode jdk_42_method_79_code 0 = .ok (.aload_n 0, 1) := by decide +kernel
theorem d30_1 : decode jdk_42_method_79_code 1 = .ok (.iload_n 1, 1) := by decide +kernel
theorem d30_2 : decode jdk_42_method_79_code 2 = .ok (.iconst 0, 1) := by decide +kernel
theorem d30_3 : decode jdk_42_method_79_code 3 = .ok (.invokevirtual 633, 3) := by decide +kernel
theorem d30_6 : decode jdk_42_method_79_code 6 = .ok (.ireturn, 1) := by decide +kernel
theorem d72_0 : decode jdk_52_method_48_code 0 = .ok (.iload_n 2, 1) := by decide +kernel
theorem d72_1 : decode jdk_52_method_48_code 1 = .ok (.istore 4, 2) := by decide +kernel
theorem d72_3 : decode jdk_52_method_48_code 3 = .ok (.iload 4, 2) := by decide +kernel
theorem d72_5 : decode jdk_52_method_48_code 5 = .ok (.iload_n 3, 1) := by decide +kernel
theorem d72_6 : decode jdk_52_method_48_code 6 = .ok (.if_icmp .ge 22, 3) := by decide +kernel
theorem d72_9 : decode jdk_52_method_48_code 9 = .ok (.aload_n 0, 1) := by decide +kernel
theorem d72_10 : decode jdk_52_method_48_code 10 = .ok (.iload 4, 2) := by decide +kernel
theorem d72_12 : decode jdk_52_method_48_code 12 = .ok (.invokestatic 71, 3) := by decide +kernel
theorem d72_15 : decode jdk_52_method_48_code 15 = .ok (.iload_n 1, 1) := by decide +kernel
theorem d72_16 : decode jdk_52_method_48_code 16 = .ok (.if_icmp .ne 6, 3) := by decide +kernel
theorem d72_19 : decode jdk_52_method_48_code 19 = .ok (.iload 4, 2) := by decide +kernel
theorem d72_21 : decode jdk_52_method_48_code 21 = .ok (.ireturn, 1) := by decide +kernel
theorem d72_22 : decode jdk_52_method_48_code 22 = .ok (.iinc 4 1, 3) := by decide +kernel
theorem d72_25 : decode jdk_52_method_48_code 25 = .ok (.goto (-22), 3) := by decide +kernel
theorem rm_uc0 (t : Addr) (kt : ClassId) (N T : Int32) (us : List Value) (O0 : Old Z n0 h0) (H : own_H Z a0 zc fm) (Kt : Arv Z h0 t kt .byte N us (.int 0)) (q0 : (0 : Int32) < T) (G0 : own_gi N us 0 0 (0 : Int32)) :
  own_Met false l Z n0 [] [] ⟨"java/lang/StringUTF16", "indexOfCharUnsafe", "([BIII)I"⟩ jdk_52_method_48_code 5 (some .int) [] (own_R 1 0 0 13) #[(.ref t), (.int 0), (.int 0), (.int T)] h0 (fun v h => v = some (.int 0) ∧ h0 = h) := by
  refine own_ent (a0 := a0) (nm := "indexOfCharUnsafe") (Ls := #[.val (.ref t), .val (.int 0), .val (.int 0), .val (.int T), .unset]) own_pn1 O0 EW.nil ?_
  intro p e _ m _ below _ _ T0 Q hQ A0
  refine own_iloadN (q := 1) A0 d72_0 rfl ?_
  refine own_istore (q := 3) (L' := #[.val (.ref t), .val (.int 0), .val (.int 0), .val (.int T), .val (.int 0)]) A0 d72_1 rfl ?_
  refine own_iload (q := 5) A0 d72_3 rfl ?_
  refine own_iloadN (q := 6) A0 d72_5 rfl ?_
  refine own_icmpF (q := 9) A0 d72_6 (show (0 : Int32) < T from q0) ?_
  refine own_aloadN (q := 10) A0 d72_9 rfl rfl ?_
  refine own_iload (q := 12) A0 d72_10 rfl ?_
  refine own_static (q := 15) (W := 0) (argsL := [(.ref t), (.int 0)]) (rest := []) A0 (H.k 334 rfl) (H.k 335 rfl) (H.k 242 rfl) (H.k 336 rfl) (by decide) (own_pay (rm_gc t kt N us 0 0 (0 : Int32) A0.old H Kt G0) (H.k 336 rfl) (H.k 242 rfl) (by decide) (by decide)) own_nW (Nat.le_of_eq rfl) own_pd52 rfl rfl rfl d72_12 (by decide) (by decide) ?_
  rintro v1 T2 h3 A4 ⟨rfl, rfl⟩
  show own_Run p e below Q m T2 15 #[.val (.ref t), .val (.int 0), .val (.int 0), .val (.int T), .val (.int 0)] [(.int 0)]
  refine own_iloadN (q := 16) A4 d72_15 rfl ?_
  refine own_icmpF (q := 19) A4 d72_16 (show (0 : Int32) = (0 : Int32) from rfl) ?_
  refine own_iload (q := 21) A4 d72_19 rfl ?_
  exact own_retI A4 hQ d72_21 ⟨rfl, rfl⟩
theorem rm_uc1 (t : Addr) (kt : ClassId) (N T : Int32) (us : List Value) (chp : Int32) (O0 : Old Z n0 h0) (H : own_H Z a0 zc fm) (Kt : Arv Z h0 t kt .byte N us (.int 0)) (q0 : (0 : Int32) < T) (q1 : (1 : Int32) < T) (G0 : own_gi N us 0 0 chp) (G1 : own_gi N us 1 2 (0 : Int32)) (y0 : ¬ chp = 0) :
  own_Met false l Z n0 [] [] ⟨"java/lang/StringUTF16", "indexOfCharUnsafe", "([BIII)I"⟩ jdk_52_method_48_code 5 (some .int) [] (own_R 1 0 0 13) #[(.ref t), (.int 0), (.int 0), (.int T)] h0 (fun v h => v = some (.int 1) ∧ h0 = h) := by
  refine own_ent (a0 := a0) (nm := "indexOfCharUnsafe") (Ls := #[.val (.ref t), .val (.int 0), .val (.int 0), .val (.int T), .unset]) own_pn1 O0 EW.nil ?_
  intro p e _ m _ below _ _ T0 Q hQ A0
  refine own_iloadN (q := 1) A0 d72_0 rfl ?_
  refine own_istore (q := 3) (L' := #[.val (.ref t), .val (.int 0), .val (.int 0), .val (.int T), .val (.int 0)]) A0 d72_1 rfl ?_
  refine own_iload (q := 5) A0 d72_3 rfl ?_
  refine own_iloadN (q := 6) A0 d72_5 rfl ?_
  refine own_icmpF (q := 9) A0 d72_6 (show (0 : Int32) < T from q0) ?_
  refine own_aloadN (q := 10) A0 d72_9 rfl rfl ?_
  refine own_iload (q := 12) A0 d72_10 rfl ?_
  refine own_static (q := 15) (W := 0) (argsL := [(.ref t), (.int 0)]) (rest := []) A0 (H.k 334 rfl) (H.k 335 rfl) (H.k 242 rfl) (H.k 336 rfl) (by decide) (own_pay (rm_gc t kt N us 0 0 chp A0.old H Kt G0) (H.k 336 rfl) (H.k 242 rfl) (by decide) (by decide)) own_nW (Nat.le_of_eq rfl) own_pd52 rfl rfl rfl d72_12 (by decide) (by decide) ?_
  rintro v1 T2 h3 A4 ⟨rfl, rfl⟩
  show own_Run p e below Q m T2 15 #[.val (.ref t), .val (.int 0), .val (.int 0), .val (.int T), .val (.int 0)] [(.int chp)]
  refine own_iloadN (q := 16) A4 d72_15 rfl ?_
  refine own_icmpT (q := 22) A4 d72_16 (show ¬ chp = (0 : Int32) from y0) ?_
  refine own_iinc (q := 25) (v := (1 : Int32)) (L' := #[.val (.ref t), .val (.int 0), .val (.int 0), .val (.int T), .val (.int ((0 : Int32) + (1 : Int32)))]) A4 d72_22 rfl rfl rfl ?_
  rw [show ((0 : Int32) + (1 : Int32)) = (1 : Int32) from by decide]
  refine own_goto (q := 3) A4 d72_25 ?_
  refine own_iload (q := 5) A4 d72_3 rfl ?_
  refine own_iloadN (q := 6) A4 d72_5 rfl ?_
  refine own_icmpF (q := 9) A4 d72_6 (show (1 : Int32) < T from q1) ?_
  refine own_aloadN (q := 10) A4 d72_9 rfl rfl ?_
  refine own_iload (q := 12) A4 d72_10 rfl ?_
  refine own_static (q := 15) (W := 0) (argsL := [(.ref t), (.int 1)]) (rest := []) A4 (H.k 334 rfl) (H.k 335 rfl) (H.k 242 rfl) (H.k 336 rfl) (by decide) (own_pay (rm_gc t kt N us 1 2 (0 : Int32) A4.old H Kt G1) (H.k 336 rfl) (H.k 242 rfl) (by decide) (by decide)) own_nW (Nat.le_of_eq rfl) own_pd52 rfl rfl rfl d72_12 (by decide) (by decide) ?_
  rintro v5 T6 h7 A8 ⟨rfl, rfl⟩
  show own_Run p e below Q m T6 15 #[.val (.ref t), .val (.int 0), .val (.int 0), .val (.int T), .val (.int 1)] [(.int 0)]
  refine own_iloadN (q := 16) A8 d72_15 rfl ?_
  refine own_icmpF (q := 19) A8 d72_16 (show (0 : Int32) = (0 : Int32) from rfl) ?_
  refine own_iload (q := 21) A8 d72_19 rfl ?_
  exact own_retI A8 hQ d72_21 ⟨rfl, rfl⟩
theorem rm_uc2 (t : Addr) (kt : ClassId) (N T : Int32) (us : List Value) (chp chq : Int32) (O0 : Old Z n0 h0) (H : own_H Z a0 zc fm) (Kt : Arv Z h0 t kt .byte N us (.int 0)) (q0 : (0 : Int32) < T) (q1 : (1 : Int32) < T) (q2 : (2 : Int32) < T) (G0 : own_gi N us 0 0 chp) (G1 : own_gi N us 1 2 chq) (G2 : own_gi N us 2 4 (0 : Int32)) (y0 : ¬ chp = 0) (y1 : ¬ chq = 0) :
  own_Met false l Z n0 [] [] ⟨"java/lang/StringUTF16", "indexOfCharUnsafe", "([BIII)I"⟩ jdk_52_method_48_code 5 (some .int) [] (own_R 1 0 0 13) #[(.ref t), (.int 0), (.int 0), (.int T)] h0 (fun v h => v = some (.int 2) ∧ h0 = h) := by
  refine own_ent (a0 := a0) (nm := "indexOfCharUnsafe") (Ls := #[.val (.ref t), .val (.int 0), .val (.int 0), .val (.int T), .unset]) own_pn1 O0 EW.nil ?_
  intro p e _ m _ below _ _ T0 Q hQ A0
  refine own_iloadN (q := 1) A0 d72_0 rfl ?_
  refine own_istore (q := 3) (L' := #[.val (.ref t), .val (.int 0), .val (.int 0), .val (.int T), .val (.int 0)]) A0 d72_1 rfl ?_
  refine own_iload (q := 5) A0 d72_3 rfl ?_
  refine own_iloadN (q := 6) A0 d72_5 rfl ?_
  refine own_icmpF (q := 9) A0 d72_6 (show (0 : Int32) < T from q0) ?_
  refine own_aloadN (q := 10) A0 d72_9 rfl rfl ?_
  refine own_iload (q := 12) A0 d72_10 rfl ?_
  refine own_static (q := 15) (W := 0) (argsL := [(.ref t), (.int 0)]) (rest := []) A0 (H.k 334 rfl) (H.k 335 rfl) (H.k 242 rfl) (H.k 336 rfl) (by decide) (own_pay (rm_gc t kt N us 0 0 chp A0.old H Kt G0) (H.k 336 rfl) (H.k 242 rfl) (by decide) (by decide)) own_nW (Nat.le_of_eq rfl) own_pd52 rfl rfl rfl d72_12 (by decide) (by decide) ?_
  rintro v1 T2 h3 A4 ⟨rfl, rfl⟩
  show own_Run p e below Q m T2 15 #[.val (.ref t), .val (.int 0), .val (.int 0), .val (.int T), .val (.int 0)] [(.int chp)]
  refine own_iloadN (q := 16) A4 d72_15 rfl ?_
  refine own_icmpT (q := 22) A4 d72_16 (show ¬ chp = (0 : Int32) from y0) ?_
  refine own_iinc (q := 25) (v := (1 : Int32)) (L' := #[.val (.ref t), .val (.int 0), .val (.int 0), .val (.int T), .val (.int ((0 : Int32) + (1 : Int32)))]) A4 d72_22 rfl rfl rfl ?_
  rw [show ((0 : Int32) + (1 : Int32)) = (1 : Int32) from by decide]
  refine own_goto (q := 3) A4 d72_25 ?_
  refine own_iload (q := 5) A4 d72_3 rfl ?_
  refine own_iloadN (q := 6) A4 d72_5 rfl ?_
  refine own_icmpF (q := 9) A4 d72_6 (show (1 : Int32) < T from q1) ?_
  refine own_aloadN (q := 10) A4 d72_9 rfl rfl ?_
  refine own_iload (q := 12) A4 d72_10 rfl ?_
  refine own_static (q := 15) (W := 0) (argsL := [(.ref t), (.int 1)]) (rest := []) A4 (H.k 334 rfl) (H.k 335 rfl) (H.k 242 rfl) (H.k 336 rfl) (by decide) (own_pay (rm_gc t kt N us 1 2 chq A4.old H Kt G1) (H.k 336 rfl) (H.k 242 rfl) (by decide) (by decide)) own_nW (Nat.le_of_eq rfl) own_pd52 rfl rfl rfl d72_12 (by decide) (by decide) ?_
  rintro v5 T6 h7 A8 ⟨rfl, rfl⟩
  show own_Run p e below Q m T6 15 #[.val (.ref t), .val (.int 0), .val (.int 0), .val (.int T), .val (.int 1)] [(.int chq)]
  refine own_iloadN (q := 16) A8 d72_15 rfl ?_
  refine own_icmpT (q := 22) A8 d72_16 (show ¬ chq = (0 : Int32) from y1) ?_
  refine own_iinc (q := 25) (v := (1 : Int32)) (L' := #[.val (.ref t), .val (.int 0), .val (.int 0), .val (.int T), .val (.int ((1 : Int32) + (1 : Int32)))]) A8 d72_22 rfl rfl rfl ?_
  rw [show ((1 : Int32) + (1 : Int32)) = (2 : Int32) from by decide]
  refine own_goto (q := 3) A8 d72_25 ?_
  refine own_iload (q := 5) A8 d72_3 rfl ?_
  refine own_iloadN (q := 6) A8 d72_5 rfl ?_
  refine own_icmpF (q := 9) A8 d72_6 (show (2 : Int32) < T from q2) ?_
  refine own_aloadN (q := 10) A8 d72_9 rfl rfl ?_
  refine own_iload (q := 12) A8 d72_10 rfl ?_
  refine own_static (q := 15) (W := 0) (argsL := [(.ref t), (.int 2)]) (rest := []) A8 (H.k 334 rfl) (H.k 335 rfl) (H.k 242 rfl) (H.k 336 rfl) (by decide) (own_pay (rm_gc t kt N us 2 4 (0 : Int32) A8.old H Kt G2) (H.k 336 rfl) (H.k 242 rfl) (by decide) (by decide)) own_nW (Nat.le_of_eq rfl) own_pd52 rfl rfl rfl d72_12 (by decide) (by decide) ?_
  rintro v9 T10 h11 A12 ⟨rfl, rfl⟩
  show own_Run p e below Q m T10 15 #[.val (.ref t), .val (.int 0), .val (.int 0), .val (.int T), .val (.int 2)] [(.int 0)]
  refine own_iloadN (q := 16) A12 d72_15 rfl ?_
  refine own_icmpF (q := 19) A12 d72_16 (show (0 : Int32) = (0 : Int32) from rfl) ?_
  refine own_iload (q := 21) A12 d72_19 rfl ?_
  exact own_retI A12 hQ d72_21 ⟨rfl, rfl⟩
theorem d70_0 : decode jdk_52_method_47_code 0 = .ok (.iload_n 2, 1) := by decide +kernel
theorem d70_1 : decode jdk_52_method_47_code 1 = .ok (.iload_n 3, 1) := by decide +kernel
theorem d70_2 : decode jdk_52_method_47_code 2 = .ok (.aload_n 0, 1) := by decide +kernel
theorem d70_3 : decode jdk_52_method_47_code 3 = .ok (.invokestatic 96, 3) := by decide +kernel
theorem d70_6 : decode jdk_52_method_47_code 6 = .ok (.aload_n 0, 1) := by decide +kernel
theorem d70_7 : decode jdk_52_method_47_code 7 = .ok (.iload_n 1, 1) := by decide +kernel
theorem d70_8 : decode jdk_52_method_47_code 8 = .ok (.iload_n 2, 1) := by decide +kernel
theorem d70_9 : decode jdk_52_method_47_code 9 = .ok (.iload_n 3, 1) := by decide +kernel
theorem d70_10 : decode jdk_52_method_47_code 10 = .ok (.invokestatic 244, 3) := by decide +kernel
theorem d70_13 : decode jdk_52_method_47_code 13 = .ok (.ireturn, 1) := by decide +kernel
theorem rm_uh (t : Addr) (kt : ClassId) (N T : Int32) (us : List Value) (r : Int32) (O0 : Old Z n0 h0) (H : own_H Z a0 zc fm) (Kt : Arv Z h0 t kt .byte N us (.int 0)) (eT : N >>> ((1 : Int32) &&& 31) = T) (q0 : (0 : Int32) < T) (M : own_Met false l Z n0 [] [] ⟨"java/lang/StringUTF16", "indexOfCharUnsafe", "([BIII)I"⟩ jdk_52_method_48_code 5 (some .int) [] (own_R 1 0 0 13) #[.ref t, .int 0, .int 0, .int T] h0 (fun v h => v = some (.int r) ∧ h0 = h)) :
  own_Met false l Z n0 [] [] ⟨"java/lang/StringUTF16", "indexOfChar", "([BIII)I"⟩ jdk_52_method_47_code 4 (some .int) [] (own_R 3 0 0 43) #[(.ref t), (.int 0), (.int 0), (.int T)] h0 (fun v h => v = some (.int r) ∧ h0 = h) := by
  refine own_ent (a0 := a0) (nm := "indexOfChar") (Ls := #[.val (.ref t), .val (.int 0), .val (.int 0), .val (.int T)]) own_pn1 O0 EW.nil ?_
  intro p e _ m _ below _ _ T0 Q hQ A0
  refine own_iloadN (q := 1) A0 d70_0 rfl ?_
  refine own_iloadN (q := 2) A0 d70_1 rfl ?_
  refine own_aloadN (q := 3) A0 d70_2 rfl rfl ?_
  refine own_static (q := 6) (W := 0) (argsL := [(.int 0), (.int T), (.ref t)]) (rest := []) A0 (H.k 327 rfl) (H.k 328 rfl) (H.k 242 rfl) (H.k 329 rfl) (by decide) (own_pay (rm_ube t kt N us 0 T A0.old H Kt (by decide) (own_pos q0) (by rw [eT]; exact Int32.lt_irrefl)) (H.k 329 rfl) (H.k 242 rfl) (by decide) (by decide)) own_nW (Nat.le_of_eq rfl) own_pd47 rfl rfl rfl d70_3 (by decide) (by decide) ?_
  rintro v1 T2 h3 A4 ⟨rfl, rfl⟩
  show own_Run p e below Q m T2 6 #[.val (.ref t), .val (.int 0), .val (.int 0), .val (.int T)] []
  refine own_aloadN (q := 7) A4 d70_6 rfl rfl ?_
  refine own_iloadN (q := 8) A4 d70_7 rfl ?_
  refine own_iloadN (q := 9) A4 d70_8 rfl ?_
  refine own_iloadN (q := 10) A4 d70_9 rfl ?_
  refine own_static (q := 13) (W := 0) (argsL := [(.ref t), (.int 0), (.int 0), (.int T)]) (rest := []) A4 (H.k 331 rfl) (H.k 332 rfl) (H.k 242 rfl) (H.k 333 rfl) (by decide) (own_pay M (H.k 333 rfl) (H.k 242 rfl) (by decide) (by decide)) own_nW (Nat.le_of_eq rfl) own_pd26 rfl rfl rfl d70_10 (by decide) (by decide) ?_
  rintro v5 T6 h7 A8 ⟨rfl, rfl⟩
  show own_Run p e below Q m T6 13 #[.val (.ref t), .val (.int 0), .val (.int 0), .val (.int T)] [(.int r)]
  exact own_retI A8 hQ d70_13 ⟨rfl, rfl⟩
theorem d69_0 : decode jdk_52_method_40_code 0 = .ok (.iload_n 2, 1) := by decide +kernel
theorem d69_1 : decode jdk_52_method_40_code 1 = .ok (.iconst 0, 1) := by decide +kernel
theorem d69_2 : decode jdk_52_method_40_code 2 = .ok (.invokestatic 224, 3) := by decide +kernel
theorem d69_5 : decode jdk_52_method_40_code 5 = .ok (.istore_n 2, 1) := by decide +kernel
theorem d69_6 : decode jdk_52_method_40_code 6 = .ok (.iload_n 3, 1) := by decide +kernel
theorem d69_7 : decode jdk_52_method_40_code 7 = .ok (.aload_n 0, 1) := by decide +kernel
theorem d69_8 : decode jdk_52_method_40_code 8 = .ok (.arraylength, 1) := by decide +kernel
theorem d69_9 : decode jdk_52_method_40_code 9 = .ok (.iconst 1, 1) := by decide +kernel
theorem d69_10 : decode jdk_52_method_40_code 10 = .ok (.ishr, 1) := by decide +kernel
theorem d69_11 : decode jdk_52_method_40_code 11 = .ok (.invokestatic 183, 3) := by decide +kernel
theorem d69_14 : decode jdk_52_method_40_code 14 = .ok (.istore_n 3, 1) := by decide +kernel
theorem d69_15 : decode jdk_52_method_40_code 15 = .ok (.iload_n 2, 1) := by decide +kernel
theorem d69_16 : decode jdk_52_method_40_code 16 = .ok (.iload_n 3, 1) := by decide +kernel
theorem d69_17 : decode jdk_52_method_40_code 17 = .ok (.if_icmp .lt 5, 3) := by decide +kernel
theorem d69_22 : decode jdk_52_method_40_code 22 = .ok (.iload_n 1, 1) := by decide +kernel
theorem d69_23 : decode jdk_52_method_40_code 23 = .ok (.ldc 227, 2) := by decide +kernel
theorem d69_25 : decode jdk_52_method_40_code 25 = .ok (.if_icmp .ge 11, 3) := by decide +kernel
theorem d69_28 : decode jdk_52_method_40_code 28 = .ok (.aload_n 0, 1) := by decide +kernel
theorem d69_29 : decode jdk_52_method_40_code 29 = .ok (.iload_n 1, 1) := by decide +kernel
theorem d69_30 : decode jdk_52_method_40_code 30 = .ok (.iload_n 2, 1) := by decide +kernel
theorem d69_31 : decode jdk_52_method_40_code 31 = .ok (.iload_n 3, 1) := by decide +kernel
theorem d69_32 : decode jdk_52_method_40_code 32 = .ok (.invokestatic 228, 3) := by decide +kernel
theorem d69_35 : decode jdk_52_method_40_code 35 = .ok (.ireturn, 1) := by decide +kernel
theorem rm_ui (t : Addr) (kt : ClassId) (N T : Int32) (us : List Value) (r : Int32) (O0 : Old Z n0 h0) (H : own_H Z a0 zc fm) (Kt : Arv Z h0 t kt .byte N us (.int 0)) (eT : N >>> ((1 : Int32) &&& 31) = T) (q0 : (0 : Int32) < T) (M : own_Met false l Z n0 [] [] ⟨"java/lang/StringUTF16", "indexOfCharUnsafe", "([BIII)I"⟩ jdk_52_method_48_code 5 (some .int) [] (own_R 1 0 0 13) #[.ref t, .int 0, .int 0, .int T] h0 (fun v h => v = some (.int r) ∧ h0 = h)) :
  own_Met false l Z n0 [] [] ⟨"java/lang/StringUTF16", "indexOf", "([BIII)I"⟩ jdk_52_method_40_code 4 (some .int) [] (own_R 4 0 0 58) #[(.ref t), (.int 0), (.int 0), (.int T)] h0 (fun v h => v = some (.int r) ∧ h0 = h) := by
  refine own_ent (a0 := a0) (nm := "indexOf") (Ls := #[.val (.ref t), .val (.int 0), .val (.int 0), .val (.int T)]) own_pn1 O0 EW.nil ?_
  intro p e _ m _ below _ _ T0 Q hQ A0
  refine own_iloadN (q := 1) A0 d69_0 rfl ?_
  refine own_iconst (q := 2) A0 (0 : Int32) d69_1 rfl ?_
  refine own_static (q := 5) (W := 0) (argsL := [(.int 0), (.int 0)]) (rest := []) A0 (H.k 321 rfl) (H.k 178 rfl) (H.k 149 rfl) (H.k 179 rfl) (by decide) (own_pay (rm_max 0 0 A0.old H ) (H.k 179 rfl) (H.k 149 rfl) (by decide) (by decide)) own_nW (Nat.le_of_eq rfl) own_pd23 rfl rfl rfl d69_2 (by decide) (by decide) ?_
  rintro v1 T2 h3 A4 ⟨rfl, rfl⟩
  show own_Run p e below Q m T2 5 #[.val (.ref t), .val (.int 0), .val (.int 0), .val (.int T)] [(.int (if (0 : Int32) < (0 : Int32) then (0 : Int32) else (0 : Int32)))]
  rw [show (if (0 : Int32) < (0 : Int32) then (0 : Int32) else (0 : Int32)) = (0 : Int32) from by decide]
  refine own_istoreN (q := 6) (L' := #[.val (.ref t), .val (.int 0), .val (.int 0), .val (.int T)]) A4 d69_5 rfl ?_
  refine own_iloadN (q := 7) A4 d69_6 rfl ?_
  refine own_aloadN (q := 8) A4 d69_7 rfl rfl ?_
  refine own_arrlenv (q := 9) A4 Kt d69_8 ?_
  refine own_iconst (q := 10) A4 (1 : Int32) d69_9 rfl ?_
  refine own_ishr (q := 11) A4 d69_10 ?_
  rw [show ((N >>> ((1 : Int32) &&& 31))) = T from eT]
  refine own_static (q := 14) (W := 0) (argsL := [(.int T), (.int T)]) (rest := []) A4 (H.k 322 rfl) (H.k 148 rfl) (H.k 149 rfl) (H.k 150 rfl) (by decide) (own_pay (rm_min T T A4.old H ) (H.k 150 rfl) (H.k 149 rfl) (by decide) (by decide)) own_nW (Nat.le_of_eq rfl) own_pd23 rfl rfl rfl d69_11 (by decide) (by decide) ?_
  rintro v5 T6 h7 A8 ⟨rfl, rfl⟩
  show own_Run p e below Q m T6 14 #[.val (.ref t), .val (.int 0), .val (.int 0), .val (.int T)] [(.int (if T < T then T else T))]
  rw [show (if T < T then T else T) = T from ite_self _]
  refine own_istoreN (q := 15) (L' := #[.val (.ref t), .val (.int 0), .val (.int 0), .val (.int T)]) A8 d69_14 rfl ?_
  refine own_iloadN (q := 16) A8 d69_15 rfl ?_
  refine own_iloadN (q := 17) A8 d69_16 rfl ?_
  refine own_icmpT (q := 22) A8 d69_17 (show (0 : Int32) < T from q0) ?_
  refine own_iloadN (q := 23) A8 d69_22 rfl ?_
  refine own_ldcI (q := 25) A8 (H.k 323 rfl) d69_23 ?_
  refine own_icmpF (q := 28) A8 d69_25 (show (0 : Int32) < (65536 : Int32) from by decide) ?_
  refine own_aloadN (q := 29) A8 d69_28 rfl rfl ?_
  refine own_iloadN (q := 30) A8 d69_29 rfl ?_
  refine own_iloadN (q := 31) A8 d69_30 rfl ?_
  refine own_iloadN (q := 32) A8 d69_31 rfl ?_
  refine own_static (q := 35) (W := 0) (argsL := [(.ref t), (.int 0), (.int 0), (.int T)]) (rest := []) A8 (H.k 324 rfl) (H.k 325 rfl) (H.k 242 rfl) (H.k 326 rfl) (by decide) (own_pay (rm_uh t kt N T us r A8.old H Kt eT q0 M) (H.k 326 rfl) (H.k 242 rfl) (by decide) (by decide)) own_nW (Nat.le_of_eq rfl) own_pd26 rfl rfl rfl d69_32 (by decide) (by decide) ?_
  rintro v9 T10 h11 A12 ⟨rfl, rfl⟩
  show own_Run p e below Q m T10 35 #[.val (.ref t), .val (.int 0), .val (.int 0), .val (.int T)] [(.int r)]
  exact own_retI A12 hQ d69_35 ⟨rfl, rfl⟩
theorem rm_iiU (x t : Addr) (kt : ClassId) (N T : Int32) (us : List Value) (r : Int32) (O0 : Old Z n0 h0) (H : own_H Z a0 zc fm) (X : own_X Z h0 x t kt 1 N us) (eT : N >>> ((1 : Int32) &&& 31) = T) (q0 : (0 : Int32) < T) (M : own_Met false l Z n0 [] [] ⟨"java/lang/StringUTF16", "indexOfCharUnsafe", "([BIII)I"⟩ jdk_52_method_48_code 5 (some .int) [] (own_R 1 0 0 13) #[.ref t, .int 0, .int 0, .int T] h0 (fun v h => v = some (.int r) ∧ h0 = h)) :
  own_Met false l Z n0 [] [] ⟨"java/lang/String", "indexOf", "(II)I"⟩ jdk_42_method_80_code 3 (some .int) [] (own_R 5 0 0 73) #[(.ref x), (.int 0), (.int 0)] h0 (fun v h => v = some (.int r) ∧ h0 = h) := by
  refine own_ent (a0 := a0) (nm := "indexOf") (Ls := #[.val (.ref x), .val (.int 0), .val (.int 0)]) own_pn2 O0 EW.nil ?_
  intro p e _ m _ below _ _ T0 Q hQ A0
  refine own_aloadN (q := 1) A0 d31_0 rfl rfl ?_
  refine own_virtual (q := 4) (W := 0) (argsL := []) (rest := []) A0 (H.k 165 rfl) (H.k 166 rfl) (H.k 168 rfl) (H.k 167 rfl) (by decide) (own_pay (rm_sil1 x A0.old H X.C) (H.k 169 rfl) (H.k 10 rfl) (by decide) (by decide)) own_nW (Nat.le_of_eq rfl) X.E own_pd15 rfl rfl rfl d31_1 (by decide) (by decide) ?_
  rintro v1 T2 h3 A4 ⟨rfl, rfl⟩
  show own_Run p e below Q m T2 4 #[.val (.ref x), .val (.int 0), .val (.int 0)] [(.int 0)]
  refine own_ifcT (q := 23) A4 d31_4 (show (0 : Int32) = (0 : Int32) from by decide) ?_
  refine own_aloadN (q := 24) A4 d31_23 rfl rfl ?_
  refine own_getF (host := "") (q := 27) A4 (Or.inl (H.k 56 rfl)) Via.refl X.V d31_24 ?_
  intro T5 A6
  refine own_iloadN (q := 28) A6 d31_27 rfl ?_
  refine own_iloadN (q := 29) A6 d31_28 rfl ?_
  refine own_aloadN (q := 30) A6 d31_29 rfl rfl ?_
  refine own_virtual (q := 33) (W := 3) (argsL := []) (rest := [(.int 0), (.int 0), (.ref t)]) A6 (H.k 170 rfl) (H.k 52 rfl) (H.k 54 rfl) (H.k 53 rfl) (by decide) (own_pay (rm_len x t kt (1 : Int32) N _ A6.old H X (by decide)) (H.k 55 rfl) (H.k 10 rfl) (by decide) (by decide)) own_nW (Nat.le_of_eq rfl) X.E own_pd8 rfl rfl rfl d31_30 (by decide) (by decide) ?_
  rintro v7 T8 h9 A10 ⟨rfl, rfl⟩
  show own_Run p e below Q m T8 33 #[.val (.ref x), .val (.int 0), .val (.int 0)] [(.int (N >>> ((1 : Int32) &&& 31))), (.int 0), (.int 0), (.ref t)]
  rw [show (N >>> ((1 : Int32) &&& 31)) = T from eT]
  refine own_static (q := 36) (W := 0) (argsL := [(.ref t), (.int 0), (.int 0), (.int T)]) (rest := []) A10 (H.k 318 rfl) (H.k 319 rfl) (H.k 242 rfl) (H.k 320 rfl) (by decide) (own_pay (rm_ui t kt N T us r A10.old H X.K eT q0 M) (H.k 320 rfl) (H.k 242 rfl) (by decide) (by decide)) own_nW (Nat.le_of_eq rfl) own_pd26 rfl rfl rfl d31_33 (by decide) (by decide) ?_
  rintro v11 T12 h13 A14 ⟨rfl, rfl⟩
  show own_Run p e below Q m T12 36 #[.val (.ref x), .val (.int 0), .val (.int 0)] [(.int r)]
  exact own_retI A14 hQ d31_36 ⟨rfl, rfl⟩
theorem rm_i1L (x t : Addr) (kt : ClassId) (T : Int32) (us : List Value) (r : Int32) (O0 : Old Z n0 h0) (H : own_H Z a0 zc fm) (X : own_X Z h0 x t kt 0 T us) (q0 : (0 : Int32) < T) (M : own_Met false l Z n0 [] [] ⟨"java/lang/StringLatin1", "indexOfChar", "([BIII)I"⟩ jdk_43_method_23_code 6 (some .int) [] (own_R 0 0 0 0) #[.ref t, .int 0, .int 0, .int T] h0 (fun v h => v = some (.int r) ∧ h0 = h)) :
  own_Met false l Z n0 [] [] ⟨"java/lang/String", "indexOf", "(I)I"⟩ jdk_42_method_79_code 2 (some .int) [] (own_R 6 0 0 87) #[(.ref x), (.int 0)] h0 (fun v h => v = some (.int r) ∧ h0 = h) := by
  refine own_ent (a0 := a0) (nm := "indexOf") (Ls := #[.val (.ref x), .val (.int 0)]) own_pn2 O0 EW.nil ?_
  intro p e _ m _ below _ _ T0 Q hQ A0
  refine own_aloadN (q := 1) A0 d30_0 rfl rfl ?_
  refine own_iloadN (q := 2) A0 d30_1 rfl ?_
  refine own_iconst (q := 3) A0 (0 : Int32) d30_2 rfl ?_
  refine own_virtual (q := 6) (W := 0) (argsL := [(.int 0), (.int 0)]) (rest := []) A0 (H.k 160 rfl) (H.k 161 rfl) (H.k 163 rfl) (H.k 162 rfl) (by decide) (own_pay (rm_iiL x t kt T us r A0.old H X q0 M) (H.k 164 rfl) (H.k 10 rfl) (by decide) (by decide)) own_nW (Nat.le_of_eq rfl) X.E own_pd23 rfl rfl rfl d30_3 (by decide) (by decide) ?_
  rintro v1 T2 h3 A4 ⟨rfl, rfl⟩
  show own_Run p e below Q m T2 6 #[.val (.ref x), .val (.int 0)] [(.int r)]
  exact own_retI A4 hQ d30_6 ⟨rfl, rfl⟩
theorem rm_i1U (x t : Addr) (kt : ClassId) (N T : Int32) (us : List Value) (r : Int32) (O0 : Old Z n0 h0) (H : own_H Z a0 zc fm) (X : own_X Z h0 x t kt 1 N us) (eT : N >>> ((1 : Int32) &&& 31) = T) (q0 : (0 : Int32) < T) (M : own_Met false l Z n0 [] [] ⟨"java/lang/StringUTF16", "indexOfCharUnsafe", "([BIII)I"⟩ jdk_52_method_48_code 5 (some .int) [] (own_R 1 0 0 13) #[.ref t, .int 0, .int 0, .int T] h0 (fun v h => v = some (.int r) ∧ h0 = h)) :
  own_Met false l Z n0 [] [] ⟨"java/lang/String", "indexOf", "(I)I"⟩ jdk_42_method_79_code 2 (some .int) [] (own_R 6 0 0 87) #[(.ref x), (.int 0)] h0 (fun v h => v = some (.int r) ∧ h0 = h) := by
  refine own_ent (a0 := a0) (nm := "indexOf") (Ls := #[.val (.ref x), .val (.int 0)]) own_pn2 O0 EW.nil ?_
  intro p e _ m _ below _ _ T0 Q hQ A0
  refine own_aloadN (q := 1) A0 d30_0 rfl rfl ?_
  refine own_iloadN (q := 2) A0 d30_1 rfl ?_
  refine own_iconst (q := 3) A0 (0 : Int32) d30_2 rfl ?_
  refine own_virtual (q := 6) (W := 0) (argsL := [(.int 0), (.int 0)]) (rest := []) A0 (H.k 160 rfl) (H.k 161 rfl) (H.k 163 rfl) (H.k 162 rfl) (by decide) (own_pay (rm_iiU x t kt N T us r A0.old H X eT q0 M) (H.k 164 rfl) (H.k 10 rfl) (by decide) (by decide)) own_nW (Nat.le_of_eq rfl) X.E own_pd23 rfl rfl rfl d30_3 (by decide) (by decide) ?_
  rintro v1 T2 h3 A4 ⟨rfl, rfl⟩
  show own_Run p e below Q m T2 6 #[.val (.ref x), .val (.int 0)] [(.int r)]
  exact own_retI A4 hQ d30_6 ⟨rfl, rfl⟩
theorem rm_ix (x : Addr) (cs ds : List Int32) (O0 : Old Z n0 h0) (H : own_H Z a0 zc fm) (S : own_Str Z h0 x (cs ++ [0] ++ ds)) (l1 : cs.length ≤ 2) (l2 : ds.length ≤ 2) (r1 : ∀ c ∈ cs, (¬ c < 0 ∧ ¬ (65535 : Int32) < c) ∧ ¬ c = 0) (r2 : ∀ c ∈ ds, ¬ c < 0 ∧ ¬ (65535 : Int32) < c) :
  own_Met false l Z n0 [] [] ⟨"java/lang/String", "indexOf", "(I)I"⟩ jdk_42_method_79_code 2 (some .int) [] (own_R 6 0 0 87) #[(.ref x), (.int 0)] h0 (fun v h => v = some (.int (Int32.ofNat cs.length)) ∧ h0 = h) := by
  rcases cs with _ | ⟨chp, _ | ⟨chq, _ | ⟨cz, cs⟩⟩⟩
  · rcases ds with _ | ⟨chr, _ | ⟨chs, _ | ⟨dz, ds⟩⟩⟩
    · obtain ⟨t, kt, cd, N, us, X, w⟩ := S
      rcases w with ⟨rfl, rfl, rfl, w⟩ | ⟨rfl, rfl, rfl, w⟩
      · exact rm_i1L x t kt 1 _ 0 O0 H X (by decide) (rm_lc0 t kt 1 _  O0 H X.K (by decide) (by decide)  rfl)
      · exact rm_i1U x t kt 2 1 _ 0 O0 H X (by decide) (by decide) (rm_uc0 t kt 2 1 _  O0 H X.K (by decide)  (own_gi_D rfl rfl (by decide) (by decide)) )
    · obtain ⟨t, kt, cd, N, us, X, w⟩ := S
      rcases w with ⟨rfl, rfl, rfl, w⟩ | ⟨rfl, rfl, rfl, w⟩
      · exact rm_i1L x t kt 2 _ 0 O0 H X (by decide) (rm_lc0 t kt 2 _  O0 H X.K (by decide) (by decide)  rfl)
      · exact rm_i1U x t kt 4 2 _ 0 O0 H X (by decide) (by decide) (rm_uc0 t kt 4 2 _  O0 H X.K (by decide)  (own_gi_D rfl rfl (by decide) (by decide)) )
    · obtain ⟨t, kt, cd, N, us, X, w⟩ := S
      rcases w with ⟨rfl, rfl, rfl, w⟩ | ⟨rfl, rfl, rfl, w⟩
      · exact rm_i1L x t kt 3 _ 0 O0 H X (by decide) (rm_lc0 t kt 3 _  O0 H X.K (by decide) (by decide)  rfl)
      · exact rm_i1U x t kt 6 3 _ 0 O0 H X (by decide) (by decide) (rm_uc0 t kt 6 3 _  O0 H X.K (by decide)  (own_gi_D rfl rfl (by decide) (by decide)) )
    · exact absurd l2 (by simp only [List.length_cons]; omega)
  · rcases ds with _ | ⟨chr, _ | ⟨chs, _ | ⟨dz, ds⟩⟩⟩
    · obtain ⟨t, kt, cd, N, us, X, w⟩ := S
      rcases w with ⟨rfl, rfl, rfl, w⟩ | ⟨rfl, rfl, rfl, w⟩
      · exact rm_i1L x t kt 2 _ 1 O0 H X (by decide) (rm_lc1 t kt 2 _ chp O0 H X.K (by decide) (by decide) (by decide) rfl (own_lo0 (r1 chp (by simp)).1.1 (w chp (by simp)) (r1 chp (by simp)).2) rfl)
      · exact rm_i1U x t kt 4 2 _ 1 O0 H X (by decide) (by decide) (rm_uc1 t kt 4 2 _ chp O0 H X.K (by decide) (by decide) (own_gi_D rfl rfl (r1 chp (by simp)).1.1 (r1 chp (by simp)).1.2) (own_gi_D rfl rfl (by decide) (by decide)) (r1 chp (by simp)).2)
    · obtain ⟨t, kt, cd, N, us, X, w⟩ := S
      rcases w with ⟨rfl, rfl, rfl, w⟩ | ⟨rfl, rfl, rfl, w⟩
      · exact rm_i1L x t kt 3 _ 1 O0 H X (by decide) (rm_lc1 t kt 3 _ chp O0 H X.K (by decide) (by decide) (by decide) rfl (own_lo0 (r1 chp (by simp)).1.1 (w chp (by simp)) (r1 chp (by simp)).2) rfl)
      · exact rm_i1U x t kt 6 3 _ 1 O0 H X (by decide) (by decide) (rm_uc1 t kt 6 3 _ chp O0 H X.K (by decide) (by decide) (own_gi_D rfl rfl (r1 chp (by simp)).1.1 (r1 chp (by simp)).1.2) (own_gi_D rfl rfl (by decide) (by decide)) (r1 chp (by simp)).2)
    · obtain ⟨t, kt, cd, N, us, X, w⟩ := S
      rcases w with ⟨rfl, rfl, rfl, w⟩ | ⟨rfl, rfl, rfl, w⟩
      · exact rm_i1L x t kt 4 _ 1 O0 H X (by decide) (rm_lc1 t kt 4 _ chp O0 H X.K (by decide) (by decide) (by decide) rfl (own_lo0 (r1 chp (by simp)).1.1 (w chp (by simp)) (r1 chp (by simp)).2) rfl)
      · exact rm_i1U x t kt 8 4 _ 1 O0 H X (by decide) (by decide) (rm_uc1 t kt 8 4 _ chp O0 H X.K (by decide) (by decide) (own_gi_D rfl rfl (r1 chp (by simp)).1.1 (r1 chp (by simp)).1.2) (own_gi_D rfl rfl (by decide) (by decide)) (r1 chp (by simp)).2)
    · exact absurd l2 (by simp only [List.length_cons]; omega)
  · rcases ds with _ | ⟨chr, _ | ⟨chs, _ | ⟨dz, ds⟩⟩⟩
    · obtain ⟨t, kt, cd, N, us, X, w⟩ := S
      rcases w with ⟨rfl, rfl, rfl, w⟩ | ⟨rfl, rfl, rfl, w⟩
      · exact rm_i1L x t kt 3 _ 2 O0 H X (by decide) (rm_lc2 t kt 3 _ chp chq O0 H X.K (by decide) (by decide) (by decide) (by decide) rfl (own_lo0 (r1 chp (by simp)).1.1 (w chp (by simp)) (r1 chp (by simp)).2) rfl (own_lo0 (r1 chq (by simp)).1.1 (w chq (by simp)) (r1 chq (by simp)).2) rfl)
      · exact rm_i1U x t kt 6 3 _ 2 O0 H X (by decide) (by decide) (rm_uc2 t kt 6 3 _ chp chq O0 H X.K (by decide) (by decide) (by decide) (own_gi_D rfl rfl (r1 chp (by simp)).1.1 (r1 chp (by simp)).1.2) (own_gi_D rfl rfl (r1 chq (by simp)).1.1 (r1 chq (by simp)).1.2) (own_gi_D rfl rfl (by decide) (by decide)) (r1 chp (by simp)).2 (r1 chq (by simp)).2)
    · obtain ⟨t, kt, cd, N, us, X, w⟩ := S
      rcases w with ⟨rfl, rfl, rfl, w⟩ | ⟨rfl, rfl, rfl, w⟩
      · exact rm_i1L x t kt 4 _ 2 O0 H X (by decide) (rm_lc2 t kt 4 _ chp chq O0 H X.K (by decide) (by decide) (by decide) (by decide) rfl (own_lo0 (r1 chp (by simp)).1.1 (w chp (by simp)) (r1 chp (by simp)).2) rfl (own_lo0 (r1 chq (by simp)).1.1 (w chq (by simp)) (r1 chq (by simp)).2) rfl)
      · exact rm_i1U x t kt 8 4 _ 2 O0 H X (by decide) (by decide) (rm_uc2 t kt 8 4 _ chp chq O0 H X.K (by decide) (by decide) (by decide) (own_gi_D rfl rfl (r1 chp (by simp)).1.1 (r1 chp (by simp)).1.2) (own_gi_D rfl rfl (r1 chq (by simp)).1.1 (r1 chq (by simp)).1.2) (own_gi_D rfl rfl (by decide) (by decide)) (r1 chp (by simp)).2 (r1 chq (by simp)).2)
    · obtain ⟨t, kt, cd, N, us, X, w⟩ := S
      rcases w with ⟨rfl, rfl, rfl, w⟩ | ⟨rfl, rfl, rfl, w⟩
      · exact rm_i1L x t kt 5 _ 2 O0 H X (by decide) (rm_lc2 t kt 5 _ chp chq O0 H X.K (by decide) (by decide) (by decide) (by decide) rfl (own_lo0 (r1 chp (by simp)).1.1 (w chp (by simp)) (r1 chp (by simp)).2) rfl (own_lo0 (r1 chq (by simp)).1.1 (w chq (by simp)) (r1 chq (by simp)).2) rfl)
      · exact rm_i1U x t kt 10 5 _ 2 O0 H X (by decide) (by decide) (rm_uc2 t kt 10 5 _ chp chq O0 H X.K (by decide) (by decide) (by decide) (own_gi_D rfl rfl (r1 chp (by simp)).1.1 (r1 chp (by simp)).1.2) (own_gi_D rfl rfl (r1 chq (by simp)).1.1 (r1 chq (by simp)).1.2) (own_gi_D rfl rfl (by decide) (by decide)) (r1 chp (by simp)).2 (r1 chq (by simp)).2)
    · exact absurd l2 (by simp only [List.length_cons]; omega)
  · exact absurd l1 (by simp only [List.length_cons]; omega)
def own_bo (N i k : Int32) : Prop := (¬ (((N >>> ((1 : Int32) &&& 31)) ||| i) ||| k) < 0) ∧ (¬ ((N >>> ((1 : Int32) &&& 31)) - i) < k) ∧ (¬ (i + k) < 0) ∧ ((i + k) < 1073741823)
theorem own_bo.a {N i k : Int32} (P : own_bo N i k) : ¬ (((N >>> ((1 : Int32) &&& 31)) ||| i) ||| k) < 0 := P.1
theorem own_bo.b {N i k : Int32} (P : own_bo N i k) : ¬ ((N >>> ((1 : Int32) &&& 31)) - i) < k := P.2.1
theorem own_bo.c {N i k : Int32} (P : own_bo N i k) : ¬ (i + k) < 0 := P.2.2.1
theorem own_bo.d {N i k : Int32} (P : own_bo N i k) : (i + k) < 1073741823 := P.2.2.2
theorem own_bo_D {N i k : Int32}  (h0 : ¬ (((N >>> ((1 : Int32) &&& 31)) ||| i) ||| k) < 0 := by decide) (h1 : ¬ ((N >>> ((1 : Int32) &&& 31)) - i) < k := by decide) (h2 : ¬ (i + k) < 0 := by decide) (h3 : (i + k) < 1073741823 := by decide) : own_bo N i k := ⟨h0, h1, h2, h3⟩
theorem d76_0 : decode jdk_52_method_22_code 0 = .ok (.iload_n 1, 1) := by decide +kernel
theorem d76_1 : decode jdk_52_method_22_code 1 = .ok (.iload 4, 2) := by decide +kernel
theorem d76_3 : decode jdk_52_method_22_code 3 = .ok (.aload_n 0, 1) := by decide +kernel
theorem d76_4 : decode jdk_52_method_22_code 4 = .ok (.invokestatic 173, 3) := by decide +kernel
theorem d76_7 : decode jdk_52_method_22_code 7 = .ok (.iconst 0, 1) := by decide +kernel
theorem d76_8 : decode jdk_52_method_22_code 8 = .ok (.istore 5, 2) := by decide +kernel
theorem d76_10 : decode jdk_52_method_22_code 10 = .ok (.iload 5, 2) := by decide +kernel
theorem d76_12 : decode jdk_52_method_22_code 12 = .ok (.iload 4, 2) := by decide +kernel
theorem d76_14 : decode jdk_52_method_22_code 14 = .ok (.if_icmp .ge 39, 3) := by decide +kernel
theorem d76_17 : decode jdk_52_method_22_code 17 = .ok (.aload_n 0, 1) := by decide +kernel
theorem d76_18 : decode jdk_52_method_22_code 18 = .ok (.iload_n 1, 1) := by decide +kernel
theorem d76_19 : decode jdk_52_method_22_code 19 = .ok (.invokestatic 71, 3) := by decide +kernel
theorem d76_22 : decode jdk_52_method_22_code 22 = .ok (.istore 6, 2) := by decide +kernel
theorem d76_24 : decode jdk_52_method_22_code 24 = .ok (.iload 6, 2) := by decide +kernel
theorem d76_26 : decode jdk_52_method_22_code 26 = .ok (.sipush 255, 3) := by decide +kernel
theorem d76_29 : decode jdk_52_method_22_code 29 = .ok (.if_icmp .le 6, 3) := by decide +kernel
theorem d76_32 : decode jdk_52_method_22_code 32 = .ok (.iload 5, 2) := by decide +kernel
theorem d76_34 : decode jdk_52_method_22_code 34 = .ok (.ireturn, 1) := by decide +kernel
theorem d76_35 : decode jdk_52_method_22_code 35 = .ok (.aload_n 2, 1) := by decide +kernel
theorem d76_36 : decode jdk_52_method_22_code 36 = .ok (.iload_n 3, 1) := by decide +kernel
theorem d76_37 : decode jdk_52_method_22_code 37 = .ok (.iload 6, 2) := by decide +kernel
theorem d76_39 : decode jdk_52_method_22_code 39 = .ok (.i2b, 1) := by decide +kernel
theorem d76_40 : decode jdk_52_method_22_code 40 = .ok (.bastore, 1) := by decide +kernel
theorem d76_41 : decode jdk_52_method_22_code 41 = .ok (.iinc 1 1, 3) := by decide +kernel
theorem d76_44 : decode jdk_52_method_22_code 44 = .ok (.iinc 3 1, 3) := by decide +kernel
theorem d76_47 : decode jdk_52_method_22_code 47 = .ok (.iinc 5 1, 3) := by decide +kernel
theorem d76_50 : decode jdk_52_method_22_code 50 = .ok (.goto (-40), 3) := by decide +kernel
theorem d76_53 : decode jdk_52_method_22_code 53 = .ok (.iload 4, 2) := by decide +kernel
theorem d76_55 : decode jdk_52_method_22_code 55 = .ok (.ireturn, 1) := by decide +kernel
theorem rm_b5_1L (t : Addr) (kt : ClassId) (N : Int32) (us : List Value) (i : Int32) (j0 : Nat) (chc : Int32) (d : Addr) (kd : ClassId) (O0 : Old Z n0 h0) (H : own_H Z a0 zc fm) (Kt : Arv Z h0 t kt .byte N us (.int 0)) (B : own_bo N i 1) (G0 : own_gi N us i j0 chc) (Kd : Arv Z h0 d kd .byte 1 [.int 0] (.int 0)) (gd : n0 ≤ d) (ntd : t ≠ d) (qchc : ¬ (255 : Int32) < chc) :
  own_Met false l Z n0 [] [] ⟨"java/lang/StringUTF16", "compress", "([BI[BII)I"⟩ jdk_52_method_22_code 7 (some .int) [] (own_R 3 0 0 43) #[(.ref t), (.int i), (.ref d), (.int 0), (.int 1)] h0 (fun v h => v = some (.int 1) ∧ Keep h0 h [d] ∧ Arv Z h d kd .byte 1 [.int (StrChars.lo8 chc)] (.int 0)) := by
  refine own_ent (a0 := a0) (nm := "compress") (Ls := #[.val (.ref t), .val (.int i), .val (.ref d), .val (.int 0), .val (.int 1), .unset, .unset]) own_pn1 O0 EW.nil ?_
  intro p e _ m _ below _ _ T0 Q hQ A0
  refine own_iloadN (q := 1) A0 d76_0 rfl ?_
  refine own_iload (q := 3) A0 d76_1 rfl ?_
  refine own_aloadN (q := 4) A0 d76_3 rfl rfl ?_
  refine own_static (q := 7) (W := 0) (argsL := [(.int i), (.int 1), (.ref t)]) (rest := []) A0 (H.k 291 rfl) (H.k 292 rfl) (H.k 242 rfl) (H.k 293 rfl) (by decide) (own_pay (rm_ubo t kt N us i 1 A0.old H Kt B.a B.b) (H.k 293 rfl) (H.k 242 rfl) (by decide) (by decide)) own_nW (Nat.le_of_eq rfl) own_pd47 rfl rfl rfl d76_4 (by decide) (by decide) ?_
  rintro v1 T2 h3 A4 ⟨rfl, rfl⟩
  show own_Run p e below Q m T2 7 #[.val (.ref t), .val (.int i), .val (.ref d), .val (.int 0), .val (.int 1), .unset, .unset] []
  refine own_iconst (q := 8) A4 (0 : Int32) d76_7 rfl ?_
  refine own_istore (q := 10) (L' := #[.val (.ref t), .val (.int i), .val (.ref d), .val (.int 0), .val (.int 1), .val (.int 0), .unset]) A4 d76_8 rfl ?_
  refine own_iload (q := 12) A4 d76_10 rfl ?_
  refine own_iload (q := 14) A4 d76_12 rfl ?_
  refine own_icmpF (q := 17) A4 d76_14 (show (0 : Int32) < (1 : Int32) from by decide) ?_
  refine own_aloadN (q := 18) A4 d76_17 rfl rfl ?_
  refine own_iloadN (q := 19) A4 d76_18 rfl ?_
  refine own_static (q := 22) (W := 0) (argsL := [(.ref t), (.int i)]) (rest := []) A4 (H.k 334 rfl) (H.k 335 rfl) (H.k 242 rfl) (H.k 336 rfl) (by decide) (own_pay (rm_gc t kt N us i j0 chc A4.old H Kt G0) (H.k 336 rfl) (H.k 242 rfl) (by decide) (by decide)) own_nW (Nat.le_of_eq rfl) own_pd52 rfl rfl rfl d76_19 (by decide) (by decide) ?_
  rintro v5 T6 h7 A8 ⟨rfl, rfl⟩
  show own_Run p e below Q m T6 22 #[.val (.ref t), .val (.int i), .val (.ref d), .val (.int 0), .val (.int 1), .val (.int 0), .unset] [(.int chc)]
  refine own_istore (q := 24) (L' := #[.val (.ref t), .val (.int i), .val (.ref d), .val (.int 0), .val (.int 1), .val (.int 0), .val (.int chc)]) A8 d76_22 rfl ?_
  refine own_iload (q := 26) A8 d76_24 rfl ?_
  refine own_sipush (q := 29) A8 (255 : Int32) d76_26 rfl ?_
  refine own_icmpT (q := 35) A8 d76_29 (show ¬ (255 : Int32) < chc from qchc) ?_
  refine own_aloadN (q := 36) A8 d76_35 rfl rfl ?_
  refine own_iloadN (q := 37) A8 d76_36 rfl ?_
  refine own_iload (q := 39) A8 d76_37 rfl ?_
  refine own_i2b (q := 40) A8 d76_39 ?_
  refine own_stBv (q := 41) A8 Kd 0 (by decide) (by decide) (by decide) (Nat.le_of_ble_eq_true rfl) gd (Or.inr (Or.inl rfl)) d76_40 ?_
  intro T9 h10 sl11 A12 W13 X14
  rw [own_narB] at X14
  have f15 : Arv Z h10 d kd .byte (1 : Int32) [(.int (StrChars.lo8 chc))] (.int 0) := X14
  have K16 := (Keep.refl h0 [d]).wr W13 (Or.inl (by simp))
  have f17 := Kt.other W13 ntd
  have f18 : Arv Z h10 d kd .byte (1 : Int32) [(.int (StrChars.lo8 chc))] (.int 0) := f15
  refine own_iinc (q := 44) (v := (1 : Int32)) (L' := #[.val (.ref t), .val (.int (i + (1 : Int32))), .val (.ref d), .val (.int 0), .val (.int 1), .val (.int 0), .val (.int chc)]) A12 d76_41 rfl rfl rfl ?_
  refine own_iinc (q := 47) (v := (1 : Int32)) (L' := #[.val (.ref t), .val (.int (i + (1 : Int32))), .val (.ref d), .val (.int ((0 : Int32) + (1 : Int32))), .val (.int 1), .val (.int 0), .val (.int chc)]) A12 d76_44 rfl rfl rfl ?_
  rw [show ((0 : Int32) + (1 : Int32)) = (1 : Int32) from by decide]
  refine own_iinc (q := 50) (v := (1 : Int32)) (L' := #[.val (.ref t), .val (.int (i + (1 : Int32))), .val (.ref d), .val (.int 1), .val (.int 1), .val (.int ((0 : Int32) + (1 : Int32))), .val (.int chc)]) A12 d76_47 rfl rfl rfl ?_
  rw [show ((0 : Int32) + (1 : Int32)) = (1 : Int32) from by decide]
  refine own_goto (q := 10) A12 d76_50 ?_
  refine own_iload (q := 12) A12 d76_10 rfl ?_
  refine own_iload (q := 14) A12 d76_12 rfl ?_
  refine own_icmpT (q := 53) A12 d76_14 (show ¬ (1 : Int32) < (1 : Int32) from by decide) ?_
  refine own_iload (q := 55) A12 d76_53 rfl ?_
  exact own_retI A12 hQ d76_55 ⟨rfl, K16, f18⟩
theorem d75_0 : decode jdk_52_method_17_code 0 = .ok (.iload_n 2, 1) := by decide +kernel
theorem d75_1 : decode jdk_52_method_17_code 1 = .ok (.newarray .byte, 2) := by decide +kernel
theorem d75_3 : decode jdk_52_method_17_code 3 = .ok (.astore_n 3, 1) := by decide +kernel
theorem d75_4 : decode jdk_52_method_17_code 4 = .ok (.aload_n 0, 1) := by decide +kernel
theorem d75_5 : decode jdk_52_method_17_code 5 = .ok (.iload_n 1, 1) := by decide +kernel
theorem d75_6 : decode jdk_52_method_17_code 6 = .ok (.aload_n 3, 1) := by decide +kernel
theorem d75_7 : decode jdk_52_method_17_code 7 = .ok (.iconst 0, 1) := by decide +kernel
theorem d75_8 : decode jdk_52_method_17_code 8 = .ok (.iload_n 2, 1) := by decide +kernel
theorem d75_9 : decode jdk_52_method_17_code 9 = .ok (.invokestatic 123, 3) := by decide +kernel
theorem d75_12 : decode jdk_52_method_17_code 12 = .ok (.istore 4, 2) := by decide +kernel
theorem d75_14 : decode jdk_52_method_17_code 14 = .ok (.iload 4, 2) := by decide +kernel
theorem d75_16 : decode jdk_52_method_17_code 16 = .ok (.iload_n 2, 1) := by decide +kernel
theorem d75_17 : decode jdk_52_method_17_code 17 = .ok (.if_icmp .eq 47, 3) := by decide +kernel
theorem d75_20 : decode jdk_52_method_17_code 20 = .ok (.aload_n 0, 1) := by decide +kernel
theorem d75_21 : decode jdk_52_method_17_code 21 = .ok (.iload_n 1, 1) := by decide +kernel
theorem d75_22 : decode jdk_52_method_17_code 22 = .ok (.iconst 1, 1) := by decide +kernel
theorem d75_23 : decode jdk_52_method_17_code 23 = .ok (.ishl, 1) := by decide +kernel
theorem d75_24 : decode jdk_52_method_17_code 24 = .ok (.iload_n 1, 1) := by decide +kernel
theorem d75_25 : decode jdk_52_method_17_code 25 = .ok (.iload_n 2, 1) := by decide +kernel
theorem d75_26 : decode jdk_52_method_17_code 26 = .ok (.iadd, 1) := by decide +kernel
theorem d75_27 : decode jdk_52_method_17_code 27 = .ok (.invokestatic 11, 3) := by decide +kernel
theorem d75_30 : decode jdk_52_method_17_code 30 = .ok (.invokestatic 126, 3) := by decide +kernel
theorem d75_33 : decode jdk_52_method_17_code 33 = .ok (.astore 5, 2) := by decide +kernel
theorem d75_35 : decode jdk_52_method_17_code 35 = .ok (.aload 5, 2) := by decide +kernel
theorem d75_37 : decode jdk_52_method_17_code 37 = .ok (.iload 4, 2) := by decide +kernel
theorem d75_39 : decode jdk_52_method_17_code 39 = .ok (.invokestatic 71, 3) := by decide +kernel
theorem d75_42 : decode jdk_52_method_17_code 42 = .ok (.sipush 255, 3) := by decide +kernel
theorem d75_45 : decode jdk_52_method_17_code 45 = .ok (.if_icmp .gt 16, 3) := by decide +kernel
theorem d75_61 : decode jdk_52_method_17_code 61 = .ok (.aload 5, 2) := by decide +kernel
theorem d75_63 : decode jdk_52_method_17_code 63 = .ok (.areturn, 1) := by decide +kernel
theorem d75_64 : decode jdk_52_method_17_code 64 = .ok (.aload_n 3, 1) := by decide +kernel
theorem d75_65 : decode jdk_52_method_17_code 65 = .ok (.areturn, 1) := by decide +kernel
theorem rm_bc_1L (t : Addr) (kt : ClassId) (N : Int32) (us : List Value) (i : Int32) (j0 : Nat) (chc : Int32) (O0 : Old Z n0 h0) (H : own_H Z a0 zc fm) (Kt : Arv Z h0 t kt .byte N us (.int 0)) (B : own_bo N i 1) (G0 : own_gi N us i j0 chc) (P : own_cut 2 2 N (i <<< ((1 : Int32) &&& 31)) ((i + (1 : Int32)) <<< ((1 : Int32) &&& 31)) us [.int (StrChars.lo8 chc), .int (StrChars.hi8 chc)]) (qchc : ¬ (255 : Int32) < chc) :
  own_Met false l Z n0 [] [] ⟨"java/lang/StringUTF16", "compress", "([BII)[B"⟩ jdk_52_method_17_code 6 (some (.array .byte)) [] (own_R 4 1 1 61) #[(.ref t), (.int i), (.int 1)] h0 (fun v h => ∃ (t : Addr) (k : ClassId), v = some (.ref t) ∧ n0 ≤ t ∧ h0.size ≤ t ∧ Keep h0 h [] ∧ Arv Z h t k .byte 1 [.int (StrChars.lo8 chc)] (.int 0)) := by
  refine own_ent (a0 := a0) (nm := "compress") (Ls := #[.val (.ref t), .val (.int i), .val (.int 1), .unset, .unset, .unset]) own_pn1 O0 EW.nil ?_
  intro p e _ m _ below _ _ T0 Q hQ A0
  refine own_iloadN (q := 1) A0 d75_0 rfl ?_
  refine own_newPv (q := 3) (ty := .byte) (dv := .int 0) A0 rfl rfl (H.k 12 rfl) d75_1 1 (by decide) (by decide) (by decide) (by decide) (by decide) ?_
  intro T1 h2 a3 k4 g5 g6 A7 E8 X9
  have z10 : t ≠ a3 := Nat.ne_of_lt (Nat.lt_of_lt_of_le Kt.lt (Nat.le_of_eq g5))
  have K11 := (Keep.refl h0 []).ext E8
  have f12 := Kt.ext E8
  have f13 : Arv Z h2 a3 k4 .byte (1 : Int32) [(.int 0)] (.int 0) := X9
  refine own_astoreN (q := 4) (L' := #[.val (.ref t), .val (.int i), .val (.int 1), .val (.ref a3), .unset, .unset]) A7 d75_3 rfl rfl ?_
  refine own_aloadN (q := 5) A7 d75_4 rfl rfl ?_
  refine own_iloadN (q := 6) A7 d75_5 rfl ?_
  refine own_aloadN (q := 7) A7 d75_6 rfl rfl ?_
  refine own_iconst (q := 8) A7 (0 : Int32) d75_7 rfl ?_
  refine own_iloadN (q := 9) A7 d75_8 rfl ?_
  refine own_static (q := 12) (W := 0) (argsL := [(.ref t), (.int i), (.ref a3), (.int 0), (.int 1)]) (rest := []) A7 (H.k 344 rfl) (H.k 345 rfl) (H.k 242 rfl) (H.k 346 rfl) (by decide) (own_pay (rm_b5_1L t kt N us i j0 chc a3 k4 A7.old H f12 B G0 f13 g6 z10 qchc) (H.k 346 rfl) (H.k 242 rfl) (by decide) (by decide)) own_nW (Nat.le_of_eq rfl) own_pd53 rfl rfl rfl d75_9 (by decide) (by decide) ?_
  rintro v16 T17 h18 A19 ⟨rfl, K14, V15⟩
  show own_Run p e below Q m T17 12 #[.val (.ref t), .val (.int i), .val (.int 1), .val (.ref a3), .unset, .unset] [(.int 1)]
  have f20 := f12.keep K14 (ninS z10 nin0)
  have K21 := K11.trans K14 (allS (Or.inr (Nat.le_trans (Keep.refl h0 []).1 (Nat.le_of_eq g5))) all0)
  refine own_istore (q := 14) (L' := #[.val (.ref t), .val (.int i), .val (.int 1), .val (.ref a3), .val (.int 1), .unset]) A19 d75_12 rfl ?_
  refine own_iload (q := 16) A19 d75_14 rfl ?_
  refine own_iloadN (q := 17) A19 d75_16 rfl ?_
  refine own_icmpT (q := 64) A19 d75_17 (show (1 : Int32) = (1 : Int32) from by decide) ?_
  refine own_aloadN (q := 65) A19 d75_64 rfl rfl ?_
  exact own_retA A19 hQ rfl rfl rfl d75_65 ⟨a3, _, rfl, g6, (Nat.le_trans (Keep.refl h0 []).1 (Nat.le_of_eq g5)), K21, V15⟩
theorem d74_0 : decode jdk_52_method_69_code 0 = .ok (.iload_n 2, 1) := by decide +kernel
theorem d74_1 : decode jdk_52_method_69_code 1 = .ok (.ifCond .ne 7, 3) := by decide +kernel
theorem d74_4 : decode jdk_52_method_69_code 4 = .ok (.ldc_w 295, 3) := by decide +kernel
theorem d74_7 : decode jdk_52_method_69_code 7 = .ok (.areturn, 1) := by decide +kernel
theorem d74_8 : decode jdk_52_method_69_code 8 = .ok (.getstatic 251, 3) := by decide +kernel
theorem d74_11 : decode jdk_52_method_69_code 11 = .ok (.ifCond .eq 28, 3) := by decide +kernel
theorem d74_14 : decode jdk_52_method_69_code 14 = .ok (.aload_n 0, 1) := by decide +kernel
theorem d74_15 : decode jdk_52_method_69_code 15 = .ok (.iload_n 1, 1) := by decide +kernel
theorem d74_16 : decode jdk_52_method_69_code 16 = .ok (.iload_n 2, 1) := by decide +kernel
theorem d74_17 : decode jdk_52_method_69_code 17 = .ok (.invokestatic 257, 3) := by decide +kernel
theorem d74_20 : decode jdk_52_method_69_code 20 = .ok (.astore_n 3, 1) := by decide +kernel
theorem d74_21 : decode jdk_52_method_69_code 21 = .ok (.aload_n 3, 1) := by decide +kernel
theorem d74_22 : decode jdk_52_method_69_code 22 = .ok (.iload_n 2, 1) := by decide +kernel
theorem d74_23 : decode jdk_52_method_69_code 23 = .ok (.invokestatic 259, 3) := by decide +kernel
theorem d74_26 : decode jdk_52_method_69_code 26 = .ok (.istore 4, 2) := by decide +kernel
theorem d74_28 : decode jdk_52_method_69_code 28 = .ok (.new 3, 3) := by decide +kernel
theorem d74_31 : decode jdk_52_method_69_code 31 = .ok (.dup, 1) := by decide +kernel
theorem d74_32 : decode jdk_52_method_69_code 32 = .ok (.aload_n 3, 1) := by decide +kernel
theorem d74_33 : decode jdk_52_method_69_code 33 = .ok (.iload 4, 2) := by decide +kernel
theorem d74_35 : decode jdk_52_method_69_code 35 = .ok (.invokespecial 263, 3) := by decide +kernel
theorem d74_38 : decode jdk_52_method_69_code 38 = .ok (.areturn, 1) := by decide +kernel
theorem rm_b5_1U (t : Addr) (kt : ClassId) (N : Int32) (us : List Value) (i : Int32) (j0 : Nat) (chc : Int32) (d : Addr) (kd : ClassId) (O0 : Old Z n0 h0) (H : own_H Z a0 zc fm) (Kt : Arv Z h0 t kt .byte N us (.int 0)) (B : own_bo N i 1) (G0 : own_gi N us i j0 chc) (Kd : Arv Z h0 d kd .byte 1 [.int 0] (.int 0)) (gd : n0 ≤ d) (ntd : t ≠ d) (qchc :  (255 : Int32) < chc) :
  own_Met false l Z n0 [] [] ⟨"java/lang/StringUTF16", "compress", "([BI[BII)I"⟩ jdk_52_method_22_code 7 (some .int) [] (own_R 3 0 0 43) #[(.ref t), (.int i), (.ref d), (.int 0), (.int 1)] h0 (fun v h => v = some (.int 0) ∧ Keep h0 h [d] ∧ Arv Z h d kd .byte 1 [.int 0] (.int 0)) := by
  refine own_ent (a0 := a0) (nm := "compress") (Ls := #[.val (.ref t), .val (.int i), .val (.ref d), .val (.int 0), .val (.int 1), .unset, .unset]) own_pn1 O0 EW.nil ?_
  intro p e _ m _ below _ _ T0 Q hQ A0
  refine own_iloadN (q := 1) A0 d76_0 rfl ?_
  refine own_iload (q := 3) A0 d76_1 rfl ?_
  refine own_aloadN (q := 4) A0 d76_3 rfl rfl ?_
  refine own_static (q := 7) (W := 0) (argsL := [(.int i), (.int 1), (.ref t)]) (rest := []) A0 (H.k 291 rfl) (H.k 292 rfl) (H.k 242 rfl) (H.k 293 rfl) (by decide) (own_pay (rm_ubo t kt N us i 1 A0.old H Kt B.a B.b) (H.k 293 rfl) (H.k 242 rfl) (by decide) (by decide)) own_nW (Nat.le_of_eq rfl) own_pd47 rfl rfl rfl d76_4 (by decide) (by decide) ?_
  rintro v1 T2 h3 A4 ⟨rfl, rfl⟩
  show own_Run p e below Q m T2 7 #[.val (.ref t), .val (.int i), .val (.ref d), .val (.int 0), .val (.int 1), .unset, .unset] []
  refine own_iconst (q := 8) A4 (0 : Int32) d76_7 rfl ?_
  refine own_istore (q := 10) (L' := #[.val (.ref t), .val (.int i), .val (.ref d), .val (.int 0), .val (.int 1), .val (.int 0), .unset]) A4 d76_8 rfl ?_
  refine own_iload (q := 12) A4 d76_10 rfl ?_
  refine own_iload (q := 14) A4 d76_12 rfl ?_
  refine own_icmpF (q := 17) A4 d76_14 (show (0 : Int32) < (1 : Int32) from by decide) ?_
  refine own_aloadN (q := 18) A4 d76_17 rfl rfl ?_
  refine own_iloadN (q := 19) A4 d76_18 rfl ?_
  refine own_static (q := 22) (W := 0) (argsL := [(.ref t), (.int i)]) (rest := []) A4 (H.k 334 rfl) (H.k 335 rfl) (H.k 242 rfl) (H.k 336 rfl) (by decide) (own_pay (rm_gc t kt N us i j0 chc A4.old H Kt G0) (H.k 336 rfl) (H.k 242 rfl) (by decide) (by decide)) own_nW (Nat.le_of_eq rfl) own_pd52 rfl rfl rfl d76_19 (by decide) (by decide) ?_
  rintro v5 T6 h7 A8 ⟨rfl, rfl⟩
  show own_Run p e below Q m T6 22 #[.val (.ref t), .val (.int i), .val (.ref d), .val (.int 0), .val (.int 1), .val (.int 0), .unset] [(.int chc)]
  refine own_istore (q := 24) (L' := #[.val (.ref t), .val (.int i), .val (.ref d), .val (.int 0), .val (.int 1), .val (.int 0), .val (.int chc)]) A8 d76_22 rfl ?_
  refine own_iload (q := 26) A8 d76_24 rfl ?_
  refine own_sipush (q := 29) A8 (255 : Int32) d76_26 rfl ?_
  refine own_icmpF (q := 32) A8 d76_29 (show (255 : Int32) < chc from qchc) ?_
  refine own_iload (q := 34) A8 d76_32 rfl ?_
  exact own_retI A8 hQ d76_34 ⟨rfl, (Keep.refl h0 [d]), Kd⟩
theorem rm_bc_1U (t : Addr) (kt : ClassId) (N : Int32) (us : List Value) (i : Int32) (j0 : Nat) (chc : Int32) (O0 : Old Z n0 h0) (H : own_H Z a0 zc fm) (Kt : Arv Z h0 t kt .byte N us (.int 0)) (B : own_bo N i 1) (G0 : own_gi N us i j0 chc) (P : own_cut 2 2 N (i <<< ((1 : Int32) &&& 31)) ((i + (1 : Int32)) <<< ((1 : Int32) &&& 31)) us [.int (StrChars.lo8 chc), .int (StrChars.hi8 chc)]) (qchc :  (255 : Int32) < chc) :
  own_Met false l Z n0 [] [] ⟨"java/lang/StringUTF16", "compress", "([BII)[B"⟩ jdk_52_method_17_code 6 (some (.array .byte)) [] (own_R 4 2 11 61) #[(.ref t), (.int i), (.int 1)] h0 (fun v h => ∃ (t : Addr) (k : ClassId), v = some (.ref t) ∧ n0 ≤ t ∧ h0.size ≤ t ∧ Keep h0 h [] ∧ Arv Z h t k .byte 2 [.int (StrChars.lo8 chc), .int (StrChars.hi8 chc)] (.int 0)) := by
  refine own_ent (a0 := a0) (nm := "compress") (Ls := #[.val (.ref t), .val (.int i), .val (.int 1), .unset, .unset, .unset]) own_pn1 O0 EW.nil ?_
  intro p e _ m _ below _ _ T0 Q hQ A0
  refine own_iloadN (q := 1) A0 d75_0 rfl ?_
  refine own_newPv (q := 3) (ty := .byte) (dv := .int 0) A0 rfl rfl (H.k 12 rfl) d75_1 1 (by decide) (by decide) (by decide) (by decide) (by decide) ?_
  intro T1 h2 a3 k4 g5 g6 A7 E8 X9
  have z10 : t ≠ a3 := Nat.ne_of_lt (Nat.lt_of_lt_of_le Kt.lt (Nat.le_of_eq g5))
  have K11 := (Keep.refl h0 []).ext E8
  have f12 := Kt.ext E8
  have f13 : Arv Z h2 a3 k4 .byte (1 : Int32) [(.int 0)] (.int 0) := X9
  refine own_astoreN (q := 4) (L' := #[.val (.ref t), .val (.int i), .val (.int 1), .val (.ref a3), .unset, .unset]) A7 d75_3 rfl rfl ?_
  refine own_aloadN (q := 5) A7 d75_4 rfl rfl ?_
  refine own_iloadN (q := 6) A7 d75_5 rfl ?_
  refine own_aloadN (q := 7) A7 d75_6 rfl rfl ?_
  refine own_iconst (q := 8) A7 (0 : Int32) d75_7 rfl ?_
  refine own_iloadN (q := 9) A7 d75_8 rfl ?_
  refine own_static (q := 12) (W := 0) (argsL := [(.ref t), (.int i), (.ref a3), (.int 0), (.int 1)]) (rest := []) A7 (H.k 344 rfl) (H.k 345 rfl) (H.k 242 rfl) (H.k 346 rfl) (by decide) (own_pay (rm_b5_1U t kt N us i j0 chc a3 k4 A7.old H f12 B G0 f13 g6 z10 qchc) (H.k 346 rfl) (H.k 242 rfl) (by decide) (by decide)) own_nW (Nat.le_of_eq rfl) own_pd53 rfl rfl rfl d75_9 (by decide) (by decide) ?_
  rintro v16 T17 h18 A19 ⟨rfl, K14, V15⟩
  show own_Run p e below Q m T17 12 #[.val (.ref t), .val (.int i), .val (.int 1), .val (.ref a3), .unset, .unset] [(.int 0)]
  have f20 := f12.keep K14 (ninS z10 nin0)
  have K21 := K11.trans K14 (allS (Or.inr (Nat.le_trans (Keep.refl h0 []).1 (Nat.le_of_eq g5))) all0)
  refine own_istore (q := 14) (L' := #[.val (.ref t), .val (.int i), .val (.int 1), .val (.ref a3), .val (.int 0), .unset]) A19 d75_12 rfl ?_
  refine own_iload (q := 16) A19 d75_14 rfl ?_
  refine own_iloadN (q := 17) A19 d75_16 rfl ?_
  refine own_icmpF (q := 20) A19 d75_17 (show ¬ (0 : Int32) = (1 : Int32) from by decide) ?_
  refine own_aloadN (q := 21) A19 d75_20 rfl rfl ?_
  refine own_iloadN (q := 22) A19 d75_21 rfl ?_
  refine own_iconst (q := 23) A19 (1 : Int32) d75_22 rfl ?_
  refine own_ishl (q := 24) A19 d75_23 ?_
  refine own_iloadN (q := 25) A19 d75_24 rfl ?_
  refine own_iloadN (q := 26) A19 d75_25 rfl ?_
  refine own_iadd (q := 27) A19 d75_26 ?_
  refine own_static (q := 30) (W := 2) (argsL := [(.int (i + (1 : Int32)))]) (rest := [(.int ((i <<< ((1 : Int32) &&& 31)))), (.ref t)]) A19 (H.k 281 rfl) (H.k 282 rfl) (H.k 242 rfl) (H.k 283 rfl) (by decide) (own_pay (rm_nbl (i + (1 : Int32)) A19.old H B.c B.d) (H.k 283 rfl) (H.k 242 rfl) (by decide) (by decide)) own_nW (Nat.le_of_eq rfl) own_pd25 rfl rfl rfl d75_27 (by decide) (by decide) ?_
  rintro v22 T23 h24 A25 ⟨rfl, rfl⟩
  show own_Run p e below Q m T23 30 #[.val (.ref t), .val (.int i), .val (.int 1), .val (.ref a3), .val (.int 0), .unset] [(.int ((i + (1 : Int32)) <<< ((1 : Int32) &&& 31))), (.int ((i <<< ((1 : Int32) &&& 31)))), (.ref t)]
  refine own_static (q := 33) (W := 0) (argsL := [(.ref t), (.int ((i <<< ((1 : Int32) &&& 31)))), (.int ((i + (1 : Int32)) <<< ((1 : Int32) &&& 31)))]) (rest := []) A25 (H.k 347 rfl) (H.k 138 rfl) (H.k 139 rfl) (H.k 140 rfl) (by decide) (own_pay (rm_cr t kt 2 2 N (i <<< ((1 : Int32) &&& 31)) ((i + (1 : Int32)) <<< ((1 : Int32) &&& 31)) us [.int (StrChars.lo8 chc), .int (StrChars.hi8 chc)] A25.old H f20 P) (H.k 140 rfl) (H.k 139 rfl) (by decide) (by decide)) own_nW (Nat.le_of_eq rfl) own_pd21 rfl rfl rfl d75_30 (by decide) (by decide) ?_
  rintro v32 T33 h34 A35 ⟨t26, k27, rfl, g28, g29, K30, V31⟩
  show own_Run p e below Q m T33 33 #[.val (.ref t), .val (.int i), .val (.int 1), .val (.ref a3), .val (.int 0), .unset] [(.ref t26)]
  have z36 : t ≠ t26 := Nat.ne_of_lt (Nat.lt_of_lt_of_le f20.lt g29)
  have z37 : a3 ≠ t26 := Nat.ne_of_lt (Nat.lt_of_lt_of_le V15.lt g29)
  have f38 := f20.keep K30 nin0
  have f39 := V15.keep K30 nin0
  have K40 := K21.trans K30 all0
  refine own_astore (q := 35) (L' := #[.val (.ref t), .val (.int i), .val (.int 1), .val (.ref a3), .val (.int 0), .val (.ref t26)]) A35 d75_33 rfl rfl ?_
  refine own_aload (q := 37) A35 d75_35 rfl rfl ?_
  refine own_iload (q := 39) A35 d75_37 rfl ?_
  refine own_static (q := 42) (W := 0) (argsL := [(.ref t26), (.int 0)]) (rest := []) A35 (H.k 334 rfl) (H.k 335 rfl) (H.k 242 rfl) (H.k 336 rfl) (by decide) (own_pay (rm_gc t26 k27 2 _ 0 0 chc A35.old H V31 (own_gi_D rfl rfl G0.lo G0.hi)) (H.k 336 rfl) (H.k 242 rfl) (by decide) (by decide)) own_nW (Nat.le_of_eq rfl) own_pd52 rfl rfl rfl d75_39 (by decide) (by decide) ?_
  rintro v41 T42 h43 A44 ⟨rfl, rfl⟩
  show own_Run p e below Q m T42 42 #[.val (.ref t), .val (.int i), .val (.int 1), .val (.ref a3), .val (.int 0), .val (.ref t26)] [(.int chc)]
  refine own_sipush (q := 45) A44 (255 : Int32) d75_42 rfl ?_
  refine own_icmpT (q := 61) A44 d75_45 (show (255 : Int32) < chc from qchc) ?_
  refine own_aload (q := 63) A44 d75_61 rfl rfl ?_
  exact own_retA A44 hQ rfl rfl rfl d75_63 ⟨t26, _, rfl, g28, (Nat.le_trans K21.1 g29), K40, V31⟩
theorem rm_nsU1L (t : Addr) (kt : ClassId) (N : Int32) (us : List Value) (i : Int32) (j0 : Nat) (chc : Int32) (O0 : Old Z n0 h0) (H : own_H Z a0 zc fm) (Kt : Arv Z h0 t kt .byte N us (.int 0)) (B : own_bo N i 1) (G0 : own_gi N us i j0 chc) (P : own_cut 2 2 N (i <<< ((1 : Int32) &&& 31)) ((i + (1 : Int32)) <<< ((1 : Int32) &&& 31)) us [.int (StrChars.lo8 chc), .int (StrChars.hi8 chc)]) (qchc : ¬ (255 : Int32) < chc) :
  own_Met false l Z n0 [] [] ⟨"java/lang/StringUTF16", "newString", "([BII)Ljava/lang/String;"⟩ jdk_52_method_69_code 5 (some (.object "java/lang/String")) [] (own_R 5 3 15 78) #[(.ref t), (.int i), (.int 1)] h0 (fun v h => ∃ (a : Addr), v = some (.ref a) ∧ Keep h0 h [] ∧ own_Str Z h a [chc]) := by
  refine own_ent (a0 := a0) (nm := "newString") (Ls := #[.val (.ref t), .val (.int i), .val (.int 1), .unset, .unset]) own_pn1 O0 EW.nil ?_
  intro p e _ m _ below _ _ T0 Q hQ A0
  refine own_iloadN (q := 1) A0 d74_0 rfl ?_
  refine own_ifcT (q := 8) A0 d74_1 (show ¬ (1 : Int32) = (0 : Int32) from by decide) ?_
  refine own_getS (q := 11) A0 (H.k 340 rfl) Via.refl H.SC d74_8 ?_
  intro T1 A2
  refine own_ifcF (q := 14) A2 d74_11 (show ¬ zc = (0 : Int32) from H.hz) ?_
  refine own_aloadN (q := 15) A2 d74_14 rfl rfl ?_
  refine own_iloadN (q := 16) A2 d74_15 rfl ?_
  refine own_iloadN (q := 17) A2 d74_16 rfl ?_
  refine own_static (q := 20) (W := 0) (argsL := [(.ref t), (.int i), (.int 1)]) (rest := []) A2 (H.k 341 rfl) (H.k 342 rfl) (H.k 242 rfl) (H.k 343 rfl) (by decide) (own_pay (rm_bc_1L t kt N us i j0 chc A2.old H Kt B G0 P qchc) (H.k 343 rfl) (H.k 242 rfl) (by decide) (by decide)) own_nW (Nat.le_of_eq rfl) own_pd21 rfl rfl rfl d74_17 (by decide) (by decide) ?_
  rintro v9 T10 h11 A12 ⟨t3, k4, rfl, g5, g6, K7, V8⟩
  show own_Run p e below Q m T10 20 #[.val (.ref t), .val (.int i), .val (.int 1), .unset, .unset] [(.ref t3)]
  have z13 : t ≠ t3 := Nat.ne_of_lt (Nat.lt_of_lt_of_le Kt.lt g6)
  have f14 := Kt.keep K7 nin0
  have K15 := (Keep.refl h0 []).trans K7 all0
  refine own_astoreN (q := 21) (L' := #[.val (.ref t), .val (.int i), .val (.int 1), .val (.ref t3), .unset]) A12 d74_20 rfl rfl ?_
  refine own_aloadN (q := 22) A12 d74_21 rfl rfl ?_
  refine own_iloadN (q := 23) A12 d74_22 rfl ?_
  refine own_static (q := 26) (W := 0) (argsL := [(.ref t3), (.int 1)]) (rest := []) A12 (H.k 348 rfl) (H.k 248 rfl) (H.k 242 rfl) (H.k 249 rfl) (by decide) (own_pay (rm_cfa1_1 t3 k4 _ A12.old H V8) (H.k 249 rfl) (H.k 242 rfl) (by decide) (by decide)) own_nW (Nat.le_of_eq rfl) own_pd39 rfl rfl rfl d74_23 (by decide) (by decide) ?_
  rintro v16 T17 h18 A19 ⟨rfl, rfl⟩
  show own_Run p e below Q m T17 26 #[.val (.ref t), .val (.int i), .val (.int 1), .val (.ref t3), .unset] [(.int 0)]
  refine own_istore (q := 28) (L' := #[.val (.ref t), .val (.int i), .val (.int 1), .val (.ref t3), .val (.int 0)]) A19 d74_26 rfl ?_
  refine own_newO (q := 31) A19 (H.k 349 rfl) (H.k 11 rfl) (H.k 10 rfl) d74_28 (by decide) (by decide) ?_
  intro T20 h21 a22 g23 g24 A25 E26 X27 D28
  have z29 : t ≠ a22 := Nat.ne_of_lt (Nat.lt_of_lt_of_le f14.lt (Nat.le_of_eq g23))
  have z30 : t3 ≠ a22 := Nat.ne_of_lt (Nat.lt_of_lt_of_le V8.lt (Nat.le_of_eq g23))
  have K31 := K15.ext E26
  have f32 := f14.ext E26
  have f33 := V8.ext E26
  have f34 : Fld Z h21 a22 "java/lang/String" "value" "[B" .null := D28 (Or.inr (H.k 13 rfl)) (ty := (.array .byte)) (by decide)
  have f35 : Fld Z h21 a22 "java/lang/String" "coder" "B" (.int 0) := D28 (Or.inr (H.k 14 rfl)) (ty := .byte) (by decide)
  refine own_dup (q := 32) A25 d74_31 rfl ?_
  refine own_aloadN (q := 33) A25 d74_32 rfl rfl ?_
  refine own_iload (q := 35) A25 d74_33 rfl ?_
  refine own_special (q := 38) (W := 1) (argsL := [(.ref t3), (.int 0)]) (rest := [(.ref a22)]) A25 rfl (H.k 350 rfl) (H.k 253 rfl) (H.k 254 rfl) (by decide) (own_pay (rm_init a22 t3 (0 : Int32) A25.old H X27 f35 f34 g24 (by decide)) (H.k 254 rfl) (H.k 10 rfl) (by decide) (by decide)) own_nW (Nat.le_of_eq rfl) own_pd40 rfl rfl rfl d74_35 (by decide) (by decide) ?_
  rintro v40 T41 h42 A43 ⟨rfl, K36, X37, F38, F39⟩
  show own_Run p e below Q m T41 38 #[.val (.ref t), .val (.int i), .val (.int 1), .val (.ref t3), .val (.int 0)] [(.ref a22)]
  have f44 := f32.keep K36 (ninS z29 nin0)
  have f45 := f33.keep K36 (ninS z30 nin0)
  have K46 := K31.trans K36 (allS (Or.inr (Nat.le_trans K15.1 (Nat.le_of_eq g23))) all0)
  exact own_retA A43 hQ rfl rfl rfl d74_38 ⟨a22, rfl, K46, t3, _, (0 : Int32), (1 : Int32), _, own_X_mk X37 F38 F39 f45, Or.inl ⟨rfl, rfl, rfl, (own_fc qchc (fun _ z => nomatch z))⟩⟩
theorem rm_nsU1U (t : Addr) (kt : ClassId) (N : Int32) (us : List Value) (i : Int32) (j0 : Nat) (chc : Int32) (O0 : Old Z n0 h0) (H : own_H Z a0 zc fm) (Kt : Arv Z h0 t kt .byte N us (.int 0)) (B : own_bo N i 1) (G0 : own_gi N us i j0 chc) (P : own_cut 2 2 N (i <<< ((1 : Int32) &&& 31)) ((i + (1 : Int32)) <<< ((1 : Int32) &&& 31)) us [.int (StrChars.lo8 chc), .int (StrChars.hi8 chc)]) (qchc :  (255 : Int32) < chc) :
  own_Met false l Z n0 [] [] ⟨"java/lang/StringUTF16", "newString", "([BII)Ljava/lang/String;"⟩ jdk_52_method_69_code 5 (some (.object "java/lang/String")) [] (own_R 5 3 15 78) #[(.ref t), (.int i), (.int 1)] h0 (fun v h => ∃ (a : Addr), v = some (.ref a) ∧ Keep h0 h [] ∧ own_Str Z h a [chc]) := by
  refine own_ent (a0 := a0) (nm := "newString") (Ls := #[.val (.ref t), .val (.int i), .val (.int 1), .unset, .unset]) own_pn1 O0 EW.nil ?_
  intro p e _ m _ below _ _ T0 Q hQ A0
  refine own_iloadN (q := 1) A0 d74_0 rfl ?_
  refine own_ifcT (q := 8) A0 d74_1 (show ¬ (1 : Int32) = (0 : Int32) from by decide) ?_
  refine own_getS (q := 11) A0 (H.k 340 rfl) Via.refl H.SC d74_8 ?_
  intro T1 A2
  refine own_ifcF (q := 14) A2 d74_11 (show ¬ zc = (0 : Int32) from H.hz) ?_
  refine own_aloadN (q := 15) A2 d74_14 rfl rfl ?_
  refine own_iloadN (q := 16) A2 d74_15 rfl ?_
  refine own_iloadN (q := 17) A2 d74_16 rfl ?_
  refine own_static (q := 20) (W := 0) (argsL := [(.ref t), (.int i), (.int 1)]) (rest := []) A2 (H.k 341 rfl) (H.k 342 rfl) (H.k 242 rfl) (H.k 343 rfl) (by decide) (own_pay (rm_bc_1U t kt N us i j0 chc A2.old H Kt B G0 P qchc) (H.k 343 rfl) (H.k 242 rfl) (by decide) (by decide)) own_nW (Nat.le_of_eq rfl) own_pd21 rfl rfl rfl d74_17 (by decide) (by decide) ?_
  rintro v9 T10 h11 A12 ⟨t3, k4, rfl, g5, g6, K7, V8⟩
  show own_Run p e below Q m T10 20 #[.val (.ref t), .val (.int i), .val (.int 1), .unset, .unset] [(.ref t3)]
  have z13 : t ≠ t3 := Nat.ne_of_lt (Nat.lt_of_lt_of_le Kt.lt g6)
  have f14 := Kt.keep K7 nin0
  have K15 := (Keep.refl h0 []).trans K7 all0
  refine own_astoreN (q := 21) (L' := #[.val (.ref t), .val (.int i), .val (.int 1), .val (.ref t3), .unset]) A12 d74_20 rfl rfl ?_
  refine own_aloadN (q := 22) A12 d74_21 rfl rfl ?_
  refine own_iloadN (q := 23) A12 d74_22 rfl ?_
  refine own_static (q := 26) (W := 0) (argsL := [(.ref t3), (.int 1)]) (rest := []) A12 (H.k 348 rfl) (H.k 248 rfl) (H.k 242 rfl) (H.k 249 rfl) (by decide) (own_pay (rm_cfa2_1 t3 k4 _ A12.old H V8) (H.k 249 rfl) (H.k 242 rfl) (by decide) (by decide)) own_nW (Nat.le_of_eq rfl) own_pd39 rfl rfl rfl d74_23 (by decide) (by decide) ?_
  rintro v16 T17 h18 A19 ⟨rfl, rfl⟩
  show own_Run p e below Q m T17 26 #[.val (.ref t), .val (.int i), .val (.int 1), .val (.ref t3), .unset] [(.int 1)]
  refine own_istore (q := 28) (L' := #[.val (.ref t), .val (.int i), .val (.int 1), .val (.ref t3), .val (.int 1)]) A19 d74_26 rfl ?_
  refine own_newO (q := 31) A19 (H.k 349 rfl) (H.k 11 rfl) (H.k 10 rfl) d74_28 (by decide) (by decide) ?_
  intro T20 h21 a22 g23 g24 A25 E26 X27 D28
  have z29 : t ≠ a22 := Nat.ne_of_lt (Nat.lt_of_lt_of_le f14.lt (Nat.le_of_eq g23))
  have z30 : t3 ≠ a22 := Nat.ne_of_lt (Nat.lt_of_lt_of_le V8.lt (Nat.le_of_eq g23))
  have K31 := K15.ext E26
  have f32 := f14.ext E26
  have f33 := V8.ext E26
  have f34 : Fld Z h21 a22 "java/lang/String" "value" "[B" .null := D28 (Or.inr (H.k 13 rfl)) (ty := (.array .byte)) (by decide)
  have f35 : Fld Z h21 a22 "java/lang/String" "coder" "B" (.int 0) := D28 (Or.inr (H.k 14 rfl)) (ty := .byte) (by decide)
  refine own_dup (q := 32) A25 d74_31 rfl ?_
  refine own_aloadN (q := 33) A25 d74_32 rfl rfl ?_
  refine own_iload (q := 35) A25 d74_33 rfl ?_
  refine own_special (q := 38) (W := 1) (argsL := [(.ref t3), (.int 1)]) (rest := [(.ref a22)]) A25 rfl (H.k 350 rfl) (H.k 253 rfl) (H.k 254 rfl) (by decide) (own_pay (rm_init a22 t3 (1 : Int32) A25.old H X27 f35 f34 g24 (by decide)) (H.k 254 rfl) (H.k 10 rfl) (by decide) (by decide)) own_nW (Nat.le_of_eq rfl) own_pd40 rfl rfl rfl d74_35 (by decide) (by decide) ?_
  rintro v40 T41 h42 A43 ⟨rfl, K36, X37, F38, F39⟩
  show own_Run p e below Q m T41 38 #[.val (.ref t), .val (.int i), .val (.int 1), .val (.ref t3), .val (.int 1)] [(.ref a22)]
  have f44 := f32.keep K36 (ninS z29 nin0)
  have f45 := f33.keep K36 (ninS z30 nin0)
  have K46 := K31.trans K36 (allS (Or.inr (Nat.le_trans K15.1 (Nat.le_of_eq g23))) all0)
  exact own_retA A43 hQ rfl rfl rfl d74_38 ⟨a22, rfl, K46, t3, _, (1 : Int32), (2 : Int32), _, own_X_mk X37 F38 F39 f45, Or.inr ⟨rfl, rfl, rfl, chc, by simp, qchc⟩⟩
theorem rm_nsU1 (t : Addr) (kt : ClassId) (N : Int32) (us : List Value) (i : Int32) (j0 : Nat) (chc : Int32) (O0 : Old Z n0 h0) (H : own_H Z a0 zc fm) (Kt : Arv Z h0 t kt .byte N us (.int 0)) (B : own_bo N i 1) (G0 : own_gi N us i j0 chc) (P : own_cut 2 2 N (i <<< ((1 : Int32) &&& 31)) ((i + (1 : Int32)) <<< ((1 : Int32) &&& 31)) us [.int (StrChars.lo8 chc), .int (StrChars.hi8 chc)]) :
  own_Met false l Z n0 [] [] ⟨"java/lang/StringUTF16", "newString", "([BII)Ljava/lang/String;"⟩ jdk_52_method_69_code 5 (some (.object "java/lang/String")) [] (own_R 5 3 15 78) #[(.ref t), (.int i), (.int 1)] h0 (fun v h => ∃ (a : Addr), v = some (.ref a) ∧ Keep h0 h [] ∧ own_Str Z h a [chc]) := by
  by_cases qchc : (255 : Int32) < chc
  · exact rm_nsU1U t kt N us i j0 chc O0 H Kt B G0 P qchc
  · exact rm_nsU1L t kt N us i j0 chc O0 H Kt B G0 P qchc
theorem d40_0 : decode jdk_43_method_47_code 0 = .ok (.iload_n 2, 1) := by decide +kernel
theorem d40_1 : decode jdk_43_method_47_code 1 = .ok (.ifCond .ne 6, 3) := by decide +kernel
theorem d40_4 : decode jdk_43_method_47_code 4 = .ok (.ldc 151, 2) := by decide +kernel
theorem d40_6 : decode jdk_43_method_47_code 6 = .ok (.areturn, 1) := by decide +kernel
theorem d40_7 : decode jdk_43_method_47_code 7 = .ok (.new 1, 3) := by decide +kernel
theorem d40_10 : decode jdk_43_method_47_code 10 = .ok (.dup, 1) := by decide +kernel
theorem d40_11 : decode jdk_43_method_47_code 11 = .ok (.aload_n 0, 1) := by decide +kernel
theorem d40_12 : decode jdk_43_method_47_code 12 = .ok (.iload_n 1, 1) := by decide +kernel
theorem d40_13 : decode jdk_43_method_47_code 13 = .ok (.iload_n 1, 1) := by decide +kernel
theorem d40_14 : decode jdk_43_method_47_code 14 = .ok (.iload_n 2, 1) := by decide +kernel
theorem d40_15 : decode jdk_43_method_47_code 15 = .ok (.iadd, 1) := by decide +kernel
theorem d40_16 : decode jdk_43_method_47_code 16 = .ok (.invokestatic 232, 3) := by decide +kernel
theorem d40_19 : decode jdk_43_method_47_code 19 = .ok (.iconst 0, 1) := by decide +kernel
theorem d40_20 : decode jdk_43_method_47_code 20 = .ok (.invokespecial 112, 3) := by decide +kernel
theorem d40_23 : decode jdk_43_method_47_code 23 = .ok (.areturn, 1) := by decide +kernel
theorem rm_nsL1 (t : Addr) (kt : ClassId) (N : Int32) (us : List Value) (i : Int32) (chc : Int32) (O0 : Old Z n0 h0) (H : own_H Z a0 zc fm) (Kt : Arv Z h0 t kt .byte N us (.int 0)) (P : own_cut 1 1 N i (i + (1 : Int32)) us [.int (StrChars.lo8 chc)]) (w1 : ∀ y ∈ [chc], ¬ (255 : Int32) < y) :
  own_Met false l Z n0 [] [] ⟨"java/lang/StringLatin1", "newString", "([BII)Ljava/lang/String;"⟩ jdk_43_method_47_code 3 (some (.object "java/lang/String")) [] (own_R 3 2 14 50) #[(.ref t), (.int i), (.int 1)] h0 (fun v h => ∃ (a : Addr), v = some (.ref a) ∧ Keep h0 h [] ∧ own_Str Z h a [chc]) := by
  refine own_ent (a0 := a0) (nm := "newString") (Ls := #[.val (.ref t), .val (.int i), .val (.int 1)]) own_pn0 O0 EW.nil ?_
  intro p e _ m _ below _ _ T0 Q hQ A0
  refine own_iloadN (q := 1) A0 d40_0 rfl ?_
  refine own_ifcT (q := 7) A0 d40_1 (show ¬ (1 : Int32) = (0 : Int32) from by decide) ?_
  refine own_newO (q := 10) A0 (H.k 250 rfl) (H.k 11 rfl) (H.k 10 rfl) d40_7 (by decide) (by decide) ?_
  intro T1 h2 a3 g4 g5 A6 E7 X8 D9
  have z10 : t ≠ a3 := Nat.ne_of_lt (Nat.lt_of_lt_of_le Kt.lt (Nat.le_of_eq g4))
  have K11 := (Keep.refl h0 []).ext E7
  have f12 := Kt.ext E7
  have f13 : Fld Z h2 a3 "java/lang/String" "value" "[B" .null := D9 (Or.inr (H.k 13 rfl)) (ty := (.array .byte)) (by decide)
  have f14 : Fld Z h2 a3 "java/lang/String" "coder" "B" (.int 0) := D9 (Or.inr (H.k 14 rfl)) (ty := .byte) (by decide)
  refine own_dup (q := 11) A6 d40_10 rfl ?_
  refine own_aloadN (q := 12) A6 d40_11 rfl rfl ?_
  refine own_iloadN (q := 13) A6 d40_12 rfl ?_
  refine own_iloadN (q := 14) A6 d40_13 rfl ?_
  refine own_iloadN (q := 15) A6 d40_14 rfl ?_
  refine own_iadd (q := 16) A6 d40_15 ?_
  refine own_static (q := 19) (W := 2) (argsL := [(.ref t), (.int i), (.int (i + (1 : Int32)))]) (rest := [(.ref a3), (.ref a3)]) A6 (H.k 251 rfl) (H.k 138 rfl) (H.k 139 rfl) (H.k 140 rfl) (by decide) (own_pay (rm_cr t kt 1 1 N i (i + (1 : Int32)) us [.int (StrChars.lo8 chc)] A6.old H f12 P) (H.k 140 rfl) (H.k 139 rfl) (by decide) (by decide)) own_nW (Nat.le_of_eq rfl) own_pd21 rfl rfl rfl d40_16 (by decide) (by decide) ?_
  rintro v21 T22 h23 A24 ⟨t15, k16, rfl, g17, g18, K19, V20⟩
  show own_Run p e below Q m T22 19 #[.val (.ref t), .val (.int i), .val (.int 1)] [(.ref t15), (.ref a3), (.ref a3)]
  have z25 : t ≠ t15 := Nat.ne_of_lt (Nat.lt_of_lt_of_le f12.lt g18)
  have z26 : a3 ≠ t15 := Nat.ne_of_lt (Nat.lt_of_lt_of_le X8.lt g18)
  have f27 := f12.keep K19 nin0
  have f28 := X8.keep K19
  have f29 := f13.keep K19 nin0
  have f30 := f14.keep K19 nin0
  have K31 := K11.trans K19 all0
  refine own_iconst (q := 20) A24 (0 : Int32) d40_19 rfl ?_
  refine own_special (q := 23) (W := 1) (argsL := [(.ref t15), (.int 0)]) (rest := [(.ref a3)]) A24 rfl (H.k 252 rfl) (H.k 253 rfl) (H.k 254 rfl) (by decide) (own_pay (rm_init a3 t15 (0 : Int32) A24.old H f28 f30 f29 g5 (by decide)) (H.k 254 rfl) (H.k 10 rfl) (by decide) (by decide)) own_nW (Nat.le_of_eq rfl) own_pd40 rfl rfl rfl d40_20 (by decide) (by decide) ?_
  rintro v36 T37 h38 A39 ⟨rfl, K32, X33, F34, F35⟩
  show own_Run p e below Q m T37 23 #[.val (.ref t), .val (.int i), .val (.int 1)] [(.ref a3)]
  have f40 := f27.keep K32 (ninS z10 nin0)
  have f41 := V20.keep K32 (ninS (Ne.symm z26) nin0)
  have K42 := K31.trans K32 (allS (Or.inr (Nat.le_trans (Keep.refl h0 []).1 (Nat.le_of_eq g4))) all0)
  exact own_retA A39 hQ rfl rfl rfl d40_23 ⟨a3, rfl, K42, t15, _, (0 : Int32), (1 : Int32), _, own_X_mk X33 F34 F35 f41, Or.inl ⟨rfl, rfl, rfl, w1⟩⟩
theorem rm_b5_2LL (t : Addr) (kt : ClassId) (N : Int32) (us : List Value) (i : Int32) (j0 j1 : Nat) (chc chd : Int32) (d : Addr) (kd : ClassId) (O0 : Old Z n0 h0) (H : own_H Z a0 zc fm) (Kt : Arv Z h0 t kt .byte N us (.int 0)) (B : own_bo N i 2) (G0 : own_gi N us i j0 chc) (G1 : own_gi N us (i + 1) j1 chd) (Kd : Arv Z h0 d kd .byte 2 [.int 0, .int 0] (.int 0)) (gd : n0 ≤ d) (ntd : t ≠ d) (qchc : ¬ (255 : Int32) < chc) (qchd : ¬ (255 : Int32) < chd) :
  own_Met false l Z n0 [] [] ⟨"java/lang/StringUTF16", "compress", "([BI[BII)I"⟩ jdk_52_method_22_code 7 (some .int) [] (own_R 3 0 0 43) #[(.ref t), (.int i), (.ref d), (.int 0), (.int 2)] h0 (fun v h => v = some (.int 2) ∧ Keep h0 h [d] ∧ Arv Z h d kd .byte 2 [.int (StrChars.lo8 chc), .int (StrChars.lo8 chd)] (.int 0)) := by
  refine own_ent (a0 := a0) (nm := "compress") (Ls := #[.val (.ref t), .val (.int i), .val (.ref d), .val (.int 0), .val (.int 2), .unset, .unset]) own_pn1 O0 EW.nil ?_
  intro p e _ m _ below _ _ T0 Q hQ A0
  refine own_iloadN (q := 1) A0 d76_0 rfl ?_
  refine own_iload (q := 3) A0 d76_1 rfl ?_
  refine own_aloadN (q := 4) A0 d76_3 rfl rfl ?_
  refine own_static (q := 7) (W := 0) (argsL := [(.int i), (.int 2), (.ref t)]) (rest := []) A0 (H.k 291 rfl) (H.k 292 rfl) (H.k 242 rfl) (H.k 293 rfl) (by decide) (own_pay (rm_ubo t kt N us i 2 A0.old H Kt B.a B.b) (H.k 293 rfl) (H.k 242 rfl) (by decide) (by decide)) own_nW (Nat.le_of_eq rfl) own_pd47 rfl rfl rfl d76_4 (by decide) (by decide) ?_
  rintro v1 T2 h3 A4 ⟨rfl, rfl⟩
  show own_Run p e below Q m T2 7 #[.val (.ref t), .val (.int i), .val (.ref d), .val (.int 0), .val (.int 2), .unset, .unset] []
  refine own_iconst (q := 8) A4 (0 : Int32) d76_7 rfl ?_
  refine own_istore (q := 10) (L' := #[.val (.ref t), .val (.int i), .val (.ref d), .val (.int 0), .val (.int 2), .val (.int 0), .unset]) A4 d76_8 rfl ?_
  refine own_iload (q := 12) A4 d76_10 rfl ?_
  refine own_iload (q := 14) A4 d76_12 rfl ?_
  refine own_icmpF (q := 17) A4 d76_14 (show (0 : Int32) < (2 : Int32) from by decide) ?_
  refine own_aloadN (q := 18) A4 d76_17 rfl rfl ?_
  refine own_iloadN (q := 19) A4 d76_18 rfl ?_
  refine own_static (q := 22) (W := 0) (argsL := [(.ref t), (.int i)]) (rest := []) A4 (H.k 334 rfl) (H.k 335 rfl) (H.k 242 rfl) (H.k 336 rfl) (by decide) (own_pay (rm_gc t kt N us i j0 chc A4.old H Kt G0) (H.k 336 rfl) (H.k 242 rfl) (by decide) (by decide)) own_nW (Nat.le_of_eq rfl) own_pd52 rfl rfl rfl d76_19 (by decide) (by decide) ?_
  rintro v5 T6 h7 A8 ⟨rfl, rfl⟩
  show own_Run p e below Q m T6 22 #[.val (.ref t), .val (.int i), .val (.ref d), .val (.int 0), .val (.int 2), .val (.int 0), .unset] [(.int chc)]
  refine own_istore (q := 24) (L' := #[.val (.ref t), .val (.int i), .val (.ref d), .val (.int 0), .val (.int 2), .val (.int 0), .val (.int chc)]) A8 d76_22 rfl ?_
  refine own_iload (q := 26) A8 d76_24 rfl ?_
  refine own_sipush (q := 29) A8 (255 : Int32) d76_26 rfl ?_
  refine own_icmpT (q := 35) A8 d76_29 (show ¬ (255 : Int32) < chc from qchc) ?_
  refine own_aloadN (q := 36) A8 d76_35 rfl rfl ?_
  refine own_iloadN (q := 37) A8 d76_36 rfl ?_
  refine own_iload (q := 39) A8 d76_37 rfl ?_
  refine own_i2b (q := 40) A8 d76_39 ?_
  refine own_stBv (q := 41) A8 Kd 0 (by decide) (by decide) (by decide) (Nat.le_of_ble_eq_true rfl) gd (Or.inr (Or.inl rfl)) d76_40 ?_
  intro T9 h10 sl11 A12 W13 X14
  rw [own_narB] at X14
  have f15 : Arv Z h10 d kd .byte (2 : Int32) [(.int (StrChars.lo8 chc)), (.int 0)] (.int 0) := X14
  have K16 := (Keep.refl h0 [d]).wr W13 (Or.inl (by simp))
  have f17 := Kt.other W13 ntd
  have f18 : Arv Z h10 d kd .byte (2 : Int32) [(.int (StrChars.lo8 chc)), (.int 0)] (.int 0) := f15
  refine own_iinc (q := 44) (v := (1 : Int32)) (L' := #[.val (.ref t), .val (.int (i + (1 : Int32))), .val (.ref d), .val (.int 0), .val (.int 2), .val (.int 0), .val (.int chc)]) A12 d76_41 rfl rfl rfl ?_
  refine own_iinc (q := 47) (v := (1 : Int32)) (L' := #[.val (.ref t), .val (.int (i + (1 : Int32))), .val (.ref d), .val (.int ((0 : Int32) + (1 : Int32))), .val (.int 2), .val (.int 0), .val (.int chc)]) A12 d76_44 rfl rfl rfl ?_
  rw [show ((0 : Int32) + (1 : Int32)) = (1 : Int32) from by decide]
  refine own_iinc (q := 50) (v := (1 : Int32)) (L' := #[.val (.ref t), .val (.int (i + (1 : Int32))), .val (.ref d), .val (.int 1), .val (.int 2), .val (.int ((0 : Int32) + (1 : Int32))), .val (.int chc)]) A12 d76_47 rfl rfl rfl ?_
  rw [show ((0 : Int32) + (1 : Int32)) = (1 : Int32) from by decide]
  refine own_goto (q := 10) A12 d76_50 ?_
  refine own_iload (q := 12) A12 d76_10 rfl ?_
  refine own_iload (q := 14) A12 d76_12 rfl ?_
  refine own_icmpF (q := 17) A12 d76_14 (show (1 : Int32) < (2 : Int32) from by decide) ?_
  refine own_aloadN (q := 18) A12 d76_17 rfl rfl ?_
  refine own_iloadN (q := 19) A12 d76_18 rfl ?_
  refine own_static (q := 22) (W := 0) (argsL := [(.ref t), (.int (i + (1 : Int32)))]) (rest := []) A12 (H.k 334 rfl) (H.k 335 rfl) (H.k 242 rfl) (H.k 336 rfl) (by decide) (own_pay (rm_gc t kt N us (i + 1) j1 chd A12.old H f17 G1) (H.k 336 rfl) (H.k 242 rfl) (by decide) (by decide)) own_nW (Nat.le_of_eq rfl) own_pd52 rfl rfl rfl d76_19 (by decide) (by decide) ?_
  rintro v19 T20 h21 A22 ⟨rfl, rfl⟩
  show own_Run p e below Q m T20 22 #[.val (.ref t), .val (.int (i + (1 : Int32))), .val (.ref d), .val (.int 1), .val (.int 2), .val (.int 1), .val (.int chc)] [(.int chd)]
  refine own_istore (q := 24) (L' := #[.val (.ref t), .val (.int (i + (1 : Int32))), .val (.ref d), .val (.int 1), .val (.int 2), .val (.int 1), .val (.int chd)]) A22 d76_22 rfl ?_
  refine own_iload (q := 26) A22 d76_24 rfl ?_
  refine own_sipush (q := 29) A22 (255 : Int32) d76_26 rfl ?_
  refine own_icmpT (q := 35) A22 d76_29 (show ¬ (255 : Int32) < chd from qchd) ?_
  refine own_aloadN (q := 36) A22 d76_35 rfl rfl ?_
  refine own_iloadN (q := 37) A22 d76_36 rfl ?_
  refine own_iload (q := 39) A22 d76_37 rfl ?_
  refine own_i2b (q := 40) A22 d76_39 ?_
  refine own_stBv (q := 41) A22 f18 1 (by decide) (by decide) (by decide) (Nat.le_of_ble_eq_true rfl) gd (Or.inr (Or.inl rfl)) d76_40 ?_
  intro T23 h24 sl25 A26 W27 X28
  rw [own_narB] at X28
  have f29 : Arv Z h24 d kd .byte (2 : Int32) [(.int (StrChars.lo8 chc)), (.int (StrChars.lo8 chd))] (.int 0) := X28
  have K30 := K16.wr W27 (Or.inl (by simp))
  have f31 := f17.other W27 ntd
  have f32 : Arv Z h24 d kd .byte (2 : Int32) [(.int (StrChars.lo8 chc)), (.int (StrChars.lo8 chd))] (.int 0) := f29
  refine own_iinc (q := 44) (v := (1 : Int32)) (L' := #[.val (.ref t), .val (.int ((i + (1 : Int32)) + (1 : Int32))), .val (.ref d), .val (.int 1), .val (.int 2), .val (.int 1), .val (.int chd)]) A26 d76_41 rfl rfl rfl ?_
  refine own_iinc (q := 47) (v := (1 : Int32)) (L' := #[.val (.ref t), .val (.int ((i + (1 : Int32)) + (1 : Int32))), .val (.ref d), .val (.int ((1 : Int32) + (1 : Int32))), .val (.int 2), .val (.int 1), .val (.int chd)]) A26 d76_44 rfl rfl rfl ?_
  rw [show ((1 : Int32) + (1 : Int32)) = (2 : Int32) from by decide]
  refine own_iinc (q := 50) (v := (1 : Int32)) (L' := #[.val (.ref t), .val (.int ((i + (1 : Int32)) + (1 : Int32))), .val (.ref d), .val (.int 2), .val (.int 2), .val (.int ((1 : Int32) + (1 : Int32))), .val (.int chd)]) A26 d76_47 rfl rfl rfl ?_
  rw [show ((1 : Int32) + (1 : Int32)) = (2 : Int32) from by decide]
  refine own_goto (q := 10) A26 d76_50 ?_
  refine own_iload (q := 12) A26 d76_10 rfl ?_
  refine own_iload (q := 14) A26 d76_12 rfl ?_
  refine own_icmpT (q := 53) A26 d76_14 (show ¬ (2 : Int32) < (2 : Int32) from by decide) ?_
  refine own_iload (q := 55) A26 d76_53 rfl ?_
  exact own_retI A26 hQ d76_55 ⟨rfl, K30, f32⟩
theorem rm_bc_2LL (t : Addr) (kt : ClassId) (N : Int32) (us : List Value) (i : Int32) (j0 j1 : Nat) (chc chd : Int32) (O0 : Old Z n0 h0) (H : own_H Z a0 zc fm) (Kt : Arv Z h0 t kt .byte N us (.int 0)) (B : own_bo N i 2) (G0 : own_gi N us i j0 chc) (G1 : own_gi N us (i + 1) j1 chd) (P : own_cut 4 4 N (i <<< ((1 : Int32) &&& 31)) ((i + (2 : Int32)) <<< ((1 : Int32) &&& 31)) us [.int (StrChars.lo8 chc), .int (StrChars.hi8 chc), .int (StrChars.lo8 chd), .int (StrChars.hi8 chd)]) (qchc : ¬ (255 : Int32) < chc) (qchd : ¬ (255 : Int32) < chd) :
  own_Met false l Z n0 [] [] ⟨"java/lang/StringUTF16", "compress", "([BII)[B"⟩ jdk_52_method_17_code 6 (some (.array .byte)) [] (own_R 4 1 2 61) #[(.ref t), (.int i), (.int 2)] h0 (fun v h => ∃ (t : Addr) (k : ClassId), v = some (.ref t) ∧ n0 ≤ t ∧ h0.size ≤ t ∧ Keep h0 h [] ∧ Arv Z h t k .byte 2 [.int (StrChars.lo8 chc), .int (StrChars.lo8 chd)] (.int 0)) := by
  refine own_ent (a0 := a0) (nm := "compress") (Ls := #[.val (.ref t), .val (.int i), .val (.int 2), .unset, .unset, .unset]) own_pn1 O0 EW.nil ?_
  intro p e _ m _ below _ _ T0 Q hQ A0
  refine own_iloadN (q := 1) A0 d75_0 rfl ?_
  refine own_newPv (q := 3) (ty := .byte) (dv := .int 0) A0 rfl rfl (H.k 12 rfl) d75_1 2 (by decide) (by decide) (by decide) (by decide) (by decide) ?_
  intro T1 h2 a3 k4 g5 g6 A7 E8 X9
  have z10 : t ≠ a3 := Nat.ne_of_lt (Nat.lt_of_lt_of_le Kt.lt (Nat.le_of_eq g5))
  have K11 := (Keep.refl h0 []).ext E8
  have f12 := Kt.ext E8
  have f13 : Arv Z h2 a3 k4 .byte (2 : Int32) [(.int 0), (.int 0)] (.int 0) := X9
  refine own_astoreN (q := 4) (L' := #[.val (.ref t), .val (.int i), .val (.int 2), .val (.ref a3), .unset, .unset]) A7 d75_3 rfl rfl ?_
  refine own_aloadN (q := 5) A7 d75_4 rfl rfl ?_
  refine own_iloadN (q := 6) A7 d75_5 rfl ?_
  refine own_aloadN (q := 7) A7 d75_6 rfl rfl ?_
  refine own_iconst (q := 8) A7 (0 : Int32) d75_7 rfl ?_
  refine own_iloadN (q := 9) A7 d75_8 rfl ?_
  refine own_static (q := 12) (W := 0) (argsL := [(.ref t), (.int i), (.ref a3), (.int 0), (.int 2)]) (rest := []) A7 (H.k 344 rfl) (H.k 345 rfl) (H.k 242 rfl) (H.k 346 rfl) (by decide) (own_pay (rm_b5_2LL t kt N us i j0 j1 chc chd a3 k4 A7.old H f12 B G0 G1 f13 g6 z10 qchc qchd) (H.k 346 rfl) (H.k 242 rfl) (by decide) (by decide)) own_nW (Nat.le_of_eq rfl) own_pd53 rfl rfl rfl d75_9 (by decide) (by decide) ?_
  rintro v16 T17 h18 A19 ⟨rfl, K14, V15⟩
  show own_Run p e below Q m T17 12 #[.val (.ref t), .val (.int i), .val (.int 2), .val (.ref a3), .unset, .unset] [(.int 2)]
  have f20 := f12.keep K14 (ninS z10 nin0)
  have K21 := K11.trans K14 (allS (Or.inr (Nat.le_trans (Keep.refl h0 []).1 (Nat.le_of_eq g5))) all0)
  refine own_istore (q := 14) (L' := #[.val (.ref t), .val (.int i), .val (.int 2), .val (.ref a3), .val (.int 2), .unset]) A19 d75_12 rfl ?_
  refine own_iload (q := 16) A19 d75_14 rfl ?_
  refine own_iloadN (q := 17) A19 d75_16 rfl ?_
  refine own_icmpT (q := 64) A19 d75_17 (show (2 : Int32) = (2 : Int32) from by decide) ?_
  refine own_aloadN (q := 65) A19 d75_64 rfl rfl ?_
  exact own_retA A19 hQ rfl rfl rfl d75_65 ⟨a3, _, rfl, g6, (Nat.le_trans (Keep.refl h0 []).1 (Nat.le_of_eq g5)), K21, V15⟩
theorem rm_b5_2LU (t : Addr) (kt : ClassId) (N : Int32) (us : List Value) (i : Int32) (j0 j1 : Nat) (chc chd : Int32) (d : Addr) (kd : ClassId) (O0 : Old Z n0 h0) (H : own_H Z a0 zc fm) (Kt : Arv Z h0 t kt .byte N us (.int 0)) (B : own_bo N i 2) (G0 : own_gi N us i j0 chc) (G1 : own_gi N us (i + 1) j1 chd) (Kd : Arv Z h0 d kd .byte 2 [.int 0, .int 0] (.int 0)) (gd : n0 ≤ d) (ntd : t ≠ d) (qchc : ¬ (255 : Int32) < chc) (qchd :  (255 : Int32) < chd) :
  own_Met false l Z n0 [] [] ⟨"java/lang/StringUTF16", "compress", "([BI[BII)I"⟩ jdk_52_method_22_code 7 (some .int) [] (own_R 3 0 0 43) #[(.ref t), (.int i), (.ref d), (.int 0), (.int 2)] h0 (fun v h => v = some (.int 1) ∧ Keep h0 h [d] ∧ Arv Z h d kd .byte 2 [.int (StrChars.lo8 chc), .int 0] (.int 0)) := by
  refine own_ent (a0 := a0) (nm := "compress") (Ls := #[.val (.ref t), .val (.int i), .val (.ref d), .val (.int 0), .val (.int 2), .unset, .unset]) own_pn1 O0 EW.nil ?_
  intro p e _ m _ below _ _ T0 Q hQ A0
  refine own_iloadN (q := 1) A0 d76_0 rfl ?_
  refine own_iload (q := 3) A0 d76_1 rfl ?_
  refine own_aloadN (q := 4) A0 d76_3 rfl rfl ?_
  refine own_static (q := 7) (W := 0) (argsL := [(.int i), (.int 2), (.ref t)]) (rest := []) A0 (H.k 291 rfl) (H.k 292 rfl) (H.k 242 rfl) (H.k 293 rfl) (by decide) (own_pay (rm_ubo t kt N us i 2 A0.old H Kt B.a B.b) (H.k 293 rfl) (H.k 242 rfl) (by decide) (by decide)) own_nW (Nat.le_of_eq rfl) own_pd47 rfl rfl rfl d76_4 (by decide) (by decide) ?_
  rintro v1 T2 h3 A4 ⟨rfl, rfl⟩
  show own_Run p e below Q m T2 7 #[.val (.ref t), .val (.int i), .val (.ref d), .val (.int 0), .val (.int 2), .unset, .unset] []
  refine own_iconst (q := 8) A4 (0 : Int32) d76_7 rfl ?_
  refine own_istore (q := 10) (L' := #[.val (.ref t), .val (.int i), .val (.ref d), .val (.int 0), .val (.int 2), .val (.int 0), .unset]) A4 d76_8 rfl ?_
  refine own_iload (q := 12) A4 d76_10 rfl ?_
  refine own_iload (q := 14) A4 d76_12 rfl ?_
  refine own_icmpF (q := 17) A4 d76_14 (show (0 : Int32) < (2 : Int32) from by decide) ?_
  refine own_aloadN (q := 18) A4 d76_17 rfl rfl ?_
  refine own_iloadN (q := 19) A4 d76_18 rfl ?_
  refine own_static (q := 22) (W := 0) (argsL := [(.ref t), (.int i)]) (rest := []) A4 (H.k 334 rfl) (H.k 335 rfl) (H.k 242 rfl) (H.k 336 rfl) (by decide) (own_pay (rm_gc t kt N us i j0 chc A4.old H Kt G0) (H.k 336 rfl) (H.k 242 rfl) (by decide) (by decide)) own_nW (Nat.le_of_eq rfl) own_pd52 rfl rfl rfl d76_19 (by decide) (by decide) ?_
  rintro v5 T6 h7 A8 ⟨rfl, rfl⟩
  show own_Run p e below Q m T6 22 #[.val (.ref t), .val (.int i), .val (.ref d), .val (.int 0), .val (.int 2), .val (.int 0), .unset] [(.int chc)]
  refine own_istore (q := 24) (L' := #[.val (.ref t), .val (.int i), .val (.ref d), .val (.int 0), .val (.int 2), .val (.int 0), .val (.int chc)]) A8 d76_22 rfl ?_
  refine own_iload (q := 26) A8 d76_24 rfl ?_
  refine own_sipush (q := 29) A8 (255 : Int32) d76_26 rfl ?_
  refine own_icmpT (q := 35) A8 d76_29 (show ¬ (255 : Int32) < chc from qchc) ?_
  refine own_aloadN (q := 36) A8 d76_35 rfl rfl ?_
  refine own_iloadN (q := 37) A8 d76_36 rfl ?_
  refine own_iload (q := 39) A8 d76_37 rfl ?_
  refine own_i2b (q := 40) A8 d76_39 ?_
  refine own_stBv (q := 41) A8 Kd 0 (by decide) (by decide) (by decide) (Nat.le_of_ble_eq_true rfl) gd (Or.inr (Or.inl rfl)) d76_40 ?_
  intro T9 h10 sl11 A12 W13 X14
  rw [own_narB] at X14
  have f15 : Arv Z h10 d kd .byte (2 : Int32) [(.int (StrChars.lo8 chc)), (.int 0)] (.int 0) := X14
  have K16 := (Keep.refl h0 [d]).wr W13 (Or.inl (by simp))
  have f17 := Kt.other W13 ntd
  have f18 : Arv Z h10 d kd .byte (2 : Int32) [(.int (StrChars.lo8 chc)), (.int 0)] (.int 0) := f15
  refine own_iinc (q := 44) (v := (1 : Int32)) (L' := #[.val (.ref t), .val (.int (i + (1 : Int32))), .val (.ref d), .val (.int 0), .val (.int 2), .val (.int 0), .val (.int chc)]) A12 d76_41 rfl rfl rfl ?_
  refine own_iinc (q := 47) (v := (1 : Int32)) (L' := #[.val (.ref t), .val (.int (i + (1 : Int32))), .val (.ref d), .val (.int ((0 : Int32) + (1 : Int32))), .val (.int 2), .val (.int 0), .val (.int chc)]) A12 d76_44 rfl rfl rfl ?_
  rw [show ((0 : Int32) + (1 : Int32)) = (1 : Int32) from by decide]
  refine own_iinc (q := 50) (v := (1 : Int32)) (L' := #[.val (.ref t), .val (.int (i + (1 : Int32))), .val (.ref d), .val (.int 1), .val (.int 2), .val (.int ((0 : Int32) + (1 : Int32))), .val (.int chc)]) A12 d76_47 rfl rfl rfl ?_
  rw [show ((0 : Int32) + (1 : Int32)) = (1 : Int32) from by decide]
  refine own_goto (q := 10) A12 d76_50 ?_
  refine own_iload (q := 12) A12 d76_10 rfl ?_
  refine own_iload (q := 14) A12 d76_12 rfl ?_
  refine own_icmpF (q := 17) A12 d76_14 (show (1 : Int32) < (2 : Int32) from by decide) ?_
  refine own_aloadN (q := 18) A12 d76_17 rfl rfl ?_
  refine own_iloadN (q := 19) A12 d76_18 rfl ?_
  refine own_static (q := 22) (W := 0) (argsL := [(.ref t), (.int (i + (1 : Int32)))]) (rest := []) A12 (H.k 334 rfl) (H.k 335 rfl) (H.k 242 rfl) (H.k 336 rfl) (by decide) (own_pay (rm_gc t kt N us (i + 1) j1 chd A12.old H f17 G1) (H.k 336 rfl) (H.k 242 rfl) (by decide) (by decide)) own_nW (Nat.le_of_eq rfl) own_pd52 rfl rfl rfl d76_19 (by decide) (by decide) ?_
  rintro v19 T20 h21 A22 ⟨rfl, rfl⟩
  show own_Run p e below Q m T20 22 #[.val (.ref t), .val (.int (i + (1 : Int32))), .val (.ref d), .val (.int 1), .val (.int 2), .val (.int 1), .val (.int chc)] [(.int chd)]
  refine own_istore (q := 24) (L' := #[.val (.ref t), .val (.int (i + (1 : Int32))), .val (.ref d), .val (.int 1), .val (.int 2), .val (.int 1), .val (.int chd)]) A22 d76_22 rfl ?_
  refine own_iload (q := 26) A22 d76_24 rfl ?_
  refine own_sipush (q := 29) A22 (255 : Int32) d76_26 rfl ?_
  refine own_icmpF (q := 32) A22 d76_29 (show (255 : Int32) < chd from qchd) ?_
  refine own_iload (q := 34) A22 d76_32 rfl ?_
  exact own_retI A22 hQ d76_34 ⟨rfl, K16, f18⟩
theorem rm_bc_2LU (t : Addr) (kt : ClassId) (N : Int32) (us : List Value) (i : Int32) (j0 j1 : Nat) (chc chd : Int32) (O0 : Old Z n0 h0) (H : own_H Z a0 zc fm) (Kt : Arv Z h0 t kt .byte N us (.int 0)) (B : own_bo N i 2) (G0 : own_gi N us i j0 chc) (G1 : own_gi N us (i + 1) j1 chd) (P : own_cut 4 4 N (i <<< ((1 : Int32) &&& 31)) ((i + (2 : Int32)) <<< ((1 : Int32) &&& 31)) us [.int (StrChars.lo8 chc), .int (StrChars.hi8 chc), .int (StrChars.lo8 chd), .int (StrChars.hi8 chd)]) (qchc : ¬ (255 : Int32) < chc) (qchd :  (255 : Int32) < chd) :
  own_Met false l Z n0 [] [] ⟨"java/lang/StringUTF16", "compress", "([BII)[B"⟩ jdk_52_method_17_code 6 (some (.array .byte)) [] (own_R 4 2 12 61) #[(.ref t), (.int i), (.int 2)] h0 (fun v h => ∃ (t : Addr) (k : ClassId), v = some (.ref t) ∧ n0 ≤ t ∧ h0.size ≤ t ∧ Keep h0 h [] ∧ Arv Z h t k .byte 4 [.int (StrChars.lo8 chc), .int (StrChars.hi8 chc), .int (StrChars.lo8 chd), .int (StrChars.hi8 chd)] (.int 0)) := by
  refine own_ent (a0 := a0) (nm := "compress") (Ls := #[.val (.ref t), .val (.int i), .val (.int 2), .unset, .unset, .unset]) own_pn1 O0 EW.nil ?_
  intro p e _ m _ below _ _ T0 Q hQ A0
  refine own_iloadN (q := 1) A0 d75_0 rfl ?_
  refine own_newPv (q := 3) (ty := .byte) (dv := .int 0) A0 rfl rfl (H.k 12 rfl) d75_1 2 (by decide) (by decide) (by decide) (by decide) (by decide) ?_
  intro T1 h2 a3 k4 g5 g6 A7 E8 X9
  have z10 : t ≠ a3 := Nat.ne_of_lt (Nat.lt_of_lt_of_le Kt.lt (Nat.le_of_eq g5))
  have K11 := (Keep.refl h0 []).ext E8
  have f12 := Kt.ext E8
  have f13 : Arv Z h2 a3 k4 .byte (2 : Int32) [(.int 0), (.int 0)] (.int 0) := X9
  refine own_astoreN (q := 4) (L' := #[.val (.ref t), .val (.int i), .val (.int 2), .val (.ref a3), .unset, .unset]) A7 d75_3 rfl rfl ?_
  refine own_aloadN (q := 5) A7 d75_4 rfl rfl ?_
  refine own_iloadN (q := 6) A7 d75_5 rfl ?_
  refine own_aloadN (q := 7) A7 d75_6 rfl rfl ?_
  refine own_iconst (q := 8) A7 (0 : Int32) d75_7 rfl ?_
  refine own_iloadN (q := 9) A7 d75_8 rfl ?_
  refine own_static (q := 12) (W := 0) (argsL := [(.ref t), (.int i), (.ref a3), (.int 0), (.int 2)]) (rest := []) A7 (H.k 344 rfl) (H.k 345 rfl) (H.k 242 rfl) (H.k 346 rfl) (by decide) (own_pay (rm_b5_2LU t kt N us i j0 j1 chc chd a3 k4 A7.old H f12 B G0 G1 f13 g6 z10 qchc qchd) (H.k 346 rfl) (H.k 242 rfl) (by decide) (by decide)) own_nW (Nat.le_of_eq rfl) own_pd53 rfl rfl rfl d75_9 (by decide) (by decide) ?_
  rintro v16 T17 h18 A19 ⟨rfl, K14, V15⟩
  show own_Run p e below Q m T17 12 #[.val (.ref t), .val (.int i), .val (.int 2), .val (.ref a3), .unset, .unset] [(.int 1)]
  have f20 := f12.keep K14 (ninS z10 nin0)
  have K21 := K11.trans K14 (allS (Or.inr (Nat.le_trans (Keep.refl h0 []).1 (Nat.le_of_eq g5))) all0)
  refine own_istore (q := 14) (L' := #[.val (.ref t), .val (.int i), .val (.int 2), .val (.ref a3), .val (.int 1), .unset]) A19 d75_12 rfl ?_
  refine own_iload (q := 16) A19 d75_14 rfl ?_
  refine own_iloadN (q := 17) A19 d75_16 rfl ?_
  refine own_icmpF (q := 20) A19 d75_17 (show ¬ (1 : Int32) = (2 : Int32) from by decide) ?_
  refine own_aloadN (q := 21) A19 d75_20 rfl rfl ?_
  refine own_iloadN (q := 22) A19 d75_21 rfl ?_
  refine own_iconst (q := 23) A19 (1 : Int32) d75_22 rfl ?_
  refine own_ishl (q := 24) A19 d75_23 ?_
  refine own_iloadN (q := 25) A19 d75_24 rfl ?_
  refine own_iloadN (q := 26) A19 d75_25 rfl ?_
  refine own_iadd (q := 27) A19 d75_26 ?_
  refine own_static (q := 30) (W := 2) (argsL := [(.int (i + (2 : Int32)))]) (rest := [(.int ((i <<< ((1 : Int32) &&& 31)))), (.ref t)]) A19 (H.k 281 rfl) (H.k 282 rfl) (H.k 242 rfl) (H.k 283 rfl) (by decide) (own_pay (rm_nbl (i + (2 : Int32)) A19.old H B.c B.d) (H.k 283 rfl) (H.k 242 rfl) (by decide) (by decide)) own_nW (Nat.le_of_eq rfl) own_pd25 rfl rfl rfl d75_27 (by decide) (by decide) ?_
  rintro v22 T23 h24 A25 ⟨rfl, rfl⟩
  show own_Run p e below Q m T23 30 #[.val (.ref t), .val (.int i), .val (.int 2), .val (.ref a3), .val (.int 1), .unset] [(.int ((i + (2 : Int32)) <<< ((1 : Int32) &&& 31))), (.int ((i <<< ((1 : Int32) &&& 31)))), (.ref t)]
  refine own_static (q := 33) (W := 0) (argsL := [(.ref t), (.int ((i <<< ((1 : Int32) &&& 31)))), (.int ((i + (2 : Int32)) <<< ((1 : Int32) &&& 31)))]) (rest := []) A25 (H.k 347 rfl) (H.k 138 rfl) (H.k 139 rfl) (H.k 140 rfl) (by decide) (own_pay (rm_cr t kt 4 4 N (i <<< ((1 : Int32) &&& 31)) ((i + (2 : Int32)) <<< ((1 : Int32) &&& 31)) us [.int (StrChars.lo8 chc), .int (StrChars.hi8 chc), .int (StrChars.lo8 chd), .int (StrChars.hi8 chd)] A25.old H f20 P) (H.k 140 rfl) (H.k 139 rfl) (by decide) (by decide)) own_nW (Nat.le_of_eq rfl) own_pd21 rfl rfl rfl d75_30 (by decide) (by decide) ?_
  rintro v32 T33 h34 A35 ⟨t26, k27, rfl, g28, g29, K30, V31⟩
  show own_Run p e below Q m T33 33 #[.val (.ref t), .val (.int i), .val (.int 2), .val (.ref a3), .val (.int 1), .unset] [(.ref t26)]
  have z36 : t ≠ t26 := Nat.ne_of_lt (Nat.lt_of_lt_of_le f20.lt g29)
  have z37 : a3 ≠ t26 := Nat.ne_of_lt (Nat.lt_of_lt_of_le V15.lt g29)
  have f38 := f20.keep K30 nin0
  have f39 := V15.keep K30 nin0
  have K40 := K21.trans K30 all0
  refine own_astore (q := 35) (L' := #[.val (.ref t), .val (.int i), .val (.int 2), .val (.ref a3), .val (.int 1), .val (.ref t26)]) A35 d75_33 rfl rfl ?_
  refine own_aload (q := 37) A35 d75_35 rfl rfl ?_
  refine own_iload (q := 39) A35 d75_37 rfl ?_
  refine own_static (q := 42) (W := 0) (argsL := [(.ref t26), (.int 1)]) (rest := []) A35 (H.k 334 rfl) (H.k 335 rfl) (H.k 242 rfl) (H.k 336 rfl) (by decide) (own_pay (rm_gc t26 k27 4 _ 1 2 chd A35.old H V31 (own_gi_D rfl rfl G1.lo G1.hi)) (H.k 336 rfl) (H.k 242 rfl) (by decide) (by decide)) own_nW (Nat.le_of_eq rfl) own_pd52 rfl rfl rfl d75_39 (by decide) (by decide) ?_
  rintro v41 T42 h43 A44 ⟨rfl, rfl⟩
  show own_Run p e below Q m T42 42 #[.val (.ref t), .val (.int i), .val (.int 2), .val (.ref a3), .val (.int 1), .val (.ref t26)] [(.int chd)]
  refine own_sipush (q := 45) A44 (255 : Int32) d75_42 rfl ?_
  refine own_icmpT (q := 61) A44 d75_45 (show (255 : Int32) < chd from qchd) ?_
  refine own_aload (q := 63) A44 d75_61 rfl rfl ?_
  exact own_retA A44 hQ rfl rfl rfl d75_63 ⟨t26, _, rfl, g28, (Nat.le_trans K21.1 g29), K40, V31⟩
theorem rm_b5_2UX (t : Addr) (kt : ClassId) (N : Int32) (us : List Value) (i : Int32) (j0 j1 : Nat) (chc chd : Int32) (d : Addr) (kd : ClassId) (O0 : Old Z n0 h0) (H : own_H Z a0 zc fm) (Kt : Arv Z h0 t kt .byte N us (.int 0)) (B : own_bo N i 2) (G0 : own_gi N us i j0 chc) (G1 : own_gi N us (i + 1) j1 chd) (Kd : Arv Z h0 d kd .byte 2 [.int 0, .int 0] (.int 0)) (gd : n0 ≤ d) (ntd : t ≠ d) (qchc :  (255 : Int32) < chc) :
  own_Met false l Z n0 [] [] ⟨"java/lang/StringUTF16", "compress", "([BI[BII)I"⟩ jdk_52_method_22_code 7 (some .int) [] (own_R 3 0 0 43) #[(.ref t), (.int i), (.ref d), (.int 0), (.int 2)] h0 (fun v h => v = some (.int 0) ∧ Keep h0 h [d] ∧ Arv Z h d kd .byte 2 [.int 0, .int 0] (.int 0)) := by
  refine own_ent (a0 := a0) (nm := "compress") (Ls := #[.val (.ref t), .val (.int i), .val (.ref d), .val (.int 0), .val (.int 2), .unset, .unset]) own_pn1 O0 EW.nil ?_
  intro p e _ m _ below _ _ T0 Q hQ A0
  refine own_iloadN (q := 1) A0 d76_0 rfl ?_
  refine own_iload (q := 3) A0 d76_1 rfl ?_
  refine own_aloadN (q := 4) A0 d76_3 rfl rfl ?_
  refine own_static (q := 7) (W := 0) (argsL := [(.int i), (.int 2), (.ref t)]) (rest := []) A0 (H.k 291 rfl) (H.k 292 rfl) (H.k 242 rfl) (H.k 293 rfl) (by decide) (own_pay (rm_ubo t kt N us i 2 A0.old H Kt B.a B.b) (H.k 293 rfl) (H.k 242 rfl) (by decide) (by decide)) own_nW (Nat.le_of_eq rfl) own_pd47 rfl rfl rfl d76_4 (by decide) (by decide) ?_
  rintro v1 T2 h3 A4 ⟨rfl, rfl⟩
  show own_Run p e below Q m T2 7 #[.val (.ref t), .val (.int i), .val (.ref d), .val (.int 0), .val (.int 2), .unset, .unset] []
  refine own_iconst (q := 8) A4 (0 : Int32) d76_7 rfl ?_
  refine own_istore (q := 10) (L' := #[.val (.ref t), .val (.int i), .val (.ref d), .val (.int 0), .val (.int 2), .val (.int 0), .unset]) A4 d76_8 rfl ?_
  refine own_iload (q := 12) A4 d76_10 rfl ?_
  refine own_iload (q := 14) A4 d76_12 rfl ?_
  refine own_icmpF (q := 17) A4 d76_14 (show (0 : Int32) < (2 : Int32) from by decide) ?_
  refine own_aloadN (q := 18) A4 d76_17 rfl rfl ?_
  refine own_iloadN (q := 19) A4 d76_18 rfl ?_
  refine own_static (q := 22) (W := 0) (argsL := [(.ref t), (.int i)]) (rest := []) A4 (H.k 334 rfl) (H.k 335 rfl) (H.k 242 rfl) (H.k 336 rfl) (by decide) (own_pay (rm_gc t kt N us i j0 chc A4.old H Kt G0) (H.k 336 rfl) (H.k 242 rfl) (by decide) (by decide)) own_nW (Nat.le_of_eq rfl) own_pd52 rfl rfl rfl d76_19 (by decide) (by decide) ?_
  rintro v5 T6 h7 A8 ⟨rfl, rfl⟩
  show own_Run p e below Q m T6 22 #[.val (.ref t), .val (.int i), .val (.ref d), .val (.int 0), .val (.int 2), .val (.int 0), .unset] [(.int chc)]
  refine own_istore (q := 24) (L' := #[.val (.ref t), .val (.int i), .val (.ref d), .val (.int 0), .val (.int 2), .val (.int 0), .val (.int chc)]) A8 d76_22 rfl ?_
  refine own_iload (q := 26) A8 d76_24 rfl ?_
  refine own_sipush (q := 29) A8 (255 : Int32) d76_26 rfl ?_
  refine own_icmpF (q := 32) A8 d76_29 (show (255 : Int32) < chc from qchc) ?_
  refine own_iload (q := 34) A8 d76_32 rfl ?_
  exact own_retI A8 hQ d76_34 ⟨rfl, (Keep.refl h0 [d]), Kd⟩
theorem rm_bc_2UX (t : Addr) (kt : ClassId) (N : Int32) (us : List Value) (i : Int32) (j0 j1 : Nat) (chc chd : Int32) (O0 : Old Z n0 h0) (H : own_H Z a0 zc fm) (Kt : Arv Z h0 t kt .byte N us (.int 0)) (B : own_bo N i 2) (G0 : own_gi N us i j0 chc) (G1 : own_gi N us (i + 1) j1 chd) (P : own_cut 4 4 N (i <<< ((1 : Int32) &&& 31)) ((i + (2 : Int32)) <<< ((1 : Int32) &&& 31)) us [.int (StrChars.lo8 chc), .int (StrChars.hi8 chc), .int (StrChars.lo8 chd), .int (StrChars.hi8 chd)]) (qchc :  (255 : Int32) < chc) :
  own_Met false l Z n0 [] [] ⟨"java/lang/StringUTF16", "compress", "([BII)[B"⟩ jdk_52_method_17_code 6 (some (.array .byte)) [] (own_R 4 2 12 61) #[(.ref t), (.int i), (.int 2)] h0 (fun v h => ∃ (t : Addr) (k : ClassId), v = some (.ref t) ∧ n0 ≤ t ∧ h0.size ≤ t ∧ Keep h0 h [] ∧ Arv Z h t k .byte 4 [.int (StrChars.lo8 chc), .int (StrChars.hi8 chc), .int (StrChars.lo8 chd), .int (StrChars.hi8 chd)] (.int 0)) := by
  refine own_ent (a0 := a0) (nm := "compress") (Ls := #[.val (.ref t), .val (.int i), .val (.int 2), .unset, .unset, .unset]) own_pn1 O0 EW.nil ?_
  intro p e _ m _ below _ _ T0 Q hQ A0
  refine own_iloadN (q := 1) A0 d75_0 rfl ?_
  refine own_newPv (q := 3) (ty := .byte) (dv := .int 0) A0 rfl rfl (H.k 12 rfl) d75_1 2 (by decide) (by decide) (by decide) (by decide) (by decide) ?_
  intro T1 h2 a3 k4 g5 g6 A7 E8 X9
  have z10 : t ≠ a3 := Nat.ne_of_lt (Nat.lt_of_lt_of_le Kt.lt (Nat.le_of_eq g5))
  have K11 := (Keep.refl h0 []).ext E8
  have f12 := Kt.ext E8
  have f13 : Arv Z h2 a3 k4 .byte (2 : Int32) [(.int 0), (.int 0)] (.int 0) := X9
  refine own_astoreN (q := 4) (L' := #[.val (.ref t), .val (.int i), .val (.int 2), .val (.ref a3), .unset, .unset]) A7 d75_3 rfl rfl ?_
  refine own_aloadN (q := 5) A7 d75_4 rfl rfl ?_
  refine own_iloadN (q := 6) A7 d75_5 rfl ?_
  refine own_aloadN (q := 7) A7 d75_6 rfl rfl ?_
  refine own_iconst (q := 8) A7 (0 : Int32) d75_7 rfl ?_
  refine own_iloadN (q := 9) A7 d75_8 rfl ?_
  refine own_static (q := 12) (W := 0) (argsL := [(.ref t), (.int i), (.ref a3), (.int 0), (.int 2)]) (rest := []) A7 (H.k 344 rfl) (H.k 345 rfl) (H.k 242 rfl) (H.k 346 rfl) (by decide) (own_pay (rm_b5_2UX t kt N us i j0 j1 chc chd a3 k4 A7.old H f12 B G0 G1 f13 g6 z10 qchc) (H.k 346 rfl) (H.k 242 rfl) (by decide) (by decide)) own_nW (Nat.le_of_eq rfl) own_pd53 rfl rfl rfl d75_9 (by decide) (by decide) ?_
  rintro v16 T17 h18 A19 ⟨rfl, K14, V15⟩
  show own_Run p e below Q m T17 12 #[.val (.ref t), .val (.int i), .val (.int 2), .val (.ref a3), .unset, .unset] [(.int 0)]
  have f20 := f12.keep K14 (ninS z10 nin0)
  have K21 := K11.trans K14 (allS (Or.inr (Nat.le_trans (Keep.refl h0 []).1 (Nat.le_of_eq g5))) all0)
  refine own_istore (q := 14) (L' := #[.val (.ref t), .val (.int i), .val (.int 2), .val (.ref a3), .val (.int 0), .unset]) A19 d75_12 rfl ?_
  refine own_iload (q := 16) A19 d75_14 rfl ?_
  refine own_iloadN (q := 17) A19 d75_16 rfl ?_
  refine own_icmpF (q := 20) A19 d75_17 (show ¬ (0 : Int32) = (2 : Int32) from by decide) ?_
  refine own_aloadN (q := 21) A19 d75_20 rfl rfl ?_
  refine own_iloadN (q := 22) A19 d75_21 rfl ?_
  refine own_iconst (q := 23) A19 (1 : Int32) d75_22 rfl ?_
  refine own_ishl (q := 24) A19 d75_23 ?_
  refine own_iloadN (q := 25) A19 d75_24 rfl ?_
  refine own_iloadN (q := 26) A19 d75_25 rfl ?_
  refine own_iadd (q := 27) A19 d75_26 ?_
  refine own_static (q := 30) (W := 2) (argsL := [(.int (i + (2 : Int32)))]) (rest := [(.int ((i <<< ((1 : Int32) &&& 31)))), (.ref t)]) A19 (H.k 281 rfl) (H.k 282 rfl) (H.k 242 rfl) (H.k 283 rfl) (by decide) (own_pay (rm_nbl (i + (2 : Int32)) A19.old H B.c B.d) (H.k 283 rfl) (H.k 242 rfl) (by decide) (by decide)) own_nW (Nat.le_of_eq rfl) own_pd25 rfl rfl rfl d75_27 (by decide) (by decide) ?_
  rintro v22 T23 h24 A25 ⟨rfl, rfl⟩
  show own_Run p e below Q m T23 30 #[.val (.ref t), .val (.int i), .val (.int 2), .val (.ref a3), .val (.int 0), .unset] [(.int ((i + (2 : Int32)) <<< ((1 : Int32) &&& 31))), (.int ((i <<< ((1 : Int32) &&& 31)))), (.ref t)]
  refine own_static (q := 33) (W := 0) (argsL := [(.ref t), (.int ((i <<< ((1 : Int32) &&& 31)))), (.int ((i + (2 : Int32)) <<< ((1 : Int32) &&& 31)))]) (rest := []) A25 (H.k 347 rfl) (H.k 138 rfl) (H.k 139 rfl) (H.k 140 rfl) (by decide) (own_pay (rm_cr t kt 4 4 N (i <<< ((1 : Int32) &&& 31)) ((i + (2 : Int32)) <<< ((1 : Int32) &&& 31)) us [.int (StrChars.lo8 chc), .int (StrChars.hi8 chc), .int (StrChars.lo8 chd), .int (StrChars.hi8 chd)] A25.old H f20 P) (H.k 140 rfl) (H.k 139 rfl) (by decide) (by decide)) own_nW (Nat.le_of_eq rfl) own_pd21 rfl rfl rfl d75_30 (by decide) (by decide) ?_
  rintro v32 T33 h34 A35 ⟨t26, k27, rfl, g28, g29, K30, V31⟩
  show own_Run p e below Q m T33 33 #[.val (.ref t), .val (.int i), .val (.int 2), .val (.ref a3), .val (.int 0), .unset] [(.ref t26)]
  have z36 : t ≠ t26 := Nat.ne_of_lt (Nat.lt_of_lt_of_le f20.lt g29)
  have z37 : a3 ≠ t26 := Nat.ne_of_lt (Nat.lt_of_lt_of_le V15.lt g29)
  have f38 := f20.keep K30 nin0
  have f39 := V15.keep K30 nin0
  have K40 := K21.trans K30 all0
  refine own_astore (q := 35) (L' := #[.val (.ref t), .val (.int i), .val (.int 2), .val (.ref a3), .val (.int 0), .val (.ref t26)]) A35 d75_33 rfl rfl ?_
  refine own_aload (q := 37) A35 d75_35 rfl rfl ?_
  refine own_iload (q := 39) A35 d75_37 rfl ?_
  refine own_static (q := 42) (W := 0) (argsL := [(.ref t26), (.int 0)]) (rest := []) A35 (H.k 334 rfl) (H.k 335 rfl) (H.k 242 rfl) (H.k 336 rfl) (by decide) (own_pay (rm_gc t26 k27 4 _ 0 0 chc A35.old H V31 (own_gi_D rfl rfl G0.lo G0.hi)) (H.k 336 rfl) (H.k 242 rfl) (by decide) (by decide)) own_nW (Nat.le_of_eq rfl) own_pd52 rfl rfl rfl d75_39 (by decide) (by decide) ?_
  rintro v41 T42 h43 A44 ⟨rfl, rfl⟩
  show own_Run p e below Q m T42 42 #[.val (.ref t), .val (.int i), .val (.int 2), .val (.ref a3), .val (.int 0), .val (.ref t26)] [(.int chc)]
  refine own_sipush (q := 45) A44 (255 : Int32) d75_42 rfl ?_
  refine own_icmpT (q := 61) A44 d75_45 (show (255 : Int32) < chc from qchc) ?_
  refine own_aload (q := 63) A44 d75_61 rfl rfl ?_
  exact own_retA A44 hQ rfl rfl rfl d75_63 ⟨t26, _, rfl, g28, (Nat.le_trans K21.1 g29), K40, V31⟩
theorem rm_nsU2LL (t : Addr) (kt : ClassId) (N : Int32) (us : List Value) (i : Int32) (j0 j1 : Nat) (chc chd : Int32) (O0 : Old Z n0 h0) (H : own_H Z a0 zc fm) (Kt : Arv Z h0 t kt .byte N us (.int 0)) (B : own_bo N i 2) (G0 : own_gi N us i j0 chc) (G1 : own_gi N us (i + 1) j1 chd) (P : own_cut 4 4 N (i <<< ((1 : Int32) &&& 31)) ((i + (2 : Int32)) <<< ((1 : Int32) &&& 31)) us [.int (StrChars.lo8 chc), .int (StrChars.hi8 chc), .int (StrChars.lo8 chd), .int (StrChars.hi8 chd)]) (qchc : ¬ (255 : Int32) < chc) (qchd : ¬ (255 : Int32) < chd) :
  own_Met false l Z n0 [] [] ⟨"java/lang/StringUTF16", "newString", "([BII)Ljava/lang/String;"⟩ jdk_52_method_69_code 5 (some (.object "java/lang/String")) [] (own_R 5 3 16 78) #[(.ref t), (.int i), (.int 2)] h0 (fun v h => ∃ (a : Addr), v = some (.ref a) ∧ Keep h0 h [] ∧ own_Str Z h a [chc, chd]) := by
  refine own_ent (a0 := a0) (nm := "newString") (Ls := #[.val (.ref t), .val (.int i), .val (.int 2), .unset, .unset]) own_pn1 O0 EW.nil ?_
  intro p e _ m _ below _ _ T0 Q hQ A0
  refine own_iloadN (q := 1) A0 d74_0 rfl ?_
  refine own_ifcT (q := 8) A0 d74_1 (show ¬ (2 : Int32) = (0 : Int32) from by decide) ?_
  refine own_getS (q := 11) A0 (H.k 340 rfl) Via.refl H.SC d74_8 ?_
  intro T1 A2
  refine own_ifcF (q := 14) A2 d74_11 (show ¬ zc = (0 : Int32) from H.hz) ?_
  refine own_aloadN (q := 15) A2 d74_14 rfl rfl ?_
  refine own_iloadN (q := 16) A2 d74_15 rfl ?_
  refine own_iloadN (q := 17) A2 d74_16 rfl ?_
  refine own_static (q := 20) (W := 0) (argsL := [(.ref t), (.int i), (.int 2)]) (rest := []) A2 (H.k 341 rfl) (H.k 342 rfl) (H.k 242 rfl) (H.k 343 rfl) (by decide) (own_pay (rm_bc_2LL t kt N us i j0 j1 chc chd A2.old H Kt B G0 G1 P qchc qchd) (H.k 343 rfl) (H.k 242 rfl) (by decide) (by decide)) own_nW (Nat.le_of_eq rfl) own_pd21 rfl rfl rfl d74_17 (by decide) (by decide) ?_
  rintro v9 T10 h11 A12 ⟨t3, k4, rfl, g5, g6, K7, V8⟩
  show own_Run p e below Q m T10 20 #[.val (.ref t), .val (.int i), .val (.int 2), .unset, .unset] [(.ref t3)]
  have z13 : t ≠ t3 := Nat.ne_of_lt (Nat.lt_of_lt_of_le Kt.lt g6)
  have f14 := Kt.keep K7 nin0
  have K15 := (Keep.refl h0 []).trans K7 all0
  refine own_astoreN (q := 21) (L' := #[.val (.ref t), .val (.int i), .val (.int 2), .val (.ref t3), .unset]) A12 d74_20 rfl rfl ?_
  refine own_aloadN (q := 22) A12 d74_21 rfl rfl ?_
  refine own_iloadN (q := 23) A12 d74_22 rfl ?_
  refine own_static (q := 26) (W := 0) (argsL := [(.ref t3), (.int 2)]) (rest := []) A12 (H.k 348 rfl) (H.k 248 rfl) (H.k 242 rfl) (H.k 249 rfl) (by decide) (own_pay (rm_cfa2_2 t3 k4 _ A12.old H V8) (H.k 249 rfl) (H.k 242 rfl) (by decide) (by decide)) own_nW (Nat.le_of_eq rfl) own_pd39 rfl rfl rfl d74_23 (by decide) (by decide) ?_
  rintro v16 T17 h18 A19 ⟨rfl, rfl⟩
  show own_Run p e below Q m T17 26 #[.val (.ref t), .val (.int i), .val (.int 2), .val (.ref t3), .unset] [(.int 0)]
  refine own_istore (q := 28) (L' := #[.val (.ref t), .val (.int i), .val (.int 2), .val (.ref t3), .val (.int 0)]) A19 d74_26 rfl ?_
  refine own_newO (q := 31) A19 (H.k 349 rfl) (H.k 11 rfl) (H.k 10 rfl) d74_28 (by decide) (by decide) ?_
  intro T20 h21 a22 g23 g24 A25 E26 X27 D28
  have z29 : t ≠ a22 := Nat.ne_of_lt (Nat.lt_of_lt_of_le f14.lt (Nat.le_of_eq g23))
  have z30 : t3 ≠ a22 := Nat.ne_of_lt (Nat.lt_of_lt_of_le V8.lt (Nat.le_of_eq g23))
  have K31 := K15.ext E26
  have f32 := f14.ext E26
  have f33 := V8.ext E26
  have f34 : Fld Z h21 a22 "java/lang/String" "value" "[B" .null := D28 (Or.inr (H.k 13 rfl)) (ty := (.array .byte)) (by decide)
  have f35 : Fld Z h21 a22 "java/lang/String" "coder" "B" (.int 0) := D28 (Or.inr (H.k 14 rfl)) (ty := .byte) (by decide)
  refine own_dup (q := 32) A25 d74_31 rfl ?_
  refine own_aloadN (q := 33) A25 d74_32 rfl rfl ?_
  refine own_iload (q := 35) A25 d74_33 rfl ?_
  refine own_special (q := 38) (W := 1) (argsL := [(.ref t3), (.int 0)]) (rest := [(.ref a22)]) A25 rfl (H.k 350 rfl) (H.k 253 rfl) (H.k 254 rfl) (by decide) (own_pay (rm_init a22 t3 (0 : Int32) A25.old H X27 f35 f34 g24 (by decide)) (H.k 254 rfl) (H.k 10 rfl) (by decide) (by decide)) own_nW (Nat.le_of_eq rfl) own_pd40 rfl rfl rfl d74_35 (by decide) (by decide) ?_
  rintro v40 T41 h42 A43 ⟨rfl, K36, X37, F38, F39⟩
  show own_Run p e below Q m T41 38 #[.val (.ref t), .val (.int i), .val (.int 2), .val (.ref t3), .val (.int 0)] [(.ref a22)]
  have f44 := f32.keep K36 (ninS z29 nin0)
  have f45 := f33.keep K36 (ninS z30 nin0)
  have K46 := K31.trans K36 (allS (Or.inr (Nat.le_trans K15.1 (Nat.le_of_eq g23))) all0)
  exact own_retA A43 hQ rfl rfl rfl d74_38 ⟨a22, rfl, K46, t3, _, (0 : Int32), (2 : Int32), _, own_X_mk X37 F38 F39 f45, Or.inl ⟨rfl, rfl, rfl, (own_fc qchc (own_fc qchd (fun _ z => nomatch z)))⟩⟩
theorem rm_nsU2LU (t : Addr) (kt : ClassId) (N : Int32) (us : List Value) (i : Int32) (j0 j1 : Nat) (chc chd : Int32) (O0 : Old Z n0 h0) (H : own_H Z a0 zc fm) (Kt : Arv Z h0 t kt .byte N us (.int 0)) (B : own_bo N i 2) (G0 : own_gi N us i j0 chc) (G1 : own_gi N us (i + 1) j1 chd) (P : own_cut 4 4 N (i <<< ((1 : Int32) &&& 31)) ((i + (2 : Int32)) <<< ((1 : Int32) &&& 31)) us [.int (StrChars.lo8 chc), .int (StrChars.hi8 chc), .int (StrChars.lo8 chd), .int (StrChars.hi8 chd)]) (qchc : ¬ (255 : Int32) < chc) (qchd :  (255 : Int32) < chd) :
  own_Met false l Z n0 [] [] ⟨"java/lang/StringUTF16", "newString", "([BII)Ljava/lang/String;"⟩ jdk_52_method_69_code 5 (some (.object "java/lang/String")) [] (own_R 5 3 16 78) #[(.ref t), (.int i), (.int 2)] h0 (fun v h => ∃ (a : Addr), v = some (.ref a) ∧ Keep h0 h [] ∧ own_Str Z h a [chc, chd]) := by
  refine own_ent (a0 := a0) (nm := "newString") (Ls := #[.val (.ref t), .val (.int i), .val (.int 2), .unset, .unset]) own_pn1 O0 EW.nil ?_
  intro p e _ m _ below _ _ T0 Q hQ A0
  refine own_iloadN (q := 1) A0 d74_0 rfl ?_
  refine own_ifcT (q := 8) A0 d74_1 (show ¬ (2 : Int32) = (0 : Int32) from by decide) ?_
  refine own_getS (q := 11) A0 (H.k 340 rfl) Via.refl H.SC d74_8 ?_
  intro T1 A2
  refine own_ifcF (q := 14) A2 d74_11 (show ¬ zc = (0 : Int32) from H.hz) ?_
  refine own_aloadN (q := 15) A2 d74_14 rfl rfl ?_
  refine own_iloadN (q := 16) A2 d74_15 rfl ?_
  refine own_iloadN (q := 17) A2 d74_16 rfl ?_
  refine own_static (q := 20) (W := 0) (argsL := [(.ref t), (.int i), (.int 2)]) (rest := []) A2 (H.k 341 rfl) (H.k 342 rfl) (H.k 242 rfl) (H.k 343 rfl) (by decide) (own_pay (rm_bc_2LU t kt N us i j0 j1 chc chd A2.old H Kt B G0 G1 P qchc qchd) (H.k 343 rfl) (H.k 242 rfl) (by decide) (by decide)) own_nW (Nat.le_of_eq rfl) own_pd21 rfl rfl rfl d74_17 (by decide) (by decide) ?_
  rintro v9 T10 h11 A12 ⟨t3, k4, rfl, g5, g6, K7, V8⟩
  show own_Run p e below Q m T10 20 #[.val (.ref t), .val (.int i), .val (.int 2), .unset, .unset] [(.ref t3)]
  have z13 : t ≠ t3 := Nat.ne_of_lt (Nat.lt_of_lt_of_le Kt.lt g6)
  have f14 := Kt.keep K7 nin0
  have K15 := (Keep.refl h0 []).trans K7 all0
  refine own_astoreN (q := 21) (L' := #[.val (.ref t), .val (.int i), .val (.int 2), .val (.ref t3), .unset]) A12 d74_20 rfl rfl ?_
  refine own_aloadN (q := 22) A12 d74_21 rfl rfl ?_
  refine own_iloadN (q := 23) A12 d74_22 rfl ?_
  refine own_static (q := 26) (W := 0) (argsL := [(.ref t3), (.int 2)]) (rest := []) A12 (H.k 348 rfl) (H.k 248 rfl) (H.k 242 rfl) (H.k 249 rfl) (by decide) (own_pay (rm_cfa4_2 t3 k4 _ A12.old H V8) (H.k 249 rfl) (H.k 242 rfl) (by decide) (by decide)) own_nW (Nat.le_of_eq rfl) own_pd39 rfl rfl rfl d74_23 (by decide) (by decide) ?_
  rintro v16 T17 h18 A19 ⟨rfl, rfl⟩
  show own_Run p e below Q m T17 26 #[.val (.ref t), .val (.int i), .val (.int 2), .val (.ref t3), .unset] [(.int 1)]
  refine own_istore (q := 28) (L' := #[.val (.ref t), .val (.int i), .val (.int 2), .val (.ref t3), .val (.int 1)]) A19 d74_26 rfl ?_
  refine own_newO (q := 31) A19 (H.k 349 rfl) (H.k 11 rfl) (H.k 10 rfl) d74_28 (by decide) (by decide) ?_
  intro T20 h21 a22 g23 g24 A25 E26 X27 D28
  have z29 : t ≠ a22 := Nat.ne_of_lt (Nat.lt_of_lt_of_le f14.lt (Nat.le_of_eq g23))
  have z30 : t3 ≠ a22 := Nat.ne_of_lt (Nat.lt_of_lt_of_le V8.lt (Nat.le_of_eq g23))
  have K31 := K15.ext E26
  have f32 := f14.ext E26
  have f33 := V8.ext E26
  have f34 : Fld Z h21 a22 "java/lang/String" "value" "[B" .null := D28 (Or.inr (H.k 13 rfl)) (ty := (.array .byte)) (by decide)
  have f35 : Fld Z h21 a22 "java/lang/String" "coder" "B" (.int 0) := D28 (Or.inr (H.k 14 rfl)) (ty := .byte) (by decide)
  refine own_dup (q := 32) A25 d74_31 rfl ?_
  refine own_aloadN (q := 33) A25 d74_32 rfl rfl ?_
  refine own_iload (q := 35) A25 d74_33 rfl ?_
  refine own_special (q := 38) (W := 1) (argsL := [(.ref t3), (.int 1)]) (rest := [(.ref a22)]) A25 rfl (H.k 350 rfl) (H.k 253 rfl) (H.k 254 rfl) (by decide) (own_pay (rm_init a22 t3 (1 : Int32) A25.old H X27 f35 f34 g24 (by decide)) (H.k 254 rfl) (H.k 10 rfl) (by decide) (by decide)) own_nW (Nat.le_of_eq rfl) own_pd40 rfl rfl rfl d74_35 (by decide) (by decide) ?_
  rintro v40 T41 h42 A43 ⟨rfl, K36, X37, F38, F39⟩
  show own_Run p e below Q m T41 38 #[.val (.ref t), .val (.int i), .val (.int 2), .val (.ref t3), .val (.int 1)] [(.ref a22)]
  have f44 := f32.keep K36 (ninS z29 nin0)
  have f45 := f33.keep K36 (ninS z30 nin0)
  have K46 := K31.trans K36 (allS (Or.inr (Nat.le_trans K15.1 (Nat.le_of_eq g23))) all0)
  exact own_retA A43 hQ rfl rfl rfl d74_38 ⟨a22, rfl, K46, t3, _, (1 : Int32), (4 : Int32), _, own_X_mk X37 F38 F39 f45, Or.inr ⟨rfl, rfl, rfl, chd, by simp, qchd⟩⟩
theorem rm_nsU2UX (t : Addr) (kt : ClassId) (N : Int32) (us : List Value) (i : Int32) (j0 j1 : Nat) (chc chd : Int32) (O0 : Old Z n0 h0) (H : own_H Z a0 zc fm) (Kt : Arv Z h0 t kt .byte N us (.int 0)) (B : own_bo N i 2) (G0 : own_gi N us i j0 chc) (G1 : own_gi N us (i + 1) j1 chd) (P : own_cut 4 4 N (i <<< ((1 : Int32) &&& 31)) ((i + (2 : Int32)) <<< ((1 : Int32) &&& 31)) us [.int (StrChars.lo8 chc), .int (StrChars.hi8 chc), .int (StrChars.lo8 chd), .int (StrChars.hi8 chd)]) (qchc :  (255 : Int32) < chc) :
  own_Met false l Z n0 [] [] ⟨"java/lang/StringUTF16", "newString", "([BII)Ljava/lang/String;"⟩ jdk_52_method_69_code 5 (some (.object "java/lang/String")) [] (own_R 5 3 16 78) #[(.ref t), (.int i), (.int 2)] h0 (fun v h => ∃ (a : Addr), v = some (.ref a) ∧ Keep h0 h [] ∧ own_Str Z h a [chc, chd]) := by
  refine own_ent (a0 := a0) (nm := "newString") (Ls := #[.val (.ref t), .val (.int i), .val (.int 2), .unset, .unset]) own_pn1 O0 EW.nil ?_
  intro p e _ m _ below _ _ T0 Q hQ A0
  refine own_iloadN (q := 1) A0 d74_0 rfl ?_
  refine own_ifcT (q := 8) A0 d74_1 (show ¬ (2 : Int32) = (0 : Int32) from by decide) ?_
  refine own_getS (q := 11) A0 (H.k 340 rfl) Via.refl H.SC d74_8 ?_
  intro T1 A2
  refine own_ifcF (q := 14) A2 d74_11 (show ¬ zc = (0 : Int32) from H.hz) ?_
  refine own_aloadN (q := 15) A2 d74_14 rfl rfl ?_
  refine own_iloadN (q := 16) A2 d74_15 rfl ?_
  refine own_iloadN (q := 17) A2 d74_16 rfl ?_
  refine own_static (q := 20) (W := 0) (argsL := [(.ref t), (.int i), (.int 2)]) (rest := []) A2 (H.k 341 rfl) (H.k 342 rfl) (H.k 242 rfl) (H.k 343 rfl) (by decide) (own_pay (rm_bc_2UX t kt N us i j0 j1 chc chd A2.old H Kt B G0 G1 P qchc) (H.k 343 rfl) (H.k 242 rfl) (by decide) (by decide)) own_nW (Nat.le_of_eq rfl) own_pd21 rfl rfl rfl d74_17 (by decide) (by decide) ?_
  rintro v9 T10 h11 A12 ⟨t3, k4, rfl, g5, g6, K7, V8⟩
  show own_Run p e below Q m T10 20 #[.val (.ref t), .val (.int i), .val (.int 2), .unset, .unset] [(.ref t3)]
  have z13 : t ≠ t3 := Nat.ne_of_lt (Nat.lt_of_lt_of_le Kt.lt g6)
  have f14 := Kt.keep K7 nin0
  have K15 := (Keep.refl h0 []).trans K7 all0
  refine own_astoreN (q := 21) (L' := #[.val (.ref t), .val (.int i), .val (.int 2), .val (.ref t3), .unset]) A12 d74_20 rfl rfl ?_
  refine own_aloadN (q := 22) A12 d74_21 rfl rfl ?_
  refine own_iloadN (q := 23) A12 d74_22 rfl ?_
  refine own_static (q := 26) (W := 0) (argsL := [(.ref t3), (.int 2)]) (rest := []) A12 (H.k 348 rfl) (H.k 248 rfl) (H.k 242 rfl) (H.k 249 rfl) (by decide) (own_pay (rm_cfa4_2 t3 k4 _ A12.old H V8) (H.k 249 rfl) (H.k 242 rfl) (by decide) (by decide)) own_nW (Nat.le_of_eq rfl) own_pd39 rfl rfl rfl d74_23 (by decide) (by decide) ?_
  rintro v16 T17 h18 A19 ⟨rfl, rfl⟩
  show own_Run p e below Q m T17 26 #[.val (.ref t), .val (.int i), .val (.int 2), .val (.ref t3), .unset] [(.int 1)]
  refine own_istore (q := 28) (L' := #[.val (.ref t), .val (.int i), .val (.int 2), .val (.ref t3), .val (.int 1)]) A19 d74_26 rfl ?_
  refine own_newO (q := 31) A19 (H.k 349 rfl) (H.k 11 rfl) (H.k 10 rfl) d74_28 (by decide) (by decide) ?_
  intro T20 h21 a22 g23 g24 A25 E26 X27 D28
  have z29 : t ≠ a22 := Nat.ne_of_lt (Nat.lt_of_lt_of_le f14.lt (Nat.le_of_eq g23))
  have z30 : t3 ≠ a22 := Nat.ne_of_lt (Nat.lt_of_lt_of_le V8.lt (Nat.le_of_eq g23))
  have K31 := K15.ext E26
  have f32 := f14.ext E26
  have f33 := V8.ext E26
  have f34 : Fld Z h21 a22 "java/lang/String" "value" "[B" .null := D28 (Or.inr (H.k 13 rfl)) (ty := (.array .byte)) (by decide)
  have f35 : Fld Z h21 a22 "java/lang/String" "coder" "B" (.int 0) := D28 (Or.inr (H.k 14 rfl)) (ty := .byte) (by decide)
  refine own_dup (q := 32) A25 d74_31 rfl ?_
  refine own_aloadN (q := 33) A25 d74_32 rfl rfl ?_
  refine own_iload (q := 35) A25 d74_33 rfl ?_
  refine own_special (q := 38) (W := 1) (argsL := [(.ref t3), (.int 1)]) (rest := [(.ref a22)]) A25 rfl (H.k 350 rfl) (H.k 253 rfl) (H.k 254 rfl) (by decide) (own_pay (rm_init a22 t3 (1 : Int32) A25.old H X27 f35 f34 g24 (by decide)) (H.k 254 rfl) (H.k 10 rfl) (by decide) (by decide)) own_nW (Nat.le_of_eq rfl) own_pd40 rfl rfl rfl d74_35 (by decide) (by decide) ?_
  rintro v40 T41 h42 A43 ⟨rfl, K36, X37, F38, F39⟩
  show own_Run p e below Q m T41 38 #[.val (.ref t), .val (.int i), .val (.int 2), .val (.ref t3), .val (.int 1)] [(.ref a22)]
  have f44 := f32.keep K36 (ninS z29 nin0)
  have f45 := f33.keep K36 (ninS z30 nin0)
  have K46 := K31.trans K36 (allS (Or.inr (Nat.le_trans K15.1 (Nat.le_of_eq g23))) all0)
  exact own_retA A43 hQ rfl rfl rfl d74_38 ⟨a22, rfl, K46, t3, _, (1 : Int32), (4 : Int32), _, own_X_mk X37 F38 F39 f45, Or.inr ⟨rfl, rfl, rfl, chc, by simp, qchc⟩⟩
theorem rm_nsU2 (t : Addr) (kt : ClassId) (N : Int32) (us : List Value) (i : Int32) (j0 j1 : Nat) (chc chd : Int32) (O0 : Old Z n0 h0) (H : own_H Z a0 zc fm) (Kt : Arv Z h0 t kt .byte N us (.int 0)) (B : own_bo N i 2) (G0 : own_gi N us i j0 chc) (G1 : own_gi N us (i + 1) j1 chd) (P : own_cut 4 4 N (i <<< ((1 : Int32) &&& 31)) ((i + (2 : Int32)) <<< ((1 : Int32) &&& 31)) us [.int (StrChars.lo8 chc), .int (StrChars.hi8 chc), .int (StrChars.lo8 chd), .int (StrChars.hi8 chd)]) :
  own_Met false l Z n0 [] [] ⟨"java/lang/StringUTF16", "newString", "([BII)Ljava/lang/String;"⟩ jdk_52_method_69_code 5 (some (.object "java/lang/String")) [] (own_R 5 3 16 78) #[(.ref t), (.int i), (.int 2)] h0 (fun v h => ∃ (a : Addr), v = some (.ref a) ∧ Keep h0 h [] ∧ own_Str Z h a [chc, chd]) := by
  by_cases qchc : (255 : Int32) < chc
  · exact rm_nsU2UX t kt N us i j0 j1 chc chd O0 H Kt B G0 G1 P qchc
  by_cases qchd : (255 : Int32) < chd
  · exact rm_nsU2LU t kt N us i j0 j1 chc chd O0 H Kt B G0 G1 P qchc qchd
  · exact rm_nsU2LL t kt N us i j0 j1 chc chd O0 H Kt B G0 G1 P qchc qchd
theorem rm_nsL2 (t : Addr) (kt : ClassId) (N : Int32) (us : List Value) (i : Int32) (chc chd : Int32) (O0 : Old Z n0 h0) (H : own_H Z a0 zc fm) (Kt : Arv Z h0 t kt .byte N us (.int 0)) (P : own_cut 2 2 N i (i + (2 : Int32)) us [.int (StrChars.lo8 chc), .int (StrChars.lo8 chd)]) (w1 : ∀ y ∈ [chc, chd], ¬ (255 : Int32) < y) :
  own_Met false l Z n0 [] [] ⟨"java/lang/StringLatin1", "newString", "([BII)Ljava/lang/String;"⟩ jdk_43_method_47_code 3 (some (.object "java/lang/String")) [] (own_R 3 2 14 50) #[(.ref t), (.int i), (.int 2)] h0 (fun v h => ∃ (a : Addr), v = some (.ref a) ∧ Keep h0 h [] ∧ own_Str Z h a [chc, chd]) := by
  refine own_ent (a0 := a0) (nm := "newString") (Ls := #[.val (.ref t), .val (.int i), .val (.int 2)]) own_pn0 O0 EW.nil ?_
  intro p e _ m _ below _ _ T0 Q hQ A0
  refine own_iloadN (q := 1) A0 d40_0 rfl ?_
  refine own_ifcT (q := 7) A0 d40_1 (show ¬ (2 : Int32) = (0 : Int32) from by decide) ?_
  refine own_newO (q := 10) A0 (H.k 250 rfl) (H.k 11 rfl) (H.k 10 rfl) d40_7 (by decide) (by decide) ?_
  intro T1 h2 a3 g4 g5 A6 E7 X8 D9
  have z10 : t ≠ a3 := Nat.ne_of_lt (Nat.lt_of_lt_of_le Kt.lt (Nat.le_of_eq g4))
  have K11 := (Keep.refl h0 []).ext E7
  have f12 := Kt.ext E7
  have f13 : Fld Z h2 a3 "java/lang/String" "value" "[B" .null := D9 (Or.inr (H.k 13 rfl)) (ty := (.array .byte)) (by decide)
  have f14 : Fld Z h2 a3 "java/lang/String" "coder" "B" (.int 0) := D9 (Or.inr (H.k 14 rfl)) (ty := .byte) (by decide)
  refine own_dup (q := 11) A6 d40_10 rfl ?_
  refine own_aloadN (q := 12) A6 d40_11 rfl rfl ?_
  refine own_iloadN (q := 13) A6 d40_12 rfl ?_
  refine own_iloadN (q := 14) A6 d40_13 rfl ?_
  refine own_iloadN (q := 15) A6 d40_14 rfl ?_
  refine own_iadd (q := 16) A6 d40_15 ?_
  refine own_static (q := 19) (W := 2) (argsL := [(.ref t), (.int i), (.int (i + (2 : Int32)))]) (rest := [(.ref a3), (.ref a3)]) A6 (H.k 251 rfl) (H.k 138 rfl) (H.k 139 rfl) (H.k 140 rfl) (by decide) (own_pay (rm_cr t kt 2 2 N i (i + (2 : Int32)) us [.int (StrChars.lo8 chc), .int (StrChars.lo8 chd)] A6.old H f12 P) (H.k 140 rfl) (H.k 139 rfl) (by decide) (by decide)) own_nW (Nat.le_of_eq rfl) own_pd21 rfl rfl rfl d40_16 (by decide) (by decide) ?_
  rintro v21 T22 h23 A24 ⟨t15, k16, rfl, g17, g18, K19, V20⟩
  show own_Run p e below Q m T22 19 #[.val (.ref t), .val (.int i), .val (.int 2)] [(.ref t15), (.ref a3), (.ref a3)]
  have z25 : t ≠ t15 := Nat.ne_of_lt (Nat.lt_of_lt_of_le f12.lt g18)
  have z26 : a3 ≠ t15 := Nat.ne_of_lt (Nat.lt_of_lt_of_le X8.lt g18)
  have f27 := f12.keep K19 nin0
  have f28 := X8.keep K19
  have f29 := f13.keep K19 nin0
  have f30 := f14.keep K19 nin0
  have K31 := K11.trans K19 all0
  refine own_iconst (q := 20) A24 (0 : Int32) d40_19 rfl ?_
  refine own_special (q := 23) (W := 1) (argsL := [(.ref t15), (.int 0)]) (rest := [(.ref a3)]) A24 rfl (H.k 252 rfl) (H.k 253 rfl) (H.k 254 rfl) (by decide) (own_pay (rm_init a3 t15 (0 : Int32) A24.old H f28 f30 f29 g5 (by decide)) (H.k 254 rfl) (H.k 10 rfl) (by decide) (by decide)) own_nW (Nat.le_of_eq rfl) own_pd40 rfl rfl rfl d40_20 (by decide) (by decide) ?_
  rintro v36 T37 h38 A39 ⟨rfl, K32, X33, F34, F35⟩
  show own_Run p e below Q m T37 23 #[.val (.ref t), .val (.int i), .val (.int 2)] [(.ref a3)]
  have f40 := f27.keep K32 (ninS z10 nin0)
  have f41 := V20.keep K32 (ninS (Ne.symm z26) nin0)
  have K42 := K31.trans K32 (allS (Or.inr (Nat.le_trans (Keep.refl h0 []).1 (Nat.le_of_eq g4))) all0)
  exact own_retA A39 hQ rfl rfl rfl d40_23 ⟨a3, rfl, K42, t15, _, (0 : Int32), (2 : Int32), _, own_X_mk X33 F34 F35 f41, Or.inl ⟨rfl, rfl, rfl, w1⟩⟩
theorem rm_nsL0 (t : Addr) (i : Int32) (O0 : Old Z n0 h0) (hEL : EW Z a0 consts_1) (H : own_H Z a0 zc fm) :
  own_Met true l Z n0 consts_1 [] ⟨"java/lang/StringLatin1", "newString", "([BII)Ljava/lang/String;"⟩ jdk_43_method_47_code 3 (some (.object "java/lang/String")) [] (own_R 0 2 4 0) #[(.ref t), (.int i), (.int 0)] h0 (fun v h => ∃ (a : Addr), v = some (.ref a) ∧ Keep h0 h [] ∧ own_Str Z h a []) := by
  refine own_ent (a0 := a0) (nm := "newString") (Ls := #[.val (.ref t), .val (.int i), .val (.int 0)]) own_pn0 O0 hEL ?_
  intro p e _ m _ below _ _ T0 Q hQ A0
  refine own_iloadN (q := 1) A0 d40_0 rfl ?_
  refine own_ifcF (q := 4) A0 d40_1 (show (0 : Int32) = (0 : Int32) from by decide) ?_
  refine own_ldcR (q := 6) (n := 0) (z := 0) (vs := []) A0 (H.k 202 rfl) (own_satoms H.w) (by decide) ⟨by decide +kernel, by decide +kernel⟩ (by decide) (by decide) d40_4 (by decide) (by decide) (by decide) (by decide) ?_
  intro a1 b2 k3 T4 h5 A6 E7 X8 F9 F10 V11 N12
  have K13 := (Keep.refl h0 []).ext E7
  exact own_retA A6 hQ rfl rfl rfl d40_6 ⟨a1, rfl, K13, b2, k3, 0, 0, [], own_X_mk X8 F9 F10 V11, Or.inl ⟨rfl, rfl, rfl, (fun _ z => nomatch z)⟩⟩
theorem rm_nsU0 (t : Addr) (i : Int32) (O0 : Old Z n0 h0) (hEL : EW Z a0 consts_1) (H : own_H Z a0 zc fm) :
  own_Met true l Z n0 consts_1 [] ⟨"java/lang/StringUTF16", "newString", "([BII)Ljava/lang/String;"⟩ jdk_52_method_69_code 5 (some (.object "java/lang/String")) [] (own_R 0 2 4 0) #[(.ref t), (.int i), (.int 0)] h0 (fun v h => ∃ (a : Addr), v = some (.ref a) ∧ Keep h0 h [] ∧ own_Str Z h a []) := by
  refine own_ent (a0 := a0) (nm := "newString") (Ls := #[.val (.ref t), .val (.int i), .val (.int 0), .unset, .unset]) own_pn1 O0 hEL ?_
  intro p e _ m _ below _ _ T0 Q hQ A0
  refine own_iloadN (q := 1) A0 d74_0 rfl ?_
  refine own_ifcF (q := 4) A0 d74_1 (show (0 : Int32) = (0 : Int32) from by decide) ?_
  refine own_ldcWR (rest := []) (w := true) (q := 7) (n := 0) (z := 0) (vs := []) A0 (H.k 351 rfl) (own_satoms H.w) (by decide) ⟨by decide +kernel, by decide +kernel⟩ (by decide) (by decide) d74_4 (by decide) (by decide) (by decide) (by decide) ?_
  intro a1 b2 k3 T4 h5 A6 E7 X8 F9 F10 V11 N12
  have K13 := (Keep.refl h0 []).ext E7
  exact own_retA A6 hQ rfl rfl rfl d74_7 ⟨a1, rfl, K13, b2, k3, 0, 0, [], own_X_mk X8 F9 F10 V11, Or.inl ⟨rfl, rfl, rfl, (fun _ z => nomatch z)⟩⟩
theorem d37_0 : decode jdk_42_method_92_code 0 = .ok (.aload_n 0, 1) := by decide +kernel
theorem d37_1 : decode jdk_42_method_92_code 1 = .ok (.invokevirtual 505, 3) := by decide +kernel
theorem d37_4 : decode jdk_42_method_92_code 4 = .ok (.istore_n 3, 1) := by decide +kernel
theorem d37_5 : decode jdk_42_method_92_code 5 = .ok (.iload_n 1, 1) := by decide +kernel
theorem d37_6 : decode jdk_42_method_92_code 6 = .ok (.iload_n 2, 1) := by decide +kernel
theorem d37_7 : decode jdk_42_method_92_code 7 = .ok (.iload_n 3, 1) := by decide +kernel
theorem d37_8 : decode jdk_42_method_92_code 8 = .ok (.invokestatic 521, 3) := by decide +kernel
theorem d37_11 : decode jdk_42_method_92_code 11 = .ok (.iload_n 1, 1) := by decide +kernel
theorem d37_12 : decode jdk_42_method_92_code 12 = .ok (.ifCond .ne 10, 3) := by decide +kernel
theorem d37_15 : decode jdk_42_method_92_code 15 = .ok (.iload_n 2, 1) := by decide +kernel
theorem d37_16 : decode jdk_42_method_92_code 16 = .ok (.iload_n 3, 1) := by decide +kernel
theorem d37_17 : decode jdk_42_method_92_code 17 = .ok (.if_icmp .ne 5, 3) := by decide +kernel
theorem d37_22 : decode jdk_42_method_92_code 22 = .ok (.iload_n 2, 1) := by decide +kernel
theorem d37_23 : decode jdk_42_method_92_code 23 = .ok (.iload_n 1, 1) := by decide +kernel
theorem d37_24 : decode jdk_42_method_92_code 24 = .ok (.isub, 1) := by decide +kernel
theorem d37_25 : decode jdk_42_method_92_code 25 = .ok (.istore 4, 2) := by decide +kernel
theorem d37_27 : decode jdk_42_method_92_code 27 = .ok (.aload_n 0, 1) := by decide +kernel
theorem d37_28 : decode jdk_42_method_92_code 28 = .ok (.invokevirtual 492, 3) := by decide +kernel
theorem d37_31 : decode jdk_42_method_92_code 31 = .ok (.ifCond .eq 16, 3) := by decide +kernel
theorem d37_34 : decode jdk_42_method_92_code 34 = .ok (.aload_n 0, 1) := by decide +kernel
theorem d37_35 : decode jdk_42_method_92_code 35 = .ok (.getfield 9, 3) := by decide +kernel
theorem d37_38 : decode jdk_42_method_92_code 38 = .ok (.iload_n 1, 1) := by decide +kernel
theorem d37_39 : decode jdk_42_method_92_code 39 = .ok (.iload 4, 2) := by decide +kernel
theorem d37_41 : decode jdk_42_method_92_code 41 = .ok (.invokestatic 685, 3) := by decide +kernel
theorem d37_44 : decode jdk_42_method_92_code 44 = .ok (.goto 13, 3) := by decide +kernel
theorem d37_47 : decode jdk_42_method_92_code 47 = .ok (.aload_n 0, 1) := by decide +kernel
theorem d37_48 : decode jdk_42_method_92_code 48 = .ok (.getfield 9, 3) := by decide +kernel
theorem d37_51 : decode jdk_42_method_92_code 51 = .ok (.iload_n 1, 1) := by decide +kernel
theorem d37_52 : decode jdk_42_method_92_code 52 = .ok (.iload 4, 2) := by decide +kernel
theorem d37_54 : decode jdk_42_method_92_code 54 = .ok (.invokestatic 689, 3) := by decide +kernel
theorem d37_57 : decode jdk_42_method_92_code 57 = .ok (.areturn, 1) := by decide +kernel
theorem rm_sszL0 (x t : Addr) (kt : ClassId) (N T : Int32) (us : List Value) (O0 : Old Z n0 h0) (hEL : EW Z a0 consts_1) (H : own_H Z a0 zc fm) (X : own_X Z h0 x t kt 0 N us) (eT : N >>> ((0 : Int32) &&& 31) = T) (e1 : ¬ T < (0 : Int32)) (e2 : ¬ (0 : Int32) = T) :
  own_Met true l Z n0 consts_1 [] ⟨"java/lang/String", "substring", "(II)Ljava/lang/String;"⟩ jdk_42_method_92_code 5 (some (.object "java/lang/String")) [] (own_R 6 3 16 94) #[(.ref x), (.int 0), (.int 0)] h0 (fun v h => ∃ (a : Addr), v = some (.ref a) ∧ Keep h0 h [] ∧ own_Str Z h a ([] : List Int32)) := by
  refine own_ent (a0 := a0) (nm := "substring") (Ls := #[.val (.ref x), .val (.int 0), .val (.int 0), .unset, .unset]) own_pn2 O0 hEL ?_
  intro p e _ m _ below _ _ T0 Q hQ A0
  refine own_aloadN (q := 1) A0 d37_0 rfl rfl ?_
  refine own_virtual (q := 4) (W := 0) (argsL := []) (rest := []) A0 (H.k 170 rfl) (H.k 52 rfl) (H.k 54 rfl) (H.k 53 rfl) (by decide) (own_payN (rm_len x t kt (0 : Int32) N _ A0.old H X (by decide)) (fun _ _ q => own_keepE q.2) (H.k 55 rfl) (H.k 10 rfl) (by decide) (by decide)) own_nW (Nat.le_of_eq rfl) X.E own_pd8 rfl rfl rfl d37_1 (by decide) (by decide) ?_
  rintro v1 T2 h3 A4 ⟨rfl, rfl⟩
  show own_Run p e below Q m T2 4 #[.val (.ref x), .val (.int 0), .val (.int 0), .unset, .unset] [(.int (N >>> ((0 : Int32) &&& 31)))]
  rw [show (N >>> ((0 : Int32) &&& 31)) = T from eT]
  refine own_istoreN (q := 5) (L' := #[.val (.ref x), .val (.int 0), .val (.int 0), .val (.int T), .unset]) A4 d37_4 rfl ?_
  refine own_iloadN (q := 6) A4 d37_5 rfl ?_
  refine own_iloadN (q := 7) A4 d37_6 rfl ?_
  refine own_iloadN (q := 8) A4 d37_7 rfl ?_
  refine own_static (q := 11) (W := 0) (argsL := [(.int 0), (.int 0), (.int T)]) (rest := []) A4 (H.k 191 rfl) (H.k 192 rfl) (H.k 10 rfl) (H.k 193 rfl) (by decide) (own_payN (rm_sbe (0 : Int32) (0 : Int32) T A4.old H (by decide) (by decide) e1) (fun _ _ q => own_keepE q.2) (H.k 193 rfl) (H.k 10 rfl) (by decide) (by decide)) own_nW (Nat.le_of_eq rfl) own_pd29 rfl rfl rfl d37_8 (by decide) (by decide) ?_
  rintro v5 T6 h7 A8 ⟨rfl, rfl⟩
  show own_Run p e below Q m T6 11 #[.val (.ref x), .val (.int 0), .val (.int 0), .val (.int T), .unset] []
  refine own_iloadN (q := 12) A8 d37_11 rfl ?_
  refine own_ifcF (q := 15) A8 d37_12 (show (0 : Int32) = (0 : Int32) from rfl) ?_
  refine own_iloadN (q := 16) A8 d37_15 rfl ?_
  refine own_iloadN (q := 17) A8 d37_16 rfl ?_
  refine own_icmpT (q := 22) A8 d37_17 (show ¬ (0 : Int32) = T from e2) ?_
  refine own_iloadN (q := 23) A8 d37_22 rfl ?_
  refine own_iloadN (q := 24) A8 d37_23 rfl ?_
  refine own_isub (q := 25) A8 d37_24 ?_
  rw [show ((0 : Int32) - (0 : Int32)) = (0 : Int32) from by decide]
  refine own_istore (q := 27) (L' := #[.val (.ref x), .val (.int 0), .val (.int 0), .val (.int T), .val (.int 0)]) A8 d37_25 rfl ?_
  refine own_aloadN (q := 28) A8 d37_27 rfl rfl ?_
  refine own_virtual (q := 31) (W := 0) (argsL := []) (rest := []) A8 (H.k 165 rfl) (H.k 166 rfl) (H.k 168 rfl) (H.k 167 rfl) (by decide) (own_payN (rm_sil0 x A8.old H X.C) (fun _ _ q => own_keepE q.2) (H.k 169 rfl) (H.k 10 rfl) (by decide) (by decide)) own_nW (Nat.le_of_eq rfl) X.E own_pd15 rfl rfl rfl d37_28 (by decide) (by decide) ?_
  rintro v9 T10 h11 A12 ⟨rfl, rfl⟩
  show own_Run p e below Q m T10 31 #[.val (.ref x), .val (.int 0), .val (.int 0), .val (.int T), .val (.int 0)] [(.int 1)]
  refine own_ifcF (q := 34) A12 d37_31 (show ¬ (1 : Int32) = (0 : Int32) from by decide) ?_
  refine own_aloadN (q := 35) A12 d37_34 rfl rfl ?_
  refine own_getF (host := "") (q := 38) A12 (Or.inl (H.k 56 rfl)) Via.refl X.V d37_35 ?_
  intro T13 A14
  refine own_iloadN (q := 39) A14 d37_38 rfl ?_
  refine own_iload (q := 41) A14 d37_39 rfl ?_
  refine own_staticW (q := 44) (W := 0) (argsL := [(.ref t), (.int 0), (.int 0)]) (rest := []) A14 (H.k 199 rfl) (H.k 200 rfl) (H.k 107 rfl) (H.k 201 rfl) (by decide) (own_payW (rm_nsL0 t (0 : Int32) A14.old hEL H ) (H.k 201 rfl) (H.k 107 rfl) (by decide) (by decide)) own_nW (Nat.le_of_eq rfl) own_pd31 rfl rfl rfl d37_41 (by decide) (by decide) ?_
  rintro v17 T18 h19 A20 ⟨a15, rfl, q16⟩
  show own_Run p e below Q m T18 44 #[.val (.ref x), .val (.int 0), .val (.int 0), .val (.int T), .val (.int 0)] [(.ref a15)]
  refine own_goto (q := 57) A20 d37_44 ?_
  exact own_retA A20 hQ rfl rfl rfl d37_57 ⟨a15, rfl, q16⟩
theorem rm_sszL1 (x t : Addr) (kt : ClassId) (N T : Int32) (us : List Value) (chc : Int32) (O0 : Old Z n0 h0) (hEL : EW Z a0 consts_1) (H : own_H Z a0 zc fm) (X : own_X Z h0 x t kt 0 N us) (eT : N >>> ((0 : Int32) &&& 31) = T) (e1 : ¬ T < (1 : Int32)) (e2 : ¬ (1 : Int32) = T) (P : own_cut 1 1 N (0 : Int32) ((0 : Int32) + (1 : Int32)) us [.int (StrChars.lo8 chc)]) (w1 : ∀ y ∈ [chc], ¬ (255 : Int32) < y) :
  own_Met true l Z n0 consts_1 [] ⟨"java/lang/String", "substring", "(II)Ljava/lang/String;"⟩ jdk_42_method_92_code 5 (some (.object "java/lang/String")) [] (own_R 6 3 16 94) #[(.ref x), (.int 0), (.int 1)] h0 (fun v h => ∃ (a : Addr), v = some (.ref a) ∧ Keep h0 h [] ∧ own_Str Z h a [chc]) := by
  refine own_ent (a0 := a0) (nm := "substring") (Ls := #[.val (.ref x), .val (.int 0), .val (.int 1), .unset, .unset]) own_pn2 O0 hEL ?_
  intro p e _ m _ below _ _ T0 Q hQ A0
  refine own_aloadN (q := 1) A0 d37_0 rfl rfl ?_
  refine own_virtual (q := 4) (W := 0) (argsL := []) (rest := []) A0 (H.k 170 rfl) (H.k 52 rfl) (H.k 54 rfl) (H.k 53 rfl) (by decide) (own_payN (rm_len x t kt (0 : Int32) N _ A0.old H X (by decide)) (fun _ _ q => own_keepE q.2) (H.k 55 rfl) (H.k 10 rfl) (by decide) (by decide)) own_nW (Nat.le_of_eq rfl) X.E own_pd8 rfl rfl rfl d37_1 (by decide) (by decide) ?_
  rintro v1 T2 h3 A4 ⟨rfl, rfl⟩
  show own_Run p e below Q m T2 4 #[.val (.ref x), .val (.int 0), .val (.int 1), .unset, .unset] [(.int (N >>> ((0 : Int32) &&& 31)))]
  rw [show (N >>> ((0 : Int32) &&& 31)) = T from eT]
  refine own_istoreN (q := 5) (L' := #[.val (.ref x), .val (.int 0), .val (.int 1), .val (.int T), .unset]) A4 d37_4 rfl ?_
  refine own_iloadN (q := 6) A4 d37_5 rfl ?_
  refine own_iloadN (q := 7) A4 d37_6 rfl ?_
  refine own_iloadN (q := 8) A4 d37_7 rfl ?_
  refine own_static (q := 11) (W := 0) (argsL := [(.int 0), (.int 1), (.int T)]) (rest := []) A4 (H.k 191 rfl) (H.k 192 rfl) (H.k 10 rfl) (H.k 193 rfl) (by decide) (own_payN (rm_sbe (0 : Int32) (1 : Int32) T A4.old H (by decide) (by decide) e1) (fun _ _ q => own_keepE q.2) (H.k 193 rfl) (H.k 10 rfl) (by decide) (by decide)) own_nW (Nat.le_of_eq rfl) own_pd29 rfl rfl rfl d37_8 (by decide) (by decide) ?_
  rintro v5 T6 h7 A8 ⟨rfl, rfl⟩
  show own_Run p e below Q m T6 11 #[.val (.ref x), .val (.int 0), .val (.int 1), .val (.int T), .unset] []
  refine own_iloadN (q := 12) A8 d37_11 rfl ?_
  refine own_ifcF (q := 15) A8 d37_12 (show (0 : Int32) = (0 : Int32) from rfl) ?_
  refine own_iloadN (q := 16) A8 d37_15 rfl ?_
  refine own_iloadN (q := 17) A8 d37_16 rfl ?_
  refine own_icmpT (q := 22) A8 d37_17 (show ¬ (1 : Int32) = T from e2) ?_
  refine own_iloadN (q := 23) A8 d37_22 rfl ?_
  refine own_iloadN (q := 24) A8 d37_23 rfl ?_
  refine own_isub (q := 25) A8 d37_24 ?_
  rw [show ((1 : Int32) - (0 : Int32)) = (1 : Int32) from by decide]
  refine own_istore (q := 27) (L' := #[.val (.ref x), .val (.int 0), .val (.int 1), .val (.int T), .val (.int 1)]) A8 d37_25 rfl ?_
  refine own_aloadN (q := 28) A8 d37_27 rfl rfl ?_
  refine own_virtual (q := 31) (W := 0) (argsL := []) (rest := []) A8 (H.k 165 rfl) (H.k 166 rfl) (H.k 168 rfl) (H.k 167 rfl) (by decide) (own_payN (rm_sil0 x A8.old H X.C) (fun _ _ q => own_keepE q.2) (H.k 169 rfl) (H.k 10 rfl) (by decide) (by decide)) own_nW (Nat.le_of_eq rfl) X.E own_pd15 rfl rfl rfl d37_28 (by decide) (by decide) ?_
  rintro v9 T10 h11 A12 ⟨rfl, rfl⟩
  show own_Run p e below Q m T10 31 #[.val (.ref x), .val (.int 0), .val (.int 1), .val (.int T), .val (.int 1)] [(.int 1)]
  refine own_ifcF (q := 34) A12 d37_31 (show ¬ (1 : Int32) = (0 : Int32) from by decide) ?_
  refine own_aloadN (q := 35) A12 d37_34 rfl rfl ?_
  refine own_getF (host := "") (q := 38) A12 (Or.inl (H.k 56 rfl)) Via.refl X.V d37_35 ?_
  intro T13 A14
  refine own_iloadN (q := 39) A14 d37_38 rfl ?_
  refine own_iload (q := 41) A14 d37_39 rfl ?_
  refine own_static (q := 44) (W := 0) (argsL := [(.ref t), (.int 0), (.int 1)]) (rest := []) A14 (H.k 199 rfl) (H.k 200 rfl) (H.k 107 rfl) (H.k 201 rfl) (by decide) (own_payN (rm_nsL1 t kt N us (0 : Int32) chc A14.old H X.K P w1) (fun _ _ ⟨_, _, q, _⟩ => q) (H.k 201 rfl) (H.k 107 rfl) (by decide) (by decide)) own_nW (Nat.le_of_eq rfl) own_pd31 rfl rfl rfl d37_41 (by decide) (by decide) ?_
  rintro v17 T18 h19 A20 ⟨a15, rfl, q16⟩
  show own_Run p e below Q m T18 44 #[.val (.ref x), .val (.int 0), .val (.int 1), .val (.int T), .val (.int 1)] [(.ref a15)]
  refine own_goto (q := 57) A20 d37_44 ?_
  exact own_retA A20 hQ rfl rfl rfl d37_57 ⟨a15, rfl, q16⟩
theorem rm_sszL2 (x t : Addr) (kt : ClassId) (N T : Int32) (us : List Value) (chc chd : Int32) (O0 : Old Z n0 h0) (hEL : EW Z a0 consts_1) (H : own_H Z a0 zc fm) (X : own_X Z h0 x t kt 0 N us) (eT : N >>> ((0 : Int32) &&& 31) = T) (e1 : ¬ T < (2 : Int32)) (e2 : ¬ (2 : Int32) = T) (P : own_cut 2 2 N (0 : Int32) ((0 : Int32) + (2 : Int32)) us [.int (StrChars.lo8 chc), .int (StrChars.lo8 chd)]) (w1 : ∀ y ∈ [chc, chd], ¬ (255 : Int32) < y) :
  own_Met true l Z n0 consts_1 [] ⟨"java/lang/String", "substring", "(II)Ljava/lang/String;"⟩ jdk_42_method_92_code 5 (some (.object "java/lang/String")) [] (own_R 6 3 16 94) #[(.ref x), (.int 0), (.int 2)] h0 (fun v h => ∃ (a : Addr), v = some (.ref a) ∧ Keep h0 h [] ∧ own_Str Z h a [chc, chd]) := by
  refine own_ent (a0 := a0) (nm := "substring") (Ls := #[.val (.ref x), .val (.int 0), .val (.int 2), .unset, .unset]) own_pn2 O0 hEL ?_
  intro p e _ m _ below _ _ T0 Q hQ A0
  refine own_aloadN (q := 1) A0 d37_0 rfl rfl ?_
  refine own_virtual (q := 4) (W := 0) (argsL := []) (rest := []) A0 (H.k 170 rfl) (H.k 52 rfl) (H.k 54 rfl) (H.k 53 rfl) (by decide) (own_payN (rm_len x t kt (0 : Int32) N _ A0.old H X (by decide)) (fun _ _ q => own_keepE q.2) (H.k 55 rfl) (H.k 10 rfl) (by decide) (by decide)) own_nW (Nat.le_of_eq rfl) X.E own_pd8 rfl rfl rfl d37_1 (by decide) (by decide) ?_
  rintro v1 T2 h3 A4 ⟨rfl, rfl⟩
  show own_Run p e below Q m T2 4 #[.val (.ref x), .val (.int 0), .val (.int 2), .unset, .unset] [(.int (N >>> ((0 : Int32) &&& 31)))]
  rw [show (N >>> ((0 : Int32) &&& 31)) = T from eT]
  refine own_istoreN (q := 5) (L' := #[.val (.ref x), .val (.int 0), .val (.int 2), .val (.int T), .unset]) A4 d37_4 rfl ?_
  refine own_iloadN (q := 6) A4 d37_5 rfl ?_
  refine own_iloadN (q := 7) A4 d37_6 rfl ?_
  refine own_iloadN (q := 8) A4 d37_7 rfl ?_
  refine own_static (q := 11) (W := 0) (argsL := [(.int 0), (.int 2), (.int T)]) (rest := []) A4 (H.k 191 rfl) (H.k 192 rfl) (H.k 10 rfl) (H.k 193 rfl) (by decide) (own_payN (rm_sbe (0 : Int32) (2 : Int32) T A4.old H (by decide) (by decide) e1) (fun _ _ q => own_keepE q.2) (H.k 193 rfl) (H.k 10 rfl) (by decide) (by decide)) own_nW (Nat.le_of_eq rfl) own_pd29 rfl rfl rfl d37_8 (by decide) (by decide) ?_
  rintro v5 T6 h7 A8 ⟨rfl, rfl⟩
  show own_Run p e below Q m T6 11 #[.val (.ref x), .val (.int 0), .val (.int 2), .val (.int T), .unset] []
  refine own_iloadN (q := 12) A8 d37_11 rfl ?_
  refine own_ifcF (q := 15) A8 d37_12 (show (0 : Int32) = (0 : Int32) from rfl) ?_
  refine own_iloadN (q := 16) A8 d37_15 rfl ?_
  refine own_iloadN (q := 17) A8 d37_16 rfl ?_
  refine own_icmpT (q := 22) A8 d37_17 (show ¬ (2 : Int32) = T from e2) ?_
  refine own_iloadN (q := 23) A8 d37_22 rfl ?_
  refine own_iloadN (q := 24) A8 d37_23 rfl ?_
  refine own_isub (q := 25) A8 d37_24 ?_
  rw [show ((2 : Int32) - (0 : Int32)) = (2 : Int32) from by decide]
  refine own_istore (q := 27) (L' := #[.val (.ref x), .val (.int 0), .val (.int 2), .val (.int T), .val (.int 2)]) A8 d37_25 rfl ?_
  refine own_aloadN (q := 28) A8 d37_27 rfl rfl ?_
  refine own_virtual (q := 31) (W := 0) (argsL := []) (rest := []) A8 (H.k 165 rfl) (H.k 166 rfl) (H.k 168 rfl) (H.k 167 rfl) (by decide) (own_payN (rm_sil0 x A8.old H X.C) (fun _ _ q => own_keepE q.2) (H.k 169 rfl) (H.k 10 rfl) (by decide) (by decide)) own_nW (Nat.le_of_eq rfl) X.E own_pd15 rfl rfl rfl d37_28 (by decide) (by decide) ?_
  rintro v9 T10 h11 A12 ⟨rfl, rfl⟩
  show own_Run p e below Q m T10 31 #[.val (.ref x), .val (.int 0), .val (.int 2), .val (.int T), .val (.int 2)] [(.int 1)]
  refine own_ifcF (q := 34) A12 d37_31 (show ¬ (1 : Int32) = (0 : Int32) from by decide) ?_
  refine own_aloadN (q := 35) A12 d37_34 rfl rfl ?_
  refine own_getF (host := "") (q := 38) A12 (Or.inl (H.k 56 rfl)) Via.refl X.V d37_35 ?_
  intro T13 A14
  refine own_iloadN (q := 39) A14 d37_38 rfl ?_
  refine own_iload (q := 41) A14 d37_39 rfl ?_
  refine own_static (q := 44) (W := 0) (argsL := [(.ref t), (.int 0), (.int 2)]) (rest := []) A14 (H.k 199 rfl) (H.k 200 rfl) (H.k 107 rfl) (H.k 201 rfl) (by decide) (own_payN (rm_nsL2 t kt N us (0 : Int32) chc chd A14.old H X.K P w1) (fun _ _ ⟨_, _, q, _⟩ => q) (H.k 201 rfl) (H.k 107 rfl) (by decide) (by decide)) own_nW (Nat.le_of_eq rfl) own_pd31 rfl rfl rfl d37_41 (by decide) (by decide) ?_
  rintro v17 T18 h19 A20 ⟨a15, rfl, q16⟩
  show own_Run p e below Q m T18 44 #[.val (.ref x), .val (.int 0), .val (.int 2), .val (.int T), .val (.int 2)] [(.ref a15)]
  refine own_goto (q := 57) A20 d37_44 ?_
  exact own_retA A20 hQ rfl rfl rfl d37_57 ⟨a15, rfl, q16⟩
theorem rm_sszU0 (x t : Addr) (kt : ClassId) (N T : Int32) (us : List Value) (O0 : Old Z n0 h0) (hEL : EW Z a0 consts_1) (H : own_H Z a0 zc fm) (X : own_X Z h0 x t kt 1 N us) (eT : N >>> ((1 : Int32) &&& 31) = T) (e1 : ¬ T < (0 : Int32)) (e2 : ¬ (0 : Int32) = T) :
  own_Met true l Z n0 consts_1 [] ⟨"java/lang/String", "substring", "(II)Ljava/lang/String;"⟩ jdk_42_method_92_code 5 (some (.object "java/lang/String")) [] (own_R 6 3 16 94) #[(.ref x), (.int 0), (.int 0)] h0 (fun v h => ∃ (a : Addr), v = some (.ref a) ∧ Keep h0 h [] ∧ own_Str Z h a ([] : List Int32)) := by
  refine own_ent (a0 := a0) (nm := "substring") (Ls := #[.val (.ref x), .val (.int 0), .val (.int 0), .unset, .unset]) own_pn2 O0 hEL ?_
  intro p e _ m _ below _ _ T0 Q hQ A0
  refine own_aloadN (q := 1) A0 d37_0 rfl rfl ?_
  refine own_virtual (q := 4) (W := 0) (argsL := []) (rest := []) A0 (H.k 170 rfl) (H.k 52 rfl) (H.k 54 rfl) (H.k 53 rfl) (by decide) (own_payN (rm_len x t kt (1 : Int32) N _ A0.old H X (by decide)) (fun _ _ q => own_keepE q.2) (H.k 55 rfl) (H.k 10 rfl) (by decide) (by decide)) own_nW (Nat.le_of_eq rfl) X.E own_pd8 rfl rfl rfl d37_1 (by decide) (by decide) ?_
  rintro v1 T2 h3 A4 ⟨rfl, rfl⟩
  show own_Run p e below Q m T2 4 #[.val (.ref x), .val (.int 0), .val (.int 0), .unset, .unset] [(.int (N >>> ((1 : Int32) &&& 31)))]
  rw [show (N >>> ((1 : Int32) &&& 31)) = T from eT]
  refine own_istoreN (q := 5) (L' := #[.val (.ref x), .val (.int 0), .val (.int 0), .val (.int T), .unset]) A4 d37_4 rfl ?_
  refine own_iloadN (q := 6) A4 d37_5 rfl ?_
  refine own_iloadN (q := 7) A4 d37_6 rfl ?_
  refine own_iloadN (q := 8) A4 d37_7 rfl ?_
  refine own_static (q := 11) (W := 0) (argsL := [(.int 0), (.int 0), (.int T)]) (rest := []) A4 (H.k 191 rfl) (H.k 192 rfl) (H.k 10 rfl) (H.k 193 rfl) (by decide) (own_payN (rm_sbe (0 : Int32) (0 : Int32) T A4.old H (by decide) (by decide) e1) (fun _ _ q => own_keepE q.2) (H.k 193 rfl) (H.k 10 rfl) (by decide) (by decide)) own_nW (Nat.le_of_eq rfl) own_pd29 rfl rfl rfl d37_8 (by decide) (by decide) ?_
  rintro v5 T6 h7 A8 ⟨rfl, rfl⟩
  show own_Run p e below Q m T6 11 #[.val (.ref x), .val (.int 0), .val (.int 0), .val (.int T), .unset] []
  refine own_iloadN (q := 12) A8 d37_11 rfl ?_
  refine own_ifcF (q := 15) A8 d37_12 (show (0 : Int32) = (0 : Int32) from rfl) ?_
  refine own_iloadN (q := 16) A8 d37_15 rfl ?_
  refine own_iloadN (q := 17) A8 d37_16 rfl ?_
  refine own_icmpT (q := 22) A8 d37_17 (show ¬ (0 : Int32) = T from e2) ?_
  refine own_iloadN (q := 23) A8 d37_22 rfl ?_
  refine own_iloadN (q := 24) A8 d37_23 rfl ?_
  refine own_isub (q := 25) A8 d37_24 ?_
  rw [show ((0 : Int32) - (0 : Int32)) = (0 : Int32) from by decide]
  refine own_istore (q := 27) (L' := #[.val (.ref x), .val (.int 0), .val (.int 0), .val (.int T), .val (.int 0)]) A8 d37_25 rfl ?_
  refine own_aloadN (q := 28) A8 d37_27 rfl rfl ?_
  refine own_virtual (q := 31) (W := 0) (argsL := []) (rest := []) A8 (H.k 165 rfl) (H.k 166 rfl) (H.k 168 rfl) (H.k 167 rfl) (by decide) (own_payN (rm_sil1 x A8.old H X.C) (fun _ _ q => own_keepE q.2) (H.k 169 rfl) (H.k 10 rfl) (by decide) (by decide)) own_nW (Nat.le_of_eq rfl) X.E own_pd15 rfl rfl rfl d37_28 (by decide) (by decide) ?_
  rintro v9 T10 h11 A12 ⟨rfl, rfl⟩
  show own_Run p e below Q m T10 31 #[.val (.ref x), .val (.int 0), .val (.int 0), .val (.int T), .val (.int 0)] [(.int 0)]
  refine own_ifcT (q := 47) A12 d37_31 (show (0 : Int32) = (0 : Int32) from by decide) ?_
  refine own_aloadN (q := 48) A12 d37_47 rfl rfl ?_
  refine own_getF (host := "") (q := 51) A12 (Or.inl (H.k 56 rfl)) Via.refl X.V d37_48 ?_
  intro T13 A14
  refine own_iloadN (q := 52) A14 d37_51 rfl ?_
  refine own_iload (q := 54) A14 d37_52 rfl ?_
  refine own_staticW (q := 57) (W := 0) (argsL := [(.ref t), (.int 0), (.int 0)]) (rest := []) A14 (H.k 337 rfl) (H.k 338 rfl) (H.k 242 rfl) (H.k 339 rfl) (by decide) (own_payW (rm_nsU0 t (0 : Int32) A14.old hEL H ) (H.k 339 rfl) (H.k 242 rfl) (by decide) (by decide)) own_nW (Nat.le_of_eq rfl) own_pd31 rfl rfl rfl d37_54 (by decide) (by decide) ?_
  rintro v17 T18 h19 A20 ⟨a15, rfl, q16⟩
  show own_Run p e below Q m T18 57 #[.val (.ref x), .val (.int 0), .val (.int 0), .val (.int T), .val (.int 0)] [(.ref a15)]
  exact own_retA A20 hQ rfl rfl rfl d37_57 ⟨a15, rfl, q16⟩
theorem rm_sszU1 (x t : Addr) (kt : ClassId) (N T : Int32) (us : List Value) (j0 : Nat) (chc : Int32) (O0 : Old Z n0 h0) (hEL : EW Z a0 consts_1) (H : own_H Z a0 zc fm) (X : own_X Z h0 x t kt 1 N us) (eT : N >>> ((1 : Int32) &&& 31) = T) (e1 : ¬ T < (1 : Int32)) (e2 : ¬ (1 : Int32) = T) (B : own_bo N (0 : Int32) 1) (G0 : own_gi N us (0 : Int32) j0 chc) (P : own_cut 2 2 N ((0 : Int32) <<< ((1 : Int32) &&& 31)) (((0 : Int32) + (1 : Int32)) <<< ((1 : Int32) &&& 31)) us [.int (StrChars.lo8 chc), .int (StrChars.hi8 chc)]) :
  own_Met true l Z n0 consts_1 [] ⟨"java/lang/String", "substring", "(II)Ljava/lang/String;"⟩ jdk_42_method_92_code 5 (some (.object "java/lang/String")) [] (own_R 6 3 16 94) #[(.ref x), (.int 0), (.int 1)] h0 (fun v h => ∃ (a : Addr), v = some (.ref a) ∧ Keep h0 h [] ∧ own_Str Z h a [chc]) := by
  refine own_ent (a0 := a0) (nm := "substring") (Ls := #[.val (.ref x), .val (.int 0), .val (.int 1), .unset, .unset]) own_pn2 O0 hEL ?_
  intro p e _ m _ below _ _ T0 Q hQ A0
  refine own_aloadN (q := 1) A0 d37_0 rfl rfl ?_
  refine own_virtual (q := 4) (W := 0) (argsL := []) (rest := []) A0 (H.k 170 rfl) (H.k 52 rfl) (H.k 54 rfl) (H.k 53 rfl) (by decide) (own_payN (rm_len x t kt (1 : Int32) N _ A0.old H X (by decide)) (fun _ _ q => own_keepE q.2) (H.k 55 rfl) (H.k 10 rfl) (by decide) (by decide)) own_nW (Nat.le_of_eq rfl) X.E own_pd8 rfl rfl rfl d37_1 (by decide) (by decide) ?_
  rintro v1 T2 h3 A4 ⟨rfl, rfl⟩
  show own_Run p e below Q m T2 4 #[.val (.ref x), .val (.int 0), .val (.int 1), .unset, .unset] [(.int (N >>> ((1 : Int32) &&& 31)))]
  rw [show (N >>> ((1 : Int32) &&& 31)) = T from eT]
  refine own_istoreN (q := 5) (L' := #[.val (.ref x), .val (.int 0), .val (.int 1), .val (.int T), .unset]) A4 d37_4 rfl ?_
  refine own_iloadN (q := 6) A4 d37_5 rfl ?_
  refine own_iloadN (q := 7) A4 d37_6 rfl ?_
  refine own_iloadN (q := 8) A4 d37_7 rfl ?_
  refine own_static (q := 11) (W := 0) (argsL := [(.int 0), (.int 1), (.int T)]) (rest := []) A4 (H.k 191 rfl) (H.k 192 rfl) (H.k 10 rfl) (H.k 193 rfl) (by decide) (own_payN (rm_sbe (0 : Int32) (1 : Int32) T A4.old H (by decide) (by decide) e1) (fun _ _ q => own_keepE q.2) (H.k 193 rfl) (H.k 10 rfl) (by decide) (by decide)) own_nW (Nat.le_of_eq rfl) own_pd29 rfl rfl rfl d37_8 (by decide) (by decide) ?_
  rintro v5 T6 h7 A8 ⟨rfl, rfl⟩
  show own_Run p e below Q m T6 11 #[.val (.ref x), .val (.int 0), .val (.int 1), .val (.int T), .unset] []
  refine own_iloadN (q := 12) A8 d37_11 rfl ?_
  refine own_ifcF (q := 15) A8 d37_12 (show (0 : Int32) = (0 : Int32) from rfl) ?_
  refine own_iloadN (q := 16) A8 d37_15 rfl ?_
  refine own_iloadN (q := 17) A8 d37_16 rfl ?_
  refine own_icmpT (q := 22) A8 d37_17 (show ¬ (1 : Int32) = T from e2) ?_
  refine own_iloadN (q := 23) A8 d37_22 rfl ?_
  refine own_iloadN (q := 24) A8 d37_23 rfl ?_
  refine own_isub (q := 25) A8 d37_24 ?_
  rw [show ((1 : Int32) - (0 : Int32)) = (1 : Int32) from by decide]
  refine own_istore (q := 27) (L' := #[.val (.ref x), .val (.int 0), .val (.int 1), .val (.int T), .val (.int 1)]) A8 d37_25 rfl ?_
  refine own_aloadN (q := 28) A8 d37_27 rfl rfl ?_
  refine own_virtual (q := 31) (W := 0) (argsL := []) (rest := []) A8 (H.k 165 rfl) (H.k 166 rfl) (H.k 168 rfl) (H.k 167 rfl) (by decide) (own_payN (rm_sil1 x A8.old H X.C) (fun _ _ q => own_keepE q.2) (H.k 169 rfl) (H.k 10 rfl) (by decide) (by decide)) own_nW (Nat.le_of_eq rfl) X.E own_pd15 rfl rfl rfl d37_28 (by decide) (by decide) ?_
  rintro v9 T10 h11 A12 ⟨rfl, rfl⟩
  show own_Run p e below Q m T10 31 #[.val (.ref x), .val (.int 0), .val (.int 1), .val (.int T), .val (.int 1)] [(.int 0)]
  refine own_ifcT (q := 47) A12 d37_31 (show (0 : Int32) = (0 : Int32) from by decide) ?_
  refine own_aloadN (q := 48) A12 d37_47 rfl rfl ?_
  refine own_getF (host := "") (q := 51) A12 (Or.inl (H.k 56 rfl)) Via.refl X.V d37_48 ?_
  intro T13 A14
  refine own_iloadN (q := 52) A14 d37_51 rfl ?_
  refine own_iload (q := 54) A14 d37_52 rfl ?_
  refine own_static (q := 57) (W := 0) (argsL := [(.ref t), (.int 0), (.int 1)]) (rest := []) A14 (H.k 337 rfl) (H.k 338 rfl) (H.k 242 rfl) (H.k 339 rfl) (by decide) (own_payN (rm_nsU1 t kt N us (0 : Int32) j0 chc A14.old H X.K B G0 P) (fun _ _ ⟨_, _, q, _⟩ => q) (H.k 339 rfl) (H.k 242 rfl) (by decide) (by decide)) own_nW (Nat.le_of_eq rfl) own_pd31 rfl rfl rfl d37_54 (by decide) (by decide) ?_
  rintro v17 T18 h19 A20 ⟨a15, rfl, q16⟩
  show own_Run p e below Q m T18 57 #[.val (.ref x), .val (.int 0), .val (.int 1), .val (.int T), .val (.int 1)] [(.ref a15)]
  exact own_retA A20 hQ rfl rfl rfl d37_57 ⟨a15, rfl, q16⟩
theorem rm_sszU2 (x t : Addr) (kt : ClassId) (N T : Int32) (us : List Value) (j0 j1 : Nat) (chc chd : Int32) (O0 : Old Z n0 h0) (hEL : EW Z a0 consts_1) (H : own_H Z a0 zc fm) (X : own_X Z h0 x t kt 1 N us) (eT : N >>> ((1 : Int32) &&& 31) = T) (e1 : ¬ T < (2 : Int32)) (e2 : ¬ (2 : Int32) = T) (B : own_bo N (0 : Int32) 2) (G0 : own_gi N us (0 : Int32) j0 chc) (G1 : own_gi N us ((0 : Int32) + 1) j1 chd) (P : own_cut 4 4 N ((0 : Int32) <<< ((1 : Int32) &&& 31)) (((0 : Int32) + (2 : Int32)) <<< ((1 : Int32) &&& 31)) us [.int (StrChars.lo8 chc), .int (StrChars.hi8 chc), .int (StrChars.lo8 chd), .int (StrChars.hi8 chd)]) :
  own_Met true l Z n0 consts_1 [] ⟨"java/lang/String", "substring", "(II)Ljava/lang/String;"⟩ jdk_42_method_92_code 5 (some (.object "java/lang/String")) [] (own_R 6 3 16 94) #[(.ref x), (.int 0), (.int 2)] h0 (fun v h => ∃ (a : Addr), v = some (.ref a) ∧ Keep h0 h [] ∧ own_Str Z h a [chc, chd]) := by
  refine own_ent (a0 := a0) (nm := "substring") (Ls := #[.val (.ref x), .val (.int 0), .val (.int 2), .unset, .unset]) own_pn2 O0 hEL ?_
  intro p e _ m _ below _ _ T0 Q hQ A0
  refine own_aloadN (q := 1) A0 d37_0 rfl rfl ?_
  refine own_virtual (q := 4) (W := 0) (argsL := []) (rest := []) A0 (H.k 170 rfl) (H.k 52 rfl) (H.k 54 rfl) (H.k 53 rfl) (by decide) (own_payN (rm_len x t kt (1 : Int32) N _ A0.old H X (by decide)) (fun _ _ q => own_keepE q.2) (H.k 55 rfl) (H.k 10 rfl) (by decide) (by decide)) own_nW (Nat.le_of_eq rfl) X.E own_pd8 rfl rfl rfl d37_1 (by decide) (by decide) ?_
  rintro v1 T2 h3 A4 ⟨rfl, rfl⟩
  show own_Run p e below Q m T2 4 #[.val (.ref x), .val (.int 0), .val (.int 2), .unset, .unset] [(.int (N >>> ((1 : Int32) &&& 31)))]
  rw [show (N >>> ((1 : Int32) &&& 31)) = T from eT]
  refine own_istoreN (q := 5) (L' := #[.val (.ref x), .val (.int 0), .val (.int 2), .val (.int T), .unset]) A4 d37_4 rfl ?_
  refine own_iloadN (q := 6) A4 d37_5 rfl ?_
  refine own_iloadN (q := 7) A4 d37_6 rfl ?_
  refine own_iloadN (q := 8) A4 d37_7 rfl ?_
  refine own_static (q := 11) (W := 0) (argsL := [(.int 0), (.int 2), (.int T)]) (rest := []) A4 (H.k 191 rfl) (H.k 192 rfl) (H.k 10 rfl) (H.k 193 rfl) (by decide) (own_payN (rm_sbe (0 : Int32) (2 : Int32) T A4.old H (by decide) (by decide) e1) (fun _ _ q => own_keepE q.2) (H.k 193 rfl) (H.k 10 rfl) (by decide) (by decide)) own_nW (Nat.le_of_eq rfl) own_pd29 rfl rfl rfl d37_8 (by decide) (by decide) ?_
  rintro v5 T6 h7 A8 ⟨rfl, rfl⟩
  show own_Run p e below Q m T6 11 #[.val (.ref x), .val (.int 0), .val (.int 2), .val (.int T), .unset] []
  refine own_iloadN (q := 12) A8 d37_11 rfl ?_
  refine own_ifcF (q := 15) A8 d37_12 (show (0 : Int32) = (0 : Int32) from rfl) ?_
  refine own_iloadN (q := 16) A8 d37_15 rfl ?_
  refine own_iloadN (q := 17) A8 d37_16 rfl ?_
  refine own_icmpT (q := 22) A8 d37_17 (show ¬ (2 : Int32) = T from e2) ?_
  refine own_iloadN (q := 23) A8 d37_22 rfl ?_
  refine own_iloadN (q := 24) A8 d37_23 rfl ?_
  refine own_isub (q := 25) A8 d37_24 ?_
  rw [show ((2 : Int32) - (0 : Int32)) = (2 : Int32) from by decide]
  refine own_istore (q := 27) (L' := #[.val (.ref x), .val (.int 0), .val (.int 2), .val (.int T), .val (.int 2)]) A8 d37_25 rfl ?_
  refine own_aloadN (q := 28) A8 d37_27 rfl rfl ?_
  refine own_virtual (q := 31) (W := 0) (argsL := []) (rest := []) A8 (H.k 165 rfl) (H.k 166 rfl) (H.k 168 rfl) (H.k 167 rfl) (by decide) (own_payN (rm_sil1 x A8.old H X.C) (fun _ _ q => own_keepE q.2) (H.k 169 rfl) (H.k 10 rfl) (by decide) (by decide)) own_nW (Nat.le_of_eq rfl) X.E own_pd15 rfl rfl rfl d37_28 (by decide) (by decide) ?_
  rintro v9 T10 h11 A12 ⟨rfl, rfl⟩
  show own_Run p e below Q m T10 31 #[.val (.ref x), .val (.int 0), .val (.int 2), .val (.int T), .val (.int 2)] [(.int 0)]
  refine own_ifcT (q := 47) A12 d37_31 (show (0 : Int32) = (0 : Int32) from by decide) ?_
  refine own_aloadN (q := 48) A12 d37_47 rfl rfl ?_
  refine own_getF (host := "") (q := 51) A12 (Or.inl (H.k 56 rfl)) Via.refl X.V d37_48 ?_
  intro T13 A14
  refine own_iloadN (q := 52) A14 d37_51 rfl ?_
  refine own_iload (q := 54) A14 d37_52 rfl ?_
  refine own_static (q := 57) (W := 0) (argsL := [(.ref t), (.int 0), (.int 2)]) (rest := []) A14 (H.k 337 rfl) (H.k 338 rfl) (H.k 242 rfl) (H.k 339 rfl) (by decide) (own_payN (rm_nsU2 t kt N us (0 : Int32) j0 j1 chc chd A14.old H X.K B G0 G1 P) (fun _ _ ⟨_, _, q, _⟩ => q) (H.k 339 rfl) (H.k 242 rfl) (by decide) (by decide)) own_nW (Nat.le_of_eq rfl) own_pd31 rfl rfl rfl d37_54 (by decide) (by decide) ?_
  rintro v17 T18 h19 A20 ⟨a15, rfl, q16⟩
  show own_Run p e below Q m T18 57 #[.val (.ref x), .val (.int 0), .val (.int 2), .val (.int T), .val (.int 2)] [(.ref a15)]
  exact own_retA A20 hQ rfl rfl rfl d37_57 ⟨a15, rfl, q16⟩
theorem rm_ssrL0 (x t : Addr) (kt : ClassId) (N T : Int32) (us : List Value) (b : Int32) (O0 : Old Z n0 h0) (hEL : EW Z a0 consts_1) (H : own_H Z a0 zc fm) (X : own_X Z h0 x t kt 0 N us) (eT : N >>> ((0 : Int32) &&& 31) = T) (b0 : ¬ b < 0) (b1 : ¬ T < b) (b2 : ¬ b = 0) (eK : T - b = 0) :
  own_Met true l Z n0 consts_1 [] ⟨"java/lang/String", "substring", "(II)Ljava/lang/String;"⟩ jdk_42_method_92_code 5 (some (.object "java/lang/String")) [] (own_R 6 3 16 94) #[(.ref x), (.int b), (.int T)] h0 (fun v h => ∃ (a : Addr), v = some (.ref a) ∧ Keep h0 h [] ∧ own_Str Z h a ([] : List Int32)) := by
  refine own_ent (a0 := a0) (nm := "substring") (Ls := #[.val (.ref x), .val (.int b), .val (.int T), .unset, .unset]) own_pn2 O0 hEL ?_
  intro p e _ m _ below _ _ T0 Q hQ A0
  refine own_aloadN (q := 1) A0 d37_0 rfl rfl ?_
  refine own_virtual (q := 4) (W := 0) (argsL := []) (rest := []) A0 (H.k 170 rfl) (H.k 52 rfl) (H.k 54 rfl) (H.k 53 rfl) (by decide) (own_payN (rm_len x t kt (0 : Int32) N _ A0.old H X (by decide)) (fun _ _ q => own_keepE q.2) (H.k 55 rfl) (H.k 10 rfl) (by decide) (by decide)) own_nW (Nat.le_of_eq rfl) X.E own_pd8 rfl rfl rfl d37_1 (by decide) (by decide) ?_
  rintro v1 T2 h3 A4 ⟨rfl, rfl⟩
  show own_Run p e below Q m T2 4 #[.val (.ref x), .val (.int b), .val (.int T), .unset, .unset] [(.int (N >>> ((0 : Int32) &&& 31)))]
  rw [show (N >>> ((0 : Int32) &&& 31)) = T from eT]
  refine own_istoreN (q := 5) (L' := #[.val (.ref x), .val (.int b), .val (.int T), .val (.int T), .unset]) A4 d37_4 rfl ?_
  refine own_iloadN (q := 6) A4 d37_5 rfl ?_
  refine own_iloadN (q := 7) A4 d37_6 rfl ?_
  refine own_iloadN (q := 8) A4 d37_7 rfl ?_
  refine own_static (q := 11) (W := 0) (argsL := [(.int b), (.int T), (.int T)]) (rest := []) A4 (H.k 191 rfl) (H.k 192 rfl) (H.k 10 rfl) (H.k 193 rfl) (by decide) (own_payN (rm_sbe b T T A4.old H b0 b1 Int32.lt_irrefl) (fun _ _ q => own_keepE q.2) (H.k 193 rfl) (H.k 10 rfl) (by decide) (by decide)) own_nW (Nat.le_of_eq rfl) own_pd29 rfl rfl rfl d37_8 (by decide) (by decide) ?_
  rintro v5 T6 h7 A8 ⟨rfl, rfl⟩
  show own_Run p e below Q m T6 11 #[.val (.ref x), .val (.int b), .val (.int T), .val (.int T), .unset] []
  refine own_iloadN (q := 12) A8 d37_11 rfl ?_
  refine own_ifcT (q := 22) A8 d37_12 (show ¬ b = (0 : Int32) from b2) ?_
  refine own_iloadN (q := 23) A8 d37_22 rfl ?_
  refine own_iloadN (q := 24) A8 d37_23 rfl ?_
  refine own_isub (q := 25) A8 d37_24 ?_
  rw [show (T - b) = (0 : Int32) from eK]
  refine own_istore (q := 27) (L' := #[.val (.ref x), .val (.int b), .val (.int T), .val (.int T), .val (.int 0)]) A8 d37_25 rfl ?_
  refine own_aloadN (q := 28) A8 d37_27 rfl rfl ?_
  refine own_virtual (q := 31) (W := 0) (argsL := []) (rest := []) A8 (H.k 165 rfl) (H.k 166 rfl) (H.k 168 rfl) (H.k 167 rfl) (by decide) (own_payN (rm_sil0 x A8.old H X.C) (fun _ _ q => own_keepE q.2) (H.k 169 rfl) (H.k 10 rfl) (by decide) (by decide)) own_nW (Nat.le_of_eq rfl) X.E own_pd15 rfl rfl rfl d37_28 (by decide) (by decide) ?_
  rintro v9 T10 h11 A12 ⟨rfl, rfl⟩
  show own_Run p e below Q m T10 31 #[.val (.ref x), .val (.int b), .val (.int T), .val (.int T), .val (.int 0)] [(.int 1)]
  refine own_ifcF (q := 34) A12 d37_31 (show ¬ (1 : Int32) = (0 : Int32) from by decide) ?_
  refine own_aloadN (q := 35) A12 d37_34 rfl rfl ?_
  refine own_getF (host := "") (q := 38) A12 (Or.inl (H.k 56 rfl)) Via.refl X.V d37_35 ?_
  intro T13 A14
  refine own_iloadN (q := 39) A14 d37_38 rfl ?_
  refine own_iload (q := 41) A14 d37_39 rfl ?_
  refine own_staticW (q := 44) (W := 0) (argsL := [(.ref t), (.int b), (.int 0)]) (rest := []) A14 (H.k 199 rfl) (H.k 200 rfl) (H.k 107 rfl) (H.k 201 rfl) (by decide) (own_payW (rm_nsL0 t b A14.old hEL H ) (H.k 201 rfl) (H.k 107 rfl) (by decide) (by decide)) own_nW (Nat.le_of_eq rfl) own_pd31 rfl rfl rfl d37_41 (by decide) (by decide) ?_
  rintro v17 T18 h19 A20 ⟨a15, rfl, q16⟩
  show own_Run p e below Q m T18 44 #[.val (.ref x), .val (.int b), .val (.int T), .val (.int T), .val (.int 0)] [(.ref a15)]
  refine own_goto (q := 57) A20 d37_44 ?_
  exact own_retA A20 hQ rfl rfl rfl d37_57 ⟨a15, rfl, q16⟩
theorem rm_ssrL1 (x t : Addr) (kt : ClassId) (N T : Int32) (us : List Value) (b : Int32) (chc : Int32) (O0 : Old Z n0 h0) (hEL : EW Z a0 consts_1) (H : own_H Z a0 zc fm) (X : own_X Z h0 x t kt 0 N us) (eT : N >>> ((0 : Int32) &&& 31) = T) (b0 : ¬ b < 0) (b1 : ¬ T < b) (b2 : ¬ b = 0) (eK : T - b = 1) (P : own_cut 1 1 N b (b + (1 : Int32)) us [.int (StrChars.lo8 chc)]) (w1 : ∀ y ∈ [chc], ¬ (255 : Int32) < y) :
  own_Met true l Z n0 consts_1 [] ⟨"java/lang/String", "substring", "(II)Ljava/lang/String;"⟩ jdk_42_method_92_code 5 (some (.object "java/lang/String")) [] (own_R 6 3 16 94) #[(.ref x), (.int b), (.int T)] h0 (fun v h => ∃ (a : Addr), v = some (.ref a) ∧ Keep h0 h [] ∧ own_Str Z h a [chc]) := by
  refine own_ent (a0 := a0) (nm := "substring") (Ls := #[.val (.ref x), .val (.int b), .val (.int T), .unset, .unset]) own_pn2 O0 hEL ?_
  intro p e _ m _ below _ _ T0 Q hQ A0
  refine own_aloadN (q := 1) A0 d37_0 rfl rfl ?_
  refine own_virtual (q := 4) (W := 0) (argsL := []) (rest := []) A0 (H.k 170 rfl) (H.k 52 rfl) (H.k 54 rfl) (H.k 53 rfl) (by decide) (own_payN (rm_len x t kt (0 : Int32) N _ A0.old H X (by decide)) (fun _ _ q => own_keepE q.2) (H.k 55 rfl) (H.k 10 rfl) (by decide) (by decide)) own_nW (Nat.le_of_eq rfl) X.E own_pd8 rfl rfl rfl d37_1 (by decide) (by decide) ?_
  rintro v1 T2 h3 A4 ⟨rfl, rfl⟩
  show own_Run p e below Q m T2 4 #[.val (.ref x), .val (.int b), .val (.int T), .unset, .unset] [(.int (N >>> ((0 : Int32) &&& 31)))]
  rw [show (N >>> ((0 : Int32) &&& 31)) = T from eT]
  refine own_istoreN (q := 5) (L' := #[.val (.ref x), .val (.int b), .val (.int T), .val (.int T), .unset]) A4 d37_4 rfl ?_
  refine own_iloadN (q := 6) A4 d37_5 rfl ?_
  refine own_iloadN (q := 7) A4 d37_6 rfl ?_
  refine own_iloadN (q := 8) A4 d37_7 rfl ?_
  refine own_static (q := 11) (W := 0) (argsL := [(.int b), (.int T), (.int T)]) (rest := []) A4 (H.k 191 rfl) (H.k 192 rfl) (H.k 10 rfl) (H.k 193 rfl) (by decide) (own_payN (rm_sbe b T T A4.old H b0 b1 Int32.lt_irrefl) (fun _ _ q => own_keepE q.2) (H.k 193 rfl) (H.k 10 rfl) (by decide) (by decide)) own_nW (Nat.le_of_eq rfl) own_pd29 rfl rfl rfl d37_8 (by decide) (by decide) ?_
  rintro v5 T6 h7 A8 ⟨rfl, rfl⟩
  show own_Run p e below Q m T6 11 #[.val (.ref x), .val (.int b), .val (.int T), .val (.int T), .unset] []
  refine own_iloadN (q := 12) A8 d37_11 rfl ?_
  refine own_ifcT (q := 22) A8 d37_12 (show ¬ b = (0 : Int32) from b2) ?_
  refine own_iloadN (q := 23) A8 d37_22 rfl ?_
  refine own_iloadN (q := 24) A8 d37_23 rfl ?_
  refine own_isub (q := 25) A8 d37_24 ?_
  rw [show (T - b) = (1 : Int32) from eK]
  refine own_istore (q := 27) (L' := #[.val (.ref x), .val (.int b), .val (.int T), .val (.int T), .val (.int 1)]) A8 d37_25 rfl ?_
  refine own_aloadN (q := 28) A8 d37_27 rfl rfl ?_
  refine own_virtual (q := 31) (W := 0) (argsL := []) (rest := []) A8 (H.k 165 rfl) (H.k 166 rfl) (H.k 168 rfl) (H.k 167 rfl) (by decide) (own_payN (rm_sil0 x A8.old H X.C) (fun _ _ q => own_keepE q.2) (H.k 169 rfl) (H.k 10 rfl) (by decide) (by decide)) own_nW (Nat.le_of_eq rfl) X.E own_pd15 rfl rfl rfl d37_28 (by decide) (by decide) ?_
  rintro v9 T10 h11 A12 ⟨rfl, rfl⟩
  show own_Run p e below Q m T10 31 #[.val (.ref x), .val (.int b), .val (.int T), .val (.int T), .val (.int 1)] [(.int 1)]
  refine own_ifcF (q := 34) A12 d37_31 (show ¬ (1 : Int32) = (0 : Int32) from by decide) ?_
  refine own_aloadN (q := 35) A12 d37_34 rfl rfl ?_
  refine own_getF (host := "") (q := 38) A12 (Or.inl (H.k 56 rfl)) Via.refl X.V d37_35 ?_
  intro T13 A14
  refine own_iloadN (q := 39) A14 d37_38 rfl ?_
  refine own_iload (q := 41) A14 d37_39 rfl ?_
  refine own_static (q := 44) (W := 0) (argsL := [(.ref t), (.int b), (.int 1)]) (rest := []) A14 (H.k 199 rfl) (H.k 200 rfl) (H.k 107 rfl) (H.k 201 rfl) (by decide) (own_payN (rm_nsL1 t kt N us b chc A14.old H X.K P w1) (fun _ _ ⟨_, _, q, _⟩ => q) (H.k 201 rfl) (H.k 107 rfl) (by decide) (by decide)) own_nW (Nat.le_of_eq rfl) own_pd31 rfl rfl rfl d37_41 (by decide) (by decide) ?_
  rintro v17 T18 h19 A20 ⟨a15, rfl, q16⟩
  show own_Run p e below Q m T18 44 #[.val (.ref x), .val (.int b), .val (.int T), .val (.int T), .val (.int 1)] [(.ref a15)]
  refine own_goto (q := 57) A20 d37_44 ?_
  exact own_retA A20 hQ rfl rfl rfl d37_57 ⟨a15, rfl, q16⟩
theorem rm_ssrL2 (x t : Addr) (kt : ClassId) (N T : Int32) (us : List Value) (b : Int32) (chc chd : Int32) (O0 : Old Z n0 h0) (hEL : EW Z a0 consts_1) (H : own_H Z a0 zc fm) (X : own_X Z h0 x t kt 0 N us) (eT : N >>> ((0 : Int32) &&& 31) = T) (b0 : ¬ b < 0) (b1 : ¬ T < b) (b2 : ¬ b = 0) (eK : T - b = 2) (P : own_cut 2 2 N b (b + (2 : Int32)) us [.int (StrChars.lo8 chc), .int (StrChars.lo8 chd)]) (w1 : ∀ y ∈ [chc, chd], ¬ (255 : Int32) < y) :
  own_Met true l Z n0 consts_1 [] ⟨"java/lang/String", "substring", "(II)Ljava/lang/String;"⟩ jdk_42_method_92_code 5 (some (.object "java/lang/String")) [] (own_R 6 3 16 94) #[(.ref x), (.int b), (.int T)] h0 (fun v h => ∃ (a : Addr), v = some (.ref a) ∧ Keep h0 h [] ∧ own_Str Z h a [chc, chd]) := by
  refine own_ent (a0 := a0) (nm := "substring") (Ls := #[.val (.ref x), .val (.int b), .val (.int T), .unset, .unset]) own_pn2 O0 hEL ?_
  intro p e _ m _ below _ _ T0 Q hQ A0
  refine own_aloadN (q := 1) A0 d37_0 rfl rfl ?_
  refine own_virtual (q := 4) (W := 0) (argsL := []) (rest := []) A0 (H.k 170 rfl) (H.k 52 rfl) (H.k 54 rfl) (H.k 53 rfl) (by decide) (own_payN (rm_len x t kt (0 : Int32) N _ A0.old H X (by decide)) (fun _ _ q => own_keepE q.2) (H.k 55 rfl) (H.k 10 rfl) (by decide) (by decide)) own_nW (Nat.le_of_eq rfl) X.E own_pd8 rfl rfl rfl d37_1 (by decide) (by decide) ?_
  rintro v1 T2 h3 A4 ⟨rfl, rfl⟩
  show own_Run p e below Q m T2 4 #[.val (.ref x), .val (.int b), .val (.int T), .unset, .unset] [(.int (N >>> ((0 : Int32) &&& 31)))]
  rw [show (N >>> ((0 : Int32) &&& 31)) = T from eT]
  refine own_istoreN (q := 5) (L' := #[.val (.ref x), .val (.int b), .val (.int T), .val (.int T), .unset]) A4 d37_4 rfl ?_
  refine own_iloadN (q := 6) A4 d37_5 rfl ?_
  refine own_iloadN (q := 7) A4 d37_6 rfl ?_
  refine own_iloadN (q := 8) A4 d37_7 rfl ?_
  refine own_static (q := 11) (W := 0) (argsL := [(.int b), (.int T), (.int T)]) (rest := []) A4 (H.k 191 rfl) (H.k 192 rfl) (H.k 10 rfl) (H.k 193 rfl) (by decide) (own_payN (rm_sbe b T T A4.old H b0 b1 Int32.lt_irrefl) (fun _ _ q => own_keepE q.2) (H.k 193 rfl) (H.k 10 rfl) (by decide) (by decide)) own_nW (Nat.le_of_eq rfl) own_pd29 rfl rfl rfl d37_8 (by decide) (by decide) ?_
  rintro v5 T6 h7 A8 ⟨rfl, rfl⟩
  show own_Run p e below Q m T6 11 #[.val (.ref x), .val (.int b), .val (.int T), .val (.int T), .unset] []
  refine own_iloadN (q := 12) A8 d37_11 rfl ?_
  refine own_ifcT (q := 22) A8 d37_12 (show ¬ b = (0 : Int32) from b2) ?_
  refine own_iloadN (q := 23) A8 d37_22 rfl ?_
  refine own_iloadN (q := 24) A8 d37_23 rfl ?_
  refine own_isub (q := 25) A8 d37_24 ?_
  rw [show (T - b) = (2 : Int32) from eK]
  refine own_istore (q := 27) (L' := #[.val (.ref x), .val (.int b), .val (.int T), .val (.int T), .val (.int 2)]) A8 d37_25 rfl ?_
  refine own_aloadN (q := 28) A8 d37_27 rfl rfl ?_
  refine own_virtual (q := 31) (W := 0) (argsL := []) (rest := []) A8 (H.k 165 rfl) (H.k 166 rfl) (H.k 168 rfl) (H.k 167 rfl) (by decide) (own_payN (rm_sil0 x A8.old H X.C) (fun _ _ q => own_keepE q.2) (H.k 169 rfl) (H.k 10 rfl) (by decide) (by decide)) own_nW (Nat.le_of_eq rfl) X.E own_pd15 rfl rfl rfl d37_28 (by decide) (by decide) ?_
  rintro v9 T10 h11 A12 ⟨rfl, rfl⟩
  show own_Run p e below Q m T10 31 #[.val (.ref x), .val (.int b), .val (.int T), .val (.int T), .val (.int 2)] [(.int 1)]
  refine own_ifcF (q := 34) A12 d37_31 (show ¬ (1 : Int32) = (0 : Int32) from by decide) ?_
  refine own_aloadN (q := 35) A12 d37_34 rfl rfl ?_
  refine own_getF (host := "") (q := 38) A12 (Or.inl (H.k 56 rfl)) Via.refl X.V d37_35 ?_
  intro T13 A14
  refine own_iloadN (q := 39) A14 d37_38 rfl ?_
  refine own_iload (q := 41) A14 d37_39 rfl ?_
  refine own_static (q := 44) (W := 0) (argsL := [(.ref t), (.int b), (.int 2)]) (rest := []) A14 (H.k 199 rfl) (H.k 200 rfl) (H.k 107 rfl) (H.k 201 rfl) (by decide) (own_payN (rm_nsL2 t kt N us b chc chd A14.old H X.K P w1) (fun _ _ ⟨_, _, q, _⟩ => q) (H.k 201 rfl) (H.k 107 rfl) (by decide) (by decide)) own_nW (Nat.le_of_eq rfl) own_pd31 rfl rfl rfl d37_41 (by decide) (by decide) ?_
  rintro v17 T18 h19 A20 ⟨a15, rfl, q16⟩
  show own_Run p e below Q m T18 44 #[.val (.ref x), .val (.int b), .val (.int T), .val (.int T), .val (.int 2)] [(.ref a15)]
  refine own_goto (q := 57) A20 d37_44 ?_
  exact own_retA A20 hQ rfl rfl rfl d37_57 ⟨a15, rfl, q16⟩
theorem rm_ssrU0 (x t : Addr) (kt : ClassId) (N T : Int32) (us : List Value) (b : Int32) (O0 : Old Z n0 h0) (hEL : EW Z a0 consts_1) (H : own_H Z a0 zc fm) (X : own_X Z h0 x t kt 1 N us) (eT : N >>> ((1 : Int32) &&& 31) = T) (b0 : ¬ b < 0) (b1 : ¬ T < b) (b2 : ¬ b = 0) (eK : T - b = 0) :
  own_Met true l Z n0 consts_1 [] ⟨"java/lang/String", "substring", "(II)Ljava/lang/String;"⟩ jdk_42_method_92_code 5 (some (.object "java/lang/String")) [] (own_R 6 3 16 94) #[(.ref x), (.int b), (.int T)] h0 (fun v h => ∃ (a : Addr), v = some (.ref a) ∧ Keep h0 h [] ∧ own_Str Z h a ([] : List Int32)) := by
  refine own_ent (a0 := a0) (nm := "substring") (Ls := #[.val (.ref x), .val (.int b), .val (.int T), .unset, .unset]) own_pn2 O0 hEL ?_
  intro p e _ m _ below _ _ T0 Q hQ A0
  refine own_aloadN (q := 1) A0 d37_0 rfl rfl ?_
  refine own_virtual (q := 4) (W := 0) (argsL := []) (rest := []) A0 (H.k 170 rfl) (H.k 52 rfl) (H.k 54 rfl) (H.k 53 rfl) (by decide) (own_payN (rm_len x t kt (1 : Int32) N _ A0.old H X (by decide)) (fun _ _ q => own_keepE q.2) (H.k 55 rfl) (H.k 10 rfl) (by decide) (by decide)) own_nW (Nat.le_of_eq rfl) X.E own_pd8 rfl rfl rfl d37_1 (by decide) (by decide) ?_
  rintro v1 T2 h3 A4 ⟨rfl, rfl⟩
  show own_Run p e below Q m T2 4 #[.val (.ref x), .val (.int b), .val (.int T), .unset, .unset] [(.int (N >>> ((1 : Int32) &&& 31)))]
  rw [show (N >>> ((1 : Int32) &&& 31)) = T from eT]
  refine own_istoreN (q := 5) (L' := #[.val (.ref x), .val (.int b), .val (.int T), .val (.int T), .unset]) A4 d37_4 rfl ?_
  refine own_iloadN (q := 6) A4 d37_5 rfl ?_
  refine own_iloadN (q := 7) A4 d37_6 rfl ?_
  refine own_iloadN (q := 8) A4 d37_7 rfl ?_
  refine own_static (q := 11) (W := 0) (argsL := [(.int b), (.int T), (.int T)]) (rest := []) A4 (H.k 191 rfl) (H.k 192 rfl) (H.k 10 rfl) (H.k 193 rfl) (by decide) (own_payN (rm_sbe b T T A4.old H b0 b1 Int32.lt_irrefl) (fun _ _ q => own_keepE q.2) (H.k 193 rfl) (H.k 10 rfl) (by decide) (by decide)) own_nW (Nat.le_of_eq rfl) own_pd29 rfl rfl rfl d37_8 (by decide) (by decide) ?_
  rintro v5 T6 h7 A8 ⟨rfl, rfl⟩
  show own_Run p e below Q m T6 11 #[.val (.ref x), .val (.int b), .val (.int T), .val (.int T), .unset] []
  refine own_iloadN (q := 12) A8 d37_11 rfl ?_
  refine own_ifcT (q := 22) A8 d37_12 (show ¬ b = (0 : Int32) from b2) ?_
  refine own_iloadN (q := 23) A8 d37_22 rfl ?_
  refine own_iloadN (q := 24) A8 d37_23 rfl ?_
  refine own_isub (q := 25) A8 d37_24 ?_
  rw [show (T - b) = (0 : Int32) from eK]
  refine own_istore (q := 27) (L' := #[.val (.ref x), .val (.int b), .val (.int T), .val (.int T), .val (.int 0)]) A8 d37_25 rfl ?_
  refine own_aloadN (q := 28) A8 d37_27 rfl rfl ?_
  refine own_virtual (q := 31) (W := 0) (argsL := []) (rest := []) A8 (H.k 165 rfl) (H.k 166 rfl) (H.k 168 rfl) (H.k 167 rfl) (by decide) (own_payN (rm_sil1 x A8.old H X.C) (fun _ _ q => own_keepE q.2) (H.k 169 rfl) (H.k 10 rfl) (by decide) (by decide)) own_nW (Nat.le_of_eq rfl) X.E own_pd15 rfl rfl rfl d37_28 (by decide) (by decide) ?_
  rintro v9 T10 h11 A12 ⟨rfl, rfl⟩
  show own_Run p e below Q m T10 31 #[.val (.ref x), .val (.int b), .val (.int T), .val (.int T), .val (.int 0)] [(.int 0)]
  refine own_ifcT (q := 47) A12 d37_31 (show (0 : Int32) = (0 : Int32) from by decide) ?_
  refine own_aloadN (q := 48) A12 d37_47 rfl rfl ?_
  refine own_getF (host := "") (q := 51) A12 (Or.inl (H.k 56 rfl)) Via.refl X.V d37_48 ?_
  intro T13 A14
  refine own_iloadN (q := 52) A14 d37_51 rfl ?_
  refine own_iload (q := 54) A14 d37_52 rfl ?_
  refine own_staticW (q := 57) (W := 0) (argsL := [(.ref t), (.int b), (.int 0)]) (rest := []) A14 (H.k 337 rfl) (H.k 338 rfl) (H.k 242 rfl) (H.k 339 rfl) (by decide) (own_payW (rm_nsU0 t b A14.old hEL H ) (H.k 339 rfl) (H.k 242 rfl) (by decide) (by decide)) own_nW (Nat.le_of_eq rfl) own_pd31 rfl rfl rfl d37_54 (by decide) (by decide) ?_
  rintro v17 T18 h19 A20 ⟨a15, rfl, q16⟩
  show own_Run p e below Q m T18 57 #[.val (.ref x), .val (.int b), .val (.int T), .val (.int T), .val (.int 0)] [(.ref a15)]
  exact own_retA A20 hQ rfl rfl rfl d37_57 ⟨a15, rfl, q16⟩
theorem rm_ssrU1 (x t : Addr) (kt : ClassId) (N T : Int32) (us : List Value) (b : Int32) (j0 : Nat) (chc : Int32) (O0 : Old Z n0 h0) (hEL : EW Z a0 consts_1) (H : own_H Z a0 zc fm) (X : own_X Z h0 x t kt 1 N us) (eT : N >>> ((1 : Int32) &&& 31) = T) (b0 : ¬ b < 0) (b1 : ¬ T < b) (b2 : ¬ b = 0) (eK : T - b = 1) (B : own_bo N b 1) (G0 : own_gi N us b j0 chc) (P : own_cut 2 2 N (b <<< ((1 : Int32) &&& 31)) ((b + (1 : Int32)) <<< ((1 : Int32) &&& 31)) us [.int (StrChars.lo8 chc), .int (StrChars.hi8 chc)]) :
  own_Met true l Z n0 consts_1 [] ⟨"java/lang/String", "substring", "(II)Ljava/lang/String;"⟩ jdk_42_method_92_code 5 (some (.object "java/lang/String")) [] (own_R 6 3 16 94) #[(.ref x), (.int b), (.int T)] h0 (fun v h => ∃ (a : Addr), v = some (.ref a) ∧ Keep h0 h [] ∧ own_Str Z h a [chc]) := by
  refine own_ent (a0 := a0) (nm := "substring") (Ls := #[.val (.ref x), .val (.int b), .val (.int T), .unset, .unset]) own_pn2 O0 hEL ?_
  intro p e _ m _ below _ _ T0 Q hQ A0
  refine own_aloadN (q := 1) A0 d37_0 rfl rfl ?_
  refine own_virtual (q := 4) (W := 0) (argsL := []) (rest := []) A0 (H.k 170 rfl) (H.k 52 rfl) (H.k 54 rfl) (H.k 53 rfl) (by decide) (own_payN (rm_len x t kt (1 : Int32) N _ A0.old H X (by decide)) (fun _ _ q => own_keepE q.2) (H.k 55 rfl) (H.k 10 rfl) (by decide) (by decide)) own_nW (Nat.le_of_eq rfl) X.E own_pd8 rfl rfl rfl d37_1 (by decide) (by decide) ?_
  rintro v1 T2 h3 A4 ⟨rfl, rfl⟩
  show own_Run p e below Q m T2 4 #[.val (.ref x), .val (.int b), .val (.int T), .unset, .unset] [(.int (N >>> ((1 : Int32) &&& 31)))]
  rw [show (N >>> ((1 : Int32) &&& 31)) = T from eT]
  refine own_istoreN (q := 5) (L' := #[.val (.ref x), .val (.int b), .val (.int T), .val (.int T), .unset]) A4 d37_4 rfl ?_
  refine own_iloadN (q := 6) A4 d37_5 rfl ?_
  refine own_iloadN (q := 7) A4 d37_6 rfl ?_
  refine own_iloadN (q := 8) A4 d37_7 rfl ?_
  refine own_static (q := 11) (W := 0) (argsL := [(.int b), (.int T), (.int T)]) (rest := []) A4 (H.k 191 rfl) (H.k 192 rfl) (H.k 10 rfl) (H.k 193 rfl) (by decide) (own_payN (rm_sbe b T T A4.old H b0 b1 Int32.lt_irrefl) (fun _ _ q => own_keepE q.2) (H.k 193 rfl) (H.k 10 rfl) (by decide) (by decide)) own_nW (Nat.le_of_eq rfl) own_pd29 rfl rfl rfl d37_8 (by decide) (by decide) ?_
  rintro v5 T6 h7 A8 ⟨rfl, rfl⟩
  show own_Run p e below Q m T6 11 #[.val (.ref x), .val (.int b), .val (.int T), .val (.int T), .unset] []
  refine own_iloadN (q := 12) A8 d37_11 rfl ?_
  refine own_ifcT (q := 22) A8 d37_12 (show ¬ b = (0 : Int32) from b2) ?_
  refine own_iloadN (q := 23) A8 d37_22 rfl ?_
  refine own_iloadN (q := 24) A8 d37_23 rfl ?_
  refine own_isub (q := 25) A8 d37_24 ?_
  rw [show (T - b) = (1 : Int32) from eK]
  refine own_istore (q := 27) (L' := #[.val (.ref x), .val (.int b), .val (.int T), .val (.int T), .val (.int 1)]) A8 d37_25 rfl ?_
  refine own_aloadN (q := 28) A8 d37_27 rfl rfl ?_
  refine own_virtual (q := 31) (W := 0) (argsL := []) (rest := []) A8 (H.k 165 rfl) (H.k 166 rfl) (H.k 168 rfl) (H.k 167 rfl) (by decide) (own_payN (rm_sil1 x A8.old H X.C) (fun _ _ q => own_keepE q.2) (H.k 169 rfl) (H.k 10 rfl) (by decide) (by decide)) own_nW (Nat.le_of_eq rfl) X.E own_pd15 rfl rfl rfl d37_28 (by decide) (by decide) ?_
  rintro v9 T10 h11 A12 ⟨rfl, rfl⟩
  show own_Run p e below Q m T10 31 #[.val (.ref x), .val (.int b), .val (.int T), .val (.int T), .val (.int 1)] [(.int 0)]
  refine own_ifcT (q := 47) A12 d37_31 (show (0 : Int32) = (0 : Int32) from by decide) ?_
  refine own_aloadN (q := 48) A12 d37_47 rfl rfl ?_
  refine own_getF (host := "") (q := 51) A12 (Or.inl (H.k 56 rfl)) Via.refl X.V d37_48 ?_
  intro T13 A14
  refine own_iloadN (q := 52) A14 d37_51 rfl ?_
  refine own_iload (q := 54) A14 d37_52 rfl ?_
  refine own_static (q := 57) (W := 0) (argsL := [(.ref t), (.int b), (.int 1)]) (rest := []) A14 (H.k 337 rfl) (H.k 338 rfl) (H.k 242 rfl) (H.k 339 rfl) (by decide) (own_payN (rm_nsU1 t kt N us b j0 chc A14.old H X.K B G0 P) (fun _ _ ⟨_, _, q, _⟩ => q) (H.k 339 rfl) (H.k 242 rfl) (by decide) (by decide)) own_nW (Nat.le_of_eq rfl) own_pd31 rfl rfl rfl d37_54 (by decide) (by decide) ?_
  rintro v17 T18 h19 A20 ⟨a15, rfl, q16⟩
  show own_Run p e below Q m T18 57 #[.val (.ref x), .val (.int b), .val (.int T), .val (.int T), .val (.int 1)] [(.ref a15)]
  exact own_retA A20 hQ rfl rfl rfl d37_57 ⟨a15, rfl, q16⟩
theorem rm_ssrU2 (x t : Addr) (kt : ClassId) (N T : Int32) (us : List Value) (b : Int32) (j0 j1 : Nat) (chc chd : Int32) (O0 : Old Z n0 h0) (hEL : EW Z a0 consts_1) (H : own_H Z a0 zc fm) (X : own_X Z h0 x t kt 1 N us) (eT : N >>> ((1 : Int32) &&& 31) = T) (b0 : ¬ b < 0) (b1 : ¬ T < b) (b2 : ¬ b = 0) (eK : T - b = 2) (B : own_bo N b 2) (G0 : own_gi N us b j0 chc) (G1 : own_gi N us (b + 1) j1 chd) (P : own_cut 4 4 N (b <<< ((1 : Int32) &&& 31)) ((b + (2 : Int32)) <<< ((1 : Int32) &&& 31)) us [.int (StrChars.lo8 chc), .int (StrChars.hi8 chc), .int (StrChars.lo8 chd), .int (StrChars.hi8 chd)]) :
  own_Met true l Z n0 consts_1 [] ⟨"java/lang/String", "substring", "(II)Ljava/lang/String;"⟩ jdk_42_method_92_code 5 (some (.object "java/lang/String")) [] (own_R 6 3 16 94) #[(.ref x), (.int b), (.int T)] h0 (fun v h => ∃ (a : Addr), v = some (.ref a) ∧ Keep h0 h [] ∧ own_Str Z h a [chc, chd]) := by
  refine own_ent (a0 := a0) (nm := "substring") (Ls := #[.val (.ref x), .val (.int b), .val (.int T), .unset, .unset]) own_pn2 O0 hEL ?_
  intro p e _ m _ below _ _ T0 Q hQ A0
  refine own_aloadN (q := 1) A0 d37_0 rfl rfl ?_
  refine own_virtual (q := 4) (W := 0) (argsL := []) (rest := []) A0 (H.k 170 rfl) (H.k 52 rfl) (H.k 54 rfl) (H.k 53 rfl) (by decide) (own_payN (rm_len x t kt (1 : Int32) N _ A0.old H X (by decide)) (fun _ _ q => own_keepE q.2) (H.k 55 rfl) (H.k 10 rfl) (by decide) (by decide)) own_nW (Nat.le_of_eq rfl) X.E own_pd8 rfl rfl rfl d37_1 (by decide) (by decide) ?_
  rintro v1 T2 h3 A4 ⟨rfl, rfl⟩
  show own_Run p e below Q m T2 4 #[.val (.ref x), .val (.int b), .val (.int T), .unset, .unset] [(.int (N >>> ((1 : Int32) &&& 31)))]
  rw [show (N >>> ((1 : Int32) &&& 31)) = T from eT]
  refine own_istoreN (q := 5) (L' := #[.val (.ref x), .val (.int b), .val (.int T), .val (.int T), .unset]) A4 d37_4 rfl ?_
  refine own_iloadN (q := 6) A4 d37_5 rfl ?_
  refine own_iloadN (q := 7) A4 d37_6 rfl ?_
  refine own_iloadN (q := 8) A4 d37_7 rfl ?_
  refine own_static (q := 11) (W := 0) (argsL := [(.int b), (.int T), (.int T)]) (rest := []) A4 (H.k 191 rfl) (H.k 192 rfl) (H.k 10 rfl) (H.k 193 rfl) (by decide) (own_payN (rm_sbe b T T A4.old H b0 b1 Int32.lt_irrefl) (fun _ _ q => own_keepE q.2) (H.k 193 rfl) (H.k 10 rfl) (by decide) (by decide)) own_nW (Nat.le_of_eq rfl) own_pd29 rfl rfl rfl d37_8 (by decide) (by decide) ?_
  rintro v5 T6 h7 A8 ⟨rfl, rfl⟩
  show own_Run p e below Q m T6 11 #[.val (.ref x), .val (.int b), .val (.int T), .val (.int T), .unset] []
  refine own_iloadN (q := 12) A8 d37_11 rfl ?_
  refine own_ifcT (q := 22) A8 d37_12 (show ¬ b = (0 : Int32) from b2) ?_
  refine own_iloadN (q := 23) A8 d37_22 rfl ?_
  refine own_iloadN (q := 24) A8 d37_23 rfl ?_
  refine own_isub (q := 25) A8 d37_24 ?_
  rw [show (T - b) = (2 : Int32) from eK]
  refine own_istore (q := 27) (L' := #[.val (.ref x), .val (.int b), .val (.int T), .val (.int T), .val (.int 2)]) A8 d37_25 rfl ?_
  refine own_aloadN (q := 28) A8 d37_27 rfl rfl ?_
  refine own_virtual (q := 31) (W := 0) (argsL := []) (rest := []) A8 (H.k 165 rfl) (H.k 166 rfl) (H.k 168 rfl) (H.k 167 rfl) (by decide) (own_payN (rm_sil1 x A8.old H X.C) (fun _ _ q => own_keepE q.2) (H.k 169 rfl) (H.k 10 rfl) (by decide) (by decide)) own_nW (Nat.le_of_eq rfl) X.E own_pd15 rfl rfl rfl d37_28 (by decide) (by decide) ?_
  rintro v9 T10 h11 A12 ⟨rfl, rfl⟩
  show own_Run p e below Q m T10 31 #[.val (.ref x), .val (.int b), .val (.int T), .val (.int T), .val (.int 2)] [(.int 0)]
  refine own_ifcT (q := 47) A12 d37_31 (show (0 : Int32) = (0 : Int32) from by decide) ?_
  refine own_aloadN (q := 48) A12 d37_47 rfl rfl ?_
  refine own_getF (host := "") (q := 51) A12 (Or.inl (H.k 56 rfl)) Via.refl X.V d37_48 ?_
  intro T13 A14
  refine own_iloadN (q := 52) A14 d37_51 rfl ?_
  refine own_iload (q := 54) A14 d37_52 rfl ?_
  refine own_static (q := 57) (W := 0) (argsL := [(.ref t), (.int b), (.int 2)]) (rest := []) A14 (H.k 337 rfl) (H.k 338 rfl) (H.k 242 rfl) (H.k 339 rfl) (by decide) (own_payN (rm_nsU2 t kt N us b j0 j1 chc chd A14.old H X.K B G0 G1 P) (fun _ _ ⟨_, _, q, _⟩ => q) (H.k 339 rfl) (H.k 242 rfl) (by decide) (by decide)) own_nW (Nat.le_of_eq rfl) own_pd31 rfl rfl rfl d37_54 (by decide) (by decide) ?_
  rintro v17 T18 h19 A20 ⟨a15, rfl, q16⟩
  show own_Run p e below Q m T18 57 #[.val (.ref x), .val (.int b), .val (.int T), .val (.int T), .val (.int 2)] [(.ref a15)]
  exact own_retA A20 hQ rfl rfl rfl d37_57 ⟨a15, rfl, q16⟩
theorem d41_0 : decode jdk_42_method_91_code 0 = .ok (.aload_n 0, 1) := by decide +kernel
theorem d41_1 : decode jdk_42_method_91_code 1 = .ok (.iload_n 1, 1) := by decide +kernel
theorem d41_2 : decode jdk_42_method_91_code 2 = .ok (.aload_n 0, 1) := by decide +kernel
theorem d41_3 : decode jdk_42_method_91_code 3 = .ok (.invokevirtual 505, 3) := by decide +kernel
theorem d41_6 : decode jdk_42_method_91_code 6 = .ok (.invokevirtual 681, 3) := by decide +kernel
theorem d41_9 : decode jdk_42_method_91_code 9 = .ok (.areturn, 1) := by decide +kernel
theorem rm_s1L0 (x t : Addr) (kt : ClassId) (N T : Int32) (us : List Value) (b : Int32) (O0 : Old Z n0 h0) (hEL : EW Z a0 consts_1) (H : own_H Z a0 zc fm) (X : own_X Z h0 x t kt 0 N us) (eT : N >>> ((0 : Int32) &&& 31) = T) (b0 : ¬ b < 0) (b1 : ¬ T < b) (b2 : ¬ b = 0) (eK : T - b = 0) :
  own_Met true l Z n0 consts_1 [] ⟨"java/lang/String", "substring", "(I)Ljava/lang/String;"⟩ jdk_42_method_91_code 2 (some (.object "java/lang/String")) [] (own_R 7 3 16 110) #[(.ref x), (.int b)] h0 (fun v h => ∃ (a : Addr), v = some (.ref a) ∧ Keep h0 h [] ∧ own_Str Z h a ([] : List Int32)) := by
  refine own_ent (a0 := a0) (nm := "substring") (Ls := #[.val (.ref x), .val (.int b)]) own_pn2 O0 hEL ?_
  intro p e _ m _ below _ _ T0 Q hQ A0
  refine own_aloadN (q := 1) A0 d41_0 rfl rfl ?_
  refine own_iloadN (q := 2) A0 d41_1 rfl ?_
  refine own_aloadN (q := 3) A0 d41_2 rfl rfl ?_
  refine own_virtual (q := 6) (W := 2) (argsL := []) (rest := [(.int b), (.ref x)]) A0 (H.k 170 rfl) (H.k 52 rfl) (H.k 54 rfl) (H.k 53 rfl) (by decide) (own_payN (rm_len x t kt (0 : Int32) N _ A0.old H X (by decide)) (fun _ _ q => own_keepE q.2) (H.k 55 rfl) (H.k 10 rfl) (by decide) (by decide)) own_nW (Nat.le_of_eq rfl) X.E own_pd8 rfl rfl rfl d41_3 (by decide) (by decide) ?_
  rintro v1 T2 h3 A4 ⟨rfl, rfl⟩
  show own_Run p e below Q m T2 6 #[.val (.ref x), .val (.int b)] [(.int (N >>> ((0 : Int32) &&& 31))), (.int b), (.ref x)]
  rw [show (N >>> ((0 : Int32) &&& 31)) = T from eT]
  refine own_virtualW (q := 9) (W := 0) (argsL := [(.int b), (.int T)]) (rest := []) A4 (H.k 208 rfl) (H.k 187 rfl) (H.k 189 rfl) (H.k 188 rfl) (by decide) (own_payW (rm_ssrL0 x t kt N T us b  A4.old hEL H X eT b0 b1 b2 eK ) (H.k 190 rfl) (H.k 10 rfl) (by decide) (by decide)) own_nW (Nat.le_of_eq rfl) X.E own_pd28 rfl rfl rfl d41_6 (by decide) (by decide) ?_
  rintro v7 T8 h9 A10 ⟨a5, rfl, q6⟩
  show own_Run p e below Q m T8 9 #[.val (.ref x), .val (.int b)] [(.ref a5)]
  exact own_retA A10 hQ rfl rfl rfl d41_9 ⟨a5, rfl, q6⟩
theorem rm_s1L1 (x t : Addr) (kt : ClassId) (N T : Int32) (us : List Value) (b : Int32) (chc : Int32) (O0 : Old Z n0 h0) (hEL : EW Z a0 consts_1) (H : own_H Z a0 zc fm) (X : own_X Z h0 x t kt 0 N us) (eT : N >>> ((0 : Int32) &&& 31) = T) (b0 : ¬ b < 0) (b1 : ¬ T < b) (b2 : ¬ b = 0) (eK : T - b = 1) (P : own_cut 1 1 N b (b + (1 : Int32)) us [.int (StrChars.lo8 chc)]) (w1 : ∀ y ∈ [chc], ¬ (255 : Int32) < y) :
  own_Met true l Z n0 consts_1 [] ⟨"java/lang/String", "substring", "(I)Ljava/lang/String;"⟩ jdk_42_method_91_code 2 (some (.object "java/lang/String")) [] (own_R 7 3 16 110) #[(.ref x), (.int b)] h0 (fun v h => ∃ (a : Addr), v = some (.ref a) ∧ Keep h0 h [] ∧ own_Str Z h a [chc]) := by
  refine own_ent (a0 := a0) (nm := "substring") (Ls := #[.val (.ref x), .val (.int b)]) own_pn2 O0 hEL ?_
  intro p e _ m _ below _ _ T0 Q hQ A0
  refine own_aloadN (q := 1) A0 d41_0 rfl rfl ?_
  refine own_iloadN (q := 2) A0 d41_1 rfl ?_
  refine own_aloadN (q := 3) A0 d41_2 rfl rfl ?_
  refine own_virtual (q := 6) (W := 2) (argsL := []) (rest := [(.int b), (.ref x)]) A0 (H.k 170 rfl) (H.k 52 rfl) (H.k 54 rfl) (H.k 53 rfl) (by decide) (own_payN (rm_len x t kt (0 : Int32) N _ A0.old H X (by decide)) (fun _ _ q => own_keepE q.2) (H.k 55 rfl) (H.k 10 rfl) (by decide) (by decide)) own_nW (Nat.le_of_eq rfl) X.E own_pd8 rfl rfl rfl d41_3 (by decide) (by decide) ?_
  rintro v1 T2 h3 A4 ⟨rfl, rfl⟩
  show own_Run p e below Q m T2 6 #[.val (.ref x), .val (.int b)] [(.int (N >>> ((0 : Int32) &&& 31))), (.int b), (.ref x)]
  rw [show (N >>> ((0 : Int32) &&& 31)) = T from eT]
  refine own_virtualW (q := 9) (W := 0) (argsL := [(.int b), (.int T)]) (rest := []) A4 (H.k 208 rfl) (H.k 187 rfl) (H.k 189 rfl) (H.k 188 rfl) (by decide) (own_payW (rm_ssrL1 x t kt N T us b chc A4.old hEL H X eT b0 b1 b2 eK P w1) (H.k 190 rfl) (H.k 10 rfl) (by decide) (by decide)) own_nW (Nat.le_of_eq rfl) X.E own_pd28 rfl rfl rfl d41_6 (by decide) (by decide) ?_
  rintro v7 T8 h9 A10 ⟨a5, rfl, q6⟩
  show own_Run p e below Q m T8 9 #[.val (.ref x), .val (.int b)] [(.ref a5)]
  exact own_retA A10 hQ rfl rfl rfl d41_9 ⟨a5, rfl, q6⟩
theorem rm_s1L2 (x t : Addr) (kt : ClassId) (N T : Int32) (us : List Value) (b : Int32) (chc chd : Int32) (O0 : Old Z n0 h0) (hEL : EW Z a0 consts_1) (H : own_H Z a0 zc fm) (X : own_X Z h0 x t kt 0 N us) (eT : N >>> ((0 : Int32) &&& 31) = T) (b0 : ¬ b < 0) (b1 : ¬ T < b) (b2 : ¬ b = 0) (eK : T - b = 2) (P : own_cut 2 2 N b (b + (2 : Int32)) us [.int (StrChars.lo8 chc), .int (StrChars.lo8 chd)]) (w1 : ∀ y ∈ [chc, chd], ¬ (255 : Int32) < y) :
  own_Met true l Z n0 consts_1 [] ⟨"java/lang/String", "substring", "(I)Ljava/lang/String;"⟩ jdk_42_method_91_code 2 (some (.object "java/lang/String")) [] (own_R 7 3 16 110) #[(.ref x), (.int b)] h0 (fun v h => ∃ (a : Addr), v = some (.ref a) ∧ Keep h0 h [] ∧ own_Str Z h a [chc, chd]) := by
  refine own_ent (a0 := a0) (nm := "substring") (Ls := #[.val (.ref x), .val (.int b)]) own_pn2 O0 hEL ?_
  intro p e _ m _ below _ _ T0 Q hQ A0
  refine own_aloadN (q := 1) A0 d41_0 rfl rfl ?_
  refine own_iloadN (q := 2) A0 d41_1 rfl ?_
  refine own_aloadN (q := 3) A0 d41_2 rfl rfl ?_
  refine own_virtual (q := 6) (W := 2) (argsL := []) (rest := [(.int b), (.ref x)]) A0 (H.k 170 rfl) (H.k 52 rfl) (H.k 54 rfl) (H.k 53 rfl) (by decide) (own_payN (rm_len x t kt (0 : Int32) N _ A0.old H X (by decide)) (fun _ _ q => own_keepE q.2) (H.k 55 rfl) (H.k 10 rfl) (by decide) (by decide)) own_nW (Nat.le_of_eq rfl) X.E own_pd8 rfl rfl rfl d41_3 (by decide) (by decide) ?_
  rintro v1 T2 h3 A4 ⟨rfl, rfl⟩
  show own_Run p e below Q m T2 6 #[.val (.ref x), .val (.int b)] [(.int (N >>> ((0 : Int32) &&& 31))), (.int b), (.ref x)]
  rw [show (N >>> ((0 : Int32) &&& 31)) = T from eT]
  refine own_virtualW (q := 9) (W := 0) (argsL := [(.int b), (.int T)]) (rest := []) A4 (H.k 208 rfl) (H.k 187 rfl) (H.k 189 rfl) (H.k 188 rfl) (by decide) (own_payW (rm_ssrL2 x t kt N T us b chc chd A4.old hEL H X eT b0 b1 b2 eK P w1) (H.k 190 rfl) (H.k 10 rfl) (by decide) (by decide)) own_nW (Nat.le_of_eq rfl) X.E own_pd28 rfl rfl rfl d41_6 (by decide) (by decide) ?_
  rintro v7 T8 h9 A10 ⟨a5, rfl, q6⟩
  show own_Run p e below Q m T8 9 #[.val (.ref x), .val (.int b)] [(.ref a5)]
  exact own_retA A10 hQ rfl rfl rfl d41_9 ⟨a5, rfl, q6⟩
theorem rm_s1U0 (x t : Addr) (kt : ClassId) (N T : Int32) (us : List Value) (b : Int32) (O0 : Old Z n0 h0) (hEL : EW Z a0 consts_1) (H : own_H Z a0 zc fm) (X : own_X Z h0 x t kt 1 N us) (eT : N >>> ((1 : Int32) &&& 31) = T) (b0 : ¬ b < 0) (b1 : ¬ T < b) (b2 : ¬ b = 0) (eK : T - b = 0) :
  own_Met true l Z n0 consts_1 [] ⟨"java/lang/String", "substring", "(I)Ljava/lang/String;"⟩ jdk_42_method_91_code 2 (some (.object "java/lang/String")) [] (own_R 7 3 16 110) #[(.ref x), (.int b)] h0 (fun v h => ∃ (a : Addr), v = some (.ref a) ∧ Keep h0 h [] ∧ own_Str Z h a ([] : List Int32)) := by
  refine own_ent (a0 := a0) (nm := "substring") (Ls := #[.val (.ref x), .val (.int b)]) own_pn2 O0 hEL ?_
  intro p e _ m _ below _ _ T0 Q hQ A0
  refine own_aloadN (q := 1) A0 d41_0 rfl rfl ?_
  refine own_iloadN (q := 2) A0 d41_1 rfl ?_
  refine own_aloadN (q := 3) A0 d41_2 rfl rfl ?_
  refine own_virtual (q := 6) (W := 2) (argsL := []) (rest := [(.int b), (.ref x)]) A0 (H.k 170 rfl) (H.k 52 rfl) (H.k 54 rfl) (H.k 53 rfl) (by decide) (own_payN (rm_len x t kt (1 : Int32) N _ A0.old H X (by decide)) (fun _ _ q => own_keepE q.2) (H.k 55 rfl) (H.k 10 rfl) (by decide) (by decide)) own_nW (Nat.le_of_eq rfl) X.E own_pd8 rfl rfl rfl d41_3 (by decide) (by decide) ?_
  rintro v1 T2 h3 A4 ⟨rfl, rfl⟩
  show own_Run p e below Q m T2 6 #[.val (.ref x), .val (.int b)] [(.int (N >>> ((1 : Int32) &&& 31))), (.int b), (.ref x)]
  rw [show (N >>> ((1 : Int32) &&& 31)) = T from eT]
  refine own_virtualW (q := 9) (W := 0) (argsL := [(.int b), (.int T)]) (rest := []) A4 (H.k 208 rfl) (H.k 187 rfl) (H.k 189 rfl) (H.k 188 rfl) (by decide) (own_payW (rm_ssrU0 x t kt N T us b  A4.old hEL H X eT b0 b1 b2 eK ) (H.k 190 rfl) (H.k 10 rfl) (by decide) (by decide)) own_nW (Nat.le_of_eq rfl) X.E own_pd28 rfl rfl rfl d41_6 (by decide) (by decide) ?_
  rintro v7 T8 h9 A10 ⟨a5, rfl, q6⟩
  show own_Run p e below Q m T8 9 #[.val (.ref x), .val (.int b)] [(.ref a5)]
  exact own_retA A10 hQ rfl rfl rfl d41_9 ⟨a5, rfl, q6⟩
theorem rm_s1U1 (x t : Addr) (kt : ClassId) (N T : Int32) (us : List Value) (b : Int32) (j0 : Nat) (chc : Int32) (O0 : Old Z n0 h0) (hEL : EW Z a0 consts_1) (H : own_H Z a0 zc fm) (X : own_X Z h0 x t kt 1 N us) (eT : N >>> ((1 : Int32) &&& 31) = T) (b0 : ¬ b < 0) (b1 : ¬ T < b) (b2 : ¬ b = 0) (eK : T - b = 1) (B : own_bo N b 1) (G0 : own_gi N us b j0 chc) (P : own_cut 2 2 N (b <<< ((1 : Int32) &&& 31)) ((b + (1 : Int32)) <<< ((1 : Int32) &&& 31)) us [.int (StrChars.lo8 chc), .int (StrChars.hi8 chc)]) :
  own_Met true l Z n0 consts_1 [] ⟨"java/lang/String", "substring", "(I)Ljava/lang/String;"⟩ jdk_42_method_91_code 2 (some (.object "java/lang/String")) [] (own_R 7 3 16 110) #[(.ref x), (.int b)] h0 (fun v h => ∃ (a : Addr), v = some (.ref a) ∧ Keep h0 h [] ∧ own_Str Z h a [chc]) := by
  refine own_ent (a0 := a0) (nm := "substring") (Ls := #[.val (.ref x), .val (.int b)]) own_pn2 O0 hEL ?_
  intro p e _ m _ below _ _ T0 Q hQ A0
  refine own_aloadN (q := 1) A0 d41_0 rfl rfl ?_
  refine own_iloadN (q := 2) A0 d41_1 rfl ?_
  refine own_aloadN (q := 3) A0 d41_2 rfl rfl ?_
  refine own_virtual (q := 6) (W := 2) (argsL := []) (rest := [(.int b), (.ref x)]) A0 (H.k 170 rfl) (H.k 52 rfl) (H.k 54 rfl) (H.k 53 rfl) (by decide) (own_payN (rm_len x t kt (1 : Int32) N _ A0.old H X (by decide)) (fun _ _ q => own_keepE q.2) (H.k 55 rfl) (H.k 10 rfl) (by decide) (by decide)) own_nW (Nat.le_of_eq rfl) X.E own_pd8 rfl rfl rfl d41_3 (by decide) (by decide) ?_
  rintro v1 T2 h3 A4 ⟨rfl, rfl⟩
  show own_Run p e below Q m T2 6 #[.val (.ref x), .val (.int b)] [(.int (N >>> ((1 : Int32) &&& 31))), (.int b), (.ref x)]
  rw [show (N >>> ((1 : Int32) &&& 31)) = T from eT]
  refine own_virtualW (q := 9) (W := 0) (argsL := [(.int b), (.int T)]) (rest := []) A4 (H.k 208 rfl) (H.k 187 rfl) (H.k 189 rfl) (H.k 188 rfl) (by decide) (own_payW (rm_ssrU1 x t kt N T us b j0 chc A4.old hEL H X eT b0 b1 b2 eK B G0 P) (H.k 190 rfl) (H.k 10 rfl) (by decide) (by decide)) own_nW (Nat.le_of_eq rfl) X.E own_pd28 rfl rfl rfl d41_6 (by decide) (by decide) ?_
  rintro v7 T8 h9 A10 ⟨a5, rfl, q6⟩
  show own_Run p e below Q m T8 9 #[.val (.ref x), .val (.int b)] [(.ref a5)]
  exact own_retA A10 hQ rfl rfl rfl d41_9 ⟨a5, rfl, q6⟩
theorem rm_s1U2 (x t : Addr) (kt : ClassId) (N T : Int32) (us : List Value) (b : Int32) (j0 j1 : Nat) (chc chd : Int32) (O0 : Old Z n0 h0) (hEL : EW Z a0 consts_1) (H : own_H Z a0 zc fm) (X : own_X Z h0 x t kt 1 N us) (eT : N >>> ((1 : Int32) &&& 31) = T) (b0 : ¬ b < 0) (b1 : ¬ T < b) (b2 : ¬ b = 0) (eK : T - b = 2) (B : own_bo N b 2) (G0 : own_gi N us b j0 chc) (G1 : own_gi N us (b + 1) j1 chd) (P : own_cut 4 4 N (b <<< ((1 : Int32) &&& 31)) ((b + (2 : Int32)) <<< ((1 : Int32) &&& 31)) us [.int (StrChars.lo8 chc), .int (StrChars.hi8 chc), .int (StrChars.lo8 chd), .int (StrChars.hi8 chd)]) :
  own_Met true l Z n0 consts_1 [] ⟨"java/lang/String", "substring", "(I)Ljava/lang/String;"⟩ jdk_42_method_91_code 2 (some (.object "java/lang/String")) [] (own_R 7 3 16 110) #[(.ref x), (.int b)] h0 (fun v h => ∃ (a : Addr), v = some (.ref a) ∧ Keep h0 h [] ∧ own_Str Z h a [chc, chd]) := by
  refine own_ent (a0 := a0) (nm := "substring") (Ls := #[.val (.ref x), .val (.int b)]) own_pn2 O0 hEL ?_
  intro p e _ m _ below _ _ T0 Q hQ A0
  refine own_aloadN (q := 1) A0 d41_0 rfl rfl ?_
  refine own_iloadN (q := 2) A0 d41_1 rfl ?_
  refine own_aloadN (q := 3) A0 d41_2 rfl rfl ?_
  refine own_virtual (q := 6) (W := 2) (argsL := []) (rest := [(.int b), (.ref x)]) A0 (H.k 170 rfl) (H.k 52 rfl) (H.k 54 rfl) (H.k 53 rfl) (by decide) (own_payN (rm_len x t kt (1 : Int32) N _ A0.old H X (by decide)) (fun _ _ q => own_keepE q.2) (H.k 55 rfl) (H.k 10 rfl) (by decide) (by decide)) own_nW (Nat.le_of_eq rfl) X.E own_pd8 rfl rfl rfl d41_3 (by decide) (by decide) ?_
  rintro v1 T2 h3 A4 ⟨rfl, rfl⟩
  show own_Run p e below Q m T2 6 #[.val (.ref x), .val (.int b)] [(.int (N >>> ((1 : Int32) &&& 31))), (.int b), (.ref x)]
  rw [show (N >>> ((1 : Int32) &&& 31)) = T from eT]
  refine own_virtualW (q := 9) (W := 0) (argsL := [(.int b), (.int T)]) (rest := []) A4 (H.k 208 rfl) (H.k 187 rfl) (H.k 189 rfl) (H.k 188 rfl) (by decide) (own_payW (rm_ssrU2 x t kt N T us b j0 j1 chc chd A4.old hEL H X eT b0 b1 b2 eK B G0 G1 P) (H.k 190 rfl) (H.k 10 rfl) (by decide) (by decide)) own_nW (Nat.le_of_eq rfl) X.E own_pd28 rfl rfl rfl d41_6 (by decide) (by decide) ?_
  rintro v7 T8 h9 A10 ⟨a5, rfl, q6⟩
  show own_Run p e below Q m T8 9 #[.val (.ref x), .val (.int b)] [(.ref a5)]
  exact own_retA A10 hQ rfl rfl rfl d41_9 ⟨a5, rfl, q6⟩
theorem rm_sz (x : Addr) (cs ds : List Int32) (O0 : Old Z n0 h0) (hEL : EW Z a0 consts_1) (H : own_H Z a0 zc fm) (S : own_Str Z h0 x (cs ++ [0] ++ ds)) (l1 : cs.length ≤ 2) (l2 : ds.length ≤ 2) (r1 : ∀ c ∈ cs, (¬ c < 0 ∧ ¬ (65535 : Int32) < c) ∧ ¬ c = 0) (r2 : ∀ c ∈ ds, ¬ c < 0 ∧ ¬ (65535 : Int32) < c) :
  own_Met true l Z n0 consts_1 [] ⟨"java/lang/String", "substring", "(II)Ljava/lang/String;"⟩ jdk_42_method_92_code 5 (some (.object "java/lang/String")) [] (own_R 6 3 16 94) #[(.ref x), (.int 0), (.int (Int32.ofNat cs.length))] h0 (fun v h => ∃ (a : Addr), v = some (.ref a) ∧ Keep h0 h [] ∧ own_Str Z h a cs) := by
  rcases cs with _ | ⟨chp, _ | ⟨chq, _ | ⟨cz, cs⟩⟩⟩
  · rcases ds with _ | ⟨chr, _ | ⟨chs, _ | ⟨dz, ds⟩⟩⟩
    · obtain ⟨t, kt, cd, N, us, X, w⟩ := S
      rcases w with ⟨rfl, rfl, rfl, w⟩ | ⟨rfl, rfl, rfl, w⟩
      · exact rm_sszL0 x t kt 1 1 _  O0 hEL H X (by decide) (by decide) (by decide) 
      · exact rm_sszU0 x t kt 2 1 _  O0 hEL H X (by decide) (by decide) (by decide) 
    · obtain ⟨t, kt, cd, N, us, X, w⟩ := S
      rcases w with ⟨rfl, rfl, rfl, w⟩ | ⟨rfl, rfl, rfl, w⟩
      · exact rm_sszL0 x t kt 2 2 _  O0 hEL H X (by decide) (by decide) (by decide) 
      · exact rm_sszU0 x t kt 4 2 _  O0 hEL H X (by decide) (by decide) (by decide) 
    · obtain ⟨t, kt, cd, N, us, X, w⟩ := S
      rcases w with ⟨rfl, rfl, rfl, w⟩ | ⟨rfl, rfl, rfl, w⟩
      · exact rm_sszL0 x t kt 3 3 _  O0 hEL H X (by decide) (by decide) (by decide) 
      · exact rm_sszU0 x t kt 6 3 _  O0 hEL H X (by decide) (by decide) (by decide) 
    · exact absurd l2 (by simp only [List.length_cons]; omega)
  · rcases ds with _ | ⟨chr, _ | ⟨chs, _ | ⟨dz, ds⟩⟩⟩
    · obtain ⟨t, kt, cd, N, us, X, w⟩ := S
      rcases w with ⟨rfl, rfl, rfl, w⟩ | ⟨rfl, rfl, rfl, w⟩
      · exact rm_sszL1 x t kt 2 2 _ chp O0 hEL H X (by decide) (by decide) (by decide) (own_cut_D rfl) (own_fc (w chp (by simp)) (fun _ z => nomatch z))
      · exact rm_sszU1 x t kt 4 2 _ 0 chp O0 hEL H X (by decide) (by decide) (by decide) own_bo_D (own_gi_D rfl rfl (r1 chp (by simp)).1.1 (r1 chp (by simp)).1.2) (own_cut_D rfl)
    · obtain ⟨t, kt, cd, N, us, X, w⟩ := S
      rcases w with ⟨rfl, rfl, rfl, w⟩ | ⟨rfl, rfl, rfl, w⟩
      · exact rm_sszL1 x t kt 3 3 _ chp O0 hEL H X (by decide) (by decide) (by decide) (own_cut_D rfl) (own_fc (w chp (by simp)) (fun _ z => nomatch z))
      · exact rm_sszU1 x t kt 6 3 _ 0 chp O0 hEL H X (by decide) (by decide) (by decide) own_bo_D (own_gi_D rfl rfl (r1 chp (by simp)).1.1 (r1 chp (by simp)).1.2) (own_cut_D rfl)
    · obtain ⟨t, kt, cd, N, us, X, w⟩ := S
      rcases w with ⟨rfl, rfl, rfl, w⟩ | ⟨rfl, rfl, rfl, w⟩
      · exact rm_sszL1 x t kt 4 4 _ chp O0 hEL H X (by decide) (by decide) (by decide) (own_cut_D rfl) (own_fc (w chp (by simp)) (fun _ z => nomatch z))
      · exact rm_sszU1 x t kt 8 4 _ 0 chp O0 hEL H X (by decide) (by decide) (by decide) own_bo_D (own_gi_D rfl rfl (r1 chp (by simp)).1.1 (r1 chp (by simp)).1.2) (own_cut_D rfl)
    · exact absurd l2 (by simp only [List.length_cons]; omega)
  · rcases ds with _ | ⟨chr, _ | ⟨chs, _ | ⟨dz, ds⟩⟩⟩
    · obtain ⟨t, kt, cd, N, us, X, w⟩ := S
      rcases w with ⟨rfl, rfl, rfl, w⟩ | ⟨rfl, rfl, rfl, w⟩
      · exact rm_sszL2 x t kt 3 3 _ chp chq O0 hEL H X (by decide) (by decide) (by decide) (own_cut_D rfl) (own_fc (w chp (by simp)) (own_fc (w chq (by simp)) (fun _ z => nomatch z)))
      · exact rm_sszU2 x t kt 6 3 _ 0 2 chp chq O0 hEL H X (by decide) (by decide) (by decide) own_bo_D (own_gi_D rfl rfl (r1 chp (by simp)).1.1 (r1 chp (by simp)).1.2) (own_gi_D rfl rfl (r1 chq (by simp)).1.1 (r1 chq (by simp)).1.2) (own_cut_D rfl)
    · obtain ⟨t, kt, cd, N, us, X, w⟩ := S
      rcases w with ⟨rfl, rfl, rfl, w⟩ | ⟨rfl, rfl, rfl, w⟩
      · exact rm_sszL2 x t kt 4 4 _ chp chq O0 hEL H X (by decide) (by decide) (by decide) (own_cut_D rfl) (own_fc (w chp (by simp)) (own_fc (w chq (by simp)) (fun _ z => nomatch z)))
      · exact rm_sszU2 x t kt 8 4 _ 0 2 chp chq O0 hEL H X (by decide) (by decide) (by decide) own_bo_D (own_gi_D rfl rfl (r1 chp (by simp)).1.1 (r1 chp (by simp)).1.2) (own_gi_D rfl rfl (r1 chq (by simp)).1.1 (r1 chq (by simp)).1.2) (own_cut_D rfl)
    · obtain ⟨t, kt, cd, N, us, X, w⟩ := S
      rcases w with ⟨rfl, rfl, rfl, w⟩ | ⟨rfl, rfl, rfl, w⟩
      · exact rm_sszL2 x t kt 5 5 _ chp chq O0 hEL H X (by decide) (by decide) (by decide) (own_cut_D rfl) (own_fc (w chp (by simp)) (own_fc (w chq (by simp)) (fun _ z => nomatch z)))
      · exact rm_sszU2 x t kt 10 5 _ 0 2 chp chq O0 hEL H X (by decide) (by decide) (by decide) own_bo_D (own_gi_D rfl rfl (r1 chp (by simp)).1.1 (r1 chp (by simp)).1.2) (own_gi_D rfl rfl (r1 chq (by simp)).1.1 (r1 chq (by simp)).1.2) (own_cut_D rfl)
    · exact absurd l2 (by simp only [List.length_cons]; omega)
  · exact absurd l1 (by simp only [List.length_cons]; omega)
theorem rm_sr (x : Addr) (cs ds : List Int32) (O0 : Old Z n0 h0) (hEL : EW Z a0 consts_1) (H : own_H Z a0 zc fm) (S : own_Str Z h0 x (cs ++ [0] ++ ds)) (l1 : cs.length ≤ 2) (l2 : ds.length ≤ 2) (r1 : ∀ c ∈ cs, (¬ c < 0 ∧ ¬ (65535 : Int32) < c) ∧ ¬ c = 0) (r2 : ∀ c ∈ ds, ¬ c < 0 ∧ ¬ (65535 : Int32) < c) :
  own_Met true l Z n0 consts_1 [] ⟨"java/lang/String", "substring", "(I)Ljava/lang/String;"⟩ jdk_42_method_91_code 2 (some (.object "java/lang/String")) [] (own_R 7 3 16 110) #[(.ref x), (.int (Int32.ofNat cs.length + 1))] h0 (fun v h => ∃ (a : Addr), v = some (.ref a) ∧ Keep h0 h [] ∧ own_Str Z h a ds) := by
  rcases cs with _ | ⟨chp, _ | ⟨chq, _ | ⟨cz, cs⟩⟩⟩
  · rcases ds with _ | ⟨chr, _ | ⟨chs, _ | ⟨dz, ds⟩⟩⟩
    · obtain ⟨t, kt, cd, N, us, X, w⟩ := S
      rcases w with ⟨rfl, rfl, rfl, w⟩ | ⟨rfl, rfl, rfl, w⟩
      · exact rm_s1L0 x t kt 1 1 _ 1  O0 hEL H X (by decide) (by decide) (by decide) (by decide) (by decide) 
      · exact rm_s1U0 x t kt 2 1 _ 1  O0 hEL H X (by decide) (by decide) (by decide) (by decide) (by decide) 
    · obtain ⟨t, kt, cd, N, us, X, w⟩ := S
      rcases w with ⟨rfl, rfl, rfl, w⟩ | ⟨rfl, rfl, rfl, w⟩
      · exact rm_s1L1 x t kt 2 2 _ 1 chr O0 hEL H X (by decide) (by decide) (by decide) (by decide) (by decide) (own_cut_D rfl) (own_fc (w chr (by simp)) (fun _ z => nomatch z))
      · exact rm_s1U1 x t kt 4 2 _ 1 2 chr O0 hEL H X (by decide) (by decide) (by decide) (by decide) (by decide) own_bo_D (own_gi_D rfl rfl (r2 chr (by simp)).1 (r2 chr (by simp)).2) (own_cut_D rfl)
    · obtain ⟨t, kt, cd, N, us, X, w⟩ := S
      rcases w with ⟨rfl, rfl, rfl, w⟩ | ⟨rfl, rfl, rfl, w⟩
      · exact rm_s1L2 x t kt 3 3 _ 1 chr chs O0 hEL H X (by decide) (by decide) (by decide) (by decide) (by decide) (own_cut_D rfl) (own_fc (w chr (by simp)) (own_fc (w chs (by simp)) (fun _ z => nomatch z)))
      · exact rm_s1U2 x t kt 6 3 _ 1 2 4 chr chs O0 hEL H X (by decide) (by decide) (by decide) (by decide) (by decide) own_bo_D (own_gi_D rfl rfl (r2 chr (by simp)).1 (r2 chr (by simp)).2) (own_gi_D rfl rfl (r2 chs (by simp)).1 (r2 chs (by simp)).2) (own_cut_D rfl)
    · exact absurd l2 (by simp only [List.length_cons]; omega)
  · rcases ds with _ | ⟨chr, _ | ⟨chs, _ | ⟨dz, ds⟩⟩⟩
    · obtain ⟨t, kt, cd, N, us, X, w⟩ := S
      rcases w with ⟨rfl, rfl, rfl, w⟩ | ⟨rfl, rfl, rfl, w⟩
      · exact rm_s1L0 x t kt 2 2 _ 2  O0 hEL H X (by decide) (by decide) (by decide) (by decide) (by decide) 
      · exact rm_s1U0 x t kt 4 2 _ 2  O0 hEL H X (by decide) (by decide) (by decide) (by decide) (by decide) 
    · obtain ⟨t, kt, cd, N, us, X, w⟩ := S
      rcases w with ⟨rfl, rfl, rfl, w⟩ | ⟨rfl, rfl, rfl, w⟩
      · exact rm_s1L1 x t kt 3 3 _ 2 chr O0 hEL H X (by decide) (by decide) (by decide) (by decide) (by decide) (own_cut_D rfl) (own_fc (w chr (by simp)) (fun _ z => nomatch z))
      · exact rm_s1U1 x t kt 6 3 _ 2 4 chr O0 hEL H X (by decide) (by decide) (by decide) (by decide) (by decide) own_bo_D (own_gi_D rfl rfl (r2 chr (by simp)).1 (r2 chr (by simp)).2) (own_cut_D rfl)
    · obtain ⟨t, kt, cd, N, us, X, w⟩ := S
      rcases w with ⟨rfl, rfl, rfl, w⟩ | ⟨rfl, rfl, rfl, w⟩
      · exact rm_s1L2 x t kt 4 4 _ 2 chr chs O0 hEL H X (by decide) (by decide) (by decide) (by decide) (by decide) (own_cut_D rfl) (own_fc (w chr (by simp)) (own_fc (w chs (by simp)) (fun _ z => nomatch z)))
      · exact rm_s1U2 x t kt 8 4 _ 2 4 6 chr chs O0 hEL H X (by decide) (by decide) (by decide) (by decide) (by decide) own_bo_D (own_gi_D rfl rfl (r2 chr (by simp)).1 (r2 chr (by simp)).2) (own_gi_D rfl rfl (r2 chs (by simp)).1 (r2 chs (by simp)).2) (own_cut_D rfl)
    · exact absurd l2 (by simp only [List.length_cons]; omega)
  · rcases ds with _ | ⟨chr, _ | ⟨chs, _ | ⟨dz, ds⟩⟩⟩
    · obtain ⟨t, kt, cd, N, us, X, w⟩ := S
      rcases w with ⟨rfl, rfl, rfl, w⟩ | ⟨rfl, rfl, rfl, w⟩
      · exact rm_s1L0 x t kt 3 3 _ 3  O0 hEL H X (by decide) (by decide) (by decide) (by decide) (by decide) 
      · exact rm_s1U0 x t kt 6 3 _ 3  O0 hEL H X (by decide) (by decide) (by decide) (by decide) (by decide) 
    · obtain ⟨t, kt, cd, N, us, X, w⟩ := S
      rcases w with ⟨rfl, rfl, rfl, w⟩ | ⟨rfl, rfl, rfl, w⟩
      · exact rm_s1L1 x t kt 4 4 _ 3 chr O0 hEL H X (by decide) (by decide) (by decide) (by decide) (by decide) (own_cut_D rfl) (own_fc (w chr (by simp)) (fun _ z => nomatch z))
      · exact rm_s1U1 x t kt 8 4 _ 3 6 chr O0 hEL H X (by decide) (by decide) (by decide) (by decide) (by decide) own_bo_D (own_gi_D rfl rfl (r2 chr (by simp)).1 (r2 chr (by simp)).2) (own_cut_D rfl)
    · obtain ⟨t, kt, cd, N, us, X, w⟩ := S
      rcases w with ⟨rfl, rfl, rfl, w⟩ | ⟨rfl, rfl, rfl, w⟩
      · exact rm_s1L2 x t kt 5 5 _ 3 chr chs O0 hEL H X (by decide) (by decide) (by decide) (by decide) (by decide) (own_cut_D rfl) (own_fc (w chr (by simp)) (own_fc (w chs (by simp)) (fun _ z => nomatch z)))
      · exact rm_s1U2 x t kt 10 5 _ 3 6 8 chr chs O0 hEL H X (by decide) (by decide) (by decide) (by decide) (by decide) own_bo_D (own_gi_D rfl rfl (r2 chr (by simp)).1 (r2 chr (by simp)).2) (own_gi_D rfl rfl (r2 chs (by simp)).1 (r2 chs (by simp)).2) (own_cut_D rfl)
    · exact absurd l2 (by simp only [List.length_cons]; omega)
  · exact absurd l1 (by simp only [List.length_cons]; omega)
theorem d42_0 : decode prog_6_method_1_code 0 = .ok (.aload_n 0, 1) := by decide +kernel
theorem d42_1 : decode prog_6_method_1_code 1 = .ok (.invokespecial 1, 3) := by decide +kernel
theorem d42_4 : decode prog_6_method_1_code 4 = .ok (.aload_n 0, 1) := by decide +kernel
theorem d42_5 : decode prog_6_method_1_code 5 = .ok (.aload_n 1, 1) := by decide +kernel
theorem d42_6 : decode prog_6_method_1_code 6 = .ok (.putfield 7, 3) := by decide +kernel
theorem d42_9 : decode prog_6_method_1_code 9 = .ok (.aload_n 0, 1) := by decide +kernel
theorem d42_10 : decode prog_6_method_1_code 10 = .ok (.aload_n 2, 1) := by decide +kernel
theorem d42_11 : decode prog_6_method_1_code 11 = .ok (.putfield 13, 3) := by decide +kernel
theorem d42_14 : decode prog_6_method_1_code 14 = .ok (.return_, 1) := by decide +kernel
theorem rm_eki (a x1 x2 : Addr) (O0 : Old Z n0 h0) (H : own_H Z a0 zc fm) (Ea : Exa Z h0 a "com/example/any_row/anyrow/EntityKey") (Fp : Fld Z h0 a "com/example/any_row/anyrow/EntityKey" "partitionKey" "Ljava/lang/String;" .null) (Fr : Fld Z h0 a "com/example/any_row/anyrow/EntityKey" "rowKey" "Ljava/lang/String;" .null) (ga : n0 ≤ a) :
  own_Met false l Z n0 [] [] ⟨"com/example/any_row/anyrow/EntityKey", "<init>", "(Ljava/lang/String;Ljava/lang/String;)V"⟩ prog_6_method_1_code 3 none [] (own_R 1 0 0 12) #[(.ref a), (.ref x1), (.ref x2)] h0 (fun v h => v = none ∧ Keep h0 h [a] ∧ Exa Z h a "com/example/any_row/anyrow/EntityKey" ∧ Fld Z h a "com/example/any_row/anyrow/EntityKey" "partitionKey" "Ljava/lang/String;" (.ref x1) ∧ Fld Z h a "com/example/any_row/anyrow/EntityKey" "rowKey" "Ljava/lang/String;" (.ref x2)) := by
  refine own_ent (a0 := a0) (nm := "<init>") (Ls := #[.val (.ref a), .val (.ref x1), .val (.ref x2)]) own_pn8 O0 EW.nil ?_
  intro p e _ m _ below _ _ T0 Q hQ A0
  refine own_aloadN (q := 1) A0 d42_0 rfl rfl ?_
  refine own_initO (q := 4) (W := 0) A0 (H.k 212 rfl) (H.k 34 rfl) (H.k 35 rfl) d42_1 rfl (by decide) (Nat.le_of_eq rfl) (by decide) ?_
  intro T1 A2
  refine own_aloadN (q := 5) A2 d42_4 rfl rfl ?_
  refine own_aloadN (q := 6) A2 d42_5 rfl rfl ?_
  refine own_putF (host := "") (q := 9) A2 (Or.inl (H.k 213 rfl)) Via.refl Fp Ea (Or.inr ⟨(H.k 214 rfl), rfl, rfl⟩) (H.k 185 rfl) (ty := (.object "java/lang/String")) (by decide) rfl rfl ga (Or.inr (Or.inl rfl)) d42_6 ?_
  intro T3 h4 A5 W6
  have K7 := (Keep.refl h0 [a]).wr W6 (Or.inl (by simp))
  have f8 := Ea.wr W6
  have f9 := Fp.same W6
  have f10 := Fr.other W6 (Or.inr (slot_ne (Or.inr (H.k 216 rfl)) (Or.inr (H.k 214 rfl)) (by decide) (by decide : parseFieldDescriptor "Ljava/lang/String;" = some (.object "java/lang/String")) (by decide : parseFieldDescriptor "Ljava/lang/String;" = some (.object "java/lang/String"))))
  refine own_aloadN (q := 10) A5 d42_9 rfl rfl ?_
  refine own_aloadN (q := 11) A5 d42_10 rfl rfl ?_
  refine own_putF (host := "") (q := 14) A5 (Or.inl (H.k 215 rfl)) Via.refl f10 f8 (Or.inr ⟨(H.k 216 rfl), rfl, rfl⟩) (H.k 185 rfl) (ty := (.object "java/lang/String")) (by decide) rfl rfl ga (Or.inr (Or.inl rfl)) d42_11 ?_
  intro T11 h12 A13 W14
  have K15 := K7.wr W14 (Or.inl (by simp))
  have f16 := f8.wr W14
  have f17 := f9.other W14 (Or.inr (slot_ne (Or.inr (H.k 214 rfl)) (Or.inr (H.k 216 rfl)) (by decide) (by decide : parseFieldDescriptor "Ljava/lang/String;" = some (.object "java/lang/String")) (by decide : parseFieldDescriptor "Ljava/lang/String;" = some (.object "java/lang/String"))))
  have f18 := f10.same W14
  exact own_ret0 A13 hQ d42_14 ⟨rfl, K15, f16, f17, f18⟩
theorem d43_0 : decode prog_6_method_4_code 0 = .ok (.aload_n 0, 1) := by decide +kernel
theorem d43_1 : decode prog_6_method_4_code 1 = .ok (.getfield 7, 3) := by decide +kernel
theorem d43_4 : decode prog_6_method_4_code 4 = .ok (.areturn, 1) := by decide +kernel
theorem rm_partitionKey (o x1 : Addr) (O0 : Old Z n0 h0) (H : own_H Z a0 zc fm) (Fo : Fld Z h0 o "com/example/any_row/anyrow/EntityKey" "partitionKey" "Ljava/lang/String;" (.ref x1)) :
  own_Met false l Z n0 [] [] ⟨"com/example/any_row/anyrow/EntityKey", "partitionKey", "()Ljava/lang/String;"⟩ prog_6_method_4_code 1 (some (.object "java/lang/String")) [] (own_R 0 0 0 0) #[(.ref o)] h0 (fun v h => v = some (.ref x1) ∧ h0 = h) := by
  refine own_ent (a0 := a0) (nm := "partitionKey") (Ls := #[.val (.ref o)]) own_pn8 O0 EW.nil ?_
  intro p e _ m _ below _ _ T0 Q hQ A0
  refine own_aloadN (q := 1) A0 d43_0 rfl rfl ?_
  refine own_getF (host := "") (q := 4) A0 (Or.inl (H.k 213 rfl)) Via.refl Fo d43_1 ?_
  intro T1 A2
  exact own_retA A2 hQ rfl rfl rfl d43_4 ⟨rfl, rfl⟩
theorem d45_0 : decode prog_6_method_5_code 0 = .ok (.aload_n 0, 1) := by decide +kernel
theorem d45_1 : decode prog_6_method_5_code 1 = .ok (.getfield 13, 3) := by decide +kernel
theorem d45_4 : decode prog_6_method_5_code 4 = .ok (.areturn, 1) := by decide +kernel
theorem rm_rowKey (o x1 : Addr) (O0 : Old Z n0 h0) (H : own_H Z a0 zc fm) (Fo : Fld Z h0 o "com/example/any_row/anyrow/EntityKey" "rowKey" "Ljava/lang/String;" (.ref x1)) :
  own_Met false l Z n0 [] [] ⟨"com/example/any_row/anyrow/EntityKey", "rowKey", "()Ljava/lang/String;"⟩ prog_6_method_5_code 1 (some (.object "java/lang/String")) [] (own_R 0 0 0 0) #[(.ref o)] h0 (fun v h => v = some (.ref x1) ∧ h0 = h) := by
  refine own_ent (a0 := a0) (nm := "rowKey") (Ls := #[.val (.ref o)]) own_pn8 O0 EW.nil ?_
  intro p e _ m _ below _ _ T0 Q hQ A0
  refine own_aloadN (q := 1) A0 d45_0 rfl rfl ?_
  refine own_getF (host := "") (q := 4) A0 (Or.inl (H.k 215 rfl)) Via.refl Fo d45_1 ?_
  intro T1 A2
  exact own_retA A2 hQ rfl rfl rfl d45_4 ⟨rfl, rfl⟩
theorem own_Str.E {Z : State} {h : Heap} {x : Addr} {cs : List Int32} (S : own_Str Z h x cs) : Exa Z h x "java/lang/String" := by
  obtain ⟨t, k, cd, N, vs, X, c⟩ := S
  exact X.E
theorem d29_0 : decode prog_6_method_8_code 0 = .ok (.aload_n 0, 1) := by decide +kernel
theorem d29_1 : decode prog_6_method_8_code 1 = .ok (.iconst 0, 1) := by decide +kernel
theorem d29_2 : decode prog_6_method_8_code 2 = .ok (.invokevirtual 80, 3) := by decide +kernel
theorem d29_5 : decode prog_6_method_8_code 5 = .ok (.istore_n 1, 1) := by decide +kernel
theorem d29_6 : decode prog_6_method_8_code 6 = .ok (.new 8, 3) := by decide +kernel
theorem d29_9 : decode prog_6_method_8_code 9 = .ok (.dup, 1) := by decide +kernel
theorem d29_10 : decode prog_6_method_8_code 10 = .ok (.aload_n 0, 1) := by decide +kernel
theorem d29_11 : decode prog_6_method_8_code 11 = .ok (.iconst 0, 1) := by decide +kernel
theorem d29_12 : decode prog_6_method_8_code 12 = .ok (.iload_n 1, 1) := by decide +kernel
theorem d29_13 : decode prog_6_method_8_code 13 = .ok (.invokevirtual 84, 3) := by decide +kernel
theorem d29_16 : decode prog_6_method_8_code 16 = .ok (.aload_n 0, 1) := by decide +kernel
theorem d29_17 : decode prog_6_method_8_code 17 = .ok (.iload_n 1, 1) := by decide +kernel
theorem d29_18 : decode prog_6_method_8_code 18 = .ok (.iconst 1, 1) := by decide +kernel
theorem d29_19 : decode prog_6_method_8_code 19 = .ok (.iadd, 1) := by decide +kernel
theorem d29_20 : decode prog_6_method_8_code 20 = .ok (.invokevirtual 88, 3) := by decide +kernel
theorem d29_23 : decode prog_6_method_8_code 23 = .ok (.invokespecial 24, 3) := by decide +kernel
theorem d29_26 : decode prog_6_method_8_code 26 = .ok (.areturn, 1) := by decide +kernel
theorem rm_fs (x : Addr) (cs ds : List Int32) (O0 : Old Z n0 h0) (hEL : EW Z a0 consts_1) (H : own_H Z a0 zc fm) (S : own_Str Z h0 x (cs ++ [0] ++ ds)) (l1 : cs.length ≤ 2) (l2 : ds.length ≤ 2) (r1 : ∀ c ∈ cs, (¬ c < 0 ∧ ¬ (65535 : Int32) < c) ∧ ¬ c = 0) (r2 : ∀ c ∈ ds, ¬ c < 0 ∧ ¬ (65535 : Int32) < c) :
  own_Met true l Z n0 consts_1 [] ⟨"com/example/any_row/anyrow/EntityKey", "fromStorageKey", "(Ljava/lang/String;)Lcom/example/any_row/anyrow/EntityKey;"⟩ prog_6_method_8_code 2 (some (.object "com/example/any_row/anyrow/EntityKey")) [] (own_R 8 7 34 126) #[(.ref x)] h0 (fun v h => ∃ (o x1 x2 : Addr), v = some (.ref o) ∧ Keep h0 h [] ∧ Exa Z h o "com/example/any_row/anyrow/EntityKey" ∧ Fld Z h o "com/example/any_row/anyrow/EntityKey" "partitionKey" "Ljava/lang/String;" (.ref x1) ∧ Fld Z h o "com/example/any_row/anyrow/EntityKey" "rowKey" "Ljava/lang/String;" (.ref x2) ∧ own_Str Z h x1 cs ∧ own_Str Z h x2 ds) := by
  refine own_ent (a0 := a0) (nm := "fromStorageKey") (Ls := #[.val (.ref x), .unset]) own_pn8 O0 hEL ?_
  intro p e _ m _ below _ _ T0 Q hQ A0
  refine own_aloadN (q := 1) A0 d29_0 rfl rfl ?_
  refine own_iconst (q := 2) A0 (0 : Int32) d29_1 rfl ?_
  refine own_virtual (q := 5) (W := 0) (argsL := [(.int 0)]) (rest := []) A0 (H.k 155 rfl) (H.k 156 rfl) (H.k 158 rfl) (H.k 157 rfl) (by decide) (own_payN (rm_ix x cs ds A0.old H S l1 l2 r1 r2) (fun _ _ q => own_keepE q.2) (H.k 159 rfl) (H.k 10 rfl) (by decide) (by decide)) own_nW (Nat.le_of_eq rfl) S.E own_pd25 rfl rfl rfl d29_2 (by decide) (by decide) ?_
  rintro v1 T2 h3 A4 ⟨rfl, rfl⟩
  show own_Run p e below Q m T2 5 #[.val (.ref x), .unset] [(.int (Int32.ofNat cs.length))]
  refine own_istoreN (q := 6) (L' := #[.val (.ref x), .val (.int (Int32.ofNat cs.length))]) A4 d29_5 rfl ?_
  refine own_newO (q := 9) A4 (H.k 184 rfl) (H.k 185 rfl) (H.k 19 rfl) d29_6 (by decide) (by decide) ?_
  intro T5 h6 a7 g8 g9 A10 E11 X12 D13
  have K14 := (Keep.refl h0 []).ext E11
  have f15 : Fld Z h6 a7 "com/example/any_row/anyrow/EntityKey" "partitionKey" "Ljava/lang/String;" .null := D13 (Or.inr (H.k 214 rfl)) (ty := (.object "java/lang/String")) (by decide)
  have f16 : Fld Z h6 a7 "com/example/any_row/anyrow/EntityKey" "rowKey" "Ljava/lang/String;" .null := D13 (Or.inr (H.k 216 rfl)) (ty := (.object "java/lang/String")) (by decide)
  refine own_dup (q := 10) A10 d29_9 rfl ?_
  refine own_aloadN (q := 11) A10 d29_10 rfl rfl ?_
  refine own_iconst (q := 12) A10 (0 : Int32) d29_11 rfl ?_
  refine own_iloadN (q := 13) A10 d29_12 rfl ?_
  refine own_virtualW (q := 16) (W := 2) (argsL := [(.int 0), (.int (Int32.ofNat cs.length))]) (rest := [(.ref a7), (.ref a7)]) A10 (H.k 186 rfl) (H.k 187 rfl) (H.k 189 rfl) (H.k 188 rfl) (by decide) (own_payW (rm_sz x cs ds A10.old hEL H (S.keep K14) l1 l2 r1 r2) (H.k 190 rfl) (H.k 10 rfl) (by decide) (by decide)) own_nW (Nat.le_of_eq rfl) (S.keep K14).E own_pd28 rfl rfl rfl d29_13 (by decide) (by decide) ?_
  rintro v20 T21 h22 A23 ⟨a17, rfl, K18, S19⟩
  show own_Run p e below Q m T21 16 #[.val (.ref x), .val (.int (Int32.ofNat cs.length))] [(.ref a17), (.ref a7), (.ref a7)]
  have f24 := X12.keep K18
  have f25 := f15.keep K18 nin0
  have f26 := f16.keep K18 nin0
  have K27 := K14.trans K18 all0
  refine own_aloadN (q := 17) A23 d29_16 rfl rfl ?_
  refine own_iloadN (q := 18) A23 d29_17 rfl ?_
  refine own_iconst (q := 19) A23 (1 : Int32) d29_18 rfl ?_
  refine own_iadd (q := 20) A23 d29_19 ?_
  refine own_virtualW (q := 23) (W := 3) (argsL := [(.int ((Int32.ofNat cs.length) + (1 : Int32)))]) (rest := [(.ref a17), (.ref a7), (.ref a7)]) A23 (H.k 203 rfl) (H.k 204 rfl) (H.k 206 rfl) (H.k 205 rfl) (by decide) (own_payW (rm_sr x cs ds A23.old hEL H (S.keep K27) l1 l2 r1 r2) (H.k 207 rfl) (H.k 10 rfl) (by decide) (by decide)) own_nW (Nat.le_of_eq rfl) (S.keep K27).E own_pd32 rfl rfl rfl d29_20 (by decide) (by decide) ?_
  rintro v31 T32 h33 A34 ⟨a28, rfl, K29, S30⟩
  show own_Run p e below Q m T32 23 #[.val (.ref x), .val (.int (Int32.ofNat cs.length))] [(.ref a28), (.ref a17), (.ref a7), (.ref a7)]
  have f35 := f24.keep K29
  have f36 := f25.keep K29 nin0
  have f37 := f26.keep K29 nin0
  have K38 := K27.trans K29 all0
  have S39 := S19.keep K29
  refine own_special (q := 26) (W := 1) (argsL := [(.ref a17), (.ref a28)]) (rest := [(.ref a7)]) A34 rfl (H.k 209 rfl) (H.k 210 rfl) (H.k 211 rfl) (by decide) (own_payN (rm_eki a7 a17 a28 A34.old H f35 f36 f37 g9) (fun _ _ q => q.2.1) (H.k 211 rfl) (H.k 19 rfl) (by decide) (by decide)) (by simp) (Nat.le_of_eq rfl) own_pd33 rfl rfl rfl d29_23 (by decide) (by decide) ?_
  rintro v46 T47 h48 A49 ⟨rfl, K40, E41, F42, F43⟩
  show own_Run p e below Q m T47 26 #[.val (.ref x), .val (.int (Int32.ofNat cs.length))] [(.ref a7)]
  have S44 := own_Str.keepE S39 f35 (H.k 185 rfl) (by decide) K40
  have S45 := own_Str.keepE S30 f35 (H.k 185 rfl) (by decide) K40
  have K50 := K38.trans K40 (allS (Or.inr (Nat.le_trans (Keep.refl h0 []).1 (Nat.le_of_eq g8))) all0)
  exact own_retA A49 hQ rfl rfl rfl d29_26 ⟨a7, a17, a28, rfl, K50, E41, F42, F43, S44, S45⟩
theorem own_rem3 (y : Int32) : ∃ z : Int32, (y &&& (2147483647 : Int32)) % (3 : Int32) = z ∧ (z = 0 ∨ z = 1 ∨ z = 2) := by
  have e := c_mask y 2147483647 31 (by decide) (by decide)
  have p : ((2 ^ 31 : Nat) : Int) = 2147483648 := rfl
  rw [p] at e
  have e0 : (0 : Int32).toInt = 0 := rfl
  have e1 : (1 : Int32).toInt = 1 := rfl
  have e2 : (2 : Int32).toInt = 2 := rfl
  have e3 : (3 : Int32).toInt = 3 := rfl
  have r := (c_irem (y &&& 2147483647) 3 3 e3).1 (by omega)
  refine ⟨_, rfl, ?_⟩
  simp only [← Int32.toInt_inj]
  omega
theorem own_nz (y : Int32) : ∃ c : Int32, some (Value.int (nar .char (((1 : Int32) + ((y &&& (2147483647 : Int32)) % (65535 : Int32))).toUInt32.toUInt16.toUInt32.toInt32))) = some (.int c) ∧ ¬ c < 0 ∧ ¬ (65535 : Int32) < c ∧ ¬ c = 0 := by
  have e := c_mask y 2147483647 31 (by decide) (by decide)
  have p : ((2 ^ 31 : Nat) : Int) = 2147483648 := rfl
  rw [p] at e
  have e0 : (0 : Int32).toInt = 0 := rfl
  have e1 : (1 : Int32).toInt = 1 := rfl
  have e65535 : (65535 : Int32).toInt = 65535 := rfl
  have r := (c_irem (y &&& 2147483647) 65535 65535 e65535).1 (by omega)
  have s := c_iadd 1 ((y &&& (2147483647 : Int32)) % (65535 : Int32))
  have g := rng32 ((1 : Int32) + ((y &&& (2147483647 : Int32)) % (65535 : Int32)))
  generalize (1 : Int32) + ((y &&& (2147483647 : Int32)) % (65535 : Int32)) = z at *
  have i := c_i2c z
  have i2 := c_i2c z.toUInt32.toUInt16.toUInt32.toInt32
  refine ⟨_, rfl, ?_⟩
  show ¬ z.toUInt32.toUInt16.toUInt32.toInt32.toUInt32.toUInt16.toUInt32.toInt32 < 0 ∧ ¬ (65535 : Int32) < z.toUInt32.toUInt16.toUInt32.toInt32.toUInt32.toUInt16.toUInt32.toInt32 ∧ ¬ z.toUInt32.toUInt16.toUInt32.toInt32.toUInt32.toUInt16.toUInt32.toInt32 = 0
  rw [Int32.lt_iff_toInt_lt, Int32.lt_iff_toInt_lt, ← Int32.toInt_inj]
  omega
theorem own_chr (y : Int32) : ∃ c : Int32, y.toUInt32.toUInt16.toUInt32.toInt32 = c ∧ ¬ c < 0 ∧ ¬ (65535 : Int32) < c := by
  have i := c_i2c y
  have e0 : (0 : Int32).toInt = 0 := rfl
  have e65535 : (65535 : Int32).toInt = 65535 := rfl
  refine ⟨_, rfl, ?_⟩
  rw [Int32.lt_iff_toInt_lt, Int32.lt_iff_toInt_lt]
  omega
theorem own_cs_all {P : Int32 → Prop} {n a b : Int32} (h1 : P a) (h2 : P b) : ∀ c ∈ own_cs n a b, P c := by
  unfold own_cs
  split
  · exact fun _ z => nomatch z
  · split
    · exact own_fc h1 (fun _ z => nomatch z)
    · exact own_fc h1 (own_fc h2 (fun _ z => nomatch z))
theorem own_cs_len (n a b : Int32) : (own_cs n a b).length ≤ 2 := by
  unfold own_cs
  split
  · exact Nat.zero_le _
  · split
    · exact Nat.le_succ _
    · exact Nat.le_refl _
theorem own_wEq {Z : State} {a0 : Array Value} (hw : ∀ d ∈ tables_1, d.before a0 Z = true) : ∀ d ∈ StrChars.Road.wordsEq, d.before a0 Z = true := fun d hd => hw d ((by decide +kernel : ∀ d ∈ StrChars.Road.wordsEq, d ∈ tables_1) d hd)
theorem d1_0 : decode method_3_code 0 = .ok (.iconst 1, 1) := by decide +kernel
theorem d1_1 : decode method_3_code 1 = .ok (.iload_n 0, 1) := by decide +kernel
theorem d1_2 : decode method_3_code 2 = .ok (.ldc 7, 2) := by decide +kernel
theorem d1_4 : decode method_3_code 4 = .ok (.iand, 1) := by decide +kernel
theorem d1_5 : decode method_3_code 5 = .ok (.ldc 41, 2) := by decide +kernel
theorem d1_7 : decode method_3_code 7 = .ok (.irem, 1) := by decide +kernel
theorem d1_8 : decode method_3_code 8 = .ok (.iadd, 1) := by decide +kernel
theorem d1_9 : decode method_3_code 9 = .ok (.i2c, 1) := by decide +kernel
theorem d1_10 : decode method_3_code 10 = .ok (.ireturn, 1) := by decide +kernel
theorem rm_nz (y : Int32) (O0 : Old Z n0 h0) (H : own_H Z a0 zc fm) :
  own_Met false l Z n0 [] [] ⟨"com/example/any_row/anyrow/EntityKeyFromStorageKeyPinLaw", "nonZero", "(I)C"⟩ method_3_code 1 (some .char) [] (own_R 0 0 0 0) #[(.int y)] h0 (fun v h => (∃ c : Int32, v = some (.int c) ∧ ¬ c < 0 ∧ ¬ (65535 : Int32) < c ∧ ¬ c = 0) ∧ h0 = h) := by
  refine own_ent (a0 := a0) (nm := "nonZero") (Ls := #[.val (.int y)]) own_pn3 O0 EW.nil ?_
  intro p e _ m _ below _ _ T0 Q hQ A0
  refine own_iconst (q := 1) A0 (1 : Int32) d1_0 rfl ?_
  refine own_iloadN (q := 2) A0 d1_1 rfl ?_
  refine own_ldcI (q := 4) A0 (H.k 0 rfl) d1_2 ?_
  refine own_iand (q := 5) A0 d1_4 ?_
  refine own_ldcI (q := 7) A0 (H.k 5 rfl) d1_5 ?_
  refine own_irem (q := 8) A0 d1_7 (by decide) ?_
  refine own_iadd (q := 9) A0 d1_8 ?_
  refine own_i2c (q := 10) A0 d1_9 ?_
  exact own_retN A0 hQ (t := .char) (by simp) d1_10 ⟨own_nz y, rfl⟩
theorem rm_lawP (ws : List Jvm.Cond) (i0 i1 i2 i3 i4 : Int32) (O0 : Old Z n0 h0) (hEL : EW Z a0 consts_1) (H : own_H Z a0 zc fm) :
  own_Met true l Z n0 consts_1 [] x code maxLocals ret ws room_1 #[(.int i0), (.int i1), (.int i2), (.int i3), (.int i4)] h0 (fun v _ => v = some (.int 1)) := by
  refine own_ent (a0 := a0) (nm := "law") (Ls := #[.val (.int i0), .val (.int i1), .val (.int i2), .val (.int i3), .val (.int i4), .unset, .unset, .unset, .unset, .unset, .unset]) own_pn3 O0 hEL ?_
  intro p e _ m _ below _ _ T0 Q hQ A0
  refine own_iloadN (q := 1) A0 at_0 rfl ?_
  refine own_ldcI (q := 3) A0 (H.k 0 rfl) at_1 ?_
  refine own_iand (q := 4) A0 at_3 ?_
  refine own_iconst (q := 5) A0 (3 : Int32) at_4 rfl ?_
  refine own_irem (q := 6) A0 at_5 (by decide) ?_
  obtain ⟨lp, elp, hlp⟩ := own_rem3 i0
  rw [elp]
  refine own_istore (q := 8) (L' := #[.val (.int i0), .val (.int i1), .val (.int i2), .val (.int i3), .val (.int i4), .val (.int lp), .unset, .unset, .unset, .unset, .unset]) A0 at_6 rfl ?_
  refine own_iloadN (q := 9) A0 at_8 rfl ?_
  refine own_iconst (q := 10) A0 (2 : Int32) at_9 rfl ?_
  refine own_iushr (q := 11) A0 at_10 ?_
  refine own_ldcI (q := 13) A0 (H.k 0 rfl) at_11 ?_
  refine own_iand (q := 14) A0 at_13 ?_
  refine own_iconst (q := 15) A0 (3 : Int32) at_14 rfl ?_
  refine own_irem (q := 16) A0 at_15 (by decide) ?_
  obtain ⟨lr, elr, hlr⟩ := own_rem3 ((i0.toUInt32 >>> ((2 : Int32) &&& 31).toUInt32).toInt32)
  rw [elr]
  refine own_istore (q := 18) (L' := #[.val (.int i0), .val (.int i1), .val (.int i2), .val (.int i3), .val (.int i4), .val (.int lp), .val (.int lr), .unset, .unset, .unset, .unset]) A0 at_16 rfl ?_
  refine own_iload (q := 20) A0 at_18 rfl ?_
  refine own_iloadN (q := 21) A0 at_20 rfl ?_
  refine own_static (q := 24) (W := 1) (argsL := [(.int i1)]) (rest := [(.int lp)]) A0 (H.k 1 rfl) (H.k 2 rfl) (H.k 3 rfl) (H.k 4 rfl) (by decide) (own_payN (rm_nz i1 A0.old H ) (fun _ _ q => own_keepE q.2) (H.k 4 rfl) (H.k 3 rfl) (by decide) (by decide)) own_nW (Nat.le_of_eq rfl) own_pd1 rfl rfl rfl at_21 (by decide) (by decide) ?_
  rintro v1 T2 h3 A4 ⟨⟨chp, rfl, hchp0, hchp1, zchp⟩, rfl⟩
  show own_Run p e below Q m T2 24 #[.val (.int i0), .val (.int i1), .val (.int i2), .val (.int i3), .val (.int i4), .val (.int lp), .val (.int lr), .unset, .unset, .unset, .unset] [(.int chp), (.int lp)]
  refine own_iloadN (q := 25) A4 at_24 rfl ?_
  refine own_static (q := 28) (W := 2) (argsL := [(.int i2)]) (rest := [(.int chp), (.int lp)]) A4 (H.k 1 rfl) (H.k 2 rfl) (H.k 3 rfl) (H.k 4 rfl) (by decide) (own_payN (rm_nz i2 A4.old H ) (fun _ _ q => own_keepE q.2) (H.k 4 rfl) (H.k 3 rfl) (by decide) (by decide)) own_nW (Nat.le_of_eq rfl) own_pd1 rfl rfl rfl at_25 (by decide) (by decide) ?_
  rintro v5 T6 h7 A8 ⟨⟨chq, rfl, hchq0, hchq1, zchq⟩, rfl⟩
  show own_Run p e below Q m T6 28 #[.val (.int i0), .val (.int i1), .val (.int i2), .val (.int i3), .val (.int i4), .val (.int lp), .val (.int lr), .unset, .unset, .unset, .unset] [(.int chq), (.int chp), (.int lp)]
  refine own_staticW (q := 31) (W := 0) (argsL := [(.int lp), (.int chp), (.int chq)]) (rest := []) A8 (H.k 6 rfl) (H.k 7 rfl) (H.k 3 rfl) (H.k 8 rfl) (by decide) (own_payW (rm_str lp chp chq A8.old hEL H hlp hchp0 hchp1 hchq0 hchq1) (H.k 8 rfl) (H.k 3 rfl) (by decide) (by decide)) own_nW (Nat.le_of_eq rfl) own_pd2 rfl rfl rfl at_28 (by decide) (by decide) ?_
  rintro v12 T13 h14 A15 ⟨a9, rfl, K10, S11⟩
  show own_Run p e below Q m T13 31 #[.val (.int i0), .val (.int i1), .val (.int i2), .val (.int i3), .val (.int i4), .val (.int lp), .val (.int lr), .unset, .unset, .unset, .unset] [(.ref a9)]
  refine own_astore (q := 33) (L' := #[.val (.int i0), .val (.int i1), .val (.int i2), .val (.int i3), .val (.int i4), .val (.int lp), .val (.int lr), .val (.ref a9), .unset, .unset, .unset]) A15 at_31 rfl rfl ?_
  refine own_iload (q := 35) A15 at_33 rfl ?_
  refine own_iloadN (q := 36) A15 at_35 rfl ?_
  refine own_i2c (q := 37) A15 at_36 ?_
  obtain ⟨chr, echr, hchr0, hchr1⟩ := own_chr i3
  rw [echr]
  refine own_iload (q := 39) A15 at_37 rfl ?_
  refine own_i2c (q := 40) A15 at_39 ?_
  obtain ⟨chs, echs, hchs0, hchs1⟩ := own_chr i4
  rw [echs]
  refine own_staticW (q := 43) (W := 0) (argsL := [(.int lr), (.int chr), (.int chs)]) (rest := []) A15 (H.k 6 rfl) (H.k 7 rfl) (H.k 3 rfl) (H.k 8 rfl) (by decide) (own_payW (rm_str lr chr chs A15.old hEL H hlr hchr0 hchr1 hchs0 hchs1) (H.k 8 rfl) (H.k 3 rfl) (by decide) (by decide)) own_nW (Nat.le_of_eq rfl) own_pd2 rfl rfl rfl at_40 (by decide) (by decide) ?_
  rintro v19 T20 h21 A22 ⟨a16, rfl, K17, S18⟩
  show own_Run p e below Q m T20 43 #[.val (.int i0), .val (.int i1), .val (.int i2), .val (.int i3), .val (.int i4), .val (.int lp), .val (.int lr), .val (.ref a9), .unset, .unset, .unset] [(.ref a16)]
  have S23 := S11.keep K17
  refine own_astore (q := 45) (L' := #[.val (.int i0), .val (.int i1), .val (.int i2), .val (.int i3), .val (.int i4), .val (.int lp), .val (.int lr), .val (.ref a9), .val (.ref a16), .unset, .unset]) A22 at_43 rfl rfl ?_
  refine own_aload (q := 47) A22 at_45 rfl rfl ?_
  refine own_aload (q := 49) A22 at_47 rfl rfl ?_
  refine own_static (q := 52) (W := 0) (argsL := [(.ref a9), (.ref a16)]) (rest := []) A22 (H.k 17 rfl) (H.k 18 rfl) (H.k 19 rfl) (H.k 20 rfl) (by decide) (own_payN (rm_sk a9 a16 (own_cs lp chp chq) (own_cs lr chr chs) A22.old H S23 S18 (own_cs_len _ _ _) (own_cs_len _ _ _) (own_cs_all hchp0 hchq0) (own_cs_all hchr0 hchs0)) (fun _ _ ⟨_, _, q, _⟩ => q) (H.k 20 rfl) (H.k 19 rfl) (by decide) (by decide)) own_nW (Nat.le_of_eq rfl) own_pd3 rfl rfl rfl at_49 (by decide) (by decide) ?_
  rintro v27 T28 h29 A30 ⟨a24, rfl, K25, S26⟩
  show own_Run p e below Q m T28 52 #[.val (.int i0), .val (.int i1), .val (.int i2), .val (.int i3), .val (.int i4), .val (.int lp), .val (.int lr), .val (.ref a9), .val (.ref a16), .unset, .unset] [(.ref a24)]
  have S31 := S23.keep K25
  have S32 := S18.keep K25
  refine own_astore (q := 54) (L' := #[.val (.int i0), .val (.int i1), .val (.int i2), .val (.int i3), .val (.int i4), .val (.int lp), .val (.int lr), .val (.ref a9), .val (.ref a16), .val (.ref a24), .unset]) A30 at_52 rfl rfl ?_
  refine own_aload (q := 56) A30 at_54 rfl rfl ?_
  refine own_staticW (q := 59) (W := 0) (argsL := [(.ref a24)]) (rest := []) A30 (H.k 152 rfl) (H.k 153 rfl) (H.k 19 rfl) (H.k 154 rfl) (by decide) (own_payW (rm_fs a24 (own_cs lp chp chq) (own_cs lr chr chs) A30.old hEL H S26 (own_cs_len _ _ _) (own_cs_len _ _ _) (own_cs_all ⟨⟨hchp0, hchp1⟩, zchp⟩ ⟨⟨hchq0, hchq1⟩, zchq⟩) (own_cs_all ⟨hchr0, hchr1⟩ ⟨hchs0, hchs1⟩)) (H.k 154 rfl) (H.k 19 rfl) (by decide) (by decide)) own_nW (Nat.le_of_eq rfl) own_pd24 rfl rfl rfl at_56 (by decide) (by decide) ?_
  rintro v42 T43 h44 A45 ⟨o33, y34, y35, rfl, K36, E37, F38, F39, S40, S41⟩
  show own_Run p e below Q m T43 59 #[.val (.int i0), .val (.int i1), .val (.int i2), .val (.int i3), .val (.int i4), .val (.int lp), .val (.int lr), .val (.ref a9), .val (.ref a16), .val (.ref a24), .unset] [(.ref o33)]
  have S46 := S31.keep K36
  have S47 := S32.keep K36
  refine own_astore (q := 61) (L' := #[.val (.int i0), .val (.int i1), .val (.int i2), .val (.int i3), .val (.int i4), .val (.int lp), .val (.int lr), .val (.ref a9), .val (.ref a16), .val (.ref a24), .val (.ref o33)]) A45 at_59 rfl rfl ?_
  refine own_aload (q := 63) A45 at_61 rfl rfl ?_
  refine own_virtual (q := 66) (W := 0) (argsL := []) (rest := []) A45 (H.k 217 rfl) (H.k 218 rfl) (H.k 220 rfl) (H.k 219 rfl) (by decide) (own_payN (rm_partitionKey o33 y34 A45.old H F38) (fun _ _ q => own_keepE q.2) (H.k 221 rfl) (H.k 19 rfl) (by decide) (by decide)) own_nW (Nat.le_of_eq rfl) E37 own_pd17 rfl rfl rfl at_63 (by decide) (by decide) ?_
  rintro v48 T49 h50 A51 ⟨rfl, rfl⟩
  show own_Run p e below Q m T49 66 #[.val (.int i0), .val (.int i1), .val (.int i2), .val (.int i3), .val (.int i4), .val (.int lp), .val (.int lr), .val (.ref a9), .val (.ref a16), .val (.ref a24), .val (.ref o33)] [(.ref y34)]
  refine own_aload (q := 68) A51 at_66 rfl rfl ?_
  obtain ⟨t52, k53, d54, N55, V56, X57, C58⟩ := id S40
  obtain ⟨t59, k60, d61, N62, V63, X64, C65⟩ := id S46
  refine own_virtual (q := 71) (W := 0) (argsL := [(.ref a9)]) (rest := []) A51 (H.k 222 rfl) (H.k 223 rfl) (H.k 225 rfl) (H.k 224 rfl) (by decide) (own_payEq (cs1 := (own_cs lp chp chq)) (cs2 := (own_cs lp chp chq)) (kI := 4) (own_wEq H.w) (H.k 11 rfl) A51.old X57.E X57.V X57.C X57.K C58 (own_cs_all ⟨hchp0, hchp1⟩ ⟨hchq0, hchq1⟩) (Nat.le_trans (own_cs_len _ _ _) (by decide)) X64.E X64.V X64.C X64.K C65 (own_cs_all ⟨hchp0, hchp1⟩ ⟨hchq0, hchq1⟩) (Nat.le_trans (own_cs_len _ _ _) (by decide)) H.SC H.hz (by decide) (by decide)) own_nW (Nat.le_of_eq rfl) X57.E own_pd34 rfl rfl rfl at_68 (by decide) (by decide) ?_
  rintro v67 T68 h69 A70 ⟨⟨rfl, -⟩ | ⟨-, q66⟩, rfl⟩
  rotate_left
  · exact absurd rfl q66
  show own_Run p e below Q m T68 71 #[.val (.int i0), .val (.int i1), .val (.int i2), .val (.int i3), .val (.int i4), .val (.int lp), .val (.int lr), .val (.ref a9), .val (.ref a16), .val (.ref a24), .val (.ref o33)] [(.int 1)]
  refine own_ifcF (q := 74) A70 at_71 (show ¬ (1 : Int32) = (0 : Int32) from by decide) ?_
  refine own_aload (q := 76) A70 at_74 rfl rfl ?_
  refine own_virtual (q := 79) (W := 0) (argsL := []) (rest := []) A70 (H.k 227 rfl) (H.k 228 rfl) (H.k 230 rfl) (H.k 229 rfl) (by decide) (own_payN (rm_rowKey o33 y35 A70.old H F39) (fun _ _ q => own_keepE q.2) (H.k 231 rfl) (H.k 19 rfl) (by decide) (by decide)) own_nW (Nat.le_of_eq rfl) E37 own_pd17 rfl rfl rfl at_76 (by decide) (by decide) ?_
  rintro v71 T72 h73 A74 ⟨rfl, rfl⟩
  show own_Run p e below Q m T72 79 #[.val (.int i0), .val (.int i1), .val (.int i2), .val (.int i3), .val (.int i4), .val (.int lp), .val (.int lr), .val (.ref a9), .val (.ref a16), .val (.ref a24), .val (.ref o33)] [(.ref y35)]
  refine own_aload (q := 81) A74 at_79 rfl rfl ?_
  obtain ⟨t75, k76, d77, N78, V79, X80, C81⟩ := id S41
  obtain ⟨t82, k83, d84, N85, V86, X87, C88⟩ := id S47
  refine own_virtual (q := 84) (W := 0) (argsL := [(.ref a16)]) (rest := []) A74 (H.k 222 rfl) (H.k 223 rfl) (H.k 225 rfl) (H.k 224 rfl) (by decide) (own_payEq (cs1 := (own_cs lr chr chs)) (cs2 := (own_cs lr chr chs)) (kI := 4) (own_wEq H.w) (H.k 11 rfl) A74.old X80.E X80.V X80.C X80.K C81 (own_cs_all ⟨hchr0, hchr1⟩ ⟨hchs0, hchs1⟩) (Nat.le_trans (own_cs_len _ _ _) (by decide)) X87.E X87.V X87.C X87.K C88 (own_cs_all ⟨hchr0, hchr1⟩ ⟨hchs0, hchs1⟩) (Nat.le_trans (own_cs_len _ _ _) (by decide)) H.SC H.hz (by decide) (by decide)) own_nW (Nat.le_of_eq rfl) X80.E own_pd34 rfl rfl rfl at_81 (by decide) (by decide) ?_
  rintro v90 T91 h92 A93 ⟨⟨rfl, -⟩ | ⟨-, q89⟩, rfl⟩
  rotate_left
  · exact absurd rfl q89
  show own_Run p e below Q m T91 84 #[.val (.int i0), .val (.int i1), .val (.int i2), .val (.int i3), .val (.int i4), .val (.int lp), .val (.int lr), .val (.ref a9), .val (.ref a16), .val (.ref a24), .val (.ref o33)] [(.int 1)]
  refine own_ifcF (q := 87) A93 at_84 (show ¬ (1 : Int32) = (0 : Int32) from by decide) ?_
  refine own_iconst (q := 88) A93 (1 : Int32) at_87 rfl ?_
  refine own_goto (q := 92) A93 at_88 ?_
  exact own_retN A93 hQ (t := .boolean) (by simp) at_92 rfl
theorem rm_law (l : Launch) (Z : State) (a0 : Array Value) (hw : ∀ d ∈ tables_1, d.before a0 Z = true) (ws : List Jvm.Cond) (zc : Int32) (fm : Value) (i0 i1 i2 i3 i4 : Int32) (h0 : Heap) (n0 : Nat) (O0 : Old Z n0 h0) (hEL : EW Z a0 consts_1) (SC : Sta Z Z.heap "java/lang/String" "COMPACT_STRINGS" "Z" (.int zc)) (hz : ¬ zc = 0) (SF : Sta Z Z.heap "jdk/internal/util/Preconditions" "SIOOBE_FORMATTER" "Ljava/util/function/BiFunction;" fm) (rf : fm.isRef = true) (SA : Sta Z Z.heap "java/lang/StringUTF16" "$assertionsDisabled" "Z" (.int 1)) (SH : Sta Z Z.heap "java/lang/StringUTF16" "HI_BYTE_SHIFT" "I" (.int 0)) (SLo : Sta Z Z.heap "java/lang/StringUTF16" "LO_BYTE_SHIFT" "I" (.int 8)) :
    own_Met true l Z n0 consts_1 [] x code maxLocals ret ws room_1 #[.int i0, .int i1, .int i2, .int i3, .int i4] h0 (fun v _ => v = some (.int 1)) := rm_lawP ws i0 i1 i2 i3 i4 O0 hEL (own_H_mk hw SC hz SF rf SA SH SLo)
theorem comes_1 {Post : Tables → Env → Array Value → State → Outcome → State → Prop} (hpost : ∀ tb e args s v u, (limb_1_1.after args s (.returned v) u = true ∧ limb_1_2.after args s (.returned v) u = true ∧ True) → ReturnedEndW s (.returned v) u (Jvm.fieldLocs frame_1_writes args s ++ Jvm.arrayLocs frame_1_arrays args s ++ Jvm.staticLocs frame_1_statics s) 56 3392 → Post tb e args s (.returned v) u) :
    ArmFor flags0 classFile x code maxLocals ret World_1 tables_1 room_1 Calls_1 rest_1 Pre_1 Post := by
  intro l hfl _ _ p e ha hc hk s m args below hf hA hF happ hP
  obtain ⟨hcalls, hrest, hpre⟩ := hP
  obtain ⟨-, -, -, hnamed, -, -, -, hat⟩ := (Spec.applies_iff hf).mp happ
  obtain ⟨hg, hn⟩ := and_e (Cond.before_iff.mp (show (Jvm.Cond.and given_1 narrow_1).before args s = true from hpre))
  obtain ⟨g0, hg0⟩ := and_e hg
  obtain ⟨g1, hg1⟩ := and_e hg0
  obtain ⟨g2, hg2⟩ := and_e hg1
  obtain ⟨g3, hg3⟩ := and_e hg2
  obtain ⟨g4, hg4⟩ := and_e hg3
  have g5 := hg4
  obtain ⟨w0, w1, w2, w3, w4, rfl⟩ : ∃ w0 w1 w2 w3 w4 : Value, args = #[w0, w1, w2, w3, w4] := by
    have hs : args.size = 5 := by simpa [Cond.value, given_1] using g0
    obtain ⟨L⟩ := args
    match L, hs with
    | [w0, w1, w2, w3, w4], _ => exact ⟨w0, w1, w2, w3, w4, rfl⟩
  have hw := fun d (hd : d ∈ tables_1) => atoms_spec (ws := Jvm.Cond.code x code maxLocals ret :: tables_1) hat d (List.mem_cons_of_mem _ hd)
  have hfit : Fit s := fun {y c} hc i hi => by
    obtain ⟨ha, rfl⟩ := Array.getElem?_eq_some_iff.mp hc
    have q := List.all_eq_true.mp ((Array.all_eq_true_iff_forall_mem.mp hF) _ (Array.getElem_mem ha)) i (List.mem_range.mpr hi)
    simpa [Array.getElem?_eq_getElem hi] using q
  obtain ⟨i0, ei0⟩ := is_v g1
  obtain rfl : w0 = (.int i0) := Option.some.inj ei0
  obtain ⟨i1, ei1⟩ := is_v g2
  obtain rfl : w1 = (.int i1) := Option.some.inj ei1
  obtain ⟨i2, ei2⟩ := is_v g3
  obtain rfl : w2 = (.int i2) := Option.some.inj ei2
  obtain ⟨i3, ei3⟩ := is_v g4
  obtain rfl : w3 = (.int i3) := Option.some.inj ei3
  obtain ⟨i4, ei4⟩ := is_v g5
  obtain rfl : w4 = (.int i4) := Option.some.inj ei4
  obtain ⟨hsets, hown0⟩ := atoms_of _ (rest_1_c_eq ▸ (show rest_1_c.before _ s = true from hrest))
  have q0 := hn
  have n2 := not_v (Cond.before_iff.mp (hsets _ (List.mem_of_getElem? (i := 2) rfl)))
  obtain ⟨zc, ez⟩ := is_v (Cond.before_iff.mp (hsets _ (List.mem_of_getElem? (i := 1) rfl)))
  have SC := Sta.start ez (Or.inl (hsets _ (List.mem_of_getElem? (i := 0) rfl)))
  have hz : ¬ zc = (0 : Int32) := gotF (Cond.eq_ints ez (Term.int_eval (0))) n2
  obtain ⟨fm, ef, rf⟩ := isR_v (Cond.before_iff.mp (hsets _ (List.mem_of_getElem? (i := 8) rfl)))
  have SF := Sta.start ef (Or.inl (hsets _ (List.mem_of_getElem? (i := 7) rfl)))
  have SA := Sta.start (own_staI (Cond.before_iff.mp (hsets _ (List.mem_of_getElem? (i := 12) rfl)))) (Or.inl (hsets _ (List.mem_of_getElem? (i := 11) rfl)))
  have SH := Sta.start (own_staI (Cond.before_iff.mp (hsets _ (List.mem_of_getElem? (i := 15) rfl)))) (Or.inl (hsets _ (List.mem_of_getElem? (i := 14) rfl)))
  have SLo := Sta.start (own_staI (Cond.before_iff.mp (hsets _ (List.mem_of_getElem? (i := 18) rfl)))) (Or.inl (hsets _ (List.mem_of_getElem? (i := 17) rfl)))
  have hEL : EW s _ consts_1 := (EW.cons (hw _ (own_wM 9 rfl)) (by decide +kernel) (EW.cons (hw _ (own_wM 202 rfl)) (by decide +kernel) (EW.cons (hw _ (own_wM 351 rfl)) (by decide +kernel) EW.nil)))
  have hCH : CHv s consts_1 s.vm s.heap := CHv.start hEL (fun p hp => hcalls.1 p hp) (hsets _ (List.mem_of_getElem? (i := 2) rfl)) (hw _ (own_wM 12 rfl)) (hw _ (own_wM 11 rfl))
  obtain ⟨n, o, h1, h2, h3, v, L, rfl, ⟨rfl, N, -, -⟩, -, hq⟩ := rm_law l s _ hw tables_1 zc fm i0 i1 i2 i3 i4 s.heap s.heap.size (Old.start s) hEL SC hz SF rf SA SH SLo p e ha hc hk s m _ below hf ((Spec.applies_iff_loose hf).mp happ).1 ⟨rfl, State.Warmed39.refl s, rfl, hCH, fun _ z => nomatch z⟩ trivial
  have hq' : ReturnedEndW s _ _ L _ _ := hq
  refine ⟨n, _, h1, h2, h3, hpost _ _ _ _ _ _ ⟨Cond.after_iff.mpr rfl, Cond.after_iff.mpr (eq_i res_at (Term.int_eval (1)) rfl), trivial⟩ ⟨hq'.1, hq'.2.1, hq'.2.2.1, (hq'.2.2.2.sift fun y hy => Or.inr (N y hy)).mono (by decide) (by decide)⟩⟩
theorem main_1_1 : Claimed_1_1 := comes_1 fun _ _ _ _ _ _ h hF => ⟨h.1, hF⟩
theorem main_1_2 : Claimed_1_2 := comes_1 fun _ _ _ _ _ _ h hF => ⟨h.2.1, hF⟩
end Jvm.Pilot.@@N@@
namespace Jvm.Pilot.@@N@@
open Jvm Jvm.ClassFile Sem Op Lib Jvm.Free Jvm.Stand Jvm.Pilot.@@N@@.Jvm.D
/-! MADE BY PROGRAM (witnessworld.py) out of the Statement's table words and the real class files: 26 classes; the members and pool entries that the words name. The judged class is class 1, her method 1. -/
namespace start1
open Jvm.ClassFile
def u (s : String) : CpInfo := .utf8 (stringToUtf16 s)
/-- a pool by its gaps: so many unusable entries, then the entry; so many at the end -/
def gap : Nat → List CpInfo → List CpInfo
  | 0, r => r
  | n + 1, r => .unusable :: gap n r
def poolList (es : List (Nat × CpInfo)) (last : Nat) : List CpInfo := es.foldr (fun e r => gap e.1 (e.2 :: r)) (gap last [])
def pool (es : List (Nat × CpInfo)) (last : Nat) : Array CpInfo := ⟨poolList es last⟩
def fileOf (pool : Array CpInfo) (this : Nat) (attrs : Array Attribute := #[]) (ms : Array MethodInfo := #[]) (fl : Nat := 33) (sup : Nat := 0) (ifs : Array Nat := #[]) (fds : Array FieldInfo := #[]) : ClassFile where
  minorVersion := 0
  majorVersion := 65
  constantPool := pool
  accessFlags := fl
  thisClass := this
  superClass := sup
  interfaces := ifs
  fields := fds
  methods := ms
  attributes := attrs
def plain (name : String) (sup : Option ClassId) : Class where
  name := name
  kind := .ordinary
  loader := none
  accessFlags := 33
  super := sup
  interfaces := #[]
  cf := none
  fields := #[]
  methods := #[]
  instanceTypes := #[]
  staticTypes := #[]
  resolved := #[]
  callSites := []
  init := .initialized
  statics := none
  mirror := none

def pool0 : Array CpInfo := pool [(5, u "<init>"), (0, u "()V"), (1, .class_ 10), (1, u "java/lang/Object")] 113

def k0c0 : Code := { maxStack := 0, maxLocals := 1, code := object_method_1_code, exceptionTable := #[], attributes := #[] }
def k0m0 : Method := { name := "<init>", desc := "()V", sig := { parameters := [], returnType := none }, accessFlags := 1, code := some k0c0 }
/-- java/lang/Object -/
def k0 : Class := { plain "java/lang/Object" none with
  accessFlags := 33
  interfaces := #[]
  cf := some (fileOf pool0 8 #[] #[{ accessFlags := 1, nameIndex := 5, descriptorIndex := 6, attributes := #[] }] 33 0 #[] #[])
  fields := #[]
  methods := #[k0m0]
  instanceTypes := #[]
  staticTypes := #[]
  resolved := Array.replicate 124 none
  statics := none }

def pool1 : Array CpInfo := pool [(2, .class_ 4), (1, u "java/lang/Object"), (0, u "<init>"), (0, u "()V"), (0, .integer 2147483647), (0, .methodref 9 10), (0, .class_ 11), (0, .nameAndType 12 13), (0, u "com/example/any_row/anyrow/EntityKeyFromStorageKeyPinLaw"), (0, u "nonZero"), (0, u "(I)C"), (0, .methodref 9 15), (0, .nameAndType 16 17), (0, u "str"), (0, u "(ICC)Ljava/lang/String;"), (0, .methodref 19 20), (0, .class_ 21), (0, .nameAndType 22 23), (0, u "com/example/any_row/anyrow/EntityKey"), (0, u "storageKey"), (0, u "(Ljava/lang/String;Ljava/lang/String;)Ljava/lang/String;"), (0, .methodref 19 25), (0, .nameAndType 26 27), (0, u "fromStorageKey"), (0, u "(Ljava/lang/String;)Lcom/example/any_row/anyrow/EntityKey;"), (0, .methodref 19 29), (0, .nameAndType 30 31), (0, u "partitionKey"), (0, u "()Ljava/lang/String;"), (0, .methodref 33 34), (0, .class_ 35), (0, .nameAndType 36 37), (0, u "java/lang/String"), (0, u "equals"), (0, u "(Ljava/lang/Object;)Z"), (0, .methodref 19 39), (0, .nameAndType 40 31), (0, u "rowKey"), (0, .integer 65535), (0, .string 43), (0, u ""), (0, .methodref 33 45), (0, .nameAndType 46 47), (0, u "valueOf"), (0, u "(C)Ljava/lang/String;"), (0, .methodref 33 49), (0, .nameAndType 5 50), (0, u "([C)V"), (2, u "law"), (0, u "(IIIII)Z")] 3

def k1m0 : Method := { name := "<init>", desc := "()V", sig := { parameters := [], returnType := none }, accessFlags := 1, code := none }
def k1c1 : Code := { maxStack := 3, maxLocals := 11, code := code, exceptionTable := #[], attributes := #[] }
def k1m1 : Method := { name := "law", desc := "(IIIII)Z", sig := { parameters := [.int, .int, .int, .int, .int], returnType := some .boolean }, accessFlags := 9, code := some k1c1 }
def k1c2 : Code := { maxStack := 3, maxLocals := 1, code := method_3_code, exceptionTable := #[], attributes := #[] }
def k1m2 : Method := { name := "nonZero", desc := "(I)C", sig := { parameters := [.int], returnType := some .char }, accessFlags := 10, code := some k1c2 }
def k1c3 : Code := { maxStack := 6, maxLocals := 3, code := method_4_code, exceptionTable := #[], attributes := #[] }
def k1m3 : Method := { name := "str", desc := "(ICC)Ljava/lang/String;", sig := { parameters := [.int, .char, .char], returnType := some (.object "java/lang/String") }, accessFlags := 10, code := some k1c3 }
/-- com/example/any_row/anyrow/EntityKeyFromStorageKeyPinLaw -/
def k1 : Class := { plain "com/example/any_row/anyrow/EntityKeyFromStorageKeyPinLaw" (some 0) with
  accessFlags := 49
  interfaces := #[]
  cf := some (fileOf pool1 9 #[] #[{ accessFlags := 1, nameIndex := 5, descriptorIndex := 6, attributes := #[] }, { accessFlags := 9, nameIndex := 53, descriptorIndex := 54, attributes := #[] }, { accessFlags := 10, nameIndex := 12, descriptorIndex := 13, attributes := #[] }, { accessFlags := 10, nameIndex := 16, descriptorIndex := 17, attributes := #[] }] 49 2 #[] #[])
  fields := #[]
  methods := #[k1m0, k1m1, k1m2, k1m3]
  instanceTypes := #[]
  staticTypes := #[]
  resolved := Array.replicate 58 none
  statics := none }

def pool2 : Array CpInfo := pool [(1, .class_ 2), (0, u "java/io/Serializable"), (0, .class_ 4), (0, u "java/lang/Object")] 2

/-- java/io/Serializable -/
def k2 : Class := { plain "java/io/Serializable" (some 0) with
  accessFlags := 1537
  interfaces := #[]
  cf := some (fileOf pool2 1 #[] #[] 1537 3 #[] #[])
  fields := #[]
  methods := #[]
  instanceTypes := #[]
  staticTypes := #[]
  resolved := Array.replicate 7 none
  statics := none }

def pool3 : Array CpInfo := pool [(1, .class_ 2), (0, u "java/lang/Comparable"), (0, .class_ 4), (0, u "java/lang/Object")] 7

/-- java/lang/Comparable -/
def k3 : Class := { plain "java/lang/Comparable" (some 0) with
  accessFlags := 1537
  interfaces := #[]
  cf := some (fileOf pool3 1 #[] #[] 1537 3 #[] #[])
  fields := #[]
  methods := #[]
  instanceTypes := #[]
  staticTypes := #[]
  resolved := Array.replicate 12 none
  statics := none }

def pool4 : Array CpInfo := pool [(2, .class_ 4), (1, u "java/lang/CharSequence"), (42, .class_ 48), (0, u "java/lang/CharSequence$1CodePointIterator"), (10, .class_ 60), (0, u "java/lang/CharSequence$1CharIterator"), (5, .class_ 67), (0, u "java/lang/Object")] 63

/-- java/lang/CharSequence -/
def k4 : Class := { plain "java/lang/CharSequence" (some 0) with
  accessFlags := 1537
  interfaces := #[]
  cf := some (fileOf pool4 2 #[.nestMembers #[47, 59]] #[] 1537 66 #[] #[])
  fields := #[]
  methods := #[]
  instanceTypes := #[]
  staticTypes := #[]
  resolved := Array.replicate 131 none
  statics := none }

def pool5 : Array CpInfo := pool [(1, .class_ 2), (0, u "java/lang/constant/Constable"), (0, .class_ 4), (0, u "java/lang/Object")] 6

/-- java/lang/constant/Constable -/
def k5 : Class := { plain "java/lang/constant/Constable" (some 0) with
  accessFlags := 1537
  interfaces := #[]
  cf := some (fileOf pool5 1 #[] #[] 1537 3 #[] #[])
  fields := #[]
  methods := #[]
  instanceTypes := #[]
  staticTypes := #[]
  resolved := Array.replicate 11 none
  statics := none }

def pool6 : Array CpInfo := pool [(1, .class_ 2), (0, u "java/lang/constant/ConstantDesc"), (0, .class_ 4), (0, u "java/lang/Object")] 32

/-- java/lang/constant/ConstantDesc -/
def k6 : Class := { plain "java/lang/constant/ConstantDesc" (some 0) with
  accessFlags := 1537
  interfaces := #[]
  cf := some (fileOf pool6 1 #[] #[] 1537 3 #[] #[])
  fields := #[]
  methods := #[]
  instanceTypes := #[]
  staticTypes := #[]
  resolved := Array.replicate 37 none
  statics := none }

def pool7 : Array CpInfo := pool [(1, .methodref 2 3), (0, .class_ 4), (0, .nameAndType 5 6), (0, u "java/lang/Object"), (0, u "<init>"), (0, u "()V"), (2, .fieldref 10 11), (0, .class_ 12), (0, .nameAndType 13 14), (0, u "java/lang/String"), (0, u "value"), (0, u "[B"), (0, .fieldref 10 16), (0, .nameAndType 17 18), (0, u "coder"), (0, u "B"), (2, u "hash"), (0, u "I"), (2, u "hashIsZero"), (0, u "Z"), (0, .methodref 10 28), (0, .nameAndType 5 29), (0, u "([CIILjava/lang/Void;)V"), (6, u "checkBoundsOffCount"), (0, u "(III)I"), (0, .fieldref 10 39), (0, .nameAndType 40 26), (0, u "COMPACT_STRINGS"), (1, .class_ 44), (1, u "java/lang/StringUTF16"), (0, u "compress"), (1, .methodref 42 48), (0, .nameAndType 49 50), (0, u "coderFromArrayLen"), (0, u "([BI)B"), (2, u "toBytes"), (0, .methodref 55 56), (0, .class_ 57), (0, .nameAndType 58 59), (0, u "java/util/Arrays"), (0, u "copyOfRange"), (0, u "([BII)[B"), (46, .methodref 107 108), (0, .class_ 109), (0, .nameAndType 110 111), (0, u "java/lang/StringLatin1"), (0, u "inflate"), (0, u "([BI[BII)V"), (30, u "()Z"), (34, .methodref 42 178), (0, .nameAndType 45 179), (0, u "([CII)[B"), (13, .class_ 195), (1, u "java/lang/System"), (13, .methodref 10 210), (0, .nameAndType 5 211), (0, u "([BB)V"), (0, .methodref 193 213), (0, .nameAndType 214 215), (0, u "arraycopy"), (0, u "(Ljava/lang/Object;ILjava/lang/Object;II)V"), (118, u "()I"), (0, .methodref 10 336), (0, .nameAndType 17 337), (0, u "()B"), (2, u "()[B"), (28, u "(C)Z"), (21, u "(II)V"), (97, .methodref 10 490), (0, .nameAndType 5 491), (0, u "(Ljava/lang/AbstractStringBuilder;Ljava/lang/Void;)V"), (0, .methodref 10 493), (0, .nameAndType 494 142), (0, u "isLatin1"), (6, u "checkIndex"), (3, .methodref 10 506), (0, .nameAndType 507 334), (0, u "length"), (5, u "checkFromToIndex"), (7, .methodref 10 522), (0, .nameAndType 523 524), (0, u "checkBoundsBeginEnd"), (0, u "(III)V"), (7, u "getBytes"), (8, .methodref 107 542), (0, .nameAndType 543 544), (0, u "equals"), (0, u "([B[B)Z"), (4, .methodref 550 506), (0, .class_ 551), (0, u "java/lang/AbstractStringBuilder"), (0, .methodref 550 553), (0, .nameAndType 554 340), (0, u "getValue"), (18, u "(Ljava/lang/Object;)Z"), (1, .class_ 576), (0, u "java/lang/CharSequence"), (22, u "CASE_INSENSITIVE_ORDER"), (0, u "Ljava/util/Comparator;"), (32, .methodref 10 634), (0, .nameAndType 635 636), (0, u "indexOf"), (0, u "(II)I"), (0, .methodref 107 638), (0, .nameAndType 635 639), (0, u "([BIII)I"), (0, .methodref 42 638), (40, .methodref 10 682), (0, .nameAndType 683 684), (0, u "substring"), (0, u "(II)Ljava/lang/String;"), (0, .methodref 107 686), (0, .nameAndType 687 688), (0, u "newString"), (0, u "([BII)Ljava/lang/String;"), (0, .methodref 42 686), (75, u "(I)I"), (16, u "valueOf"), (0, u "(C)Ljava/lang/String;"), (37, u "([BIB)V"), (70, u "(I)Ljava/lang/String;"), (117, u "([C)V"), (4, .methodref 107 1016), (0, .nameAndType 1017 369), (0, u "canEncode"), (0, .methodref 107 1019), (0, .nameAndType 53 1020), (0, u "(C)[B"), (0, .methodref 42 1019), (25, .methodref 550 493), (0, .fieldref 550 1049), (0, .nameAndType 1050 26), (0, u "maybeLatin1"), (2, .fieldref 1054 1055), (0, .class_ 1056), (0, .nameAndType 1057 1058), (0, u "jdk/internal/util/Preconditions"), (0, u "SIOOBE_FORMATTER"), (0, u "Ljava/util/function/BiFunction;"), (0, .methodref 1054 1060), (0, .nameAndType 501 1061), (0, u "(IILjava/util/function/BiFunction;)I"), (0, .methodref 1054 1063), (0, .nameAndType 513 1064), (0, u "(IIILjava/util/function/BiFunction;)I"), (0, .methodref 1054 1066), (0, .nameAndType 1067 1064), (0, u "checkFromIndexSize"), (33, u "serialPersistentFields"), (0, u "[Ljava/io/ObjectStreamField;"), (0, .class_ 1104), (0, u "java/lang/String$CaseInsensitiveComparator"), (1, .class_ 1107), (0, u "java/io/Serializable"), (0, .class_ 1109), (0, u "java/lang/Comparable"), (0, .class_ 1111), (0, u "java/lang/constant/Constable"), (0, .class_ 1113), (0, u "java/lang/constant/ConstantDesc"), (2, u "serialVersionUID"), (0, u "J"), (3, u "REPL"), (0, u "C"), (2, u "LATIN1"), (1, u "UTF16"), (105, u "(Ljava/lang/StringBuilder;)V")] 217

def k7m0 : Method := { name := "<init>", desc := "()V", sig := { parameters := [], returnType := none }, accessFlags := 1, code := none }
def k7c1 : Code := { maxStack := 5, maxLocals := 2, code := jdk_42_method_3_code, exceptionTable := #[], attributes := #[] }
def k7m1 : Method := { name := "<init>", desc := "([C)V", sig := { parameters := [(.array .char)], returnType := none }, accessFlags := 1, code := some k7c1 }
def k7c2 : Code := { maxStack := 3, maxLocals := 2, code := jdk_42_method_53_code, exceptionTable := #[], attributes := #[] }
def k7m2 : Method := { name := "<init>", desc := "(Ljava/lang/StringBuilder;)V", sig := { parameters := [(.object "java/lang/StringBuilder")], returnType := none }, accessFlags := 1, code := some k7c2 }
def k7c3 : Code := { maxStack := 2, maxLocals := 1, code := jdk_42_method_54_code, exceptionTable := #[], attributes := #[] }
def k7m3 : Method := { name := "length", desc := "()I", sig := { parameters := [], returnType := some .int }, accessFlags := 1, code := some k7c3 }
def k7c4 : Code := { maxStack := 2, maxLocals := 3, code := jdk_42_method_66_code, exceptionTable := #[], attributes := #[] }
def k7m4 : Method := { name := "equals", desc := "(Ljava/lang/Object;)Z", sig := { parameters := [(.object "java/lang/Object")], returnType := some .boolean }, accessFlags := 1, code := some k7c4 }
def k7c5 : Code := { maxStack := 3, maxLocals := 2, code := jdk_42_method_79_code, exceptionTable := #[], attributes := #[] }
def k7m5 : Method := { name := "indexOf", desc := "(I)I", sig := { parameters := [.int], returnType := some .int }, accessFlags := 1, code := some k7c5 }
def k7c6 : Code := { maxStack := 4, maxLocals := 3, code := jdk_42_method_80_code, exceptionTable := #[], attributes := #[] }
def k7m6 : Method := { name := "indexOf", desc := "(II)I", sig := { parameters := [.int, .int], returnType := some .int }, accessFlags := 1, code := some k7c6 }
def k7c7 : Code := { maxStack := 3, maxLocals := 2, code := jdk_42_method_91_code, exceptionTable := #[], attributes := #[] }
def k7m7 : Method := { name := "substring", desc := "(I)Ljava/lang/String;", sig := { parameters := [.int], returnType := some (.object "java/lang/String") }, accessFlags := 1, code := some k7c7 }
def k7c8 : Code := { maxStack := 3, maxLocals := 5, code := jdk_42_method_92_code, exceptionTable := #[], attributes := #[] }
def k7m8 : Method := { name := "substring", desc := "(II)Ljava/lang/String;", sig := { parameters := [.int, .int], returnType := some (.object "java/lang/String") }, accessFlags := 1, code := some k7c8 }
def k7c9 : Code := { maxStack := 4, maxLocals := 1, code := jdk_42_method_139_code, exceptionTable := #[], attributes := #[] }
def k7m9 : Method := { name := "valueOf", desc := "(C)Ljava/lang/String;", sig := { parameters := [.char], returnType := some (.object "java/lang/String") }, accessFlags := 9, code := some k7c9 }
def k7c10 : Code := { maxStack := 5, maxLocals := 4, code := jdk_42_method_147_code, exceptionTable := #[], attributes := #[] }
def k7m10 : Method := { name := "getBytes", desc := "([BIB)V", sig := { parameters := [(.array .byte), .int, .byte], returnType := none }, accessFlags := 0, code := some k7c10 }
def k7c11 : Code := { maxStack := 4, maxLocals := 6, code := jdk_42_method_149_code, exceptionTable := #[], attributes := #[] }
def k7m11 : Method := { name := "<init>", desc := "([CIILjava/lang/Void;)V", sig := { parameters := [(.array .char), .int, .int, (.object "java/lang/Void")], returnType := none }, accessFlags := 2, code := some k7c11 }
def k7c12 : Code := { maxStack := 5, maxLocals := 5, code := jdk_42_method_150_code, exceptionTable := #[], attributes := #[] }
def k7m12 : Method := { name := "<init>", desc := "(Ljava/lang/AbstractStringBuilder;Ljava/lang/Void;)V", sig := { parameters := [(.object "java/lang/AbstractStringBuilder"), (.object "java/lang/Void")], returnType := none }, accessFlags := 0, code := some k7c12 }
def k7c13 : Code := { maxStack := 2, maxLocals := 3, code := jdk_42_method_151_code, exceptionTable := #[], attributes := #[] }
def k7m13 : Method := { name := "<init>", desc := "([BB)V", sig := { parameters := [(.array .byte), .byte], returnType := none }, accessFlags := 0, code := some k7c13 }
def k7c14 : Code := { maxStack := 1, maxLocals := 1, code := jdk_42_method_152_code, exceptionTable := #[], attributes := #[] }
def k7m14 : Method := { name := "coder", desc := "()B", sig := { parameters := [], returnType := some .byte }, accessFlags := 0, code := some k7c14 }
def k7c15 : Code := { maxStack := 1, maxLocals := 1, code := jdk_42_method_154_code, exceptionTable := #[], attributes := #[] }
def k7m15 : Method := { name := "isLatin1", desc := "()Z", sig := { parameters := [], returnType := some .boolean }, accessFlags := 0, code := some k7c15 }
def k7c16 : Code := { maxStack := 3, maxLocals := 2, code := jdk_42_method_155_code, exceptionTable := #[], attributes := #[] }
def k7m16 : Method := { name := "checkIndex", desc := "(II)V", sig := { parameters := [.int, .int], returnType := none }, accessFlags := 8, code := some k7c16 }
def k7c17 : Code := { maxStack := 4, maxLocals := 3, code := jdk_42_method_157_code, exceptionTable := #[], attributes := #[] }
def k7m17 : Method := { name := "checkBoundsOffCount", desc := "(III)I", sig := { parameters := [.int, .int, .int], returnType := some .int }, accessFlags := 8, code := some k7c17 }
def k7c18 : Code := { maxStack := 4, maxLocals := 3, code := jdk_42_method_158_code, exceptionTable := #[], attributes := #[] }
def k7m18 : Method := { name := "checkBoundsBeginEnd", desc := "(III)V", sig := { parameters := [.int, .int, .int], returnType := none }, accessFlags := 8, code := some k7c18 }
/-- java/lang/String -/
def k7 : Class := { plain "java/lang/String" (some 0) with
  accessFlags := 49
  interfaces := #[2, 3, 4, 5, 6]
  cf := some (fileOf pool7 10 #[.nestMembers #[1103]] #[{ accessFlags := 1, nameIndex := 5, descriptorIndex := 6, attributes := #[] }, { accessFlags := 1, nameIndex := 5, descriptorIndex := 1010, attributes := #[] }, { accessFlags := 1, nameIndex := 5, descriptorIndex := 1233, attributes := #[] }, { accessFlags := 1, nameIndex := 507, descriptorIndex := 334, attributes := #[] }, { accessFlags := 1, nameIndex := 543, descriptorIndex := 573, attributes := #[] }, { accessFlags := 1, nameIndex := 635, descriptorIndex := 765, attributes := #[] }, { accessFlags := 1, nameIndex := 635, descriptorIndex := 636, attributes := #[] }, { accessFlags := 1, nameIndex := 683, descriptorIndex := 892, attributes := #[] }, { accessFlags := 1, nameIndex := 683, descriptorIndex := 684, attributes := #[] }, { accessFlags := 9, nameIndex := 782, descriptorIndex := 783, attributes := #[] }, { accessFlags := 0, nameIndex := 532, descriptorIndex := 821, attributes := #[] }, { accessFlags := 2, nameIndex := 5, descriptorIndex := 29, attributes := #[] }, { accessFlags := 0, nameIndex := 5, descriptorIndex := 491, attributes := #[] }, { accessFlags := 0, nameIndex := 5, descriptorIndex := 211, attributes := #[] }, { accessFlags := 0, nameIndex := 17, descriptorIndex := 337, attributes := #[] }, { accessFlags := 0, nameIndex := 494, descriptorIndex := 142, attributes := #[] }, { accessFlags := 8, nameIndex := 501, descriptorIndex := 391, attributes := #[] }, { accessFlags := 8, nameIndex := 36, descriptorIndex := 37, attributes := #[] }, { accessFlags := 8, nameIndex := 523, descriptorIndex := 524, attributes := #[] }] 49 2 #[1106, 1108, 575, 1110, 1112] #[{ accessFlags := 18, nameIndex := 13, descriptorIndex := 14, attributes := #[] }, { accessFlags := 18, nameIndex := 17, descriptorIndex := 18, attributes := #[] }, { accessFlags := 2, nameIndex := 21, descriptorIndex := 22, attributes := #[] }, { accessFlags := 2, nameIndex := 25, descriptorIndex := 26, attributes := #[] }, { accessFlags := 26, nameIndex := 1116, descriptorIndex := 1117, attributes := #[] }, { accessFlags := 24, nameIndex := 40, descriptorIndex := 26, attributes := #[] }, { accessFlags := 26, nameIndex := 1101, descriptorIndex := 1102, attributes := #[] }, { accessFlags := 26, nameIndex := 1121, descriptorIndex := 1122, attributes := #[] }, { accessFlags := 25, nameIndex := 599, descriptorIndex := 600, attributes := #[] }, { accessFlags := 24, nameIndex := 1125, descriptorIndex := 18, attributes := #[] }, { accessFlags := 24, nameIndex := 1127, descriptorIndex := 18, attributes := #[] }])
  fields := #[{ name := "value", type := (.array .byte), accessFlags := 18, slot := 0, constantValue := 0 }, { name := "coder", type := .byte, accessFlags := 18, slot := 1, constantValue := 0 }, { name := "hash", type := .int, accessFlags := 2, slot := 2, constantValue := 0 }, { name := "hashIsZero", type := .boolean, accessFlags := 2, slot := 3, constantValue := 0 }, { name := "serialVersionUID", type := .long, accessFlags := 26, slot := 0, constantValue := 0 }, { name := "COMPACT_STRINGS", type := .boolean, accessFlags := 24, slot := 1, constantValue := 0 }, { name := "serialPersistentFields", type := (.array (.object "java/io/ObjectStreamField")), accessFlags := 26, slot := 2, constantValue := 0 }, { name := "REPL", type := .char, accessFlags := 26, slot := 3, constantValue := 0 }, { name := "CASE_INSENSITIVE_ORDER", type := (.object "java/util/Comparator"), accessFlags := 25, slot := 4, constantValue := 0 }, { name := "LATIN1", type := .byte, accessFlags := 24, slot := 5, constantValue := 0 }, { name := "UTF16", type := .byte, accessFlags := 24, slot := 6, constantValue := 0 }]
  methods := #[k7m0, k7m1, k7m2, k7m3, k7m4, k7m5, k7m6, k7m7, k7m8, k7m9, k7m10, k7m11, k7m12, k7m13, k7m14, k7m15, k7m16, k7m17, k7m18]
  instanceTypes := #[(.array .byte), .byte, .int, .boolean]
  staticTypes := #[.long, .boolean, (.array (.object "java/io/ObjectStreamField")), .char, (.object "java/util/Comparator"), .byte, .byte]
  resolved := Array.replicate 1451 none
  statics := some 0 }

def pool8 : Array CpInfo := pool [(1, .methodref 2 3), (0, .class_ 4), (0, .nameAndType 5 6), (0, u "java/lang/Object"), (0, u "<init>"), (0, u "()V"), (0, .fieldref 8 9), (0, .class_ 10), (0, .nameAndType 11 12), (0, u "com/example/any_row/anyrow/EntityKey"), (0, u "partitionKey"), (0, u "Ljava/lang/String;"), (0, .fieldref 8 14), (0, .nameAndType 15 12), (0, u "rowKey"), (5, u "(Ljava/lang/String;Ljava/lang/String;)V"), (2, .methodref 8 25), (0, .nameAndType 5 21), (0, .class_ 27), (0, u "java/lang/StringBuilder"), (0, .methodref 26 3), (9, .class_ 40), (1, u "java/lang/String"), (10, .methodref 26 52), (0, .nameAndType 53 54), (0, u "toString"), (0, u "()Ljava/lang/String;"), (4, .methodref 26 60), (0, .nameAndType 61 62), (0, u "append"), (0, u "(Ljava/lang/String;)Ljava/lang/StringBuilder;"), (15, u "storageKey"), (0, u "(Ljava/lang/String;Ljava/lang/String;)Ljava/lang/String;"), (0, .methodref 38 81), (0, .nameAndType 82 83), (0, u "indexOf"), (0, u "(I)I"), (0, .methodref 38 85), (0, .nameAndType 86 87), (0, u "substring"), (0, u "(II)Ljava/lang/String;"), (0, .methodref 38 89), (0, .nameAndType 86 90), (0, u "(I)Ljava/lang/String;"), (0, .methodref 26 92), (0, .nameAndType 61 93), (0, u "(C)Ljava/lang/StringBuilder;"), (71, u "MAX_LENGTH"), (0, u "I"), (2, u "SEPARATOR"), (0, u "C"), (4, u "(Ljava/lang/String;)Lcom/example/any_row/anyrow/EntityKey;"), (2, u "fromStorageKey")] 4

def k8c0 : Code := { maxStack := 2, maxLocals := 3, code := prog_6_method_1_code, exceptionTable := #[], attributes := #[] }
def k8m0 : Method := { name := "<init>", desc := "(Ljava/lang/String;Ljava/lang/String;)V", sig := { parameters := [(.object "java/lang/String"), (.object "java/lang/String")], returnType := none }, accessFlags := 2, code := some k8c0 }
def k8c1 : Code := { maxStack := 1, maxLocals := 1, code := prog_6_method_4_code, exceptionTable := #[], attributes := #[] }
def k8m1 : Method := { name := "partitionKey", desc := "()Ljava/lang/String;", sig := { parameters := [], returnType := some (.object "java/lang/String") }, accessFlags := 1, code := some k8c1 }
def k8c2 : Code := { maxStack := 1, maxLocals := 1, code := prog_6_method_5_code, exceptionTable := #[], attributes := #[] }
def k8m2 : Method := { name := "rowKey", desc := "()Ljava/lang/String;", sig := { parameters := [], returnType := some (.object "java/lang/String") }, accessFlags := 1, code := some k8c2 }
def k8c3 : Code := { maxStack := 6, maxLocals := 2, code := prog_6_method_8_code, exceptionTable := #[], attributes := #[] }
def k8m3 : Method := { name := "fromStorageKey", desc := "(Ljava/lang/String;)Lcom/example/any_row/anyrow/EntityKey;", sig := { parameters := [(.object "java/lang/String")], returnType := some (.object "com/example/any_row/anyrow/EntityKey") }, accessFlags := 9, code := some k8c3 }
def k8c4 : Code := { maxStack := 2, maxLocals := 2, code := prog_6_method_9_code, exceptionTable := #[], attributes := #[] }
def k8m4 : Method := { name := "storageKey", desc := "(Ljava/lang/String;Ljava/lang/String;)Ljava/lang/String;", sig := { parameters := [(.object "java/lang/String"), (.object "java/lang/String")], returnType := some (.object "java/lang/String") }, accessFlags := 9, code := some k8c4 }
/-- com/example/any_row/anyrow/EntityKey -/
def k8 : Class := { plain "com/example/any_row/anyrow/EntityKey" (some 0) with
  accessFlags := 49
  interfaces := #[]
  cf := some (fileOf pool8 8 #[] #[{ accessFlags := 2, nameIndex := 5, descriptorIndex := 21, attributes := #[] }, { accessFlags := 1, nameIndex := 11, descriptorIndex := 54, attributes := #[] }, { accessFlags := 1, nameIndex := 15, descriptorIndex := 54, attributes := #[] }, { accessFlags := 9, nameIndex := 178, descriptorIndex := 175, attributes := #[] }, { accessFlags := 9, nameIndex := 78, descriptorIndex := 79, attributes := #[] }] 49 2 #[] #[{ accessFlags := 25, nameIndex := 165, descriptorIndex := 166, attributes := #[] }, { accessFlags := 26, nameIndex := 169, descriptorIndex := 170, attributes := #[] }, { accessFlags := 18, nameIndex := 11, descriptorIndex := 12, attributes := #[] }, { accessFlags := 18, nameIndex := 15, descriptorIndex := 12, attributes := #[] }])
  fields := #[{ name := "MAX_LENGTH", type := .int, accessFlags := 25, slot := 0, constantValue := 0 }, { name := "SEPARATOR", type := .char, accessFlags := 26, slot := 1, constantValue := 0 }, { name := "partitionKey", type := (.object "java/lang/String"), accessFlags := 18, slot := 0, constantValue := 0 }, { name := "rowKey", type := (.object "java/lang/String"), accessFlags := 18, slot := 1, constantValue := 0 }]
  methods := #[k8m0, k8m1, k8m2, k8m3, k8m4]
  instanceTypes := #[(.object "java/lang/String"), (.object "java/lang/String")]
  staticTypes := #[.int, .char]
  resolved := Array.replicate 183 none
  statics := none }

def pool9 : Array CpInfo := pool [(1, .class_ 2), (0, u "java/lang/Appendable"), (0, .class_ 4), (0, u "java/lang/Object")] 9

/-- java/lang/Appendable -/
def k9 : Class := { plain "java/lang/Appendable" (some 0) with
  accessFlags := 1537
  interfaces := #[]
  cf := some (fileOf pool9 1 #[] #[] 1537 3 #[] #[])
  fields := #[]
  methods := #[]
  instanceTypes := #[]
  staticTypes := #[]
  resolved := Array.replicate 14 none
  statics := none }

def pool10 : Array CpInfo := pool [(1, .class_ 2), (0, u "java/lang/String"), (0, .methodref 4 5), (0, .class_ 6), (0, .nameAndType 7 8), (0, u "java/lang/Object"), (0, u "<init>"), (0, u "()V"), (1, .class_ 12), (1, u "java/lang/AbstractStringBuilder"), (0, u "EMPTYVALUE"), (0, u "[B"), (0, .fieldref 10 16), (0, .nameAndType 17 14), (0, u "value"), (0, .fieldref 1 19), (0, .nameAndType 20 21), (0, u "COMPACT_STRINGS"), (0, u "Z"), (0, .fieldref 10 23), (0, .nameAndType 24 25), (0, u "coder"), (0, u "B"), (0, .methodref 27 28), (0, .class_ 29), (0, .nameAndType 30 31), (0, u "java/lang/StringUTF16"), (0, u "newBytesFor"), (0, u "(I)[B"), (0, .methodref 1 33), (0, .nameAndType 34 35), (0, u "length"), (0, u "()I"), (4, .methodref 1 41), (0, .nameAndType 24 42), (0, u "()B"), (2, u "append"), (0, u "(Ljava/lang/String;)Ljava/lang/AbstractStringBuilder;"), (1, .class_ 49), (0, u "java/lang/CharSequence"), (19, u "(Ljava/lang/String;)V"), (5, u "maybeLatin1"), (3, .fieldref 10 80), (0, .nameAndType 81 82), (0, u "count"), (0, u "I"), (0, .methodref 10 84), (0, .nameAndType 85 86), (0, u "isLatin1"), (0, u "()Z"), (1, .class_ 90), (1, u "java/lang/StringLatin1"), (9, .methodref 10 101), (0, .nameAndType 102 103), (0, u "ensureCapacityInternal"), (0, u "(I)V"), (21, .methodref 88 126), (0, .nameAndType 127 128), (0, u "inflate"), (0, u "([BI[BII)V"), (7, u "([BII)V"), (54, .methodref 88 192), (0, .nameAndType 193 194), (0, u "canEncode"), (0, u "(C)Z"), (0, .methodref 10 196), (0, .nameAndType 127 8), (0, .methodref 27 198), (0, .nameAndType 199 136), (0, u "putCharSB"), (8, .methodref 10 209), (0, .nameAndType 210 211), (0, u "putStringAt"), (0, u "(ILjava/lang/String;)V"), (5, u "inflateIfNeededFor"), (2, .nameAndType 221 222), (0, u "getBytes"), (0, u "([BIB)V"), (69, u "(C)Ljava/lang/AbstractStringBuilder;"), (104, .methodref 10 398), (0, .nameAndType 217 69), (0, .methodref 1 220), (3, u "()[B"), (40, .class_ 445), (0, u "java/lang/Appendable"), (106, u "getValue")] 56

def k10m0 : Method := { name := "<init>", desc := "()V", sig := { parameters := [], returnType := none }, accessFlags := 0, code := none }
def k10c1 : Code := { maxStack := 2, maxLocals := 2, code := jdk_68_method_2_code, exceptionTable := #[], attributes := #[] }
def k10m1 : Method := { name := "<init>", desc := "(I)V", sig := { parameters := [.int], returnType := none }, accessFlags := 0, code := some k10c1 }
def k10c2 : Code := { maxStack := 1, maxLocals := 1, code := jdk_68_method_6_code, exceptionTable := #[], attributes := #[] }
def k10m2 : Method := { name := "length", desc := "()I", sig := { parameters := [], returnType := some .int }, accessFlags := 1, code := some k10c2 }
def k10c3 : Code := { maxStack := 4, maxLocals := 3, code := jdk_68_method_9_code, exceptionTable := #[], attributes := #[] }
def k10m3 : Method := { name := "ensureCapacityInternal", desc := "(I)V", sig := { parameters := [.int], returnType := none }, accessFlags := 2, code := some k10c3 }
def k10c4 : Code := { maxStack := 5, maxLocals := 2, code := jdk_68_method_11_code, exceptionTable := #[], attributes := #[] }
def k10m4 : Method := { name := "inflate", desc := "()V", sig := { parameters := [], returnType := none }, accessFlags := 2, code := some k10c4 }
def k10c5 : Code := { maxStack := 3, maxLocals := 3, code := jdk_68_method_22_code, exceptionTable := #[], attributes := #[] }
def k10m5 : Method := { name := "append", desc := "(Ljava/lang/String;)Ljava/lang/AbstractStringBuilder;", sig := { parameters := [(.object "java/lang/String")], returnType := some (.object "java/lang/AbstractStringBuilder") }, accessFlags := 1, code := some k10c5 }
def k10c6 : Code := { maxStack := 5, maxLocals := 2, code := jdk_68_method_31_code, exceptionTable := #[], attributes := #[] }
def k10m6 : Method := { name := "append", desc := "(C)Ljava/lang/AbstractStringBuilder;", sig := { parameters := [.char], returnType := some (.object "java/lang/AbstractStringBuilder") }, accessFlags := 1, code := some k10c6 }
def k10c7 : Code := { maxStack := 1, maxLocals := 1, code := jdk_68_method_64_code, exceptionTable := #[], attributes := #[] }
def k10m7 : Method := { name := "getValue", desc := "()[B", sig := { parameters := [], returnType := some (.array .byte) }, accessFlags := 16, code := some k10c7 }
def k10c8 : Code := { maxStack := 1, maxLocals := 1, code := jdk_68_method_68_code, exceptionTable := #[], attributes := #[] }
def k10m8 : Method := { name := "isLatin1", desc := "()Z", sig := { parameters := [], returnType := some .boolean }, accessFlags := 16, code := some k10c8 }
def k10c9 : Code := { maxStack := 2, maxLocals := 2, code := jdk_68_method_71_code, exceptionTable := #[], attributes := #[] }
def k10m9 : Method := { name := "inflateIfNeededFor", desc := "(Ljava/lang/String;)V", sig := { parameters := [(.object "java/lang/String")], returnType := none }, accessFlags := 2, code := some k10c9 }
def k10c10 : Code := { maxStack := 4, maxLocals := 3, code := jdk_68_method_73_code, exceptionTable := #[], attributes := #[] }
def k10m10 : Method := { name := "putStringAt", desc := "(ILjava/lang/String;)V", sig := { parameters := [.int, (.object "java/lang/String")], returnType := none }, accessFlags := 2, code := some k10c10 }
/-- java/lang/AbstractStringBuilder -/
def k10 : Class := { plain "java/lang/AbstractStringBuilder" (some 0) with
  accessFlags := 1056
  interfaces := #[9, 4]
  cf := some (fileOf pool10 10 #[] #[{ accessFlags := 0, nameIndex := 7, descriptorIndex := 8, attributes := #[] }, { accessFlags := 0, nameIndex := 7, descriptorIndex := 103, attributes := #[] }, { accessFlags := 1, nameIndex := 34, descriptorIndex := 35, attributes := #[] }, { accessFlags := 2, nameIndex := 102, descriptorIndex := 103, attributes := #[] }, { accessFlags := 2, nameIndex := 127, descriptorIndex := 8, attributes := #[] }, { accessFlags := 1, nameIndex := 45, descriptorIndex := 46, attributes := #[] }, { accessFlags := 1, nameIndex := 45, descriptorIndex := 292, attributes := #[] }, { accessFlags := 16, nameIndex := 552, descriptorIndex := 403, attributes := #[] }, { accessFlags := 16, nameIndex := 85, descriptorIndex := 86, attributes := #[] }, { accessFlags := 2, nameIndex := 217, descriptorIndex := 69, attributes := #[] }, { accessFlags := 2, nameIndex := 210, descriptorIndex := 211, attributes := #[] }] 1056 4 #[444, 48] #[{ accessFlags := 0, nameIndex := 17, descriptorIndex := 14, attributes := #[] }, { accessFlags := 0, nameIndex := 24, descriptorIndex := 25, attributes := #[] }, { accessFlags := 0, nameIndex := 75, descriptorIndex := 21, attributes := #[] }, { accessFlags := 0, nameIndex := 81, descriptorIndex := 82, attributes := #[] }, { accessFlags := 26, nameIndex := 13, descriptorIndex := 14, attributes := #[] }])
  fields := #[{ name := "value", type := (.array .byte), accessFlags := 0, slot := 0, constantValue := 0 }, { name := "coder", type := .byte, accessFlags := 0, slot := 1, constantValue := 0 }, { name := "maybeLatin1", type := .boolean, accessFlags := 0, slot := 2, constantValue := 0 }, { name := "count", type := .int, accessFlags := 0, slot := 3, constantValue := 0 }, { name := "EMPTYVALUE", type := (.array .byte), accessFlags := 26, slot := 0, constantValue := 0 }]
  methods := #[k10m0, k10m1, k10m2, k10m3, k10m4, k10m5, k10m6, k10m7, k10m8, k10m9, k10m10]
  instanceTypes := #[(.array .byte), .byte, .boolean, .int]
  staticTypes := #[(.array .byte)]
  resolved := Array.replicate 609 none
  statics := none }

def pool11 : Array CpInfo := pool [(1, .methodref 2 3), (0, .class_ 4), (0, .nameAndType 5 6), (0, u "java/lang/AbstractStringBuilder"), (0, u "<init>"), (0, u "(I)V"), (11, .class_ 20), (1, u "java/lang/String"), (3, .class_ 26), (1, u "java/lang/StringBuilder"), (0, u "append"), (0, u "(Ljava/lang/String;)Ljava/lang/StringBuilder;"), (0, .methodref 2 30), (0, .nameAndType 27 31), (0, u "(Ljava/lang/String;)Ljava/lang/AbstractStringBuilder;"), (18, .methodref 2 51), (0, .nameAndType 27 52), (0, u "(C)Ljava/lang/AbstractStringBuilder;"), (84, .methodref 18 138), (0, .nameAndType 5 139), (0, u "(Ljava/lang/StringBuilder;)V"), (5, u "()V"), (10, u "()I"), (129, u "(C)Ljava/lang/StringBuilder;"), (56, .methodref 2 344), (0, .nameAndType 345 156), (0, u "length"), (3, .class_ 350), (0, u "java/lang/Appendable"), (0, .class_ 352), (0, u "java/io/Serializable"), (0, .class_ 354), (0, u "java/lang/Comparable"), (0, .class_ 356), (0, u "java/lang/CharSequence"), (0, u "serialVersionUID"), (0, u "J"), (40, u "toString"), (0, u "()Ljava/lang/String;")] 21

def k11c0 : Code := { maxStack := 2, maxLocals := 1, code := jdk_67_method_1_code, exceptionTable := #[], attributes := #[] }
def k11m0 : Method := { name := "<init>", desc := "()V", sig := { parameters := [], returnType := none }, accessFlags := 1, code := some k11c0 }
def k11c1 : Code := { maxStack := 2, maxLocals := 2, code := jdk_67_method_7_code, exceptionTable := #[], attributes := #[] }
def k11m1 : Method := { name := "append", desc := "(Ljava/lang/String;)Ljava/lang/StringBuilder;", sig := { parameters := [(.object "java/lang/String")], returnType := some (.object "java/lang/StringBuilder") }, accessFlags := 1, code := some k11c1 }
def k11c2 : Code := { maxStack := 2, maxLocals := 2, code := jdk_67_method_14_code, exceptionTable := #[], attributes := #[] }
def k11m2 : Method := { name := "append", desc := "(C)Ljava/lang/StringBuilder;", sig := { parameters := [.char], returnType := some (.object "java/lang/StringBuilder") }, accessFlags := 1, code := some k11c2 }
def k11c3 : Code := { maxStack := 3, maxLocals := 1, code := jdk_67_method_42_code, exceptionTable := #[], attributes := #[] }
def k11m3 : Method := { name := "toString", desc := "()Ljava/lang/String;", sig := { parameters := [], returnType := some (.object "java/lang/String") }, accessFlags := 1, code := some k11c3 }
def k11c4 : Code := { maxStack := 1, maxLocals := 1, code := jdk_67_method_93_code, exceptionTable := #[], attributes := #[] }
def k11m4 : Method := { name := "length", desc := "()I", sig := { parameters := [], returnType := some .int }, accessFlags := 4161, code := some k11c4 }
/-- java/lang/StringBuilder -/
def k11 : Class := { plain "java/lang/StringBuilder" (some 10) with
  accessFlags := 49
  interfaces := #[9, 2, 3, 4]
  cf := some (fileOf pool11 24 #[] #[{ accessFlags := 1, nameIndex := 5, descriptorIndex := 145, attributes := #[] }, { accessFlags := 1, nameIndex := 27, descriptorIndex := 28, attributes := #[] }, { accessFlags := 1, nameIndex := 27, descriptorIndex := 286, attributes := #[] }, { accessFlags := 1, nameIndex := 399, descriptorIndex := 400, attributes := #[] }, { accessFlags := 4161, nameIndex := 345, descriptorIndex := 156, attributes := #[] }] 49 2 #[349, 351, 353, 355] #[{ accessFlags := 24, nameIndex := 357, descriptorIndex := 358, attributes := #[] }])
  fields := #[{ name := "serialVersionUID", type := .long, accessFlags := 24, slot := 0, constantValue := 0 }]
  methods := #[k11m0, k11m1, k11m2, k11m3, k11m4]
  instanceTypes := #[(.array .byte), .byte, .boolean, .int]
  staticTypes := #[.long]
  resolved := Array.replicate 422 none
  statics := none }

def pool12 : Array CpInfo := pool [(2, .class_ 4), (1, u "java/lang/Object"), (0, u "<init>"), (0, u "()V"), (1, .class_ 10), (1, u "java/lang/System"), (0, u "allowSecurityManager"), (0, u "I"), (16, u "cons"), (0, u "Ljava/io/Console;"), (77, .class_ 110), (1, u "java/lang/System$CallersHolder"), (43, u "initialErrStream"), (0, u "Ljava/io/PrintStream;"), (19, u "security"), (0, u "Ljava/lang/SecurityManager;"), (31, .class_ 209), (0, u "java/lang/System$1"), (7, u "props"), (0, u "Ljava/util/Properties;"), (2, u "lineSeparator"), (0, u "Ljava/lang/String;"), (96, .class_ 321), (1, u "java/lang/System$LoggerFinder"), (5, .class_ 328), (0, u "java/lang/System$Logger"), (67, u "err"), (2, u "out"), (91, u "notSupportedJnuEncoding"), (15, u "in"), (17, u "initialIn"), (0, u "Ljava/io/InputStream;"), (35, u "bootLayer"), (0, u "Ljava/lang/ModuleLayer;"), (99, .class_ 664), (0, u "java/lang/System$2"), (9, u "NEVER"), (2, u "MAYBE"), (49, u "arraycopy"), (0, u "(Ljava/lang/Object;ILjava/lang/Object;II)V"), (72, .class_ 802), (0, u "java/lang/System$Logger$Level")] 31

def k12m0 : Method := { name := "<init>", desc := "()V", sig := { parameters := [], returnType := none }, accessFlags := 2, code := none }
def k12m1 : Method := { name := "arraycopy", desc := "(Ljava/lang/Object;ILjava/lang/Object;II)V", sig := { parameters := [(.object "java/lang/Object"), .int, (.object "java/lang/Object"), .int, .int], returnType := none }, accessFlags := 265, code := none }
/-- java/lang/System -/
def k12 : Class := { plain "java/lang/System" (some 0) with
  accessFlags := 49
  interfaces := #[]
  cf := some (fileOf pool12 8 #[.nestMembers #[319, 327, 801, 108, 663, 208]] #[{ accessFlags := 2, nameIndex := 5, descriptorIndex := 6, attributes := #[] }, { accessFlags := 265, nameIndex := 727, descriptorIndex := 728, attributes := #[] }] 49 2 #[] #[{ accessFlags := 25, nameIndex := 507, descriptorIndex := 526, attributes := #[] }, { accessFlags := 25, nameIndex := 399, descriptorIndex := 155, attributes := #[] }, { accessFlags := 25, nameIndex := 396, descriptorIndex := 155, attributes := #[] }, { accessFlags := 10, nameIndex := 525, descriptorIndex := 526, attributes := #[] }, { accessFlags := 26, nameIndex := 674, descriptorIndex := 12, attributes := #[] }, { accessFlags := 26, nameIndex := 677, descriptorIndex := 12, attributes := #[] }, { accessFlags := 10, nameIndex := 11, descriptorIndex := 12, attributes := #[] }, { accessFlags := 74, nameIndex := 175, descriptorIndex := 176, attributes := #[] }, { accessFlags := 10, nameIndex := 491, descriptorIndex := 222, attributes := #[] }, { accessFlags := 74, nameIndex := 29, descriptorIndex := 30, attributes := #[] }, { accessFlags := 74, nameIndex := 154, descriptorIndex := 155, attributes := #[] }, { accessFlags := 10, nameIndex := 217, descriptorIndex := 218, attributes := #[] }, { accessFlags := 10, nameIndex := 221, descriptorIndex := 222, attributes := #[] }, { accessFlags := 8, nameIndex := 562, descriptorIndex := 563, attributes := #[] }])
  fields := #[{ name := "in", type := (.object "java/io/InputStream"), accessFlags := 25, slot := 0, constantValue := 0 }, { name := "out", type := (.object "java/io/PrintStream"), accessFlags := 25, slot := 1, constantValue := 0 }, { name := "err", type := (.object "java/io/PrintStream"), accessFlags := 25, slot := 2, constantValue := 0 }, { name := "initialIn", type := (.object "java/io/InputStream"), accessFlags := 10, slot := 3, constantValue := 0 }, { name := "NEVER", type := .int, accessFlags := 26, slot := 4, constantValue := 0 }, { name := "MAYBE", type := .int, accessFlags := 26, slot := 5, constantValue := 0 }, { name := "allowSecurityManager", type := .int, accessFlags := 10, slot := 6, constantValue := 0 }, { name := "security", type := (.object "java/lang/SecurityManager"), accessFlags := 74, slot := 7, constantValue := 0 }, { name := "notSupportedJnuEncoding", type := (.object "java/lang/String"), accessFlags := 10, slot := 8, constantValue := 0 }, { name := "cons", type := (.object "java/io/Console"), accessFlags := 74, slot := 9, constantValue := 0 }, { name := "initialErrStream", type := (.object "java/io/PrintStream"), accessFlags := 74, slot := 10, constantValue := 0 }, { name := "props", type := (.object "java/util/Properties"), accessFlags := 10, slot := 11, constantValue := 0 }, { name := "lineSeparator", type := (.object "java/lang/String"), accessFlags := 10, slot := 12, constantValue := 0 }, { name := "bootLayer", type := (.object "java/lang/ModuleLayer"), accessFlags := 8, slot := 13, constantValue := 0 }]
  methods := #[k12m0, k12m1]
  instanceTypes := #[]
  staticTypes := #[(.object "java/io/InputStream"), (.object "java/io/PrintStream"), (.object "java/io/PrintStream"), (.object "java/io/InputStream"), .int, .int, .int, (.object "java/lang/SecurityManager"), (.object "java/lang/String"), (.object "java/io/Console"), (.object "java/io/PrintStream"), (.object "java/util/Properties"), (.object "java/lang/String"), (.object "java/lang/ModuleLayer")]
  resolved := Array.replicate 834 none
  statics := none }

def pool13 : Array CpInfo := pool [(1, .class_ 2), (0, u "java/lang/String"), (1, .class_ 6), (1, u "java/lang/Object"), (0, u "<init>"), (0, u "()V"), (5, .class_ 16), (1, u "java/lang/StringLatin1"), (0, u "inflate"), (2, .class_ 22), (1, u "java/lang/StringUTF16"), (3, .nameAndType 17 27), (0, u "([BI[BII)V"), (10, .methodref 39 40), (0, .class_ 41), (0, .nameAndType 42 43), (0, u "java/lang/Math"), (0, u "min"), (0, u "(II)I"), (44, .methodref 14 89), (0, .nameAndType 90 91), (0, u "canEncode"), (0, u "(I)Z"), (0, .methodref 39 93), (0, .nameAndType 94 43), (0, u "max"), (0, .methodref 14 96), (0, .nameAndType 97 98), (0, u "indexOfChar"), (0, u "([BIII)I"), (2, u "indexOf"), (3, u "(C)Z"), (6, .methodref 1 113), (0, .nameAndType 7 114), (0, u "([BB)V"), (6, u "$assertionsDisabled"), (0, u "Z"), (8, .class_ 133), (1, u "java/util/Arrays"), (17, .string 152), (0, u ""), (43, u "newString"), (0, u "([BII)Ljava/lang/String;"), (23, .class_ 223), (1, u "java/lang/StringLatin1$LinesSpliterator"), (8, .methodref 131 233), (0, .nameAndType 234 235), (0, u "copyOfRange"), (0, u "([BII)[B"), (4, .methodref 20 26), (40, u "equals"), (0, u "([B[B)Z"), (97, u "toBytes"), (1, u "(C)[B"), (7, .class_ 391), (0, u "java/lang/StringLatin1$CharsSpliterator")] 3

def k13m0 : Method := { name := "<init>", desc := "()V", sig := { parameters := [], returnType := none }, accessFlags := 0, code := none }
def k13c1 : Code := { maxStack := 2, maxLocals := 1, code := jdk_43_method_3_code, exceptionTable := #[], attributes := #[] }
def k13m1 : Method := { name := "canEncode", desc := "(C)Z", sig := { parameters := [.char], returnType := some .boolean }, accessFlags := 9, code := some k13c1 }
def k13c2 : Code := { maxStack := 2, maxLocals := 1, code := jdk_43_method_4_code, exceptionTable := #[], attributes := #[] }
def k13m2 : Method := { name := "canEncode", desc := "(I)Z", sig := { parameters := [.int], returnType := some .boolean }, accessFlags := 9, code := some k13c2 }
def k13c3 : Code := { maxStack := 3, maxLocals := 3, code := jdk_43_method_13_code, exceptionTable := #[], attributes := #[] }
def k13m3 : Method := { name := "equals", desc := "([B[B)Z", sig := { parameters := [(.array .byte), (.array .byte)], returnType := some .boolean }, accessFlags := 9, code := some k13c3 }
def k13c4 : Code := { maxStack := 4, maxLocals := 4, code := jdk_43_method_22_code, exceptionTable := #[], attributes := #[] }
def k13m4 : Method := { name := "indexOf", desc := "([BIII)I", sig := { parameters := [(.array .byte), .int, .int, .int], returnType := some .int }, accessFlags := 9, code := some k13c4 }
def k13c5 : Code := { maxStack := 2, maxLocals := 6, code := jdk_43_method_23_code, exceptionTable := #[], attributes := #[] }
def k13m5 : Method := { name := "indexOfChar", desc := "([BIII)I", sig := { parameters := [(.array .byte), .int, .int, .int], returnType := some .int }, accessFlags := 10, code := some k13c5 }
def k13c6 : Code := { maxStack := 4, maxLocals := 1, code := jdk_43_method_46_code, exceptionTable := #[], attributes := #[] }
def k13m6 : Method := { name := "toBytes", desc := "(C)[B", sig := { parameters := [.char], returnType := some (.array .byte) }, accessFlags := 9, code := some k13c6 }
def k13c7 : Code := { maxStack := 6, maxLocals := 3, code := jdk_43_method_47_code, exceptionTable := #[], attributes := #[] }
def k13m7 : Method := { name := "newString", desc := "([BII)Ljava/lang/String;", sig := { parameters := [(.array .byte), .int, .int], returnType := some (.object "java/lang/String") }, accessFlags := 9, code := some k13c7 }
def k13c8 : Code := { maxStack := 5, maxLocals := 5, code := jdk_43_method_50_code, exceptionTable := #[], attributes := #[] }
def k13m8 : Method := { name := "inflate", desc := "([BI[BII)V", sig := { parameters := [(.array .byte), .int, (.array .byte), .int, .int], returnType := none }, accessFlags := 9, code := some k13c8 }
/-- java/lang/StringLatin1 -/
def k13 : Class := { plain "java/lang/StringLatin1" (some 0) with
  accessFlags := 48
  interfaces := #[]
  cf := some (fileOf pool13 14 #[.nestMembers #[390, 221]] #[{ accessFlags := 0, nameIndex := 7, descriptorIndex := 8, attributes := #[] }, { accessFlags := 9, nameIndex := 90, descriptorIndex := 105, attributes := #[] }, { accessFlags := 9, nameIndex := 90, descriptorIndex := 91, attributes := #[] }, { accessFlags := 9, nameIndex := 281, descriptorIndex := 282, attributes := #[] }, { accessFlags := 9, nameIndex := 101, descriptorIndex := 98, attributes := #[] }, { accessFlags := 10, nameIndex := 97, descriptorIndex := 98, attributes := #[] }, { accessFlags := 9, nameIndex := 380, descriptorIndex := 382, attributes := #[] }, { accessFlags := 9, nameIndex := 196, descriptorIndex := 197, attributes := #[] }, { accessFlags := 9, nameIndex := 17, descriptorIndex := 27, attributes := #[] }] 48 4 #[] #[{ accessFlags := 4120, nameIndex := 121, descriptorIndex := 122, attributes := #[] }])
  fields := #[{ name := "$assertionsDisabled", type := .boolean, accessFlags := 4120, slot := 0, constantValue := 0 }]
  methods := #[k13m0, k13m1, k13m2, k13m3, k13m4, k13m5, k13m6, k13m7, k13m8]
  instanceTypes := #[]
  staticTypes := #[.boolean]
  resolved := Array.replicate 395 none
  statics := none }

def pool14 : Array CpInfo := pool [(2, .class_ 4), (1, u "java/lang/Object"), (0, u "<init>"), (0, u "()V"), (7, .class_ 16), (1, u "java/util/Arrays"), (57, .class_ 76), (1, u "java/util/Arrays$NaturalOrder"), (36, .class_ 115), (1, u "java/util/Arrays$LegacyMergeSort"), (1, u "Z"), (21, u "copyOfRange"), (10, .methodref 151 152), (0, .class_ 153), (0, .nameAndType 154 155), (0, u "java/lang/System"), (0, u "arraycopy"), (0, u "(Ljava/lang/Object;ILjava/lang/Object;II)V"), (148, .methodref 305 306), (0, .class_ 307), (0, .nameAndType 308 309), (0, u "java/lang/Math"), (0, u "min"), (0, u "(II)I"), (29, .methodref 14 340), (0, .nameAndType 341 342), (0, u "copyOfRangeByte"), (0, u "([BII)[B"), (0, .methodref 14 344), (0, .nameAndType 345 346), (0, u "checkLength"), (0, u "(II)V"), (28, .class_ 376), (0, u "java/util/Arrays$ArrayList"), (68, u "$assertionsDisabled"), (269, u "MIN_ARRAY_SORT_GRAN"), (0, u "I"), (2, u "INSERTIONSORT_THRESHOLD"), (255, .class_ 976), (0, u "java/util/Arrays$ArrayItr")] 52

def k14m0 : Method := { name := "<init>", desc := "()V", sig := { parameters := [], returnType := none }, accessFlags := 2, code := none }
def k14c1 : Code := { maxStack := 4, maxLocals := 2, code := jdk_65_method_131_code, exceptionTable := #[], attributes := #[] }
def k14m1 : Method := { name := "checkLength", desc := "(II)V", sig := { parameters := [.int, .int], returnType := none }, accessFlags := 10, code := some k14c1 }
def k14c2 : Code := { maxStack := 3, maxLocals := 3, code := jdk_65_method_132_code, exceptionTable := #[], attributes := #[] }
def k14m2 : Method := { name := "copyOfRange", desc := "([BII)[B", sig := { parameters := [(.array .byte), .int, .int], returnType := some (.array .byte) }, accessFlags := 9, code := some k14c2 }
def k14c3 : Code := { maxStack := 6, maxLocals := 5, code := jdk_65_method_133_code, exceptionTable := #[], attributes := #[] }
def k14m3 : Method := { name := "copyOfRangeByte", desc := "([BII)[B", sig := { parameters := [(.array .byte), .int, .int], returnType := some (.array .byte) }, accessFlags := 10, code := some k14c3 }
/-- java/util/Arrays -/
def k14 : Class := { plain "java/util/Arrays" (some 0) with
  accessFlags := 49
  interfaces := #[]
  cf := some (fileOf pool14 14 #[.nestMembers #[975, 375, 113, 74]] #[{ accessFlags := 2, nameIndex := 5, descriptorIndex := 6, attributes := #[] }, { accessFlags := 10, nameIndex := 345, descriptorIndex := 346, attributes := #[] }, { accessFlags := 9, nameIndex := 139, descriptorIndex := 342, attributes := #[] }, { accessFlags := 10, nameIndex := 341, descriptorIndex := 342, attributes := #[] }] 49 2 #[] #[{ accessFlags := 26, nameIndex := 715, descriptorIndex := 716, attributes := #[] }, { accessFlags := 26, nameIndex := 719, descriptorIndex := 716, attributes := #[] }, { accessFlags := 4120, nameIndex := 445, descriptorIndex := 117, attributes := #[] }])
  fields := #[{ name := "MIN_ARRAY_SORT_GRAN", type := .int, accessFlags := 26, slot := 0, constantValue := 0 }, { name := "INSERTIONSORT_THRESHOLD", type := .int, accessFlags := 26, slot := 1, constantValue := 0 }, { name := "$assertionsDisabled", type := .boolean, accessFlags := 4120, slot := 2, constantValue := 0 }]
  methods := #[k14m0, k14m1, k14m2, k14m3]
  instanceTypes := #[]
  staticTypes := #[.int, .int, .boolean]
  resolved := Array.replicate 1029 none
  statics := none }

def pool15 : Array CpInfo := pool [(1, .class_ 2), (0, u "java/lang/Math"), (1, .class_ 6), (1, u "java/lang/Object"), (0, u "<init>"), (0, u "()V"), (89, .class_ 100), (1, u "java/lang/Math$RandomNumberGeneratorHolder"), (71, u "negativeZeroFloatBits"), (0, u "J"), (2, u "negativeZeroDoubleBits"), (21, u "max"), (2, u "min"), (43, u "$assertionsDisabled"), (0, u "Z"), (88, u "(II)I"), (2, u "twoToTheDoubleScaleDown"), (0, u "D"), (4, u "twoToTheDoubleScaleUp"), (9, u "E"), (3, u "PI"), (2, u "TAU"), (2, u "DEGREES_TO_RADIANS"), (0, u "RADIANS_TO_DEGREES")] 94

def k15m0 : Method := { name := "<init>", desc := "()V", sig := { parameters := [], returnType := none }, accessFlags := 2, code := none }
def k15c1 : Code := { maxStack := 2, maxLocals := 2, code := jdk_29_method_65_code, exceptionTable := #[], attributes := #[] }
def k15m1 : Method := { name := "max", desc := "(II)I", sig := { parameters := [.int, .int], returnType := some .int }, accessFlags := 9, code := some k15c1 }
def k15c2 : Code := { maxStack := 2, maxLocals := 2, code := jdk_29_method_69_code, exceptionTable := #[], attributes := #[] }
def k15m2 : Method := { name := "min", desc := "(II)I", sig := { parameters := [.int, .int], returnType := some .int }, accessFlags := 9, code := some k15c2 }
/-- java/lang/Math -/
def k15 : Class := { plain "java/lang/Math" (some 0) with
  accessFlags := 49
  interfaces := #[]
  cf := some (fileOf pool15 1 #[.nestMembers #[98]] #[{ accessFlags := 2, nameIndex := 7, descriptorIndex := 8, attributes := #[] }, { accessFlags := 9, nameIndex := 198, descriptorIndex := 335, attributes := #[] }, { accessFlags := 9, nameIndex := 201, descriptorIndex := 335, attributes := #[] }] 49 4 #[] #[{ accessFlags := 25, nameIndex := 354, descriptorIndex := 339, attributes := #[] }, { accessFlags := 25, nameIndex := 358, descriptorIndex := 339, attributes := #[] }, { accessFlags := 25, nameIndex := 361, descriptorIndex := 339, attributes := #[] }, { accessFlags := 26, nameIndex := 364, descriptorIndex := 339, attributes := #[] }, { accessFlags := 26, nameIndex := 365, descriptorIndex := 339, attributes := #[] }, { accessFlags := 26, nameIndex := 172, descriptorIndex := 173, attributes := #[] }, { accessFlags := 26, nameIndex := 176, descriptorIndex := 173, attributes := #[] }, { accessFlags := 8, nameIndex := 344, descriptorIndex := 339, attributes := #[] }, { accessFlags := 8, nameIndex := 338, descriptorIndex := 339, attributes := #[] }, { accessFlags := 4120, nameIndex := 245, descriptorIndex := 246, attributes := #[] }])
  fields := #[{ name := "E", type := .double, accessFlags := 25, slot := 0, constantValue := 0 }, { name := "PI", type := .double, accessFlags := 25, slot := 1, constantValue := 0 }, { name := "TAU", type := .double, accessFlags := 25, slot := 2, constantValue := 0 }, { name := "DEGREES_TO_RADIANS", type := .double, accessFlags := 26, slot := 3, constantValue := 0 }, { name := "RADIANS_TO_DEGREES", type := .double, accessFlags := 26, slot := 4, constantValue := 0 }, { name := "negativeZeroFloatBits", type := .long, accessFlags := 26, slot := 5, constantValue := 0 }, { name := "negativeZeroDoubleBits", type := .long, accessFlags := 26, slot := 6, constantValue := 0 }, { name := "twoToTheDoubleScaleUp", type := .double, accessFlags := 8, slot := 7, constantValue := 0 }, { name := "twoToTheDoubleScaleDown", type := .double, accessFlags := 8, slot := 8, constantValue := 0 }, { name := "$assertionsDisabled", type := .boolean, accessFlags := 4120, slot := 9, constantValue := 0 }]
  methods := #[k15m0, k15m1, k15m2]
  instanceTypes := #[]
  staticTypes := #[.double, .double, .double, .double, .double, .long, .long, .double, .double, .boolean]
  resolved := Array.replicate 460 none
  statics := none }

def pool16 : Array CpInfo := pool [(2, .class_ 4), (1, u "java/lang/Object"), (0, u "<init>"), (0, u "()V"), (17, .class_ 26), (1, u "jdk/internal/util/Preconditions"), (6, u "checkIndex"), (13, u "checkFromToIndex"), (1, u "checkFromIndexSize"), (5, .class_ 56), (0, u "jdk/internal/util/Preconditions$4"), (57, .class_ 115), (0, u "jdk/internal/util/Preconditions$1"), (7, u "SIOOBE_FORMATTER"), (0, u "Ljava/util/function/BiFunction;"), (0, .class_ 126), (0, u "jdk/internal/util/Preconditions$2"), (3, u "AIOOBE_FORMATTER"), (0, .class_ 132), (0, u "jdk/internal/util/Preconditions$3"), (3, u "IOOBE_FORMATTER"), (41, u "(IILjava/util/function/BiFunction;)I"), (4, u "(IIILjava/util/function/BiFunction;)I")] 10

def k16m0 : Method := { name := "<init>", desc := "()V", sig := { parameters := [], returnType := none }, accessFlags := 1, code := none }
def k16c1 : Code := { maxStack := 3, maxLocals := 3, code := jdk_41_method_11_code, exceptionTable := #[], attributes := #[] }
def k16m1 : Method := { name := "checkIndex", desc := "(IILjava/util/function/BiFunction;)I", sig := { parameters := [.int, .int, (.object "java/util/function/BiFunction")], returnType := some .int }, accessFlags := 9, code := some k16c1 }
def k16c2 : Code := { maxStack := 4, maxLocals := 4, code := jdk_41_method_12_code, exceptionTable := #[], attributes := #[] }
def k16m2 : Method := { name := "checkFromToIndex", desc := "(IIILjava/util/function/BiFunction;)I", sig := { parameters := [.int, .int, .int, (.object "java/util/function/BiFunction")], returnType := some .int }, accessFlags := 9, code := some k16c2 }
def k16c3 : Code := { maxStack := 4, maxLocals := 4, code := jdk_41_method_13_code, exceptionTable := #[], attributes := #[] }
def k16m3 : Method := { name := "checkFromIndexSize", desc := "(IIILjava/util/function/BiFunction;)I", sig := { parameters := [.int, .int, .int, (.object "java/util/function/BiFunction")], returnType := some .int }, accessFlags := 9, code := some k16c3 }
/-- jdk/internal/util/Preconditions -/
def k16 : Class := { plain "jdk/internal/util/Preconditions" (some 0) with
  accessFlags := 33
  interfaces := #[]
  cf := some (fileOf pool16 24 #[.nestMembers #[55, 131, 125, 114]] #[{ accessFlags := 1, nameIndex := 5, descriptorIndex := 6, attributes := #[] }, { accessFlags := 9, nameIndex := 33, descriptorIndex := 178, attributes := #[] }, { accessFlags := 9, nameIndex := 47, descriptorIndex := 183, attributes := #[] }, { accessFlags := 9, nameIndex := 49, descriptorIndex := 183, attributes := #[] }] 33 2 #[] #[{ accessFlags := 25, nameIndex := 123, descriptorIndex := 124, attributes := #[] }, { accessFlags := 25, nameIndex := 130, descriptorIndex := 124, attributes := #[] }, { accessFlags := 25, nameIndex := 136, descriptorIndex := 124, attributes := #[] }])
  fields := #[{ name := "SIOOBE_FORMATTER", type := (.object "java/util/function/BiFunction"), accessFlags := 25, slot := 0, constantValue := 0 }, { name := "AIOOBE_FORMATTER", type := (.object "java/util/function/BiFunction"), accessFlags := 25, slot := 1, constantValue := 0 }, { name := "IOOBE_FORMATTER", type := (.object "java/util/function/BiFunction"), accessFlags := 25, slot := 2, constantValue := 0 }]
  methods := #[k16m0, k16m1, k16m2, k16m3]
  instanceTypes := #[]
  staticTypes := #[(.object "java/util/function/BiFunction"), (.object "java/util/function/BiFunction"), (.object "java/util/function/BiFunction")]
  resolved := Array.replicate 194 none
  statics := some 1 }

def pool17 : Array CpInfo := pool [(3, .class_ 4), (0, u "java/lang/String"), (1, .class_ 8), (1, u "java/lang/Object"), (0, u "<init>"), (0, u "()V"), (0, .methodref 12 13), (0, .class_ 14), (0, .nameAndType 15 16), (0, u "java/lang/StringUTF16"), (0, u "newBytesLength"), (0, u "(I)I"), (3, .integer 1073741823), (23, .fieldref 12 45), (0, .nameAndType 46 47), (0, u "$assertionsDisabled"), (0, u "Z"), (0, .methodref 12 49), (0, .nameAndType 50 51), (0, u "length"), (0, u "([B)I"), (7, .fieldref 12 60), (0, .nameAndType 61 62), (0, u "HI_BYTE_SHIFT"), (0, u "I"), (0, .fieldref 12 64), (0, .nameAndType 65 62), (0, u "LO_BYTE_SHIFT"), (1, .methodref 12 68), (0, .nameAndType 69 70), (0, u "checkIndex"), (0, u "(I[B)V"), (0, .methodref 12 72), (0, .nameAndType 73 74), (0, u "getChar"), (0, u "([BI)C"), (21, .methodref 12 97), (0, .nameAndType 98 99), (0, u "checkBoundsBeginEnd"), (0, u "(II[B)V"), (7, .methodref 12 108), (0, .nameAndType 109 110), (0, u "newBytesFor"), (0, u "(I)[B"), (0, .methodref 12 112), (0, .nameAndType 113 114), (0, u "putChar"), (0, u "([BII)V"), (0, .methodref 12 116), (0, .nameAndType 117 118), (0, u "compress"), (0, u "([CI[BII)I"), (0, .methodref 12 120), (0, .nameAndType 121 122), (0, u "toBytes"), (0, u "([CII)[B"), (0, .methodref 12 124), (0, .nameAndType 117 125), (0, u "([BI[BII)I"), (0, .methodref 127 128), (0, .class_ 129), (0, .nameAndType 130 131), (0, u "java/util/Arrays"), (0, u "copyOfRange"), (0, u "([BII)[B"), (8, u "inflate"), (0, u "([BI[BII)V"), (31, .methodref 12 174), (0, .nameAndType 175 99), (0, u "checkBoundsOffCount"), (7, .methodref 184 185), (0, .class_ 186), (0, .nameAndType 187 188), (0, u "java/lang/Math"), (0, u "min"), (0, u "(II)I"), (35, .methodref 184 225), (0, .nameAndType 226 188), (0, u "max"), (0, .integer 65536), (0, .methodref 12 229), (0, .nameAndType 230 231), (0, u "indexOfChar"), (0, u "([BIII)I"), (9, .methodref 3 242), (0, .nameAndType 98 243), (0, u "(III)V"), (0, .methodref 12 245), (0, .nameAndType 246 231), (0, u "indexOfCharUnsafe"), (4, .fieldref 3 252), (0, .nameAndType 253 47), (0, u "COMPACT_STRINGS"), (3, .methodref 12 258), (0, .nameAndType 117 131), (0, .methodref 12 260), (0, .nameAndType 261 262), (0, u "coderFromArrayLen"), (0, u "([BI)B"), (0, .methodref 3 264), (0, .nameAndType 9 265), (0, u "([BB)V"), (2, u "indexOf"), (12, u "(III)I"), (13, .string 296), (0, u ""), (30, u "newString"), (0, u "([BII)Ljava/lang/String;"), (40, .class_ 371), (1, u "java/lang/StringUTF16$LinesSpliterator"), (42, .methodref 3 415), (0, .nameAndType 69 416), (0, u "(II)V"), (2, .methodref 3 420), (0, .nameAndType 175 281), (9, u "MAX_LENGTH"), (44, u "(C)[B"), (110, u "putCharSB"), (40, .class_ 628), (0, u "java/lang/StringUTF16$CodePointsSpliterator"), (0, .class_ 630), (0, u "java/lang/StringUTF16$CharsSpliterator")] 4

def k17m0 : Method := { name := "<init>", desc := "()V", sig := { parameters := [], returnType := none }, accessFlags := 0, code := none }
def k17c1 : Code := { maxStack := 1, maxLocals := 1, code := jdk_52_method_2_code, exceptionTable := #[], attributes := #[] }
def k17m1 : Method := { name := "newBytesFor", desc := "(I)[B", sig := { parameters := [.int], returnType := some (.array .byte) }, accessFlags := 9, code := some k17c1 }
def k17c2 : Code := { maxStack := 4, maxLocals := 1, code := jdk_52_method_3_code, exceptionTable := #[], attributes := #[] }
def k17m2 : Method := { name := "newBytesLength", desc := "(I)I", sig := { parameters := [.int], returnType := some .int }, accessFlags := 9, code := some k17c2 }
def k17c3 : Code := { maxStack := 4, maxLocals := 3, code := jdk_52_method_4_code, exceptionTable := #[], attributes := #[] }
def k17m3 : Method := { name := "putChar", desc := "([BII)V", sig := { parameters := [(.array .byte), .int, .int], returnType := none }, accessFlags := 8, code := some k17c3 }
def k17c4 : Code := { maxStack := 3, maxLocals := 2, code := jdk_52_method_5_code, exceptionTable := #[], attributes := #[] }
def k17m4 : Method := { name := "getChar", desc := "([BI)C", sig := { parameters := [(.array .byte), .int], returnType := some .char }, accessFlags := 8, code := some k17c4 }
def k17c5 : Code := { maxStack := 2, maxLocals := 1, code := jdk_52_method_6_code, exceptionTable := #[], attributes := #[] }
def k17m5 : Method := { name := "length", desc := "([B)I", sig := { parameters := [(.array .byte)], returnType := some .int }, accessFlags := 9, code := some k17c5 }
def k17c6 : Code := { maxStack := 4, maxLocals := 5, code := jdk_52_method_14_code, exceptionTable := #[], attributes := #[] }
def k17m6 : Method := { name := "toBytes", desc := "([CII)[B", sig := { parameters := [(.array .char), .int, .int], returnType := some (.array .byte) }, accessFlags := 9, code := some k17c6 }
def k17c7 : Code := { maxStack := 2, maxLocals := 2, code := jdk_52_method_15_code, exceptionTable := #[], attributes := #[] }
def k17m7 : Method := { name := "coderFromArrayLen", desc := "([BI)B", sig := { parameters := [(.array .byte), .int], returnType := some .byte }, accessFlags := 8, code := some k17c7 }
def k17c8 : Code := { maxStack := 5, maxLocals := 6, code := jdk_52_method_16_code, exceptionTable := #[], attributes := #[] }
def k17m8 : Method := { name := "compress", desc := "([CII)[B", sig := { parameters := [(.array .char), .int, .int], returnType := some (.array .byte) }, accessFlags := 9, code := some k17c8 }
def k17c9 : Code := { maxStack := 5, maxLocals := 6, code := jdk_52_method_17_code, exceptionTable := #[], attributes := #[] }
def k17m9 : Method := { name := "compress", desc := "([BII)[B", sig := { parameters := [(.array .byte), .int, .int], returnType := some (.array .byte) }, accessFlags := 9, code := some k17c9 }
def k17c10 : Code := { maxStack := 3, maxLocals := 7, code := jdk_52_method_21_code, exceptionTable := #[], attributes := #[] }
def k17m10 : Method := { name := "compress", desc := "([CI[BII)I", sig := { parameters := [(.array .char), .int, (.array .byte), .int, .int], returnType := some .int }, accessFlags := 9, code := some k17c10 }
def k17c11 : Code := { maxStack := 3, maxLocals := 7, code := jdk_52_method_22_code, exceptionTable := #[], attributes := #[] }
def k17m11 : Method := { name := "compress", desc := "([BI[BII)I", sig := { parameters := [(.array .byte), .int, (.array .byte), .int, .int], returnType := some .int }, accessFlags := 9, code := some k17c11 }
def k17c12 : Code := { maxStack := 3, maxLocals := 2, code := jdk_52_method_24_code, exceptionTable := #[], attributes := #[] }
def k17m12 : Method := { name := "toBytes", desc := "(C)[B", sig := { parameters := [.char], returnType := some (.array .byte) }, accessFlags := 9, code := some k17c12 }
def k17c13 : Code := { maxStack := 4, maxLocals := 4, code := jdk_52_method_40_code, exceptionTable := #[], attributes := #[] }
def k17m13 : Method := { name := "indexOf", desc := "([BIII)I", sig := { parameters := [(.array .byte), .int, .int, .int], returnType := some .int }, accessFlags := 9, code := some k17c13 }
def k17c14 : Code := { maxStack := 4, maxLocals := 4, code := jdk_52_method_47_code, exceptionTable := #[], attributes := #[] }
def k17m14 : Method := { name := "indexOfChar", desc := "([BIII)I", sig := { parameters := [(.array .byte), .int, .int, .int], returnType := some .int }, accessFlags := 10, code := some k17c14 }
def k17c15 : Code := { maxStack := 2, maxLocals := 5, code := jdk_52_method_48_code, exceptionTable := #[], attributes := #[] }
def k17m15 : Method := { name := "indexOfCharUnsafe", desc := "([BIII)I", sig := { parameters := [(.array .byte), .int, .int, .int], returnType := some .int }, accessFlags := 10, code := some k17c15 }
def k17c16 : Code := { maxStack := 6, maxLocals := 5, code := jdk_52_method_69_code, exceptionTable := #[], attributes := #[] }
def k17m16 : Method := { name := "newString", desc := "([BII)Ljava/lang/String;", sig := { parameters := [(.array .byte), .int, .int], returnType := some (.object "java/lang/String") }, accessFlags := 9, code := some k17c16 }
def k17c17 : Code := { maxStack := 3, maxLocals := 3, code := jdk_52_method_71_code, exceptionTable := #[], attributes := #[] }
def k17m17 : Method := { name := "putCharSB", desc := "([BII)V", sig := { parameters := [(.array .byte), .int, .int], returnType := none }, accessFlags := 9, code := some k17c17 }
def k17c18 : Code := { maxStack := 4, maxLocals := 6, code := jdk_52_method_86_code, exceptionTable := #[], attributes := #[] }
def k17m18 : Method := { name := "inflate", desc := "([BI[BII)V", sig := { parameters := [(.array .byte), .int, (.array .byte), .int, .int], returnType := none }, accessFlags := 9, code := some k17c18 }
def k17c19 : Code := { maxStack := 2, maxLocals := 2, code := jdk_52_method_91_code, exceptionTable := #[], attributes := #[] }
def k17m19 : Method := { name := "checkIndex", desc := "(I[B)V", sig := { parameters := [.int, (.array .byte)], returnType := none }, accessFlags := 9, code := some k17c19 }
def k17c20 : Code := { maxStack := 3, maxLocals := 3, code := jdk_52_method_93_code, exceptionTable := #[], attributes := #[] }
def k17m20 : Method := { name := "checkBoundsBeginEnd", desc := "(II[B)V", sig := { parameters := [.int, .int, (.array .byte)], returnType := none }, accessFlags := 9, code := some k17c20 }
def k17c21 : Code := { maxStack := 3, maxLocals := 3, code := jdk_52_method_94_code, exceptionTable := #[], attributes := #[] }
def k17m21 : Method := { name := "checkBoundsOffCount", desc := "(II[B)V", sig := { parameters := [.int, .int, (.array .byte)], returnType := none }, accessFlags := 9, code := some k17c21 }
/-- java/lang/StringUTF16 -/
def k17 : Class := { plain "java/lang/StringUTF16" (some 0) with
  accessFlags := 48
  interfaces := #[]
  cf := some (fileOf pool17 12 #[.nestMembers #[627, 629, 369]] #[{ accessFlags := 0, nameIndex := 9, descriptorIndex := 10, attributes := #[] }, { accessFlags := 9, nameIndex := 109, descriptorIndex := 110, attributes := #[] }, { accessFlags := 9, nameIndex := 15, descriptorIndex := 16, attributes := #[] }, { accessFlags := 8, nameIndex := 113, descriptorIndex := 114, attributes := #[] }, { accessFlags := 8, nameIndex := 73, descriptorIndex := 74, attributes := #[] }, { accessFlags := 9, nameIndex := 50, descriptorIndex := 51, attributes := #[] }, { accessFlags := 9, nameIndex := 121, descriptorIndex := 122, attributes := #[] }, { accessFlags := 8, nameIndex := 261, descriptorIndex := 262, attributes := #[] }, { accessFlags := 9, nameIndex := 117, descriptorIndex := 122, attributes := #[] }, { accessFlags := 9, nameIndex := 117, descriptorIndex := 131, attributes := #[] }, { accessFlags := 9, nameIndex := 117, descriptorIndex := 118, attributes := #[] }, { accessFlags := 9, nameIndex := 117, descriptorIndex := 125, attributes := #[] }, { accessFlags := 9, nameIndex := 121, descriptorIndex := 475, attributes := #[] }, { accessFlags := 9, nameIndex := 268, descriptorIndex := 231, attributes := #[] }, { accessFlags := 10, nameIndex := 230, descriptorIndex := 231, attributes := #[] }, { accessFlags := 10, nameIndex := 246, descriptorIndex := 231, attributes := #[] }, { accessFlags := 9, nameIndex := 327, descriptorIndex := 328, attributes := #[] }, { accessFlags := 9, nameIndex := 586, descriptorIndex := 114, attributes := #[] }, { accessFlags := 9, nameIndex := 140, descriptorIndex := 141, attributes := #[] }, { accessFlags := 9, nameIndex := 69, descriptorIndex := 70, attributes := #[] }, { accessFlags := 9, nameIndex := 98, descriptorIndex := 99, attributes := #[] }, { accessFlags := 9, nameIndex := 175, descriptorIndex := 99, attributes := #[] }] 48 6 #[] #[{ accessFlags := 26, nameIndex := 61, descriptorIndex := 62, attributes := #[] }, { accessFlags := 26, nameIndex := 65, descriptorIndex := 62, attributes := #[] }, { accessFlags := 24, nameIndex := 430, descriptorIndex := 62, attributes := #[] }, { accessFlags := 4120, nameIndex := 46, descriptorIndex := 47, attributes := #[] }])
  fields := #[{ name := "HI_BYTE_SHIFT", type := .int, accessFlags := 26, slot := 0, constantValue := 0 }, { name := "LO_BYTE_SHIFT", type := .int, accessFlags := 26, slot := 1, constantValue := 0 }, { name := "MAX_LENGTH", type := .int, accessFlags := 24, slot := 2, constantValue := 0 }, { name := "$assertionsDisabled", type := .boolean, accessFlags := 4120, slot := 3, constantValue := 0 }]
  methods := #[k17m0, k17m1, k17m2, k17m3, k17m4, k17m5, k17m6, k17m7, k17m8, k17m9, k17m10, k17m11, k17m12, k17m13, k17m14, k17m15, k17m16, k17m17, k17m18, k17m19, k17m20, k17m21]
  instanceTypes := #[]
  staticTypes := #[.int, .int, .int, .boolean]
  resolved := Array.replicate 635 none
  statics := some 2 }

def pool18 : Array CpInfo := pool [(9, u "<init>"), (6, .class_ 18), (1, u "java/lang/Object"), (0, u "()V"), (1, .class_ 23), (1, u "jdk/internal/util/ArraysSupport"), (0, u "LOG2_ARRAY_LONG_INDEX_SCALE"), (0, u "I"), (2, u "U"), (0, u "Ljdk/internal/misc/Unsafe;"), (8, u "BIG_ENDIAN"), (0, u "Z"), (8, u "LOG2_BYTE_BIT_SIZE"), (4, u "LOG2_ARRAY_INT_INDEX_SCALE"), (54, u "JLA"), (0, u "Ljdk/internal/access/JavaLangAccess;"), (11, u "LOG2_ARRAY_BOOLEAN_INDEX_SCALE"), (9, u "LOG2_ARRAY_BYTE_INDEX_SCALE"), (5, u "LOG2_ARRAY_CHAR_INDEX_SCALE"), (5, u "LOG2_ARRAY_SHORT_INDEX_SCALE"), (18, u "LOG2_ARRAY_FLOAT_INDEX_SCALE"), (24, u "LOG2_ARRAY_DOUBLE_INDEX_SCALE"), (89, u "T_BOOLEAN"), (2, u "T_CHAR"), (1, u "T_FLOAT"), (1, u "T_DOUBLE"), (1, u "T_BYTE"), (1, u "T_SHORT"), (1, u "T_INT"), (1, u "T_LONG"), (1, u "SOFT_MAX_ARRAY_LENGTH")] 83

def k18m0 : Method := { name := "<init>", desc := "()V", sig := { parameters := [], returnType := none }, accessFlags := 2, code := none }
/-- jdk/internal/util/ArraysSupport -/
def k18 : Class := { plain "jdk/internal/util/ArraysSupport" (some 0) with
  accessFlags := 33
  interfaces := #[]
  cf := some (fileOf pool18 21 #[] #[{ accessFlags := 2, nameIndex := 9, descriptorIndex := 19, attributes := #[] }] 33 16 #[] #[{ accessFlags := 24, nameIndex := 28, descriptorIndex := 29, attributes := #[] }, { accessFlags := 26, nameIndex := 38, descriptorIndex := 39, attributes := #[] }, { accessFlags := 25, nameIndex := 121, descriptorIndex := 25, attributes := #[] }, { accessFlags := 25, nameIndex := 131, descriptorIndex := 25, attributes := #[] }, { accessFlags := 25, nameIndex := 137, descriptorIndex := 25, attributes := #[] }, { accessFlags := 25, nameIndex := 143, descriptorIndex := 25, attributes := #[] }, { accessFlags := 25, nameIndex := 53, descriptorIndex := 25, attributes := #[] }, { accessFlags := 25, nameIndex := 24, descriptorIndex := 25, attributes := #[] }, { accessFlags := 25, nameIndex := 162, descriptorIndex := 25, attributes := #[] }, { accessFlags := 25, nameIndex := 187, descriptorIndex := 25, attributes := #[] }, { accessFlags := 26, nameIndex := 48, descriptorIndex := 25, attributes := #[] }, { accessFlags := 25, nameIndex := 277, descriptorIndex := 25, attributes := #[] }, { accessFlags := 25, nameIndex := 280, descriptorIndex := 25, attributes := #[] }, { accessFlags := 25, nameIndex := 282, descriptorIndex := 25, attributes := #[] }, { accessFlags := 25, nameIndex := 284, descriptorIndex := 25, attributes := #[] }, { accessFlags := 25, nameIndex := 286, descriptorIndex := 25, attributes := #[] }, { accessFlags := 25, nameIndex := 288, descriptorIndex := 25, attributes := #[] }, { accessFlags := 25, nameIndex := 290, descriptorIndex := 25, attributes := #[] }, { accessFlags := 25, nameIndex := 292, descriptorIndex := 25, attributes := #[] }, { accessFlags := 26, nameIndex := 108, descriptorIndex := 109, attributes := #[] }, { accessFlags := 25, nameIndex := 294, descriptorIndex := 25, attributes := #[] }])
  fields := #[{ name := "U", type := (.object "jdk/internal/misc/Unsafe"), accessFlags := 24, slot := 0, constantValue := 0 }, { name := "BIG_ENDIAN", type := .boolean, accessFlags := 26, slot := 1, constantValue := 0 }, { name := "LOG2_ARRAY_BOOLEAN_INDEX_SCALE", type := .int, accessFlags := 25, slot := 2, constantValue := 0 }, { name := "LOG2_ARRAY_BYTE_INDEX_SCALE", type := .int, accessFlags := 25, slot := 3, constantValue := 0 }, { name := "LOG2_ARRAY_CHAR_INDEX_SCALE", type := .int, accessFlags := 25, slot := 4, constantValue := 0 }, { name := "LOG2_ARRAY_SHORT_INDEX_SCALE", type := .int, accessFlags := 25, slot := 5, constantValue := 0 }, { name := "LOG2_ARRAY_INT_INDEX_SCALE", type := .int, accessFlags := 25, slot := 6, constantValue := 0 }, { name := "LOG2_ARRAY_LONG_INDEX_SCALE", type := .int, accessFlags := 25, slot := 7, constantValue := 0 }, { name := "LOG2_ARRAY_FLOAT_INDEX_SCALE", type := .int, accessFlags := 25, slot := 8, constantValue := 0 }, { name := "LOG2_ARRAY_DOUBLE_INDEX_SCALE", type := .int, accessFlags := 25, slot := 9, constantValue := 0 }, { name := "LOG2_BYTE_BIT_SIZE", type := .int, accessFlags := 26, slot := 10, constantValue := 0 }, { name := "T_BOOLEAN", type := .int, accessFlags := 25, slot := 11, constantValue := 0 }, { name := "T_CHAR", type := .int, accessFlags := 25, slot := 12, constantValue := 0 }, { name := "T_FLOAT", type := .int, accessFlags := 25, slot := 13, constantValue := 0 }, { name := "T_DOUBLE", type := .int, accessFlags := 25, slot := 14, constantValue := 0 }, { name := "T_BYTE", type := .int, accessFlags := 25, slot := 15, constantValue := 0 }, { name := "T_SHORT", type := .int, accessFlags := 25, slot := 16, constantValue := 0 }, { name := "T_INT", type := .int, accessFlags := 25, slot := 17, constantValue := 0 }, { name := "T_LONG", type := .int, accessFlags := 25, slot := 18, constantValue := 0 }, { name := "JLA", type := (.object "jdk/internal/access/JavaLangAccess"), accessFlags := 26, slot := 19, constantValue := 0 }, { name := "SOFT_MAX_ARRAY_LENGTH", type := .int, accessFlags := 25, slot := 20, constantValue := 0 }]
  methods := #[k18m0]
  instanceTypes := #[]
  staticTypes := #[(.object "jdk/internal/misc/Unsafe"), .boolean, .int, .int, .int, .int, .int, .int, .int, .int, .int, .int, .int, .int, .int, .int, .int, .int, .int, (.object "jdk/internal/access/JavaLangAccess"), .int]
  resolved := Array.replicate 378 none
  statics := none }

def pool19 : Array CpInfo := pool [(1, u "java/lang/Cloneable"), (0, .class_ 1), (0, u "java/lang/Object"), (0, .class_ 3)] 3

/-- java/lang/Cloneable -/
def k19 : Class := { plain "java/lang/Cloneable" (some 0) with
  accessFlags := 1537
  interfaces := #[]
  cf := some (fileOf pool19 2 #[] #[] 1537 4 #[] #[])
  fields := #[]
  methods := #[]
  instanceTypes := #[]
  staticTypes := #[]
  resolved := Array.replicate 8 none
  statics := none }

/-- the primitive byte -/
def k20 : Class := { plain "byte" none with kind := .primitive 'B', accessFlags := 0x411 }
/-- [B -/
def k21 : Class := { plain "[B" (some 0) with kind := .array 20 .byte, interfaces := #[19, 2], accessFlags := 1041 }

/-- the primitive char -/
def k22 : Class := { plain "char" none with kind := .primitive 'C', accessFlags := 0x411 }
/-- [C -/
def k23 : Class := { plain "[C" (some 0) with kind := .array 22 .char, interfaces := #[19, 2], accessFlags := 1041 }

/-- the primitive int -/
def k24 : Class := { plain "int" none with kind := .primitive 'I', accessFlags := 0x411 }
/-- [I -/
def k25 : Class := { plain "[I" (some 0) with kind := .array 24 .int, interfaces := #[19, 2], accessFlags := 1041 }

def heap : Heap := #[{ cls := 7, slots := #[.long 0, .int 1, .null, .int 0, .null, .int 0, .int 0], vm := .statics 7 },
  { cls := 16, slots := #[.null, .null, .null], vm := .statics 16 },
  { cls := 17, slots := #[.int 0, .int 8, .int 0, .int 1], vm := .statics 17 }]
def classes : Array Class := #[k0, k1, k2, k3, k4, k5, k6, k7, k8, k9, k10, k11, k12, k13, k14, k15, k16, k17, k18, k19, k20, k21, k22, k23, k24, k25]
def interned : List (Array UInt16 × Addr) := []
def slotsUsed : Nat := 14
def theMethod : MethodId := ⟨1, 1⟩
def args0 : Array Value := #[.int 1, .int 5, .int 7, .int 9, .int 11]
def aboutOver (below : List Frame) : State where
  vm := { classes := classes, interned := interned.toArray }
  heap := heap
  slotsUsed := slotsUsed
  threads := #[{ frames := .invoking theMethod args0 :: below }]
def below0 : List Frame := [.native { method := ⟨0, 0⟩, args := #[] }]
def about1 : State := aboutOver below0
def p0 : Program := .bare "" "" ""
def e0 : Env := launch0.env 0 0 0
theorem w_frames : about1.frames = Frame.invoking theMethod args0 :: below0 := rfl
set_option maxRecDepth 65536 in
theorem w_args : argsFit about1.vm theMethod args0 = true := by decide +kernel
set_option maxRecDepth 65536 in
theorem w_heap : heapFits about1 = true := by decide +kernel
set_option maxRecDepth 65536 in
theorem w_runnable : about1.curStatus? = some .runnable := by decide +kernel
set_option maxRecDepth 65536 in
theorem w_alone : about1.alone = true := by decide +kernel
set_option maxRecDepth 65536 in
theorem w_named : about1.methodNamed? x = some theMethod := by decide +kernel
set_option maxRecDepth 65536 in
theorem w_hears : about1.hears theMethod below0 = true := by decide +kernel
set_option maxRecDepth 65536 in
theorem w_ripe : about1.ripe theMethod args0 below0 = true := by decide +kernel
theorem w_running : about1.status = .running := rfl
set_option maxRecDepth 65536 in
theorem w_room : about1.hasRoom e0.platform room_1 = true :=
  launch0.hasRoom_least _ room_1 (by decide +kernel) (by decide +kernel) (by decide +kernel) (by decide +kernel) (by decide +kernel) (by decide +kernel)
theorem allAtoms_all (ts : List Jvm.Cond) (a : Array Jvm.Value) (st : Jvm.State) : (allAtoms ts).before a st = ts.all (fun c => c.before a st) := by
  induction ts with
  | nil => rfl
  | cons c t ih =>
    show (Jvm.Cond.and c (allAtoms t)).before a st = _
    rw [Jvm.Cond.before_and, ih, List.all_cons]
def words1 : List Jvm.Cond := Jvm.Cond.code x code maxLocals ret :: tables_1
/-- a 'code' word, met by the world's own term for the bytes: nothing is compared byte by byte -/
theorem code_word {y : MethodName} {bytes : ByteArray} {mx : Nat} {rt : Option FieldType} {a : Array Value} {s : State} {m : MethodId} {meth : Method} {c : Code} (h1 : s.methodNamed? y = some m) (h2 : s.vm.method? m = some meth) (h3 : meth.code = some c) (h4 : c.code = bytes)
    (h5 : (c.maxLocals == mx && c.exceptionTable.isEmpty && decide (c.maxStack ≤ mostOperands) && decide (meth.sig.returnType = rt) && !meth.locks && decide (parseMethodDescriptor y.desc = some meth.sig)) = true) : (Jvm.Cond.code y bytes mx rt).before a s = true := by
  simp only [Bool.and_eq_true, beq_iff_eq, Bool.not_eq_true', decide_eq_true_eq] at h5
  obtain ⟨⟨⟨⟨⟨g1, g2⟩, g3⟩, g4⟩, g5⟩, g6⟩ := h5
  simp [Cond.before, Cond.holds, Cond.value, h1, h2, h3, h4, g1, g2, g3, g4, g5, g6]
def isCode : Jvm.Cond → Bool
  | .code _ _ _ _ => true
  | _ => false
theorem all_split {L : List Jvm.Cond} {P : Jvm.Cond → Bool} (h1 : L.all (fun c => isCode c || P c) = true) (h2 : ∀ c ∈ L.filter isCode, P c = true) : L.all P = true := by
  refine List.all_eq_true.mpr fun c hc => ?_
  have h := List.all_eq_true.mp h1 c hc
  rcases Bool.eq_false_or_eq_true (isCode c) with hi | hi
  · exact h2 c (List.mem_filter.mpr ⟨hc, hi⟩)
  · simpa [hi] using h
set_option maxRecDepth 65536 in
theorem w_c0 : (Jvm.Cond.code x code maxLocals ret).before args0 about1 = true := code_word (m := ⟨1, 1⟩) (meth := k1m1) (c := k1c1) (by decide +kernel) rfl rfl rfl (by decide +kernel)
set_option maxRecDepth 65536 in
theorem w_c1 : (Jvm.Cond.code ({ cls := "com/example/any_row/anyrow/EntityKeyFromStorageKeyPinLaw", name := "nonZero", desc := "(I)C" } : Jvm.MethodName) method_3_code (1 : Nat) (Option.some Jvm.ClassFile.FieldType.char)).before args0 about1 = true := code_word (m := ⟨1, 2⟩) (meth := k1m2) (c := k1c2) (by decide +kernel) rfl rfl rfl (by decide +kernel)
set_option maxRecDepth 65536 in
theorem w_c2 : (Jvm.Cond.code ({ cls := "com/example/any_row/anyrow/EntityKeyFromStorageKeyPinLaw", name := "str", desc := "(ICC)Ljava/lang/String;" } : Jvm.MethodName) method_4_code (3 : Nat) (Option.some (Jvm.ClassFile.FieldType.object "java/lang/String"))).before args0 about1 = true := code_word (m := ⟨1, 3⟩) (meth := k1m3) (c := k1c3) (by decide +kernel) rfl rfl rfl (by decide +kernel)
set_option maxRecDepth 65536 in
theorem w_c3 : (Jvm.Cond.code ({ cls := "com/example/any_row/anyrow/EntityKey", name := "storageKey", desc := "(Ljava/lang/String;Ljava/lang/String;)Ljava/lang/String;" } : Jvm.MethodName) prog_6_method_9_code (2 : Nat) (Option.some (Jvm.ClassFile.FieldType.object "java/lang/String"))).before args0 about1 = true := code_word (m := ⟨8, 4⟩) (meth := k8m4) (c := k8c4) (by decide +kernel) rfl rfl rfl (by decide +kernel)
set_option maxRecDepth 65536 in
theorem w_c4 : (Jvm.Cond.code ({ cls := "java/lang/StringBuilder", name := "<init>", desc := "()V" } : Jvm.MethodName) jdk_67_method_1_code (1 : Nat) (Option.none : Option Jvm.ClassFile.FieldType)).before args0 about1 = true := code_word (m := ⟨11, 0⟩) (meth := k11m0) (c := k11c0) (by decide +kernel) rfl rfl rfl (by decide +kernel)
set_option maxRecDepth 65536 in
theorem w_c5 : (Jvm.Cond.code ({ cls := "java/lang/AbstractStringBuilder", name := "<init>", desc := "(I)V" } : Jvm.MethodName) jdk_68_method_2_code (2 : Nat) (Option.none : Option Jvm.ClassFile.FieldType)).before args0 about1 = true := code_word (m := ⟨10, 1⟩) (meth := k10m1) (c := k10c1) (by decide +kernel) rfl rfl rfl (by decide +kernel)
set_option maxRecDepth 65536 in
theorem w_c6 : (Jvm.Cond.code ({ cls := "java/lang/Object", name := "<init>", desc := "()V" } : Jvm.MethodName) object_method_1_code (1 : Nat) (Option.none : Option Jvm.ClassFile.FieldType)).before args0 about1 = true := code_word (m := ⟨0, 0⟩) (meth := k0m0) (c := k0c0) (by decide +kernel) rfl rfl rfl (by decide +kernel)
set_option maxRecDepth 65536 in
theorem w_c7 : (Jvm.Cond.code ({ cls := "java/lang/StringBuilder", name := "append", desc := "(Ljava/lang/String;)Ljava/lang/StringBuilder;" } : Jvm.MethodName) jdk_67_method_7_code (2 : Nat) (Option.some (Jvm.ClassFile.FieldType.object "java/lang/StringBuilder"))).before args0 about1 = true := code_word (m := ⟨11, 1⟩) (meth := k11m1) (c := k11c1) (by decide +kernel) rfl rfl rfl (by decide +kernel)
set_option maxRecDepth 65536 in
theorem w_c8 : (Jvm.Cond.code ({ cls := "java/lang/AbstractStringBuilder", name := "append", desc := "(Ljava/lang/String;)Ljava/lang/AbstractStringBuilder;" } : Jvm.MethodName) jdk_68_method_22_code (3 : Nat) (Option.some (Jvm.ClassFile.FieldType.object "java/lang/AbstractStringBuilder"))).before args0 about1 = true := code_word (m := ⟨10, 5⟩) (meth := k10m5) (c := k10c5) (by decide +kernel) rfl rfl rfl (by decide +kernel)
set_option maxRecDepth 65536 in
theorem w_c9 : (Jvm.Cond.code ({ cls := "java/lang/String", name := "length", desc := "()I" } : Jvm.MethodName) jdk_42_method_54_code (1 : Nat) (Option.some Jvm.ClassFile.FieldType.int)).before args0 about1 = true := code_word (m := ⟨7, 3⟩) (meth := k7m3) (c := k7c3) (by decide +kernel) rfl rfl rfl (by decide +kernel)
set_option maxRecDepth 65536 in
theorem w_c10 : (Jvm.Cond.code ({ cls := "java/lang/String", name := "coder", desc := "()B" } : Jvm.MethodName) jdk_42_method_152_code (1 : Nat) (Option.some Jvm.ClassFile.FieldType.byte)).before args0 about1 = true := code_word (m := ⟨7, 14⟩) (meth := k7m14) (c := k7c14) (by decide +kernel) rfl rfl rfl (by decide +kernel)
set_option maxRecDepth 65536 in
theorem w_c11 : (Jvm.Cond.code ({ cls := "java/lang/AbstractStringBuilder", name := "ensureCapacityInternal", desc := "(I)V" } : Jvm.MethodName) jdk_68_method_9_code (3 : Nat) (Option.none : Option Jvm.ClassFile.FieldType)).before args0 about1 = true := code_word (m := ⟨10, 3⟩) (meth := k10m3) (c := k10c3) (by decide +kernel) rfl rfl rfl (by decide +kernel)
set_option maxRecDepth 65536 in
theorem w_c12 : (Jvm.Cond.code ({ cls := "java/lang/AbstractStringBuilder", name := "putStringAt", desc := "(ILjava/lang/String;)V" } : Jvm.MethodName) jdk_68_method_73_code (3 : Nat) (Option.none : Option Jvm.ClassFile.FieldType)).before args0 about1 = true := code_word (m := ⟨10, 10⟩) (meth := k10m10) (c := k10c10) (by decide +kernel) rfl rfl rfl (by decide +kernel)
set_option maxRecDepth 65536 in
theorem w_c13 : (Jvm.Cond.code ({ cls := "java/lang/AbstractStringBuilder", name := "inflateIfNeededFor", desc := "(Ljava/lang/String;)V" } : Jvm.MethodName) jdk_68_method_71_code (2 : Nat) (Option.none : Option Jvm.ClassFile.FieldType)).before args0 about1 = true := code_word (m := ⟨10, 9⟩) (meth := k10m9) (c := k10c9) (by decide +kernel) rfl rfl rfl (by decide +kernel)
set_option maxRecDepth 65536 in
theorem w_c14 : (Jvm.Cond.code ({ cls := "java/lang/String", name := "getBytes", desc := "([BIB)V" } : Jvm.MethodName) jdk_42_method_147_code (4 : Nat) (Option.none : Option Jvm.ClassFile.FieldType)).before args0 about1 = true := code_word (m := ⟨7, 10⟩) (meth := k7m10) (c := k7c10) (by decide +kernel) rfl rfl rfl (by decide +kernel)
set_option maxRecDepth 65536 in
theorem w_c15 : (Jvm.Cond.code ({ cls := "java/lang/StringBuilder", name := "append", desc := "(C)Ljava/lang/StringBuilder;" } : Jvm.MethodName) jdk_67_method_14_code (2 : Nat) (Option.some (Jvm.ClassFile.FieldType.object "java/lang/StringBuilder"))).before args0 about1 = true := code_word (m := ⟨11, 2⟩) (meth := k11m2) (c := k11c2) (by decide +kernel) rfl rfl rfl (by decide +kernel)
set_option maxRecDepth 65536 in
theorem w_c16 : (Jvm.Cond.code ({ cls := "java/lang/AbstractStringBuilder", name := "append", desc := "(C)Ljava/lang/AbstractStringBuilder;" } : Jvm.MethodName) jdk_68_method_31_code (2 : Nat) (Option.some (Jvm.ClassFile.FieldType.object "java/lang/AbstractStringBuilder"))).before args0 about1 = true := code_word (m := ⟨10, 6⟩) (meth := k10m6) (c := k10c6) (by decide +kernel) rfl rfl rfl (by decide +kernel)
set_option maxRecDepth 65536 in
theorem w_c17 : (Jvm.Cond.code ({ cls := "java/lang/AbstractStringBuilder", name := "isLatin1", desc := "()Z" } : Jvm.MethodName) jdk_68_method_68_code (1 : Nat) (Option.some Jvm.ClassFile.FieldType.boolean)).before args0 about1 = true := code_word (m := ⟨10, 8⟩) (meth := k10m8) (c := k10c8) (by decide +kernel) rfl rfl rfl (by decide +kernel)
set_option maxRecDepth 65536 in
theorem w_c18 : (Jvm.Cond.code ({ cls := "java/lang/StringLatin1", name := "canEncode", desc := "(C)Z" } : Jvm.MethodName) jdk_43_method_3_code (1 : Nat) (Option.some Jvm.ClassFile.FieldType.boolean)).before args0 about1 = true := code_word (m := ⟨13, 1⟩) (meth := k13m1) (c := k13c1) (by decide +kernel) rfl rfl rfl (by decide +kernel)
set_option maxRecDepth 65536 in
theorem w_c19 : (Jvm.Cond.code ({ cls := "java/lang/StringBuilder", name := "toString", desc := "()Ljava/lang/String;" } : Jvm.MethodName) jdk_67_method_42_code (1 : Nat) (Option.some (Jvm.ClassFile.FieldType.object "java/lang/String"))).before args0 about1 = true := code_word (m := ⟨11, 3⟩) (meth := k11m3) (c := k11c3) (by decide +kernel) rfl rfl rfl (by decide +kernel)
set_option maxRecDepth 65536 in
theorem w_c20 : (Jvm.Cond.code ({ cls := "java/lang/String", name := "<init>", desc := "(Ljava/lang/StringBuilder;)V" } : Jvm.MethodName) jdk_42_method_53_code (2 : Nat) (Option.none : Option Jvm.ClassFile.FieldType)).before args0 about1 = true := code_word (m := ⟨7, 2⟩) (meth := k7m2) (c := k7c2) (by decide +kernel) rfl rfl rfl (by decide +kernel)
set_option maxRecDepth 65536 in
theorem w_c21 : (Jvm.Cond.code ({ cls := "java/lang/String", name := "<init>", desc := "(Ljava/lang/AbstractStringBuilder;Ljava/lang/Void;)V" } : Jvm.MethodName) jdk_42_method_150_code (5 : Nat) (Option.none : Option Jvm.ClassFile.FieldType)).before args0 about1 = true := code_word (m := ⟨7, 12⟩) (meth := k7m12) (c := k7c12) (by decide +kernel) rfl rfl rfl (by decide +kernel)
set_option maxRecDepth 65536 in
theorem w_c22 : (Jvm.Cond.code ({ cls := "java/lang/AbstractStringBuilder", name := "getValue", desc := "()[B" } : Jvm.MethodName) jdk_68_method_64_code (1 : Nat) (Option.some (Jvm.ClassFile.FieldType.array Jvm.ClassFile.FieldType.byte))).before args0 about1 = true := code_word (m := ⟨10, 7⟩) (meth := k10m7) (c := k10c7) (by decide +kernel) rfl rfl rfl (by decide +kernel)
set_option maxRecDepth 65536 in
theorem w_c23 : (Jvm.Cond.code ({ cls := "java/lang/StringBuilder", name := "length", desc := "()I" } : Jvm.MethodName) jdk_67_method_93_code (1 : Nat) (Option.some Jvm.ClassFile.FieldType.int)).before args0 about1 = true := code_word (m := ⟨11, 4⟩) (meth := k11m4) (c := k11c4) (by decide +kernel) rfl rfl rfl (by decide +kernel)
set_option maxRecDepth 65536 in
theorem w_c24 : (Jvm.Cond.code ({ cls := "java/lang/AbstractStringBuilder", name := "length", desc := "()I" } : Jvm.MethodName) jdk_68_method_6_code (1 : Nat) (Option.some Jvm.ClassFile.FieldType.int)).before args0 about1 = true := code_word (m := ⟨10, 2⟩) (meth := k10m2) (c := k10c2) (by decide +kernel) rfl rfl rfl (by decide +kernel)
set_option maxRecDepth 65536 in
theorem w_c25 : (Jvm.Cond.code ({ cls := "java/util/Arrays", name := "copyOfRange", desc := "([BII)[B" } : Jvm.MethodName) jdk_65_method_132_code (3 : Nat) (Option.some (Jvm.ClassFile.FieldType.array Jvm.ClassFile.FieldType.byte))).before args0 about1 = true := code_word (m := ⟨14, 2⟩) (meth := k14m2) (c := k14c2) (by decide +kernel) rfl rfl rfl (by decide +kernel)
set_option maxRecDepth 65536 in
theorem w_c26 : (Jvm.Cond.code ({ cls := "java/util/Arrays", name := "copyOfRangeByte", desc := "([BII)[B" } : Jvm.MethodName) jdk_65_method_133_code (5 : Nat) (Option.some (Jvm.ClassFile.FieldType.array Jvm.ClassFile.FieldType.byte))).before args0 about1 = true := code_word (m := ⟨14, 3⟩) (meth := k14m3) (c := k14c3) (by decide +kernel) rfl rfl rfl (by decide +kernel)
set_option maxRecDepth 65536 in
theorem w_c27 : (Jvm.Cond.code ({ cls := "java/util/Arrays", name := "checkLength", desc := "(II)V" } : Jvm.MethodName) jdk_65_method_131_code (2 : Nat) (Option.none : Option Jvm.ClassFile.FieldType)).before args0 about1 = true := code_word (m := ⟨14, 1⟩) (meth := k14m1) (c := k14c1) (by decide +kernel) rfl rfl rfl (by decide +kernel)
set_option maxRecDepth 65536 in
theorem w_c28 : (Jvm.Cond.code ({ cls := "java/lang/Math", name := "min", desc := "(II)I" } : Jvm.MethodName) jdk_29_method_69_code (2 : Nat) (Option.some Jvm.ClassFile.FieldType.int)).before args0 about1 = true := code_word (m := ⟨15, 2⟩) (meth := k15m2) (c := k15c2) (by decide +kernel) rfl rfl rfl (by decide +kernel)
set_option maxRecDepth 65536 in
theorem w_c29 : (Jvm.Cond.code ({ cls := "com/example/any_row/anyrow/EntityKey", name := "fromStorageKey", desc := "(Ljava/lang/String;)Lcom/example/any_row/anyrow/EntityKey;" } : Jvm.MethodName) prog_6_method_8_code (2 : Nat) (Option.some (Jvm.ClassFile.FieldType.object "com/example/any_row/anyrow/EntityKey"))).before args0 about1 = true := code_word (m := ⟨8, 3⟩) (meth := k8m3) (c := k8c3) (by decide +kernel) rfl rfl rfl (by decide +kernel)
set_option maxRecDepth 65536 in
theorem w_c30 : (Jvm.Cond.code ({ cls := "java/lang/String", name := "indexOf", desc := "(I)I" } : Jvm.MethodName) jdk_42_method_79_code (2 : Nat) (Option.some Jvm.ClassFile.FieldType.int)).before args0 about1 = true := code_word (m := ⟨7, 5⟩) (meth := k7m5) (c := k7c5) (by decide +kernel) rfl rfl rfl (by decide +kernel)
set_option maxRecDepth 65536 in
theorem w_c31 : (Jvm.Cond.code ({ cls := "java/lang/String", name := "indexOf", desc := "(II)I" } : Jvm.MethodName) jdk_42_method_80_code (3 : Nat) (Option.some Jvm.ClassFile.FieldType.int)).before args0 about1 = true := code_word (m := ⟨7, 6⟩) (meth := k7m6) (c := k7c6) (by decide +kernel) rfl rfl rfl (by decide +kernel)
set_option maxRecDepth 65536 in
theorem w_c32 : (Jvm.Cond.code ({ cls := "java/lang/String", name := "isLatin1", desc := "()Z" } : Jvm.MethodName) jdk_42_method_154_code (1 : Nat) (Option.some Jvm.ClassFile.FieldType.boolean)).before args0 about1 = true := code_word (m := ⟨7, 15⟩) (meth := k7m15) (c := k7c15) (by decide +kernel) rfl rfl rfl (by decide +kernel)
set_option maxRecDepth 65536 in
theorem w_c33 : (Jvm.Cond.code ({ cls := "java/lang/StringLatin1", name := "indexOf", desc := "([BIII)I" } : Jvm.MethodName) jdk_43_method_22_code (4 : Nat) (Option.some Jvm.ClassFile.FieldType.int)).before args0 about1 = true := code_word (m := ⟨13, 4⟩) (meth := k13m4) (c := k13c4) (by decide +kernel) rfl rfl rfl (by decide +kernel)
set_option maxRecDepth 65536 in
theorem w_c34 : (Jvm.Cond.code ({ cls := "java/lang/StringLatin1", name := "canEncode", desc := "(I)Z" } : Jvm.MethodName) jdk_43_method_4_code (1 : Nat) (Option.some Jvm.ClassFile.FieldType.boolean)).before args0 about1 = true := code_word (m := ⟨13, 2⟩) (meth := k13m2) (c := k13c2) (by decide +kernel) rfl rfl rfl (by decide +kernel)
set_option maxRecDepth 65536 in
theorem w_c35 : (Jvm.Cond.code ({ cls := "java/lang/Math", name := "max", desc := "(II)I" } : Jvm.MethodName) jdk_29_method_65_code (2 : Nat) (Option.some Jvm.ClassFile.FieldType.int)).before args0 about1 = true := code_word (m := ⟨15, 1⟩) (meth := k15m1) (c := k15c1) (by decide +kernel) rfl rfl rfl (by decide +kernel)
set_option maxRecDepth 65536 in
theorem w_c36 : (Jvm.Cond.code ({ cls := "java/lang/StringLatin1", name := "indexOfChar", desc := "([BIII)I" } : Jvm.MethodName) jdk_43_method_23_code (6 : Nat) (Option.some Jvm.ClassFile.FieldType.int)).before args0 about1 = true := code_word (m := ⟨13, 5⟩) (meth := k13m5) (c := k13c5) (by decide +kernel) rfl rfl rfl (by decide +kernel)
set_option maxRecDepth 65536 in
theorem w_c37 : (Jvm.Cond.code ({ cls := "java/lang/String", name := "substring", desc := "(II)Ljava/lang/String;" } : Jvm.MethodName) jdk_42_method_92_code (5 : Nat) (Option.some (Jvm.ClassFile.FieldType.object "java/lang/String"))).before args0 about1 = true := code_word (m := ⟨7, 8⟩) (meth := k7m8) (c := k7c8) (by decide +kernel) rfl rfl rfl (by decide +kernel)
set_option maxRecDepth 65536 in
theorem w_c38 : (Jvm.Cond.code ({ cls := "java/lang/String", name := "checkBoundsBeginEnd", desc := "(III)V" } : Jvm.MethodName) jdk_42_method_158_code (3 : Nat) (Option.none : Option Jvm.ClassFile.FieldType)).before args0 about1 = true := code_word (m := ⟨7, 18⟩) (meth := k7m18) (c := k7c18) (by decide +kernel) rfl rfl rfl (by decide +kernel)
set_option maxRecDepth 65536 in
theorem w_c39 : (Jvm.Cond.code ({ cls := "jdk/internal/util/Preconditions", name := "checkFromToIndex", desc := "(IIILjava/util/function/BiFunction;)I" } : Jvm.MethodName) jdk_41_method_12_code (4 : Nat) (Option.some Jvm.ClassFile.FieldType.int)).before args0 about1 = true := code_word (m := ⟨16, 2⟩) (meth := k16m2) (c := k16c2) (by decide +kernel) rfl rfl rfl (by decide +kernel)
set_option maxRecDepth 65536 in
theorem w_c40 : (Jvm.Cond.code ({ cls := "java/lang/StringLatin1", name := "newString", desc := "([BII)Ljava/lang/String;" } : Jvm.MethodName) jdk_43_method_47_code (3 : Nat) (Option.some (Jvm.ClassFile.FieldType.object "java/lang/String"))).before args0 about1 = true := code_word (m := ⟨13, 7⟩) (meth := k13m7) (c := k13c7) (by decide +kernel) rfl rfl rfl (by decide +kernel)
set_option maxRecDepth 65536 in
theorem w_c41 : (Jvm.Cond.code ({ cls := "java/lang/String", name := "substring", desc := "(I)Ljava/lang/String;" } : Jvm.MethodName) jdk_42_method_91_code (2 : Nat) (Option.some (Jvm.ClassFile.FieldType.object "java/lang/String"))).before args0 about1 = true := code_word (m := ⟨7, 7⟩) (meth := k7m7) (c := k7c7) (by decide +kernel) rfl rfl rfl (by decide +kernel)
set_option maxRecDepth 65536 in
theorem w_c42 : (Jvm.Cond.code ({ cls := "com/example/any_row/anyrow/EntityKey", name := "<init>", desc := "(Ljava/lang/String;Ljava/lang/String;)V" } : Jvm.MethodName) prog_6_method_1_code (3 : Nat) (Option.none : Option Jvm.ClassFile.FieldType)).before args0 about1 = true := code_word (m := ⟨8, 0⟩) (meth := k8m0) (c := k8c0) (by decide +kernel) rfl rfl rfl (by decide +kernel)
set_option maxRecDepth 65536 in
theorem w_c43 : (Jvm.Cond.code ({ cls := "com/example/any_row/anyrow/EntityKey", name := "partitionKey", desc := "()Ljava/lang/String;" } : Jvm.MethodName) prog_6_method_4_code (1 : Nat) (Option.some (Jvm.ClassFile.FieldType.object "java/lang/String"))).before args0 about1 = true := code_word (m := ⟨8, 1⟩) (meth := k8m1) (c := k8c1) (by decide +kernel) rfl rfl rfl (by decide +kernel)
set_option maxRecDepth 65536 in
theorem w_c44 : (Jvm.Cond.code ({ cls := "java/lang/String", name := "equals", desc := "(Ljava/lang/Object;)Z" } : Jvm.MethodName) jdk_42_method_66_code (3 : Nat) (Option.some Jvm.ClassFile.FieldType.boolean)).before args0 about1 = true := code_word (m := ⟨7, 4⟩) (meth := k7m4) (c := k7c4) (by decide +kernel) rfl rfl rfl (by decide +kernel)
set_option maxRecDepth 65536 in
theorem w_c45 : (Jvm.Cond.code ({ cls := "com/example/any_row/anyrow/EntityKey", name := "rowKey", desc := "()Ljava/lang/String;" } : Jvm.MethodName) prog_6_method_5_code (1 : Nat) (Option.some (Jvm.ClassFile.FieldType.object "java/lang/String"))).before args0 about1 = true := code_word (m := ⟨8, 2⟩) (meth := k8m2) (c := k8c2) (by decide +kernel) rfl rfl rfl (by decide +kernel)
set_option maxRecDepth 65536 in
theorem w_c46 : (Jvm.Cond.code ({ cls := "java/lang/String", name := "<init>", desc := "([C)V" } : Jvm.MethodName) jdk_42_method_3_code (2 : Nat) (Option.none : Option Jvm.ClassFile.FieldType)).before args0 about1 = true := code_word (m := ⟨7, 1⟩) (meth := k7m1) (c := k7c1) (by decide +kernel) rfl rfl rfl (by decide +kernel)
set_option maxRecDepth 65536 in
theorem w_c47 : (Jvm.Cond.code ({ cls := "java/lang/String", name := "<init>", desc := "([CIILjava/lang/Void;)V" } : Jvm.MethodName) jdk_42_method_149_code (6 : Nat) (Option.none : Option Jvm.ClassFile.FieldType)).before args0 about1 = true := code_word (m := ⟨7, 11⟩) (meth := k7m11) (c := k7c11) (by decide +kernel) rfl rfl rfl (by decide +kernel)
set_option maxRecDepth 65536 in
theorem w_c48 : (Jvm.Cond.code ({ cls := "java/lang/StringUTF16", name := "compress", desc := "([CII)[B" } : Jvm.MethodName) jdk_52_method_16_code (6 : Nat) (Option.some (Jvm.ClassFile.FieldType.array Jvm.ClassFile.FieldType.byte))).before args0 about1 = true := code_word (m := ⟨17, 8⟩) (meth := k17m8) (c := k17c8) (by decide +kernel) rfl rfl rfl (by decide +kernel)
set_option maxRecDepth 65536 in
theorem w_c49 : (Jvm.Cond.code ({ cls := "java/lang/StringUTF16", name := "compress", desc := "([CI[BII)I" } : Jvm.MethodName) jdk_52_method_21_code (7 : Nat) (Option.some Jvm.ClassFile.FieldType.int)).before args0 about1 = true := code_word (m := ⟨17, 10⟩) (meth := k17m10) (c := k17c10) (by decide +kernel) rfl rfl rfl (by decide +kernel)
set_option maxRecDepth 65536 in
theorem w_c50 : (Jvm.Cond.code ({ cls := "java/lang/StringUTF16", name := "coderFromArrayLen", desc := "([BI)B" } : Jvm.MethodName) jdk_52_method_15_code (2 : Nat) (Option.some Jvm.ClassFile.FieldType.byte)).before args0 about1 = true := code_word (m := ⟨17, 7⟩) (meth := k17m7) (c := k17c7) (by decide +kernel) rfl rfl rfl (by decide +kernel)
set_option maxRecDepth 65536 in
theorem w_c51 : (Jvm.Cond.code ({ cls := "java/lang/String", name := "<init>", desc := "([BB)V" } : Jvm.MethodName) jdk_42_method_151_code (3 : Nat) (Option.none : Option Jvm.ClassFile.FieldType)).before args0 about1 = true := code_word (m := ⟨7, 13⟩) (meth := k7m13) (c := k7c13) (by decide +kernel) rfl rfl rfl (by decide +kernel)
set_option maxRecDepth 65536 in
theorem w_c52 : (Jvm.Cond.code ({ cls := "java/lang/StringLatin1", name := "equals", desc := "([B[B)Z" } : Jvm.MethodName) jdk_43_method_13_code (3 : Nat) (Option.some Jvm.ClassFile.FieldType.boolean)).before args0 about1 = true := code_word (m := ⟨13, 3⟩) (meth := k13m3) (c := k13c3) (by decide +kernel) rfl rfl rfl (by decide +kernel)
set_option maxRecDepth 65536 in
theorem w_c53 : (Jvm.Cond.code ({ cls := "java/lang/String", name := "valueOf", desc := "(C)Ljava/lang/String;" } : Jvm.MethodName) jdk_42_method_139_code (1 : Nat) (Option.some (Jvm.ClassFile.FieldType.object "java/lang/String"))).before args0 about1 = true := code_word (m := ⟨7, 9⟩) (meth := k7m9) (c := k7c9) (by decide +kernel) rfl rfl rfl (by decide +kernel)
set_option maxRecDepth 65536 in
theorem w_c54 : (Jvm.Cond.code ({ cls := "java/lang/StringUTF16", name := "toBytes", desc := "(C)[B" } : Jvm.MethodName) jdk_52_method_24_code (2 : Nat) (Option.some (Jvm.ClassFile.FieldType.array Jvm.ClassFile.FieldType.byte))).before args0 about1 = true := code_word (m := ⟨17, 12⟩) (meth := k17m12) (c := k17c12) (by decide +kernel) rfl rfl rfl (by decide +kernel)
set_option maxRecDepth 65536 in
theorem w_c55 : (Jvm.Cond.code ({ cls := "java/lang/StringUTF16", name := "putChar", desc := "([BII)V" } : Jvm.MethodName) jdk_52_method_4_code (3 : Nat) (Option.none : Option Jvm.ClassFile.FieldType)).before args0 about1 = true := code_word (m := ⟨17, 3⟩) (meth := k17m3) (c := k17c3) (by decide +kernel) rfl rfl rfl (by decide +kernel)
set_option maxRecDepth 65536 in
theorem w_c56 : (Jvm.Cond.code ({ cls := "java/lang/AbstractStringBuilder", name := "inflate", desc := "()V" } : Jvm.MethodName) jdk_68_method_11_code (2 : Nat) (Option.none : Option Jvm.ClassFile.FieldType)).before args0 about1 = true := code_word (m := ⟨10, 4⟩) (meth := k10m4) (c := k10c4) (by decide +kernel) rfl rfl rfl (by decide +kernel)
set_option maxRecDepth 65536 in
theorem w_c57 : (Jvm.Cond.code ({ cls := "java/lang/StringUTF16", name := "newBytesFor", desc := "(I)[B" } : Jvm.MethodName) jdk_52_method_2_code (1 : Nat) (Option.some (Jvm.ClassFile.FieldType.array Jvm.ClassFile.FieldType.byte))).before args0 about1 = true := code_word (m := ⟨17, 1⟩) (meth := k17m1) (c := k17c1) (by decide +kernel) rfl rfl rfl (by decide +kernel)
set_option maxRecDepth 65536 in
theorem w_c58 : (Jvm.Cond.code ({ cls := "java/lang/StringUTF16", name := "newBytesLength", desc := "(I)I" } : Jvm.MethodName) jdk_52_method_3_code (1 : Nat) (Option.some Jvm.ClassFile.FieldType.int)).before args0 about1 = true := code_word (m := ⟨17, 2⟩) (meth := k17m2) (c := k17c2) (by decide +kernel) rfl rfl rfl (by decide +kernel)
set_option maxRecDepth 65536 in
theorem w_c59 : (Jvm.Cond.code ({ cls := "java/lang/StringLatin1", name := "inflate", desc := "([BI[BII)V" } : Jvm.MethodName) jdk_43_method_50_code (5 : Nat) (Option.none : Option Jvm.ClassFile.FieldType)).before args0 about1 = true := code_word (m := ⟨13, 8⟩) (meth := k13m8) (c := k13c8) (by decide +kernel) rfl rfl rfl (by decide +kernel)
set_option maxRecDepth 65536 in
theorem w_c60 : (Jvm.Cond.code ({ cls := "java/lang/StringUTF16", name := "inflate", desc := "([BI[BII)V" } : Jvm.MethodName) jdk_52_method_86_code (6 : Nat) (Option.none : Option Jvm.ClassFile.FieldType)).before args0 about1 = true := code_word (m := ⟨17, 18⟩) (meth := k17m18) (c := k17c18) (by decide +kernel) rfl rfl rfl (by decide +kernel)
set_option maxRecDepth 65536 in
theorem w_c61 : (Jvm.Cond.code ({ cls := "java/lang/StringUTF16", name := "checkBoundsOffCount", desc := "(II[B)V" } : Jvm.MethodName) jdk_52_method_94_code (3 : Nat) (Option.none : Option Jvm.ClassFile.FieldType)).before args0 about1 = true := code_word (m := ⟨17, 21⟩) (meth := k17m21) (c := k17c21) (by decide +kernel) rfl rfl rfl (by decide +kernel)
set_option maxRecDepth 65536 in
theorem w_c62 : (Jvm.Cond.code ({ cls := "java/lang/StringUTF16", name := "length", desc := "([B)I" } : Jvm.MethodName) jdk_52_method_6_code (1 : Nat) (Option.some Jvm.ClassFile.FieldType.int)).before args0 about1 = true := code_word (m := ⟨17, 5⟩) (meth := k17m5) (c := k17c5) (by decide +kernel) rfl rfl rfl (by decide +kernel)
set_option maxRecDepth 65536 in
theorem w_c63 : (Jvm.Cond.code ({ cls := "java/lang/String", name := "checkBoundsOffCount", desc := "(III)I" } : Jvm.MethodName) jdk_42_method_157_code (3 : Nat) (Option.some Jvm.ClassFile.FieldType.int)).before args0 about1 = true := code_word (m := ⟨7, 17⟩) (meth := k7m17) (c := k7c17) (by decide +kernel) rfl rfl rfl (by decide +kernel)
set_option maxRecDepth 65536 in
theorem w_c64 : (Jvm.Cond.code ({ cls := "jdk/internal/util/Preconditions", name := "checkFromIndexSize", desc := "(IIILjava/util/function/BiFunction;)I" } : Jvm.MethodName) jdk_41_method_13_code (4 : Nat) (Option.some Jvm.ClassFile.FieldType.int)).before args0 about1 = true := code_word (m := ⟨16, 3⟩) (meth := k16m3) (c := k16c3) (by decide +kernel) rfl rfl rfl (by decide +kernel)
set_option maxRecDepth 65536 in
theorem w_c65 : (Jvm.Cond.code ({ cls := "java/lang/StringUTF16", name := "putCharSB", desc := "([BII)V" } : Jvm.MethodName) jdk_52_method_71_code (3 : Nat) (Option.none : Option Jvm.ClassFile.FieldType)).before args0 about1 = true := code_word (m := ⟨17, 17⟩) (meth := k17m17) (c := k17c17) (by decide +kernel) rfl rfl rfl (by decide +kernel)
set_option maxRecDepth 65536 in
theorem w_c66 : (Jvm.Cond.code ({ cls := "java/lang/StringUTF16", name := "checkIndex", desc := "(I[B)V" } : Jvm.MethodName) jdk_52_method_91_code (2 : Nat) (Option.none : Option Jvm.ClassFile.FieldType)).before args0 about1 = true := code_word (m := ⟨17, 19⟩) (meth := k17m19) (c := k17c19) (by decide +kernel) rfl rfl rfl (by decide +kernel)
set_option maxRecDepth 65536 in
theorem w_c67 : (Jvm.Cond.code ({ cls := "java/lang/String", name := "checkIndex", desc := "(II)V" } : Jvm.MethodName) jdk_42_method_155_code (2 : Nat) (Option.none : Option Jvm.ClassFile.FieldType)).before args0 about1 = true := code_word (m := ⟨7, 16⟩) (meth := k7m16) (c := k7c16) (by decide +kernel) rfl rfl rfl (by decide +kernel)
set_option maxRecDepth 65536 in
theorem w_c68 : (Jvm.Cond.code ({ cls := "jdk/internal/util/Preconditions", name := "checkIndex", desc := "(IILjava/util/function/BiFunction;)I" } : Jvm.MethodName) jdk_41_method_11_code (3 : Nat) (Option.some Jvm.ClassFile.FieldType.int)).before args0 about1 = true := code_word (m := ⟨16, 1⟩) (meth := k16m1) (c := k16c1) (by decide +kernel) rfl rfl rfl (by decide +kernel)
set_option maxRecDepth 65536 in
theorem w_c69 : (Jvm.Cond.code ({ cls := "java/lang/StringUTF16", name := "indexOf", desc := "([BIII)I" } : Jvm.MethodName) jdk_52_method_40_code (4 : Nat) (Option.some Jvm.ClassFile.FieldType.int)).before args0 about1 = true := code_word (m := ⟨17, 13⟩) (meth := k17m13) (c := k17c13) (by decide +kernel) rfl rfl rfl (by decide +kernel)
set_option maxRecDepth 65536 in
theorem w_c70 : (Jvm.Cond.code ({ cls := "java/lang/StringUTF16", name := "indexOfChar", desc := "([BIII)I" } : Jvm.MethodName) jdk_52_method_47_code (4 : Nat) (Option.some Jvm.ClassFile.FieldType.int)).before args0 about1 = true := code_word (m := ⟨17, 14⟩) (meth := k17m14) (c := k17c14) (by decide +kernel) rfl rfl rfl (by decide +kernel)
set_option maxRecDepth 65536 in
theorem w_c71 : (Jvm.Cond.code ({ cls := "java/lang/StringUTF16", name := "checkBoundsBeginEnd", desc := "(II[B)V" } : Jvm.MethodName) jdk_52_method_93_code (3 : Nat) (Option.none : Option Jvm.ClassFile.FieldType)).before args0 about1 = true := code_word (m := ⟨17, 20⟩) (meth := k17m20) (c := k17c20) (by decide +kernel) rfl rfl rfl (by decide +kernel)
set_option maxRecDepth 65536 in
theorem w_c72 : (Jvm.Cond.code ({ cls := "java/lang/StringUTF16", name := "indexOfCharUnsafe", desc := "([BIII)I" } : Jvm.MethodName) jdk_52_method_48_code (5 : Nat) (Option.some Jvm.ClassFile.FieldType.int)).before args0 about1 = true := code_word (m := ⟨17, 15⟩) (meth := k17m15) (c := k17c15) (by decide +kernel) rfl rfl rfl (by decide +kernel)
set_option maxRecDepth 65536 in
theorem w_c73 : (Jvm.Cond.code ({ cls := "java/lang/StringUTF16", name := "getChar", desc := "([BI)C" } : Jvm.MethodName) jdk_52_method_5_code (2 : Nat) (Option.some Jvm.ClassFile.FieldType.char)).before args0 about1 = true := code_word (m := ⟨17, 4⟩) (meth := k17m4) (c := k17c4) (by decide +kernel) rfl rfl rfl (by decide +kernel)
set_option maxRecDepth 65536 in
theorem w_c74 : (Jvm.Cond.code ({ cls := "java/lang/StringUTF16", name := "newString", desc := "([BII)Ljava/lang/String;" } : Jvm.MethodName) jdk_52_method_69_code (5 : Nat) (Option.some (Jvm.ClassFile.FieldType.object "java/lang/String"))).before args0 about1 = true := code_word (m := ⟨17, 16⟩) (meth := k17m16) (c := k17c16) (by decide +kernel) rfl rfl rfl (by decide +kernel)
set_option maxRecDepth 65536 in
theorem w_c75 : (Jvm.Cond.code ({ cls := "java/lang/StringUTF16", name := "compress", desc := "([BII)[B" } : Jvm.MethodName) jdk_52_method_17_code (6 : Nat) (Option.some (Jvm.ClassFile.FieldType.array Jvm.ClassFile.FieldType.byte))).before args0 about1 = true := code_word (m := ⟨17, 9⟩) (meth := k17m9) (c := k17c9) (by decide +kernel) rfl rfl rfl (by decide +kernel)
set_option maxRecDepth 65536 in
theorem w_c76 : (Jvm.Cond.code ({ cls := "java/lang/StringUTF16", name := "compress", desc := "([BI[BII)I" } : Jvm.MethodName) jdk_52_method_22_code (7 : Nat) (Option.some Jvm.ClassFile.FieldType.int)).before args0 about1 = true := code_word (m := ⟨17, 11⟩) (meth := k17m11) (c := k17c11) (by decide +kernel) rfl rfl rfl (by decide +kernel)
set_option maxRecDepth 65536 in
theorem w_c77 : (Jvm.Cond.code ({ cls := "java/lang/StringLatin1", name := "toBytes", desc := "(C)[B" } : Jvm.MethodName) jdk_43_method_46_code (1 : Nat) (Option.some (Jvm.ClassFile.FieldType.array Jvm.ClassFile.FieldType.byte))).before args0 about1 = true := code_word (m := ⟨13, 6⟩) (meth := k13m6) (c := k13c6) (by decide +kernel) rfl rfl rfl (by decide +kernel)
set_option maxRecDepth 65536 in
theorem w_c78 : (Jvm.Cond.code ({ cls := "java/lang/StringUTF16", name := "toBytes", desc := "([CII)[B" } : Jvm.MethodName) jdk_52_method_14_code (5 : Nat) (Option.some (Jvm.ClassFile.FieldType.array Jvm.ClassFile.FieldType.byte))).before args0 about1 = true := code_word (m := ⟨17, 6⟩) (meth := k17m6) (c := k17c6) (by decide +kernel) rfl rfl rfl (by decide +kernel)
def codes1 : List Jvm.Cond := [Jvm.Cond.code x code maxLocals ret, Jvm.Cond.code ({ cls := "com/example/any_row/anyrow/EntityKeyFromStorageKeyPinLaw", name := "nonZero", desc := "(I)C" } : Jvm.MethodName) method_3_code (1 : Nat) (Option.some Jvm.ClassFile.FieldType.char), Jvm.Cond.code ({ cls := "com/example/any_row/anyrow/EntityKeyFromStorageKeyPinLaw", name := "str", desc := "(ICC)Ljava/lang/String;" } : Jvm.MethodName) method_4_code (3 : Nat) (Option.some (Jvm.ClassFile.FieldType.object "java/lang/String")), Jvm.Cond.code ({ cls := "com/example/any_row/anyrow/EntityKey", name := "storageKey", desc := "(Ljava/lang/String;Ljava/lang/String;)Ljava/lang/String;" } : Jvm.MethodName) prog_6_method_9_code (2 : Nat) (Option.some (Jvm.ClassFile.FieldType.object "java/lang/String")), Jvm.Cond.code ({ cls := "java/lang/StringBuilder", name := "<init>", desc := "()V" } : Jvm.MethodName) jdk_67_method_1_code (1 : Nat) (Option.none : Option Jvm.ClassFile.FieldType), Jvm.Cond.code ({ cls := "java/lang/AbstractStringBuilder", name := "<init>", desc := "(I)V" } : Jvm.MethodName) jdk_68_method_2_code (2 : Nat) (Option.none : Option Jvm.ClassFile.FieldType), Jvm.Cond.code ({ cls := "java/lang/Object", name := "<init>", desc := "()V" } : Jvm.MethodName) object_method_1_code (1 : Nat) (Option.none : Option Jvm.ClassFile.FieldType), Jvm.Cond.code ({ cls := "java/lang/StringBuilder", name := "append", desc := "(Ljava/lang/String;)Ljava/lang/StringBuilder;" } : Jvm.MethodName) jdk_67_method_7_code (2 : Nat) (Option.some (Jvm.ClassFile.FieldType.object "java/lang/StringBuilder")), Jvm.Cond.code ({ cls := "java/lang/AbstractStringBuilder", name := "append", desc := "(Ljava/lang/String;)Ljava/lang/AbstractStringBuilder;" } : Jvm.MethodName) jdk_68_method_22_code (3 : Nat) (Option.some (Jvm.ClassFile.FieldType.object "java/lang/AbstractStringBuilder")), Jvm.Cond.code ({ cls := "java/lang/String", name := "length", desc := "()I" } : Jvm.MethodName) jdk_42_method_54_code (1 : Nat) (Option.some Jvm.ClassFile.FieldType.int), Jvm.Cond.code ({ cls := "java/lang/String", name := "coder", desc := "()B" } : Jvm.MethodName) jdk_42_method_152_code (1 : Nat) (Option.some Jvm.ClassFile.FieldType.byte), Jvm.Cond.code ({ cls := "java/lang/AbstractStringBuilder", name := "ensureCapacityInternal", desc := "(I)V" } : Jvm.MethodName) jdk_68_method_9_code (3 : Nat) (Option.none : Option Jvm.ClassFile.FieldType), Jvm.Cond.code ({ cls := "java/lang/AbstractStringBuilder", name := "putStringAt", desc := "(ILjava/lang/String;)V" } : Jvm.MethodName) jdk_68_method_73_code (3 : Nat) (Option.none : Option Jvm.ClassFile.FieldType), Jvm.Cond.code ({ cls := "java/lang/AbstractStringBuilder", name := "inflateIfNeededFor", desc := "(Ljava/lang/String;)V" } : Jvm.MethodName) jdk_68_method_71_code (2 : Nat) (Option.none : Option Jvm.ClassFile.FieldType), Jvm.Cond.code ({ cls := "java/lang/String", name := "getBytes", desc := "([BIB)V" } : Jvm.MethodName) jdk_42_method_147_code (4 : Nat) (Option.none : Option Jvm.ClassFile.FieldType), Jvm.Cond.code ({ cls := "java/lang/StringBuilder", name := "append", desc := "(C)Ljava/lang/StringBuilder;" } : Jvm.MethodName) jdk_67_method_14_code (2 : Nat) (Option.some (Jvm.ClassFile.FieldType.object "java/lang/StringBuilder")), Jvm.Cond.code ({ cls := "java/lang/AbstractStringBuilder", name := "append", desc := "(C)Ljava/lang/AbstractStringBuilder;" } : Jvm.MethodName) jdk_68_method_31_code (2 : Nat) (Option.some (Jvm.ClassFile.FieldType.object "java/lang/AbstractStringBuilder")), Jvm.Cond.code ({ cls := "java/lang/AbstractStringBuilder", name := "isLatin1", desc := "()Z" } : Jvm.MethodName) jdk_68_method_68_code (1 : Nat) (Option.some Jvm.ClassFile.FieldType.boolean), Jvm.Cond.code ({ cls := "java/lang/StringLatin1", name := "canEncode", desc := "(C)Z" } : Jvm.MethodName) jdk_43_method_3_code (1 : Nat) (Option.some Jvm.ClassFile.FieldType.boolean), Jvm.Cond.code ({ cls := "java/lang/StringBuilder", name := "toString", desc := "()Ljava/lang/String;" } : Jvm.MethodName) jdk_67_method_42_code (1 : Nat) (Option.some (Jvm.ClassFile.FieldType.object "java/lang/String")), Jvm.Cond.code ({ cls := "java/lang/String", name := "<init>", desc := "(Ljava/lang/StringBuilder;)V" } : Jvm.MethodName) jdk_42_method_53_code (2 : Nat) (Option.none : Option Jvm.ClassFile.FieldType), Jvm.Cond.code ({ cls := "java/lang/String", name := "<init>", desc := "(Ljava/lang/AbstractStringBuilder;Ljava/lang/Void;)V" } : Jvm.MethodName) jdk_42_method_150_code (5 : Nat) (Option.none : Option Jvm.ClassFile.FieldType), Jvm.Cond.code ({ cls := "java/lang/AbstractStringBuilder", name := "getValue", desc := "()[B" } : Jvm.MethodName) jdk_68_method_64_code (1 : Nat) (Option.some (Jvm.ClassFile.FieldType.array Jvm.ClassFile.FieldType.byte)), Jvm.Cond.code ({ cls := "java/lang/StringBuilder", name := "length", desc := "()I" } : Jvm.MethodName) jdk_67_method_93_code (1 : Nat) (Option.some Jvm.ClassFile.FieldType.int), Jvm.Cond.code ({ cls := "java/lang/AbstractStringBuilder", name := "length", desc := "()I" } : Jvm.MethodName) jdk_68_method_6_code (1 : Nat) (Option.some Jvm.ClassFile.FieldType.int), Jvm.Cond.code ({ cls := "java/util/Arrays", name := "copyOfRange", desc := "([BII)[B" } : Jvm.MethodName) jdk_65_method_132_code (3 : Nat) (Option.some (Jvm.ClassFile.FieldType.array Jvm.ClassFile.FieldType.byte)), Jvm.Cond.code ({ cls := "java/util/Arrays", name := "copyOfRangeByte", desc := "([BII)[B" } : Jvm.MethodName) jdk_65_method_133_code (5 : Nat) (Option.some (Jvm.ClassFile.FieldType.array Jvm.ClassFile.FieldType.byte)), Jvm.Cond.code ({ cls := "java/util/Arrays", name := "checkLength", desc := "(II)V" } : Jvm.MethodName) jdk_65_method_131_code (2 : Nat) (Option.none : Option Jvm.ClassFile.FieldType), Jvm.Cond.code ({ cls := "java/lang/Math", name := "min", desc := "(II)I" } : Jvm.MethodName) jdk_29_method_69_code (2 : Nat) (Option.some Jvm.ClassFile.FieldType.int), Jvm.Cond.code ({ cls := "com/example/any_row/anyrow/EntityKey", name := "fromStorageKey", desc := "(Ljava/lang/String;)Lcom/example/any_row/anyrow/EntityKey;" } : Jvm.MethodName) prog_6_method_8_code (2 : Nat) (Option.some (Jvm.ClassFile.FieldType.object "com/example/any_row/anyrow/EntityKey")), Jvm.Cond.code ({ cls := "java/lang/String", name := "indexOf", desc := "(I)I" } : Jvm.MethodName) jdk_42_method_79_code (2 : Nat) (Option.some Jvm.ClassFile.FieldType.int), Jvm.Cond.code ({ cls := "java/lang/String", name := "indexOf", desc := "(II)I" } : Jvm.MethodName) jdk_42_method_80_code (3 : Nat) (Option.some Jvm.ClassFile.FieldType.int), Jvm.Cond.code ({ cls := "java/lang/String", name := "isLatin1", desc := "()Z" } : Jvm.MethodName) jdk_42_method_154_code (1 : Nat) (Option.some Jvm.ClassFile.FieldType.boolean), Jvm.Cond.code ({ cls := "java/lang/StringLatin1", name := "indexOf", desc := "([BIII)I" } : Jvm.MethodName) jdk_43_method_22_code (4 : Nat) (Option.some Jvm.ClassFile.FieldType.int), Jvm.Cond.code ({ cls := "java/lang/StringLatin1", name := "canEncode", desc := "(I)Z" } : Jvm.MethodName) jdk_43_method_4_code (1 : Nat) (Option.some Jvm.ClassFile.FieldType.boolean), Jvm.Cond.code ({ cls := "java/lang/Math", name := "max", desc := "(II)I" } : Jvm.MethodName) jdk_29_method_65_code (2 : Nat) (Option.some Jvm.ClassFile.FieldType.int), Jvm.Cond.code ({ cls := "java/lang/StringLatin1", name := "indexOfChar", desc := "([BIII)I" } : Jvm.MethodName) jdk_43_method_23_code (6 : Nat) (Option.some Jvm.ClassFile.FieldType.int), Jvm.Cond.code ({ cls := "java/lang/String", name := "substring", desc := "(II)Ljava/lang/String;" } : Jvm.MethodName) jdk_42_method_92_code (5 : Nat) (Option.some (Jvm.ClassFile.FieldType.object "java/lang/String")), Jvm.Cond.code ({ cls := "java/lang/String", name := "checkBoundsBeginEnd", desc := "(III)V" } : Jvm.MethodName) jdk_42_method_158_code (3 : Nat) (Option.none : Option Jvm.ClassFile.FieldType), Jvm.Cond.code ({ cls := "jdk/internal/util/Preconditions", name := "checkFromToIndex", desc := "(IIILjava/util/function/BiFunction;)I" } : Jvm.MethodName) jdk_41_method_12_code (4 : Nat) (Option.some Jvm.ClassFile.FieldType.int), Jvm.Cond.code ({ cls := "java/lang/StringLatin1", name := "newString", desc := "([BII)Ljava/lang/String;" } : Jvm.MethodName) jdk_43_method_47_code (3 : Nat) (Option.some (Jvm.ClassFile.FieldType.object "java/lang/String")), Jvm.Cond.code ({ cls := "java/lang/String", name := "substring", desc := "(I)Ljava/lang/String;" } : Jvm.MethodName) jdk_42_method_91_code (2 : Nat) (Option.some (Jvm.ClassFile.FieldType.object "java/lang/String")), Jvm.Cond.code ({ cls := "com/example/any_row/anyrow/EntityKey", name := "<init>", desc := "(Ljava/lang/String;Ljava/lang/String;)V" } : Jvm.MethodName) prog_6_method_1_code (3 : Nat) (Option.none : Option Jvm.ClassFile.FieldType), Jvm.Cond.code ({ cls := "com/example/any_row/anyrow/EntityKey", name := "partitionKey", desc := "()Ljava/lang/String;" } : Jvm.MethodName) prog_6_method_4_code (1 : Nat) (Option.some (Jvm.ClassFile.FieldType.object "java/lang/String")), Jvm.Cond.code ({ cls := "java/lang/String", name := "equals", desc := "(Ljava/lang/Object;)Z" } : Jvm.MethodName) jdk_42_method_66_code (3 : Nat) (Option.some Jvm.ClassFile.FieldType.boolean), Jvm.Cond.code ({ cls := "com/example/any_row/anyrow/EntityKey", name := "rowKey", desc := "()Ljava/lang/String;" } : Jvm.MethodName) prog_6_method_5_code (1 : Nat) (Option.some (Jvm.ClassFile.FieldType.object "java/lang/String")), Jvm.Cond.code ({ cls := "java/lang/String", name := "<init>", desc := "([C)V" } : Jvm.MethodName) jdk_42_method_3_code (2 : Nat) (Option.none : Option Jvm.ClassFile.FieldType), Jvm.Cond.code ({ cls := "java/lang/String", name := "<init>", desc := "([CIILjava/lang/Void;)V" } : Jvm.MethodName) jdk_42_method_149_code (6 : Nat) (Option.none : Option Jvm.ClassFile.FieldType), Jvm.Cond.code ({ cls := "java/lang/StringUTF16", name := "compress", desc := "([CII)[B" } : Jvm.MethodName) jdk_52_method_16_code (6 : Nat) (Option.some (Jvm.ClassFile.FieldType.array Jvm.ClassFile.FieldType.byte)), Jvm.Cond.code ({ cls := "java/lang/StringUTF16", name := "compress", desc := "([CI[BII)I" } : Jvm.MethodName) jdk_52_method_21_code (7 : Nat) (Option.some Jvm.ClassFile.FieldType.int), Jvm.Cond.code ({ cls := "java/lang/StringUTF16", name := "coderFromArrayLen", desc := "([BI)B" } : Jvm.MethodName) jdk_52_method_15_code (2 : Nat) (Option.some Jvm.ClassFile.FieldType.byte), Jvm.Cond.code ({ cls := "java/lang/String", name := "<init>", desc := "([BB)V" } : Jvm.MethodName) jdk_42_method_151_code (3 : Nat) (Option.none : Option Jvm.ClassFile.FieldType), Jvm.Cond.code ({ cls := "java/lang/StringLatin1", name := "equals", desc := "([B[B)Z" } : Jvm.MethodName) jdk_43_method_13_code (3 : Nat) (Option.some Jvm.ClassFile.FieldType.boolean), Jvm.Cond.code ({ cls := "java/lang/String", name := "valueOf", desc := "(C)Ljava/lang/String;" } : Jvm.MethodName) jdk_42_method_139_code (1 : Nat) (Option.some (Jvm.ClassFile.FieldType.object "java/lang/String")), Jvm.Cond.code ({ cls := "java/lang/StringUTF16", name := "toBytes", desc := "(C)[B" } : Jvm.MethodName) jdk_52_method_24_code (2 : Nat) (Option.some (Jvm.ClassFile.FieldType.array Jvm.ClassFile.FieldType.byte)), Jvm.Cond.code ({ cls := "java/lang/StringUTF16", name := "putChar", desc := "([BII)V" } : Jvm.MethodName) jdk_52_method_4_code (3 : Nat) (Option.none : Option Jvm.ClassFile.FieldType), Jvm.Cond.code ({ cls := "java/lang/AbstractStringBuilder", name := "inflate", desc := "()V" } : Jvm.MethodName) jdk_68_method_11_code (2 : Nat) (Option.none : Option Jvm.ClassFile.FieldType), Jvm.Cond.code ({ cls := "java/lang/StringUTF16", name := "newBytesFor", desc := "(I)[B" } : Jvm.MethodName) jdk_52_method_2_code (1 : Nat) (Option.some (Jvm.ClassFile.FieldType.array Jvm.ClassFile.FieldType.byte)), Jvm.Cond.code ({ cls := "java/lang/StringUTF16", name := "newBytesLength", desc := "(I)I" } : Jvm.MethodName) jdk_52_method_3_code (1 : Nat) (Option.some Jvm.ClassFile.FieldType.int), Jvm.Cond.code ({ cls := "java/lang/StringLatin1", name := "inflate", desc := "([BI[BII)V" } : Jvm.MethodName) jdk_43_method_50_code (5 : Nat) (Option.none : Option Jvm.ClassFile.FieldType), Jvm.Cond.code ({ cls := "java/lang/StringUTF16", name := "inflate", desc := "([BI[BII)V" } : Jvm.MethodName) jdk_52_method_86_code (6 : Nat) (Option.none : Option Jvm.ClassFile.FieldType), Jvm.Cond.code ({ cls := "java/lang/StringUTF16", name := "checkBoundsOffCount", desc := "(II[B)V" } : Jvm.MethodName) jdk_52_method_94_code (3 : Nat) (Option.none : Option Jvm.ClassFile.FieldType), Jvm.Cond.code ({ cls := "java/lang/StringUTF16", name := "length", desc := "([B)I" } : Jvm.MethodName) jdk_52_method_6_code (1 : Nat) (Option.some Jvm.ClassFile.FieldType.int), Jvm.Cond.code ({ cls := "java/lang/String", name := "checkBoundsOffCount", desc := "(III)I" } : Jvm.MethodName) jdk_42_method_157_code (3 : Nat) (Option.some Jvm.ClassFile.FieldType.int), Jvm.Cond.code ({ cls := "jdk/internal/util/Preconditions", name := "checkFromIndexSize", desc := "(IIILjava/util/function/BiFunction;)I" } : Jvm.MethodName) jdk_41_method_13_code (4 : Nat) (Option.some Jvm.ClassFile.FieldType.int), Jvm.Cond.code ({ cls := "java/lang/StringUTF16", name := "putCharSB", desc := "([BII)V" } : Jvm.MethodName) jdk_52_method_71_code (3 : Nat) (Option.none : Option Jvm.ClassFile.FieldType), Jvm.Cond.code ({ cls := "java/lang/StringUTF16", name := "checkIndex", desc := "(I[B)V" } : Jvm.MethodName) jdk_52_method_91_code (2 : Nat) (Option.none : Option Jvm.ClassFile.FieldType), Jvm.Cond.code ({ cls := "java/lang/String", name := "checkIndex", desc := "(II)V" } : Jvm.MethodName) jdk_42_method_155_code (2 : Nat) (Option.none : Option Jvm.ClassFile.FieldType), Jvm.Cond.code ({ cls := "jdk/internal/util/Preconditions", name := "checkIndex", desc := "(IILjava/util/function/BiFunction;)I" } : Jvm.MethodName) jdk_41_method_11_code (3 : Nat) (Option.some Jvm.ClassFile.FieldType.int), Jvm.Cond.code ({ cls := "java/lang/StringUTF16", name := "indexOf", desc := "([BIII)I" } : Jvm.MethodName) jdk_52_method_40_code (4 : Nat) (Option.some Jvm.ClassFile.FieldType.int), Jvm.Cond.code ({ cls := "java/lang/StringUTF16", name := "indexOfChar", desc := "([BIII)I" } : Jvm.MethodName) jdk_52_method_47_code (4 : Nat) (Option.some Jvm.ClassFile.FieldType.int), Jvm.Cond.code ({ cls := "java/lang/StringUTF16", name := "checkBoundsBeginEnd", desc := "(II[B)V" } : Jvm.MethodName) jdk_52_method_93_code (3 : Nat) (Option.none : Option Jvm.ClassFile.FieldType), Jvm.Cond.code ({ cls := "java/lang/StringUTF16", name := "indexOfCharUnsafe", desc := "([BIII)I" } : Jvm.MethodName) jdk_52_method_48_code (5 : Nat) (Option.some Jvm.ClassFile.FieldType.int), Jvm.Cond.code ({ cls := "java/lang/StringUTF16", name := "getChar", desc := "([BI)C" } : Jvm.MethodName) jdk_52_method_5_code (2 : Nat) (Option.some Jvm.ClassFile.FieldType.char), Jvm.Cond.code ({ cls := "java/lang/StringUTF16", name := "newString", desc := "([BII)Ljava/lang/String;" } : Jvm.MethodName) jdk_52_method_69_code (5 : Nat) (Option.some (Jvm.ClassFile.FieldType.object "java/lang/String")), Jvm.Cond.code ({ cls := "java/lang/StringUTF16", name := "compress", desc := "([BII)[B" } : Jvm.MethodName) jdk_52_method_17_code (6 : Nat) (Option.some (Jvm.ClassFile.FieldType.array Jvm.ClassFile.FieldType.byte)), Jvm.Cond.code ({ cls := "java/lang/StringUTF16", name := "compress", desc := "([BI[BII)I" } : Jvm.MethodName) jdk_52_method_22_code (7 : Nat) (Option.some Jvm.ClassFile.FieldType.int), Jvm.Cond.code ({ cls := "java/lang/StringLatin1", name := "toBytes", desc := "(C)[B" } : Jvm.MethodName) jdk_43_method_46_code (1 : Nat) (Option.some (Jvm.ClassFile.FieldType.array Jvm.ClassFile.FieldType.byte)), Jvm.Cond.code ({ cls := "java/lang/StringUTF16", name := "toBytes", desc := "([CII)[B" } : Jvm.MethodName) jdk_52_method_14_code (5 : Nat) (Option.some (Jvm.ClassFile.FieldType.array Jvm.ClassFile.FieldType.byte))]
set_option maxRecDepth 65536 in
theorem codes_eq : words1.filter isCode = codes1 := rfl
theorem w_codes : ∀ c ∈ words1.filter isCode, c.before args0 about1 = true := by
  rw [codes_eq]
  intro c hc
  simp only [codes1, List.mem_cons, List.not_mem_nil, or_false] at hc
  rcases hc with rfl | rfl | rfl | rfl | rfl | rfl | rfl | rfl | rfl | rfl | rfl | rfl | rfl | rfl | rfl | rfl | rfl | rfl | rfl | rfl | rfl | rfl | rfl | rfl | rfl | rfl | rfl | rfl | rfl | rfl | rfl | rfl | rfl | rfl | rfl | rfl | rfl | rfl | rfl | rfl | rfl | rfl | rfl | rfl | rfl | rfl | rfl | rfl | rfl | rfl | rfl | rfl | rfl | rfl | rfl | rfl | rfl | rfl | rfl | rfl | rfl | rfl | rfl | rfl | rfl | rfl | rfl | rfl | rfl | rfl | rfl | rfl | rfl | rfl | rfl | rfl | rfl | rfl | rfl
  · exact w_c0
  · exact w_c1
  · exact w_c2
  · exact w_c3
  · exact w_c4
  · exact w_c5
  · exact w_c6
  · exact w_c7
  · exact w_c8
  · exact w_c9
  · exact w_c10
  · exact w_c11
  · exact w_c12
  · exact w_c13
  · exact w_c14
  · exact w_c15
  · exact w_c16
  · exact w_c17
  · exact w_c18
  · exact w_c19
  · exact w_c20
  · exact w_c21
  · exact w_c22
  · exact w_c23
  · exact w_c24
  · exact w_c25
  · exact w_c26
  · exact w_c27
  · exact w_c28
  · exact w_c29
  · exact w_c30
  · exact w_c31
  · exact w_c32
  · exact w_c33
  · exact w_c34
  · exact w_c35
  · exact w_c36
  · exact w_c37
  · exact w_c38
  · exact w_c39
  · exact w_c40
  · exact w_c41
  · exact w_c42
  · exact w_c43
  · exact w_c44
  · exact w_c45
  · exact w_c46
  · exact w_c47
  · exact w_c48
  · exact w_c49
  · exact w_c50
  · exact w_c51
  · exact w_c52
  · exact w_c53
  · exact w_c54
  · exact w_c55
  · exact w_c56
  · exact w_c57
  · exact w_c58
  · exact w_c59
  · exact w_c60
  · exact w_c61
  · exact w_c62
  · exact w_c63
  · exact w_c64
  · exact w_c65
  · exact w_c66
  · exact w_c67
  · exact w_c68
  · exact w_c69
  · exact w_c70
  · exact w_c71
  · exact w_c72
  · exact w_c73
  · exact w_c74
  · exact w_c75
  · exact w_c76
  · exact w_c77
  · exact w_c78
set_option maxRecDepth 65536 in
theorem w_t1 : (words1.take 24).all (fun c => isCode c || c.before args0 about1) = true := by decide +kernel
set_option maxRecDepth 65536 in
theorem w_t2 : ((words1.drop 24).take 24).all (fun c => isCode c || c.before args0 about1) = true := by decide +kernel
set_option maxRecDepth 65536 in
theorem w_t3 : (((words1.drop 24).drop 24).take 24).all (fun c => isCode c || c.before args0 about1) = true := by decide +kernel
set_option maxRecDepth 65536 in
theorem w_t4 : ((((words1.drop 24).drop 24).drop 24).take 24).all (fun c => isCode c || c.before args0 about1) = true := by decide +kernel
set_option maxRecDepth 65536 in
theorem w_t5 : (((((words1.drop 24).drop 24).drop 24).drop 24).take 24).all (fun c => isCode c || c.before args0 about1) = true := by decide +kernel
set_option maxRecDepth 65536 in
theorem w_t6 : ((((((words1.drop 24).drop 24).drop 24).drop 24).drop 24).take 24).all (fun c => isCode c || c.before args0 about1) = true := by decide +kernel
set_option maxRecDepth 65536 in
theorem w_t7 : (((((((words1.drop 24).drop 24).drop 24).drop 24).drop 24).drop 24).take 24).all (fun c => isCode c || c.before args0 about1) = true := by decide +kernel
set_option maxRecDepth 65536 in
theorem w_t8 : ((((((((words1.drop 24).drop 24).drop 24).drop 24).drop 24).drop 24).drop 24).take 24).all (fun c => isCode c || c.before args0 about1) = true := by decide +kernel
set_option maxRecDepth 65536 in
theorem w_t9 : (((((((((words1.drop 24).drop 24).drop 24).drop 24).drop 24).drop 24).drop 24).drop 24).take 24).all (fun c => isCode c || c.before args0 about1) = true := by decide +kernel
set_option maxRecDepth 65536 in
theorem w_t10 : ((((((((((words1.drop 24).drop 24).drop 24).drop 24).drop 24).drop 24).drop 24).drop 24).drop 24).take 24).all (fun c => isCode c || c.before args0 about1) = true := by decide +kernel
set_option maxRecDepth 65536 in
theorem w_t11 : (((((((((((words1.drop 24).drop 24).drop 24).drop 24).drop 24).drop 24).drop 24).drop 24).drop 24).drop 24).take 24).all (fun c => isCode c || c.before args0 about1) = true := by decide +kernel
set_option maxRecDepth 65536 in
theorem w_t12 : ((((((((((((words1.drop 24).drop 24).drop 24).drop 24).drop 24).drop 24).drop 24).drop 24).drop 24).drop 24).drop 24).take 24).all (fun c => isCode c || c.before args0 about1) = true := by decide +kernel
set_option maxRecDepth 65536 in
theorem w_t13 : (((((((((((((words1.drop 24).drop 24).drop 24).drop 24).drop 24).drop 24).drop 24).drop 24).drop 24).drop 24).drop 24).drop 24).take 24).all (fun c => isCode c || c.before args0 about1) = true := by decide +kernel
set_option maxRecDepth 65536 in
theorem w_t14 : ((((((((((((((words1.drop 24).drop 24).drop 24).drop 24).drop 24).drop 24).drop 24).drop 24).drop 24).drop 24).drop 24).drop 24).drop 24).take 24).all (fun c => isCode c || c.before args0 about1) = true := by decide +kernel
set_option maxRecDepth 65536 in
theorem w_t15 : ((((((((((((((words1.drop 24).drop 24).drop 24).drop 24).drop 24).drop 24).drop 24).drop 24).drop 24).drop 24).drop 24).drop 24).drop 24).drop 24).all (fun c => isCode c || c.before args0 about1) = true := by decide +kernel
theorem w_tables : (allAtoms (Jvm.Cond.code x code maxLocals ret :: tables_1)).before args0 about1 = true := by
  rw [allAtoms_all]
  show words1.all (fun c => c.before args0 about1) = true
  refine all_split ?_ w_codes
  rw [← List.take_append_drop 24 words1, List.all_append, w_t1, ← List.take_append_drop 24 (words1.drop 24), List.all_append, w_t2, ← List.take_append_drop 24 ((words1.drop 24).drop 24), List.all_append, w_t3, ← List.take_append_drop 24 (((words1.drop 24).drop 24).drop 24), List.all_append, w_t4, ← List.take_append_drop 24 ((((words1.drop 24).drop 24).drop 24).drop 24), List.all_append, w_t5, ← List.take_append_drop 24 (((((words1.drop 24).drop 24).drop 24).drop 24).drop 24), List.all_append, w_t6, ← List.take_append_drop 24 ((((((words1.drop 24).drop 24).drop 24).drop 24).drop 24).drop 24), List.all_append, w_t7, ← List.take_append_drop 24 (((((((words1.drop 24).drop 24).drop 24).drop 24).drop 24).drop 24).drop 24), List.all_append, w_t8, ← List.take_append_drop 24 ((((((((words1.drop 24).drop 24).drop 24).drop 24).drop 24).drop 24).drop 24).drop 24), List.all_append, w_t9, ← List.take_append_drop 24 (((((((((words1.drop 24).drop 24).drop 24).drop 24).drop 24).drop 24).drop 24).drop 24).drop 24), List.all_append, w_t10, ← List.take_append_drop 24 ((((((((((words1.drop 24).drop 24).drop 24).drop 24).drop 24).drop 24).drop 24).drop 24).drop 24).drop 24), List.all_append, w_t11, ← List.take_append_drop 24 (((((((((((words1.drop 24).drop 24).drop 24).drop 24).drop 24).drop 24).drop 24).drop 24).drop 24).drop 24).drop 24), List.all_append, w_t12, ← List.take_append_drop 24 ((((((((((((words1.drop 24).drop 24).drop 24).drop 24).drop 24).drop 24).drop 24).drop 24).drop 24).drop 24).drop 24).drop 24), List.all_append, w_t13, ← List.take_append_drop 24 (((((((((((((words1.drop 24).drop 24).drop 24).drop 24).drop 24).drop 24).drop 24).drop 24).drop 24).drop 24).drop 24).drop 24).drop 24), List.all_append, w_t14, w_t15]
  rfl
set_option maxRecDepth 65536 in
theorem w_rest : rest_1_c.before args0 about1 = true := by decide +kernel
set_option maxRecDepth 65536 in
theorem w_case : (Jvm.Cond.and given_1 narrow_1).before args0 about1 = true := by decide +kernel
set_option maxRecDepth 65536 in
theorem w_consts : constsHeld consts_1 about1 := Jvm.Lit.constsHeldB_iff.mp (by decide +kernel)
theorem w_applies : (headSpec (Jvm.Cond.code x code maxLocals ret :: tables_1) room_1).applies x e0.platform about1 = true :=
  (Spec.applies_iff w_frames).mpr ⟨w_running, w_runnable, w_alone, w_named, w_hears, w_ripe, w_room, w_tables⟩
theorem atStart : AtStart classFile x code maxLocals ret World_1 tables_1 room_1 Calls_1 rest_1 Pre_1 launch0 p0 e0 about1 theMethod args0 below0 :=
  ⟨lists_1, trivial, launch0.admits_env _ _ _, launch0.least_env, fairChoices_fair.cas, fairChoices_fair.clock, w_frames, w_args, w_heap, w_applies, ⟨w_consts, trivial⟩, w_rest, w_case⟩
end start1
theorem witness_1 : WitnessClaimed_1 := ⟨start1.p0, start1.e0, start1.about1, start1.theMethod, start1.args0, start1.below0, start1.atStart⟩
end Jvm.Pilot.@@N@@
