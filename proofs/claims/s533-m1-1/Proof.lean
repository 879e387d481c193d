import JvmDerived
import JvmDerived.Pilot.@@N@@Statement
import JvmDerived.Pilot.@@N@@Code
set_option linter.unusedVariables false
set_option linter.unusedSimpArgs false
namespace Jvm.Pilot.@@N@@
open Jvm Jvm.ClassFile Sem Op Lib Jvm.Free Jvm.Stand Jvm.LawKit Jvm.RoadKit Bundle Jvm.Pilot.@@N@@.Jvm.D
section Own
variable {w : Bool} {p : Program} {l : Launch} {e : Env} {R : Room} {s : State} {m : MethodId} {args : Array Value} {below : List Frame} {meth : Method} {c : Code} {T : State} {cells slots n0 mx : Nat} {Z : State} {a0 : Array Value} {h : Heap} {bytes : ByteArray} {ret : Option FieldType} {own nm : String} {EL : List (String × Nat)} {sf : List Addr} {Q : Outcome → State → Prop} {pc q : Nat} {Ls : Array Slot} {st rest : List Value}
def own_Base (w : Bool) (s : State) (vm0 : Vm) (h : Heap) : Prop := (w = false ∧ vm0 = s.vm) ∨ (w = true ∧ ∃ k0, s.Since vm0 k0 ∧ k0 ≤ h.size)
/-- addresses that the walk has made and that are no literal's -/
def own_Sf (Z : State) (EL : List (String × Nat)) (vm : Vm) (h : Heap) (sf : List Addr) : Prop := ∀ x ∈ sf, Safe Z EL vm h x ∧ x < h.size
def own_At (w : Bool) (p : Program) (l : Launch) (e : Env) (R : Room) (s : State) (m : MethodId) (args : Array Value) (below : List Frame) (meth : Method) (c : Code) (bytes : ByteArray) (ret : Option FieldType) (own nm : String) (mx : Nat) (Z : State) (n0 : Nat) (a0 : Array Value) (EL : List (String × Nat)) (sf : List Addr) (T : State) (h : Heap) (cells slots : Nat) : Prop :=
  (p.tables.exec = Jvm.exec ∧ c.code = bytes ∧ meth.sig.returnType = ret ∧ meth.locks = false ∧ meth.name = nm ∧ c.maxLocals = mx) ∧
  ∃ (vm0 : Vm) (locs : List Loc), Stand p l e R (s.setVm vm0) m args below meth c T locs cells slots ∧ own_Base w s vm0 h ∧ Z.Warmed39 vm0 ∧ vm0.findClass own = some m.cls ∧ T.heap = h ∧ Fr n0 locs ∧ Old Z n0 h ∧ EW Z a0 EL ∧ CHr Z EL s.vm s.heap vm0 h ∧ own_Sf Z EL vm0 h sf
def own_Run (p : Program) (e : Env) (below : List Frame) (Q : Outcome → State → Prop) (m : MethodId) (T : State) (pc : Nat) (Ls : Array Slot) (st : List Value) : Prop :=
  ∃ s₂ o, Steps p.tables e below (T.setTop (mkF m pc Ls st)) s₂ ∧ s₂.status = .running ∧ Ended s₂ below o ∧ Q o s₂
def own_End : Bool → State → Outcome → State → List Loc → Nat → Nat → Prop
  | true, s, o, t, L, k, n => ReturnedEndW s o t L k n
  | false, s, o, t, L, k, n => FrameEnd s o t L k n
/-- what an invocation leaves: Qc of the value returned and the heap -/
def own_Q (w : Bool) (s : State) (rm : Room) (n0 : Nat) (Z : State) (EL : List (String × Nat)) (Qc : Option Value → Heap → Prop) (o : Outcome) (t : State) : Prop :=
  ∃ v L, o = .returned v ∧ (Qc v t.heap ∧ Fr n0 L ∧ Old Z n0 t.heap ∧ s.heap.size ≤ t.heap.size) ∧ CHr Z EL s.vm s.heap t.vm t.heap ∧ own_End w s o t L rm.cells rm.slots
def own_Met (w : Bool) (l : Launch) (Z : State) (n0 : Nat) (EL : List (String × Nat)) (sf : List Addr) (y : MethodName) (bytes : ByteArray) (mx : Nat) (ret : Option FieldType) (ws : List Jvm.Cond) (rm : Room) (as' : Array Value) (h : Heap) (Qc : Option Value → Heap → Prop) : Prop :=
  MetFree l y (head1 (Jvm.Cond.code y bytes mx ret :: ws) rm) (fun a U => a = as' ∧ Z.Warmed39 U.vm ∧ U.heap = h ∧ CHv Z EL U.vm h ∧ own_Sf Z EL U.vm h sf) (fun _ _ _ _ _ => True) (fun _ U o U' => own_Q w U rm n0 Z EL Qc o U')
theorem own_by {T' : State} {Ls' : Array Slot} {st' : List Value} (hs : ∀ t, Steps p.tables e below (T'.setTop (mkF m q Ls' st')) t → Steps p.tables e below (T.setTop (mkF m pc Ls st)) t) (k : own_Run p e below Q m T' q Ls' st') : own_Run p e below Q m T pc Ls st := by
  obtain ⟨a, o, h1, r⟩ := k
  exact ⟨a, o, hs _ h1, r⟩
theorem own_At.old (A : own_At w p l e R s m args below meth c bytes ret own nm mx Z n0 a0 EL sf T h cells slots) : Old Z n0 h := by obtain ⟨-, _, _, -, -, -, -, -, -, O, -⟩ := A; exact O
theorem own_At.fr (A : own_At w p l e R s m args below meth c bytes ret own nm mx Z n0 a0 EL sf T h cells slots) : n0 ≤ h.size := by have O := A.old; exact O.1 ▸ O.2.1
theorem own_Base.le {vm0 : Vm} {h h' : Heap} (B : own_Base w s vm0 h) (g : h.size ≤ h'.size) : own_Base w s vm0 h' := by
  rcases B with B | ⟨B, k0, B1, B2⟩
  · exact Or.inl B
  · exact Or.inr ⟨B, k0, B1, Nat.le_trans B2 g⟩
theorem own_ch0 {vm vm1 : Vm} {h h' : Heap} (g : h.size ≤ h'.size) : CHr Z [] vm h vm1 h' := by
  refine ⟨fun p hp => ?_, g, fun y B => ?_⟩
  · cases hp
  · obtain ⟨p, hp, -⟩ := B
    cases hp
theorem own_Sf.ext {vm : Vm} {h h' : Heap} (S : own_Sf Z EL vm h sf) (H : CHv Z EL vm h) (E : Ext h h') : own_Sf Z EL vm h' sf := fun x hx => ⟨(S x hx).1.ext E H, Nat.lt_of_lt_of_le (S x hx).2 E.1⟩
theorem own_Sf.new {vm : Vm} {h h' : Heap} (S : own_Sf Z EL vm h sf) (H : CHv Z EL vm h) (E : Ext h h') (g : h.size < h'.size) : own_Sf Z EL vm h' (h.size :: sf) := fun x hx => by
  rcases List.mem_cons.mp hx with rfl | hx
  · exact ⟨(Safe.new (Nat.le_refl _)).ext E H, g⟩
  · exact S.ext H E x hx
theorem own_Sf.wr {vm : Vm} {h h' : Heap} {a : Addr} {sl : Nat} {v : Value} (S : own_Sf Z EL vm h sf) (H : CHv Z EL vm h) (W : Wr h h' a sl v) (Sa : Safe Z EL vm h a) : own_Sf Z EL vm h' sf := fun x hx => ⟨Safe.wr W Sa H (S x hx).1, by rw [W.size]; exact (S x hx).2⟩
theorem own_Sf.ch {vm vm1 : Vm} {h h' : Heap} (S : own_Sf Z EL vm h sf) (C : CHr Z EL vm h vm1 h') : own_Sf Z EL vm1 h' sf := fun x hx => ⟨C.safe (S x hx).2 (S x hx).1, Nat.lt_of_lt_of_le (S x hx).2 C.2.1⟩
/-- what may be written: a made object, anything where there are no literals, no String and no byte[] -/
def own_Wok (Z : State) (EL : List (String × Nat)) (sf : List Addr) (h : Heap) (a : Addr) : Prop := a ∈ sf ∨ EL = [] ∨ (∃ C, Exa Z h a C ∧ C ≠ "java/lang/String" ∧ C ≠ "[B") ∨ ∃ cl ty, Arr Z h a cl ty ∧ ty ≠ .byte
theorem own_Wok.safe {vm : Vm} {a : Addr} (W : own_Wok Z EL sf h a) (hZ : Z.Warmed39 vm) (S : own_Sf Z EL vm h sf) : Safe Z EL vm h a := by
  rcases W with W | rfl | ⟨C, E, h1, h2⟩ | ⟨cl, ty, Ar, ht⟩
  · exact (S a W).1
  · exact fun B => by
      obtain ⟨p, hp, -⟩ := B
      cases hp
  · exact Safe.exa hZ.alike E h1 h2
  · exact Safe.arr hZ.alike Ar ht
/-- the entry -/
theorem own_enter {y : MethodName} {mx : Nat} {ws : List Jvm.Cond} {rm : Room} {as' : Array Value} {Qc : Option Value → Heap → Prop} (hpl : plainName own = true) (O : Old Z n0 h) (hEL : EW Z a0 EL) (hef : ∀ m, entryFrame m as' mx = mkF m 0 Ls [])
    (body : ∀ p e s m args below meth c T Q, Q = own_Q w s rm n0 Z EL Qc → own_At w p l e rm s m args below meth c bytes ret own nm mx Z n0 a0 EL sf T h 0 0 → own_Run p e below Q m T 0 Ls []) (ho : y.cls = own := by rfl) (hn : y.name = nm := by rfl) : own_Met w l Z n0 EL sf y bytes mx ret ws rm as' h Qc := by
  subst ho hn
  refine MetFree.of_bodySF (plainFor_of_name hpl) hisR ?_
  intro p e s m args below meth c s₁ Bd hml0 hP hK
  obtain ⟨rfl, hZ, hh, hCH, hSf⟩ := hP
  have X0 : Stand p l e rm s m args below meth c s₁ [] 0 0 := Stand.of_body Bd
  have e0 : s₁.heap = h := by rw [← hh, Bd.state]; rfl
  have hown : s.vm.findClass y.cls = some m.cls := findClass_of_methodNamed Bd.named
  have A : own_At w p l e rm s m args below meth c bytes ret y.cls y.name mx Z n0 a0 EL sf s₁ h 0 0 :=
    ⟨⟨Bd.exec, Bd.bytes, Bd.returns, Bd.notSynchronized, (name_of_methodNamed Bd.named Bd.method).1, hml0⟩, s.vm, [], X0, (by
      cases w
      · exact Or.inl ⟨rfl, rfl⟩
      · exact Or.inr ⟨rfl, 0, (State.WarmedH.refl s).since 0, Nat.zero_le _⟩), hZ, hown, e0, Fr.nil n0, O, hEL, (by rw [hh]; exact CHr.refl hCH), hSf⟩
  obtain ⟨s₂, o, h1, h2, h3, h4⟩ := body p e s m args below meth c s₁ _ rfl A
  exact ⟨s₂, o, castTop (hef m) h1, h2, h3, h4⟩
/-- the end of a walk, whatever the returning instruction -/
theorem own_end {rm : Room} {Qc : Option Value → Heap → Prop} (A : own_At w p l e R s m args below meth c bytes ret own nm mx Z n0 a0 EL sf T h cells slots) (hQ : Q = own_Q w s rm n0 Z EL Qc) (v : Option Value) (hv : ret = none → v = none) (hq : Qc v h) (hk : cells ≤ rm.cells) (hn : slots ≤ rm.slots)
    (hs : ∀ fs, (∀ (f : JFrame) (acts : List Action), f.method = m → f.locked = none → f.entered = [] → (doReturn e (T.setTop f) acts v).1 = T.setFrames fs) → Steps p.tables e below (T.setTop (mkF m pc Ls st)) (T.setFrames fs)) : own_Run p e below Q m T pc Ls st := by
  subst hQ
  obtain ⟨⟨hx, hby, hret, hlk, hnm, hml⟩, vm0, locs, X, B, hZ, hown, hT, N, O, hEL, Ch, Sf⟩ := A
  subst hT
  have Ch' := Ch.trans (CHv.at X hZ hEL Ch.1)
  rcases B with ⟨rfl, rfl⟩ | ⟨rfl, k0, B1, B2⟩
  · have X' : Stand p l e R s m args below meth c T locs cells slots := X
    obtain ⟨fs, hr, hrun, hended, hW, hsame⟩ := X'.leave (v := v) (fun z => hv (hret ▸ z)) hlk
    exact ⟨_, _, hs fs hr, hrun, hended, v, locs, rfl, ⟨hq, N, O, X'.same.2.1⟩, Ch', ⟨_, rfl⟩, hW, hsame.mono hk hn⟩
  · obtain ⟨fs, hr, hrun, hended, hW⟩ := X.leaveW B1 B2 (v := v) (fun z => hv (hret ▸ z)) hlk
    exact ⟨_, _, hs fs hr, hrun, hended, v, locs, rfl, ⟨hq, N, O, X.same.2.1⟩, Ch', hW.1, hW.2.1, hW.2.2.1, hW.2.2.2.mono hk hn⟩
theorem own_retN {z : Int32} {t : FieldType} {rm : Room} {Qc : Option Value → Heap → Prop} (A : own_At w p l e R s m args below meth c bytes (some t) own nm mx Z n0 a0 EL sf T h cells slots) (hQ : Q = own_Q w s rm n0 Z EL Qc) (ht : t = .boolean ∨ t = .byte ∨ t = .char ∨ t = .short) (hd : decode bytes pc = .ok (.ireturn, 1)) (hq : Qc (some (.int (nar t z))) h) (hk : cells ≤ rm.cells := by decide) (hn : slots ≤ rm.slots := by decide) : own_Run p e below Q m T pc Ls (.int z :: rest) := by
  obtain ⟨⟨hx, hby, hret, hlk, hnm, hml⟩, vm0, locs, X, r⟩ := id A
  subst hby
  exact own_end A hQ (some (.int (nar t z))) (fun z => by cases z) hq hk hn (fun fs hr => RoadKit.retN X hx hret ht hd hr)
theorem own_retI {z : Int32} {rm : Room} {Qc : Option Value → Heap → Prop} (A : own_At w p l e R s m args below meth c bytes (some .int) own nm mx Z n0 a0 EL sf T h cells slots) (hQ : Q = own_Q w s rm n0 Z EL Qc)  (hd : decode bytes pc = .ok (.ireturn, 1)) (hq : Qc (some (.int z)) h) (hk : cells ≤ rm.cells := by decide) (hn : slots ≤ rm.slots := by decide) : own_Run p e below Q m T pc Ls (.int z :: rest) := by
  obtain ⟨⟨hx, hby, hret, hlk, hnm, hml⟩, vm0, locs, X, r⟩ := id A
  subst hby
  exact own_end A hQ (some (.int z)) (fun z => by cases z) hq hk hn (fun fs hr => RoadKit.retOut X hx hret rfl (Or.inl ⟨rfl, Or.inl rfl, z, rfl⟩) hd hr)
theorem own_retJ {z : Int64} {rm : Room} {Qc : Option Value → Heap → Prop} (A : own_At w p l e R s m args below meth c bytes (some .long) own nm mx Z n0 a0 EL sf T h cells slots) (hQ : Q = own_Q w s rm n0 Z EL Qc)  (hd : decode bytes pc = .ok (.lreturn, 1)) (hq : Qc (some (.long z)) h) (hk : cells ≤ rm.cells := by decide) (hn : slots ≤ rm.slots := by decide) : own_Run p e below Q m T pc Ls (.long z :: rest) := by
  obtain ⟨⟨hx, hby, hret, hlk, hnm, hml⟩, vm0, locs, X, r⟩ := id A
  subst hby
  exact own_end A hQ (some (.long z)) (fun z => by cases z) hq hk hn (fun fs hr => RoadKit.retOut X hx hret rfl (Or.inr (Or.inl ⟨rfl, rfl, z, rfl⟩)) hd hr)
theorem own_retD {z : UInt64} {rm : Room} {Qc : Option Value → Heap → Prop} (A : own_At w p l e R s m args below meth c bytes (some .double) own nm mx Z n0 a0 EL sf T h cells slots) (hQ : Q = own_Q w s rm n0 Z EL Qc)  (hd : decode bytes pc = .ok (.dreturn, 1)) (hq : Qc (some (.double z)) h) (hk : cells ≤ rm.cells := by decide) (hn : slots ≤ rm.slots := by decide) : own_Run p e below Q m T pc Ls (.double z :: rest) := by
  obtain ⟨⟨hx, hby, hret, hlk, hnm, hml⟩, vm0, locs, X, r⟩ := id A
  subst hby
  exact own_end A hQ (some (.double z)) (fun z => by cases z) hq hk hn (fun fs hr => RoadKit.retOut X hx hret rfl (Or.inr (Or.inr (Or.inl ⟨rfl, rfl, z, rfl⟩))) hd hr)
theorem own_retA {z : Value} {t : FieldType} {rm : Room} {Qc : Option Value → Heap → Prop} (A : own_At w p l e R s m args below meth c bytes (some t) own nm mx Z n0 a0 EL sf T h cells slots) (hQ : Q = own_Q w s rm n0 Z EL Qc) (ht : t.isReference = true) (hz : z.isRef = true) (hnz : narrow t z = z) (hd : decode bytes pc = .ok (.areturn, 1)) (hq : Qc (some z) h) (hk : cells ≤ rm.cells := by decide) (hn : slots ≤ rm.slots := by decide) : own_Run p e below Q m T pc Ls (z :: rest) := by
  obtain ⟨⟨hx, hby, hret, hlk, hnm, hml⟩, vm0, locs, X, r⟩ := id A
  subst hby
  exact own_end A hQ (some z) (fun z => by cases z) hq hk hn (fun fs hr => RoadKit.retOut X hx hret hnz (Or.inr (Or.inr (Or.inr (Or.inr ⟨rfl, ht, hz⟩)))) hd hr)
theorem own_ret0 {rm : Room} {Qc : Option Value → Heap → Prop} (A : own_At w p l e R s m args below meth c bytes none own nm mx Z n0 a0 EL sf T h cells slots) (hQ : Q = own_Q w s rm n0 Z EL Qc) (hd : decode bytes pc = .ok (.return_, 1)) (hq : Qc none h) (hk : cells ≤ rm.cells := by decide) (hn : slots ≤ rm.slots := by decide) : own_Run p e below Q m T pc Ls [] := by
  obtain ⟨⟨hx, hby, hret, hlk, hnm, hml⟩, vm0, locs, X, r⟩ := id A
  subst hby
  exact own_end A hQ none (fun _ => rfl) hq hk hn (fun fs hr => X.returnOut hx hret hd hr)
theorem own_aloadN (A : own_At w p l e R s m args below meth c bytes ret own nm mx Z n0 a0 EL sf T h cells slots) {i : Fin 4} {v : Value} (hd : decode bytes pc = .ok (.aload_n i, 1)) (hl : Ls[i.val]? = some (.val v)) (hv : v.isRef = true) (k : own_Run p e below Q m T q Ls (v :: st)) (hq : pc + 1 = q := by rfl) : own_Run p e below Q m T pc Ls st := by
  obtain ⟨⟨hx, hby, -⟩, vm0, locs, X, -⟩ := A
  subst hby hq
  refine own_by (fun t z => ?_) k
  exact XS.aloadN X.here hx rfl hd hl hv z
theorem own_aload (A : own_At w p l e R s m args below meth c bytes ret own nm mx Z n0 a0 EL sf T h cells slots) {i : Nat} {v : Value} (hd : decode bytes pc = .ok (.aload i, 2)) (hl : Ls[i]? = some (.val v)) (hv : v.isRef = true) (k : own_Run p e below Q m T q Ls (v :: st)) (hq : pc + 2 = q := by rfl) : own_Run p e below Q m T pc Ls st := by
  obtain ⟨⟨hx, hby, -⟩, vm0, locs, X, -⟩ := A
  subst hby hq
  refine own_by (fun t z => ?_) k
  exact XS.aload X.here hx rfl hd hl hv z
theorem own_iloadN (A : own_At w p l e R s m args below meth c bytes ret own nm mx Z n0 a0 EL sf T h cells slots) {i : Fin 4} {v : Int32} (hd : decode bytes pc = .ok (.iload_n i, 1)) (hl : Ls[i.val]? = some (.val (.int v))) (k : own_Run p e below Q m T q Ls (.int v :: st)) (hq : pc + 1 = q := by rfl) : own_Run p e below Q m T pc Ls st := by
  obtain ⟨⟨hx, hby, -⟩, vm0, locs, X, -⟩ := A
  subst hby hq
  refine own_by (fun t z => ?_) k
  exact XS.iloadN X.here hx rfl hd hl z
theorem own_iload (A : own_At w p l e R s m args below meth c bytes ret own nm mx Z n0 a0 EL sf T h cells slots) {i : Nat} {v : Int32} (hd : decode bytes pc = .ok (.iload i, 2)) (hl : Ls[i]? = some (.val (.int v))) (k : own_Run p e below Q m T q Ls (.int v :: st)) (hq : pc + 2 = q := by rfl) : own_Run p e below Q m T pc Ls st := by
  obtain ⟨⟨hx, hby, -⟩, vm0, locs, X, -⟩ := A
  subst hby hq
  refine own_by (fun t z => ?_) k
  exact XS.iload X.here hx rfl hd hl z
theorem own_istoreN (A : own_At w p l e R s m args below meth c bytes ret own nm mx Z n0 a0 EL sf T h cells slots) {i : Fin 4} {v : Int32} {L' : Array Slot} (hd : decode bytes pc = .ok (.istore_n i, 1)) (hl : storeLocals Ls i.val (.int v) = some L') (k : own_Run p e below Q m T q L' rest) (hq : pc + 1 = q := by rfl) : own_Run p e below Q m T pc Ls (.int v :: rest) := by
  obtain ⟨⟨hx, hby, -⟩, vm0, locs, X, -⟩ := A
  subst hby hq
  refine own_by (fun t z => ?_) k
  exact XS.istoreN X.here hx rfl hd rfl hl z
theorem own_istore (A : own_At w p l e R s m args below meth c bytes ret own nm mx Z n0 a0 EL sf T h cells slots) {i : Nat} {v : Int32} {L' : Array Slot} (hd : decode bytes pc = .ok (.istore i, 2)) (hl : storeLocals Ls i (.int v) = some L') (k : own_Run p e below Q m T q L' rest) (hq : pc + 2 = q := by rfl) : own_Run p e below Q m T pc Ls (.int v :: rest) := by
  obtain ⟨⟨hx, hby, -⟩, vm0, locs, X, -⟩ := A
  subst hby hq
  refine own_by (fun t z => ?_) k
  exact XS.istore X.here hx rfl hd rfl hl z
theorem own_lloadN (A : own_At w p l e R s m args below meth c bytes ret own nm mx Z n0 a0 EL sf T h cells slots) {i : Fin 4} {v : Int64} (hd : decode bytes pc = .ok (.lload_n i, 1)) (hl : Ls[i.val]? = some (.val (.long v))) (k : own_Run p e below Q m T q Ls (.long v :: st)) (hq : pc + 1 = q := by rfl) : own_Run p e below Q m T pc Ls st := by
  obtain ⟨⟨hx, hby, -⟩, vm0, locs, X, -⟩ := A
  subst hby hq
  refine own_by (fun t z => ?_) k
  exact XS.lloadN X.here hx rfl hd hl z
theorem own_lload (A : own_At w p l e R s m args below meth c bytes ret own nm mx Z n0 a0 EL sf T h cells slots) {i : Nat} {v : Int64} (hd : decode bytes pc = .ok (.lload i, 2)) (hl : Ls[i]? = some (.val (.long v))) (k : own_Run p e below Q m T q Ls (.long v :: st)) (hq : pc + 2 = q := by rfl) : own_Run p e below Q m T pc Ls st := by
  obtain ⟨⟨hx, hby, -⟩, vm0, locs, X, -⟩ := A
  subst hby hq
  refine own_by (fun t z => ?_) k
  exact XS.lload X.here hx rfl hd hl z
theorem own_lstoreN (A : own_At w p l e R s m args below meth c bytes ret own nm mx Z n0 a0 EL sf T h cells slots) {i : Fin 4} {v : Int64} {L' : Array Slot} (hd : decode bytes pc = .ok (.lstore_n i, 1)) (hl : storeLocals Ls i.val (.long v) = some L') (k : own_Run p e below Q m T q L' rest) (hq : pc + 1 = q := by rfl) : own_Run p e below Q m T pc Ls (.long v :: rest) := by
  obtain ⟨⟨hx, hby, -⟩, vm0, locs, X, -⟩ := A
  subst hby hq
  refine own_by (fun t z => ?_) k
  exact XS.lstoreN X.here hx rfl hd rfl hl z
theorem own_lstore (A : own_At w p l e R s m args below meth c bytes ret own nm mx Z n0 a0 EL sf T h cells slots) {i : Nat} {v : Int64} {L' : Array Slot} (hd : decode bytes pc = .ok (.lstore i, 2)) (hl : storeLocals Ls i (.long v) = some L') (k : own_Run p e below Q m T q L' rest) (hq : pc + 2 = q := by rfl) : own_Run p e below Q m T pc Ls (.long v :: rest) := by
  obtain ⟨⟨hx, hby, -⟩, vm0, locs, X, -⟩ := A
  subst hby hq
  refine own_by (fun t z => ?_) k
  exact XS.lstore X.here hx rfl hd rfl hl z
theorem own_dloadN (A : own_At w p l e R s m args below meth c bytes ret own nm mx Z n0 a0 EL sf T h cells slots) {i : Fin 4} {v : UInt64} (hd : decode bytes pc = .ok (.dload_n i, 1)) (hl : Ls[i.val]? = some (.val (.double v))) (k : own_Run p e below Q m T q Ls (.double v :: st)) (hq : pc + 1 = q := by rfl) : own_Run p e below Q m T pc Ls st := by
  obtain ⟨⟨hx, hby, -⟩, vm0, locs, X, -⟩ := A
  subst hby hq
  refine own_by (fun t z => ?_) k
  exact XS.dloadN X.here hx rfl hd hl z
theorem own_dload (A : own_At w p l e R s m args below meth c bytes ret own nm mx Z n0 a0 EL sf T h cells slots) {i : Nat} {v : UInt64} (hd : decode bytes pc = .ok (.dload i, 2)) (hl : Ls[i]? = some (.val (.double v))) (k : own_Run p e below Q m T q Ls (.double v :: st)) (hq : pc + 2 = q := by rfl) : own_Run p e below Q m T pc Ls st := by
  obtain ⟨⟨hx, hby, -⟩, vm0, locs, X, -⟩ := A
  subst hby hq
  refine own_by (fun t z => ?_) k
  exact XS.dload X.here hx rfl hd hl z
theorem own_dstoreN (A : own_At w p l e R s m args below meth c bytes ret own nm mx Z n0 a0 EL sf T h cells slots) {i : Fin 4} {v : UInt64} {L' : Array Slot} (hd : decode bytes pc = .ok (.dstore_n i, 1)) (hl : storeLocals Ls i.val (.double v) = some L') (k : own_Run p e below Q m T q L' rest) (hq : pc + 1 = q := by rfl) : own_Run p e below Q m T pc Ls (.double v :: rest) := by
  obtain ⟨⟨hx, hby, -⟩, vm0, locs, X, -⟩ := A
  subst hby hq
  refine own_by (fun t z => ?_) k
  exact XS.dstoreN X.here hx rfl hd rfl hl z
theorem own_dstore (A : own_At w p l e R s m args below meth c bytes ret own nm mx Z n0 a0 EL sf T h cells slots) {i : Nat} {v : UInt64} {L' : Array Slot} (hd : decode bytes pc = .ok (.dstore i, 2)) (hl : storeLocals Ls i (.double v) = some L') (k : own_Run p e below Q m T q L' rest) (hq : pc + 2 = q := by rfl) : own_Run p e below Q m T pc Ls (.double v :: rest) := by
  obtain ⟨⟨hx, hby, -⟩, vm0, locs, X, -⟩ := A
  subst hby hq
  refine own_by (fun t z => ?_) k
  exact XS.dstore X.here hx rfl hd rfl hl z
theorem own_astoreN (A : own_At w p l e R s m args below meth c bytes ret own nm mx Z n0 a0 EL sf T h cells slots) {i : Fin 4} {v : Value} {L' : Array Slot} (hd : decode bytes pc = .ok (.astore_n i, 1)) (hv : v.isRef = true) (hl : storeLocals Ls i.val v = some L') (k : own_Run p e below Q m T q L' rest) (hq : pc + 1 = q := by rfl) : own_Run p e below Q m T pc Ls (v :: rest) := by
  obtain ⟨⟨hx, hby, -⟩, vm0, locs, X, -⟩ := A
  subst hby hq
  refine own_by (fun t z => ?_) k
  exact XS.astoreN X.here hx rfl hd rfl hv hl z
theorem own_astore (A : own_At w p l e R s m args below meth c bytes ret own nm mx Z n0 a0 EL sf T h cells slots) {i : Nat} {v : Value} {L' : Array Slot} (hd : decode bytes pc = .ok (.astore i, 2)) (hv : v.isRef = true) (hl : storeLocals Ls i v = some L') (k : own_Run p e below Q m T q L' rest) (hq : pc + 2 = q := by rfl) : own_Run p e below Q m T pc Ls (v :: rest) := by
  obtain ⟨⟨hx, hby, -⟩, vm0, locs, X, -⟩ := A
  subst hby hq
  refine own_by (fun t z => ?_) k
  exact XS.astore X.here hx rfl hd rfl hv hl z
theorem own_iconst (A : own_At w p l e R s m args below meth c bytes ret own nm mx Z n0 a0 EL sf T h cells slots) {i : Int} (v : Int32) (hd : decode bytes pc = .ok (.iconst i, 1)) (hv : Int32.ofInt i = v) (k : own_Run p e below Q m T q Ls (.int v :: st)) (hq : pc + 1 = q := by rfl) : own_Run p e below Q m T pc Ls st := by
  obtain ⟨⟨hx, hby, -⟩, vm0, locs, X, -⟩ := A
  subst hby hq hv
  refine own_by (fun t z => ?_) k
  exact XS.iconst X.here hx rfl hd z
theorem own_bipush (A : own_At w p l e R s m args below meth c bytes ret own nm mx Z n0 a0 EL sf T h cells slots) {i : Int} (v : Int32) (hd : decode bytes pc = .ok (.bipush i, 2)) (hv : (Int8.ofInt i).toInt32 = v) (k : own_Run p e below Q m T q Ls (.int v :: st)) (hq : pc + 2 = q := by rfl) : own_Run p e below Q m T pc Ls st := by
  obtain ⟨⟨hx, hby, -⟩, vm0, locs, X, -⟩ := A
  subst hby hq hv
  refine own_by (fun t z => ?_) k
  exact XS.bipush X.here hx rfl hd z
theorem own_sipush (A : own_At w p l e R s m args below meth c bytes ret own nm mx Z n0 a0 EL sf T h cells slots) {i : Int} (v : Int32) (hd : decode bytes pc = .ok (.sipush i, 3)) (hv : (Int16.ofInt i).toInt32 = v) (k : own_Run p e below Q m T q Ls (.int v :: st)) (hq : pc + 3 = q := by rfl) : own_Run p e below Q m T pc Ls st := by
  obtain ⟨⟨hx, hby, -⟩, vm0, locs, X, -⟩ := A
  subst hby hq hv
  refine own_by (fun t z => ?_) k
  exact XS.sipush X.here hx rfl hd z
theorem own_lconst (A : own_At w p l e R s m args below meth c bytes ret own nm mx Z n0 a0 EL sf T h cells slots) {i : Fin 2} (v : Int64) (hd : decode bytes pc = .ok (.lconst i, 1)) (hv : Int64.ofNat i = v) (k : own_Run p e below Q m T q Ls (.long v :: st)) (hq : pc + 1 = q := by rfl) : own_Run p e below Q m T pc Ls st := by
  obtain ⟨⟨hx, hby, -⟩, vm0, locs, X, -⟩ := A
  subst hby hq hv
  refine own_by (fun t z => ?_) k
  exact XS.lconst X.here hx rfl hd z
theorem own_aconstNull (A : own_At w p l e R s m args below meth c bytes ret own nm mx Z n0 a0 EL sf T h cells slots)  (hd : decode bytes pc = .ok (.aconst_null, 1))  (k : own_Run p e below Q m T q Ls (.null :: st)) (hq : pc + 1 = q := by rfl) : own_Run p e below Q m T pc Ls st := by
  obtain ⟨⟨hx, hby, -⟩, vm0, locs, X, -⟩ := A
  subst hby hq
  refine own_by (fun t z => ?_) k
  exact XS.aconstNull X.here hx rfl hd  z
theorem own_iadd (A : own_At w p l e R s m args below meth c bytes ret own nm mx Z n0 a0 EL sf T h cells slots) {x y : Int32} (hd : decode bytes pc = .ok (.iadd, 1))  (k : own_Run p e below Q m T q Ls (.int (x + y) :: rest)) (hq : pc + 1 = q := by rfl) : own_Run p e below Q m T pc Ls (.int y :: .int x :: rest) := by
  obtain ⟨⟨hx, hby, -⟩, vm0, locs, X, -⟩ := A
  subst hby hq
  refine own_by (fun t z => ?_) k
  exact XS.iadd X.here hx rfl hd rfl z
theorem own_ladd (A : own_At w p l e R s m args below meth c bytes ret own nm mx Z n0 a0 EL sf T h cells slots) {x y : Int64} (hd : decode bytes pc = .ok (.ladd, 1))  (k : own_Run p e below Q m T q Ls (.long (x + y) :: rest)) (hq : pc + 1 = q := by rfl) : own_Run p e below Q m T pc Ls (.long y :: .long x :: rest) := by
  obtain ⟨⟨hx, hby, -⟩, vm0, locs, X, -⟩ := A
  subst hby hq
  refine own_by (fun t z => ?_) k
  exact XS.ladd X.here hx rfl hd rfl z
theorem own_isub (A : own_At w p l e R s m args below meth c bytes ret own nm mx Z n0 a0 EL sf T h cells slots) {x y : Int32} (hd : decode bytes pc = .ok (.isub, 1))  (k : own_Run p e below Q m T q Ls (.int (x - y) :: rest)) (hq : pc + 1 = q := by rfl) : own_Run p e below Q m T pc Ls (.int y :: .int x :: rest) := by
  obtain ⟨⟨hx, hby, -⟩, vm0, locs, X, -⟩ := A
  subst hby hq
  refine own_by (fun t z => ?_) k
  exact XS.isub X.here hx rfl hd rfl z
theorem own_lsub (A : own_At w p l e R s m args below meth c bytes ret own nm mx Z n0 a0 EL sf T h cells slots) {x y : Int64} (hd : decode bytes pc = .ok (.lsub, 1))  (k : own_Run p e below Q m T q Ls (.long (x - y) :: rest)) (hq : pc + 1 = q := by rfl) : own_Run p e below Q m T pc Ls (.long y :: .long x :: rest) := by
  obtain ⟨⟨hx, hby, -⟩, vm0, locs, X, -⟩ := A
  subst hby hq
  refine own_by (fun t z => ?_) k
  exact XS.lsub X.here hx rfl hd rfl z
theorem own_imul (A : own_At w p l e R s m args below meth c bytes ret own nm mx Z n0 a0 EL sf T h cells slots) {x y : Int32} (hd : decode bytes pc = .ok (.imul, 1))  (k : own_Run p e below Q m T q Ls (.int (x * y) :: rest)) (hq : pc + 1 = q := by rfl) : own_Run p e below Q m T pc Ls (.int y :: .int x :: rest) := by
  obtain ⟨⟨hx, hby, -⟩, vm0, locs, X, -⟩ := A
  subst hby hq
  refine own_by (fun t z => ?_) k
  exact XS.imul X.here hx rfl hd rfl z
theorem own_lmul (A : own_At w p l e R s m args below meth c bytes ret own nm mx Z n0 a0 EL sf T h cells slots) {x y : Int64} (hd : decode bytes pc = .ok (.lmul, 1))  (k : own_Run p e below Q m T q Ls (.long (x * y) :: rest)) (hq : pc + 1 = q := by rfl) : own_Run p e below Q m T pc Ls (.long y :: .long x :: rest) := by
  obtain ⟨⟨hx, hby, -⟩, vm0, locs, X, -⟩ := A
  subst hby hq
  refine own_by (fun t z => ?_) k
  exact XS.lmul X.here hx rfl hd rfl z
theorem own_iand (A : own_At w p l e R s m args below meth c bytes ret own nm mx Z n0 a0 EL sf T h cells slots) {x y : Int32} (hd : decode bytes pc = .ok (.iand, 1))  (k : own_Run p e below Q m T q Ls (.int (x &&& y) :: rest)) (hq : pc + 1 = q := by rfl) : own_Run p e below Q m T pc Ls (.int y :: .int x :: rest) := by
  obtain ⟨⟨hx, hby, -⟩, vm0, locs, X, -⟩ := A
  subst hby hq
  refine own_by (fun t z => ?_) k
  exact XS.iand X.here hx rfl hd rfl z
theorem own_land (A : own_At w p l e R s m args below meth c bytes ret own nm mx Z n0 a0 EL sf T h cells slots) {x y : Int64} (hd : decode bytes pc = .ok (.land, 1))  (k : own_Run p e below Q m T q Ls (.long (x &&& y) :: rest)) (hq : pc + 1 = q := by rfl) : own_Run p e below Q m T pc Ls (.long y :: .long x :: rest) := by
  obtain ⟨⟨hx, hby, -⟩, vm0, locs, X, -⟩ := A
  subst hby hq
  refine own_by (fun t z => ?_) k
  exact XS.land X.here hx rfl hd rfl z
theorem own_ior (A : own_At w p l e R s m args below meth c bytes ret own nm mx Z n0 a0 EL sf T h cells slots) {x y : Int32} (hd : decode bytes pc = .ok (.ior, 1))  (k : own_Run p e below Q m T q Ls (.int (x ||| y) :: rest)) (hq : pc + 1 = q := by rfl) : own_Run p e below Q m T pc Ls (.int y :: .int x :: rest) := by
  obtain ⟨⟨hx, hby, -⟩, vm0, locs, X, -⟩ := A
  subst hby hq
  refine own_by (fun t z => ?_) k
  exact XS.ior X.here hx rfl hd rfl z
theorem own_lor (A : own_At w p l e R s m args below meth c bytes ret own nm mx Z n0 a0 EL sf T h cells slots) {x y : Int64} (hd : decode bytes pc = .ok (.lor, 1))  (k : own_Run p e below Q m T q Ls (.long (x ||| y) :: rest)) (hq : pc + 1 = q := by rfl) : own_Run p e below Q m T pc Ls (.long y :: .long x :: rest) := by
  obtain ⟨⟨hx, hby, -⟩, vm0, locs, X, -⟩ := A
  subst hby hq
  refine own_by (fun t z => ?_) k
  exact XS.lor X.here hx rfl hd rfl z
theorem own_ixor (A : own_At w p l e R s m args below meth c bytes ret own nm mx Z n0 a0 EL sf T h cells slots) {x y : Int32} (hd : decode bytes pc = .ok (.ixor, 1))  (k : own_Run p e below Q m T q Ls (.int (x ^^^ y) :: rest)) (hq : pc + 1 = q := by rfl) : own_Run p e below Q m T pc Ls (.int y :: .int x :: rest) := by
  obtain ⟨⟨hx, hby, -⟩, vm0, locs, X, -⟩ := A
  subst hby hq
  refine own_by (fun t z => ?_) k
  exact XS.ixor X.here hx rfl hd rfl z
theorem own_lxor (A : own_At w p l e R s m args below meth c bytes ret own nm mx Z n0 a0 EL sf T h cells slots) {x y : Int64} (hd : decode bytes pc = .ok (.lxor, 1))  (k : own_Run p e below Q m T q Ls (.long (x ^^^ y) :: rest)) (hq : pc + 1 = q := by rfl) : own_Run p e below Q m T pc Ls (.long y :: .long x :: rest) := by
  obtain ⟨⟨hx, hby, -⟩, vm0, locs, X, -⟩ := A
  subst hby hq
  refine own_by (fun t z => ?_) k
  exact XS.lxor X.here hx rfl hd rfl z
theorem own_ishl (A : own_At w p l e R s m args below meth c bytes ret own nm mx Z n0 a0 EL sf T h cells slots) {x y : Int32} (hd : decode bytes pc = .ok (.ishl, 1))  (k : own_Run p e below Q m T q Ls (.int (x <<< (y &&& 31)) :: rest)) (hq : pc + 1 = q := by rfl) : own_Run p e below Q m T pc Ls (.int y :: .int x :: rest) := by
  obtain ⟨⟨hx, hby, -⟩, vm0, locs, X, -⟩ := A
  subst hby hq
  refine own_by (fun t z => ?_) k
  exact XS.ishl X.here hx rfl hd rfl z
theorem own_ishr (A : own_At w p l e R s m args below meth c bytes ret own nm mx Z n0 a0 EL sf T h cells slots) {x y : Int32} (hd : decode bytes pc = .ok (.ishr, 1))  (k : own_Run p e below Q m T q Ls (.int (x >>> (y &&& 31)) :: rest)) (hq : pc + 1 = q := by rfl) : own_Run p e below Q m T pc Ls (.int y :: .int x :: rest) := by
  obtain ⟨⟨hx, hby, -⟩, vm0, locs, X, -⟩ := A
  subst hby hq
  refine own_by (fun t z => ?_) k
  exact XS.ishr X.here hx rfl hd rfl z
theorem own_iushr (A : own_At w p l e R s m args below meth c bytes ret own nm mx Z n0 a0 EL sf T h cells slots) {x y : Int32} (hd : decode bytes pc = .ok (.iushr, 1))  (k : own_Run p e below Q m T q Ls (.int ((x.toUInt32 >>> (y &&& 31).toUInt32).toInt32) :: rest)) (hq : pc + 1 = q := by rfl) : own_Run p e below Q m T pc Ls (.int y :: .int x :: rest) := by
  obtain ⟨⟨hx, hby, -⟩, vm0, locs, X, -⟩ := A
  subst hby hq
  refine own_by (fun t z => ?_) k
  exact XS.iushr X.here hx rfl hd rfl z
theorem own_idiv (A : own_At w p l e R s m args below meth c bytes ret own nm mx Z n0 a0 EL sf T h cells slots) {x y : Int32} (hd : decode bytes pc = .ok (.idiv, 1)) (hy : y ≠ 0) (k : own_Run p e below Q m T q Ls (.int (x / y) :: rest)) (hq : pc + 1 = q := by rfl) : own_Run p e below Q m T pc Ls (.int y :: .int x :: rest) := by
  obtain ⟨⟨hx, hby, -⟩, vm0, locs, X, -⟩ := A
  subst hby hq
  refine own_by (fun t z => ?_) k
  exact XS.idiv X.here hx rfl hd rfl hy z
theorem own_ldiv (A : own_At w p l e R s m args below meth c bytes ret own nm mx Z n0 a0 EL sf T h cells slots) {x y : Int64} (hd : decode bytes pc = .ok (.ldiv, 1)) (hy : y ≠ 0) (k : own_Run p e below Q m T q Ls (.long (x / y) :: rest)) (hq : pc + 1 = q := by rfl) : own_Run p e below Q m T pc Ls (.long y :: .long x :: rest) := by
  obtain ⟨⟨hx, hby, -⟩, vm0, locs, X, -⟩ := A
  subst hby hq
  refine own_by (fun t z => ?_) k
  exact XS.ldiv X.here hx rfl hd rfl hy z
theorem own_lrem (A : own_At w p l e R s m args below meth c bytes ret own nm mx Z n0 a0 EL sf T h cells slots) {x y : Int64} (hd : decode bytes pc = .ok (.lrem, 1)) (hy : y ≠ 0) (k : own_Run p e below Q m T q Ls (.long (x - (x / y) * y) :: rest)) (hq : pc + 1 = q := by rfl) : own_Run p e below Q m T pc Ls (.long y :: .long x :: rest) := by
  obtain ⟨⟨hx, hby, -⟩, vm0, locs, X, -⟩ := A
  subst hby hq
  refine own_by (fun t z => ?_) k
  exact XS.lrem X.here hx rfl hd rfl hy z
theorem own_irem (A : own_At w p l e R s m args below meth c bytes ret own nm mx Z n0 a0 EL sf T h cells slots) {x y : Int32} (hd : decode bytes pc = .ok (.irem, 1)) (hy : y ≠ 0) (k : own_Run p e below Q m T q Ls (.int (x % y) :: rest)) (hq : pc + 1 = q := by rfl) : own_Run p e below Q m T pc Ls (.int y :: .int x :: rest) := by
  obtain ⟨⟨hx, hby, -⟩, vm0, locs, X, -⟩ := A
  subst hby hq
  refine own_by (fun t z => ?_) k
  exact iremM X hx rfl hd rfl hy z
theorem own_ineg (A : own_At w p l e R s m args below meth c bytes ret own nm mx Z n0 a0 EL sf T h cells slots) {x : Int32} (hd : decode bytes pc = .ok (.ineg, 1))  (k : own_Run p e below Q m T q Ls (.int (-x) :: rest)) (hq : pc + 1 = q := by rfl) : own_Run p e below Q m T pc Ls (.int x :: rest) := by
  obtain ⟨⟨hx, hby, -⟩, vm0, locs, X, -⟩ := A
  subst hby hq
  refine own_by (fun t z => ?_) k
  exact XS.ineg X.here hx rfl hd rfl z
theorem own_lneg (A : own_At w p l e R s m args below meth c bytes ret own nm mx Z n0 a0 EL sf T h cells slots) {x : Int64} (hd : decode bytes pc = .ok (.lneg, 1))  (k : own_Run p e below Q m T q Ls (.long (-x) :: rest)) (hq : pc + 1 = q := by rfl) : own_Run p e below Q m T pc Ls (.long x :: rest) := by
  obtain ⟨⟨hx, hby, -⟩, vm0, locs, X, -⟩ := A
  subst hby hq
  refine own_by (fun t z => ?_) k
  exact XS.lneg X.here hx rfl hd rfl z
theorem own_i2b (A : own_At w p l e R s m args below meth c bytes ret own nm mx Z n0 a0 EL sf T h cells slots) {x : Int32} (hd : decode bytes pc = .ok (.i2b, 1))  (k : own_Run p e below Q m T q Ls (.int (x.toInt8.toInt32) :: rest)) (hq : pc + 1 = q := by rfl) : own_Run p e below Q m T pc Ls (.int x :: rest) := by
  obtain ⟨⟨hx, hby, -⟩, vm0, locs, X, -⟩ := A
  subst hby hq
  refine own_by (fun t z => ?_) k
  exact XS.i2b X.here hx rfl hd rfl z
theorem own_i2c (A : own_At w p l e R s m args below meth c bytes ret own nm mx Z n0 a0 EL sf T h cells slots) {x : Int32} (hd : decode bytes pc = .ok (.i2c, 1))  (k : own_Run p e below Q m T q Ls (.int (x.toUInt32.toUInt16.toUInt32.toInt32) :: rest)) (hq : pc + 1 = q := by rfl) : own_Run p e below Q m T pc Ls (.int x :: rest) := by
  obtain ⟨⟨hx, hby, -⟩, vm0, locs, X, -⟩ := A
  subst hby hq
  refine own_by (fun t z => ?_) k
  exact XS.i2c X.here hx rfl hd rfl z
theorem own_i2s (A : own_At w p l e R s m args below meth c bytes ret own nm mx Z n0 a0 EL sf T h cells slots) {x : Int32} (hd : decode bytes pc = .ok (.i2s, 1))  (k : own_Run p e below Q m T q Ls (.int (x.toInt16.toInt32) :: rest)) (hq : pc + 1 = q := by rfl) : own_Run p e below Q m T pc Ls (.int x :: rest) := by
  obtain ⟨⟨hx, hby, -⟩, vm0, locs, X, -⟩ := A
  subst hby hq
  refine own_by (fun t z => ?_) k
  exact XS.i2s X.here hx rfl hd rfl z
theorem own_i2l (A : own_At w p l e R s m args below meth c bytes ret own nm mx Z n0 a0 EL sf T h cells slots) {x : Int32} (hd : decode bytes pc = .ok (.i2l, 1))  (k : own_Run p e below Q m T q Ls (.long (x.toInt64) :: rest)) (hq : pc + 1 = q := by rfl) : own_Run p e below Q m T pc Ls (.int x :: rest) := by
  obtain ⟨⟨hx, hby, -⟩, vm0, locs, X, -⟩ := A
  subst hby hq
  refine own_by (fun t z => ?_) k
  exact XS.i2l X.here hx rfl hd rfl z
theorem own_l2i (A : own_At w p l e R s m args below meth c bytes ret own nm mx Z n0 a0 EL sf T h cells slots) {x : Int64} (hd : decode bytes pc = .ok (.l2i, 1))  (k : own_Run p e below Q m T q Ls (.int (x.toInt32) :: rest)) (hq : pc + 1 = q := by rfl) : own_Run p e below Q m T pc Ls (.long x :: rest) := by
  obtain ⟨⟨hx, hby, -⟩, vm0, locs, X, -⟩ := A
  subst hby hq
  refine own_by (fun t z => ?_) k
  exact XS.l2i X.here hx rfl hd rfl z
theorem own_lcmp (A : own_At w p l e R s m args below meth c bytes ret own nm mx Z n0 a0 EL sf T h cells slots) {x y : Int64} (hd : decode bytes pc = .ok (.lcmp, 1))  (k : own_Run p e below Q m T q Ls (.int (lcmpW x y) :: rest)) (hq : pc + 1 = q := by rfl) : own_Run p e below Q m T pc Ls (.long y :: .long x :: rest) := by
  obtain ⟨⟨hx, hby, -⟩, vm0, locs, X, -⟩ := A
  subst hby hq
  refine own_by (fun t z => ?_) k
  exact XS.lcmp X.here hx rfl hd rfl z
theorem own_dup (A : own_At w p l e R s m args below meth c bytes ret own nm mx Z n0 a0 EL sf T h cells slots) {x : Value} (hd : decode bytes pc = .ok (.dup, 1)) (hc : x.category = 1) (k : own_Run p e below Q m T q Ls (x :: x :: rest)) (hq : pc + 1 = q := by rfl) : own_Run p e below Q m T pc Ls (x :: rest) := by
  obtain ⟨⟨hx, hby, -⟩, vm0, locs, X, -⟩ := A
  subst hby hq
  refine own_by (fun t z => ?_) k
  exact XS.dup X.here hx rfl hd rfl hc z
theorem own_pop (A : own_At w p l e R s m args below meth c bytes ret own nm mx Z n0 a0 EL sf T h cells slots) {x : Value} (hd : decode bytes pc = .ok (.pop, 1)) (hc : x.category = 1) (k : own_Run p e below Q m T q Ls rest) (hq : pc + 1 = q := by rfl) : own_Run p e below Q m T pc Ls (x :: rest) := by
  obtain ⟨⟨hx, hby, -⟩, vm0, locs, X, -⟩ := A
  subst hby hq
  refine own_by (fun t z => ?_) k
  exact XS.pop X.here hx rfl hd rfl hc z
theorem own_dupX1 (A : own_At w p l e R s m args below meth c bytes ret own nm mx Z n0 a0 EL sf T h cells slots) {x y : Value} (hd : decode bytes pc = .ok (.dup_x1, 1)) (hc : x.category = 1) (hc2 : y.category = 1) (k : own_Run p e below Q m T q Ls (x :: y :: x :: rest)) (hq : pc + 1 = q := by rfl) : own_Run p e below Q m T pc Ls (x :: y :: rest) := by
  obtain ⟨⟨hx, hby, -⟩, vm0, locs, X, -⟩ := A
  subst hby hq
  refine own_by (fun t z => ?_) k
  exact XS.dupX1 X.here hx rfl hd rfl hc hc2 z
theorem own_iinc (A : own_At w p l e R s m args below meth c bytes ret own nm mx Z n0 a0 EL sf T h cells slots) {i : Nat} {cst : Int} {x v : Int32} {L' : Array Slot} (hd : decode bytes pc = .ok (.iinc i cst, 3)) (hl : Ls[i]? = some (.val (.int x))) (hv : Int32.ofInt cst = v) (hl' : storeLocals Ls i (.int (x + v)) = some L') (k : own_Run p e below Q m T q L' st) (hq : pc + 3 = q := by rfl) : own_Run p e below Q m T pc Ls st := by
  obtain ⟨⟨hx, hby, -⟩, vm0, locs, X, -⟩ := A
  subst hby hq hv
  refine own_by (fun t z => ?_) k
  exact XS.iinc X.here hx rfl hd hl hl' z
theorem own_dconst0 (A : own_At w p l e R s m args below meth c bytes ret own nm mx Z n0 a0 EL sf T h cells slots) (hd : decode bytes pc = .ok (.dconst 0, 1)) (k : own_Run p e below Q m T q Ls (.double FP.dconst0 :: st)) (hq : pc + 1 = q := by rfl) : own_Run p e below Q m T pc Ls st := by
  obtain ⟨⟨hx, hby, -⟩, vm0, locs, X, -⟩ := A
  subst hby hq
  refine own_by (fun t z => ?_) k
  exact XS.dconst0 X.here hx rfl hd rfl z
theorem own_dconst1 (A : own_At w p l e R s m args below meth c bytes ret own nm mx Z n0 a0 EL sf T h cells slots) (hd : decode bytes pc = .ok (.dconst 1, 1)) (k : own_Run p e below Q m T q Ls (.double FP.dconst1 :: st)) (hq : pc + 1 = q := by rfl) : own_Run p e below Q m T pc Ls st := by
  obtain ⟨⟨hx, hby, -⟩, vm0, locs, X, -⟩ := A
  subst hby hq
  refine own_by (fun t z => ?_) k
  exact XS.dconst1 X.here hx rfl hd rfl z
theorem own_i2d (A : own_At w p l e R s m args below meth c bytes ret own nm mx Z n0 a0 EL sf T h cells slots) {x : Int32} (hd : decode bytes pc = .ok (.i2d, 1))  (k : own_Run p e below Q m T q Ls (.double (FP.i2d x) :: rest)) (hq : pc + 1 = q := by rfl) : own_Run p e below Q m T pc Ls (.int x :: rest) := by
  obtain ⟨⟨hx, hby, -⟩, vm0, locs, X, -⟩ := A
  subst hby hq
  refine own_by (fun t z => ?_) k
  exact XS.i2dS X.here hx rfl hd rfl rfl z
theorem own_l2d (A : own_At w p l e R s m args below meth c bytes ret own nm mx Z n0 a0 EL sf T h cells slots) {x : Int64} (hd : decode bytes pc = .ok (.l2d, 1))  (k : own_Run p e below Q m T q Ls (.double (FP.l2d x) :: rest)) (hq : pc + 1 = q := by rfl) : own_Run p e below Q m T pc Ls (.long x :: rest) := by
  obtain ⟨⟨hx, hby, -⟩, vm0, locs, X, -⟩ := A
  subst hby hq
  refine own_by (fun t z => ?_) k
  exact XS.l2dS X.here hx rfl hd rfl rfl z
theorem own_dcmp (A : own_At w p l e R s m args below meth c bytes ret own nm mx Z n0 a0 EL sf T h cells slots) {o : CmpOp} {x y : UInt64} (hd : decode bytes pc = .ok (.dcmp o, 1))  (k : own_Run p e below Q m T q Ls (.int (cmpValue (FP.dcmp x y) o) :: rest)) (hq : pc + 1 = q := by rfl) : own_Run p e below Q m T pc Ls (.double y :: .double x :: rest) := by
  obtain ⟨⟨hx, hby, -⟩, vm0, locs, X, -⟩ := A
  subst hby hq
  refine own_by (fun t z => ?_) k
  exact XS.dcmpS X.here hx rfl hd rfl rfl z
theorem own_dadd (A : own_At w p l e R s m args below meth c bytes ret own nm mx Z n0 a0 EL sf T h cells slots) {x y : UInt64} (hd : decode bytes pc = .ok (.dadd, 1)) (hn : Jvm.Free.Fl.NoNaN64 (FP.dadd x y)) (k : own_Run p e below Q m T q Ls (.double (FP.dadd x y) :: rest)) (hq : pc + 1 = q := by rfl) : own_Run p e below Q m T pc Ls (.double y :: .double x :: rest) := by
  obtain ⟨⟨hx, hby, -⟩, vm0, locs, X, -⟩ := A
  subst hby hq
  refine own_by (fun t z => ?_) k
  exact XS.daddS X.here hx rfl hd rfl hn rfl z
theorem own_ddiv (A : own_At w p l e R s m args below meth c bytes ret own nm mx Z n0 a0 EL sf T h cells slots) {x y : UInt64} (hd : decode bytes pc = .ok (.ddiv, 1)) (hn : Jvm.Free.Fl.NoNaN64 (FP.ddiv x y)) (k : own_Run p e below Q m T q Ls (.double (FP.ddiv x y) :: rest)) (hq : pc + 1 = q := by rfl) : own_Run p e below Q m T pc Ls (.double y :: .double x :: rest) := by
  obtain ⟨⟨hx, hby, -⟩, vm0, locs, X, -⟩ := A
  subst hby hq
  refine own_by (fun t z => ?_) k
  exact XS.ddivS X.here hx rfl hd rfl hn rfl z
theorem own_goto (A : own_At w p l e R s m args below meth c bytes ret own nm mx Z n0 a0 EL sf T h cells slots) {o : Int} (hd : decode bytes pc = .ok (.goto o, 3)) (k : own_Run p e below Q m T q Ls st) (ho : 0 ≤ (pc : Int) + o := by decide) (hq : ((pc : Int) + o).toNat = q := by decide) : own_Run p e below Q m T pc Ls st := by
  obtain ⟨⟨hx, hby, -⟩, vm0, locs, X, -⟩ := A
  subst hby
  refine own_by (fun t z => ?_) k
  exact XS.goto X.here hx rfl (pc0 := pc) rfl hd ho hq z
def own_cp : ClassFile.Cond → Int32 → Int32 → Prop
  | .eq, x, y => x = y
  | .ne, x, y => ¬ x = y
  | .lt, x, y => x < y
  | .ge, x, y => ¬ x < y
  | .gt, x, y => y < x
  | .le, x, y => ¬ y < x
def own_cn : ClassFile.Cond → Int32 → Int32 → Prop
  | .eq, x, y => ¬ x = y
  | .ne, x, y => x = y
  | .lt, x, y => ¬ x < y
  | .ge, x, y => x < y
  | .gt, x, y => ¬ y < x
  | .le, x, y => y < x
theorem own_cpT {cd : ClassFile.Cond} {x y : Int32} (h : own_cp cd x y) : if_icmp.holds cd x y = true := by
  cases cd
  all_goals simp only [own_cp] at h
  · exact (teq h).1
  · exact (feq h).2
  · exact (tlt h).1
  · exact (flt h).2.1
  · exact (tlt h).2.2.1
  · exact (flt h).2.2.2
theorem own_cnF {cd : ClassFile.Cond} {x y : Int32} (h : own_cn cd x y) : if_icmp.holds cd x y = false := by
  cases cd
  all_goals simp only [own_cn] at h
  · exact (feq h).1
  · exact (teq h).2
  · exact (flt h).1
  · exact (tlt h).2.1
  · exact (flt h).2.2.1
  · exact (tlt h).2.2.2
theorem own_cpn (cd : ClassFile.Cond) (x y : Int32) : own_cp cd x y ∨ own_cn cd x y := by
  cases cd <;> simp only [own_cp, own_cn]
  · exact Classical.em _
  · exact (Classical.em _).symm
  · exact Classical.em _
  · exact (Classical.em _).symm
  · exact Classical.em _
  · exact (Classical.em _).symm
theorem own_ifcT (A : own_At w p l e R s m args below meth c bytes ret own nm mx Z n0 a0 EL sf T h cells slots) {cd : ClassFile.Cond} {x : Int32} {o : Int} (hd : decode bytes pc = .ok (.ifCond cd o, 3)) (hc : own_cp cd x (0 : Int32)) (k : own_Run p e below Q m T q Ls rest) (ho : 0 ≤ (pc : Int) + o := by decide) (hq : ((pc : Int) + o).toNat = q := by decide) : own_Run p e below Q m T pc Ls (.int x :: rest) := by
  obtain ⟨⟨hx, hby, -⟩, vm0, locs, X, -⟩ := A
  subst hby
  refine own_by (fun t z => ?_) k
  exact XS.ifYes X.here hx rfl (pc0 := pc) rfl hd rfl (by rw [if0]; exact own_cpT hc) ho hq z
theorem own_ifcF (A : own_At w p l e R s m args below meth c bytes ret own nm mx Z n0 a0 EL sf T h cells slots) {cd : ClassFile.Cond} {x : Int32} {o : Int} (hd : decode bytes pc = .ok (.ifCond cd o, 3)) (hc : own_cn cd x (0 : Int32)) (k : own_Run p e below Q m T q Ls rest) (hq : pc + 3 = q := by rfl) : own_Run p e below Q m T pc Ls (.int x :: rest) := by
  obtain ⟨⟨hx, hby, -⟩, vm0, locs, X, -⟩ := A
  subst hby hq
  refine own_by (fun t z => ?_) k
  exact XS.ifNo X.here hx rfl hd rfl (by rw [if0]; exact own_cnF hc) z
theorem own_ifc (A : own_At w p l e R s m args below meth c bytes ret own nm mx Z n0 a0 EL sf T h cells slots) {cd : ClassFile.Cond} {x : Int32} {o : Int} {q' : Nat} (hd : decode bytes pc = .ok (.ifCond cd o, 3)) (kt : own_cp cd x (0 : Int32) → own_Run p e below Q m T q Ls rest) (kf : own_cn cd x (0 : Int32) → own_Run p e below Q m T q' Ls rest) (ho : 0 ≤ (pc : Int) + o := by decide) (hq : ((pc : Int) + o).toNat = q := by decide) (hq' : pc + 3 = q' := by rfl) : own_Run p e below Q m T pc Ls (.int x :: rest) :=
  (own_cpn cd x (0 : Int32)).elim (fun z => own_ifcT A hd z (kt z) ho hq) (fun z => own_ifcF A hd z (kf z) hq')
theorem own_icmpT (A : own_At w p l e R s m args below meth c bytes ret own nm mx Z n0 a0 EL sf T h cells slots) {cd : ClassFile.Cond} {x y : Int32} {o : Int} (hd : decode bytes pc = .ok (.if_icmp cd o, 3)) (hc : own_cp cd x y) (k : own_Run p e below Q m T q Ls rest) (ho : 0 ≤ (pc : Int) + o := by decide) (hq : ((pc : Int) + o).toNat = q := by decide) : own_Run p e below Q m T pc Ls (.int y :: .int x :: rest) := by
  obtain ⟨⟨hx, hby, -⟩, vm0, locs, X, -⟩ := A
  subst hby
  refine own_by (fun t z => ?_) k
  exact XS.icmpYes X.here hx rfl (pc0 := pc) rfl hd rfl (own_cpT hc) ho hq z
theorem own_icmpF (A : own_At w p l e R s m args below meth c bytes ret own nm mx Z n0 a0 EL sf T h cells slots) {cd : ClassFile.Cond} {x y : Int32} {o : Int} (hd : decode bytes pc = .ok (.if_icmp cd o, 3)) (hc : own_cn cd x y) (k : own_Run p e below Q m T q Ls rest) (hq : pc + 3 = q := by rfl) : own_Run p e below Q m T pc Ls (.int y :: .int x :: rest) := by
  obtain ⟨⟨hx, hby, -⟩, vm0, locs, X, -⟩ := A
  subst hby hq
  refine own_by (fun t z => ?_) k
  exact XS.icmpNo X.here hx rfl hd rfl (own_cnF hc) z
theorem own_icmp (A : own_At w p l e R s m args below meth c bytes ret own nm mx Z n0 a0 EL sf T h cells slots) {cd : ClassFile.Cond} {x y : Int32} {o : Int} {q' : Nat} (hd : decode bytes pc = .ok (.if_icmp cd o, 3)) (kt : own_cp cd x y → own_Run p e below Q m T q Ls rest) (kf : own_cn cd x y → own_Run p e below Q m T q' Ls rest) (ho : 0 ≤ (pc : Int) + o := by decide) (hq : ((pc : Int) + o).toNat = q := by decide) (hq' : pc + 3 = q' := by rfl) : own_Run p e below Q m T pc Ls (.int y :: .int x :: rest) :=
  (own_cpn cd x y).elim (fun z => own_icmpT A hd z (kt z) ho hq) (fun z => own_icmpF A hd z (kf z) hq')
theorem own_acmpT (A : own_At w p l e R s m args below meth c bytes ret own nm mx Z n0 a0 EL sf T h cells slots) {cd : ClassFile.ACond} {x y : Value} {o : Int} (hd : decode bytes pc = .ok (.if_acmp cd o, 3)) (hx' : x.isRef = true) (hy' : y.isRef = true) (hc : XT.acmp cd x y = true) (k : own_Run p e below Q m T q Ls rest) (ho : 0 ≤ (pc : Int) + o := by decide) (hq : ((pc : Int) + o).toNat = q := by decide) : own_Run p e below Q m T pc Ls (y :: x :: rest) := by
  obtain ⟨⟨hx, hby, -⟩, vm0, locs, X, -⟩ := A
  subst hby
  refine own_by (fun t z => ?_) k
  exact XT.acmpYes X.here hx rfl (pc0 := pc) rfl hd rfl hx' hy' hc ho hq z
theorem own_acmpF (A : own_At w p l e R s m args below meth c bytes ret own nm mx Z n0 a0 EL sf T h cells slots) {cd : ClassFile.ACond} {x y : Value} {o : Int} (hd : decode bytes pc = .ok (.if_acmp cd o, 3)) (hx' : x.isRef = true) (hy' : y.isRef = true) (hc : XT.acmp cd x y = false) (k : own_Run p e below Q m T q Ls rest) (hq : pc + 3 = q := by rfl) : own_Run p e below Q m T pc Ls (y :: x :: rest) := by
  obtain ⟨⟨hx, hby, -⟩, vm0, locs, X, -⟩ := A
  subst hby hq
  refine own_by (fun t z => ?_) k
  exact XT.acmpNo X.here hx rfl hd rfl hx' hy' hc z
theorem own_ifnullT (A : own_At w p l e R s m args below meth c bytes ret own nm mx Z n0 a0 EL sf T h cells slots) {b : Addr} {o : Int} (hd : decode bytes pc = .ok (.ifnull o, 3)) (k : own_Run p e below Q m T q Ls rest) (ho : 0 ≤ (pc : Int) + o := by decide) (hq : ((pc : Int) + o).toNat = q := by decide) : own_Run p e below Q m T pc Ls (.null :: rest) := by
  obtain ⟨⟨hx, hby, -⟩, vm0, locs, X, -⟩ := A
  subst hby
  refine own_by (fun t z => ?_) k
  exact XS.ifnullYes X.here hx rfl (pc0 := pc) rfl hd rfl ho hq z
theorem own_ifnullF (A : own_At w p l e R s m args below meth c bytes ret own nm mx Z n0 a0 EL sf T h cells slots) {b : Addr} {o : Int} (hd : decode bytes pc = .ok (.ifnull o, 3)) (k : own_Run p e below Q m T q Ls rest) (hq : pc + 3 = q := by rfl) : own_Run p e below Q m T pc Ls (.ref b :: rest) := by
  obtain ⟨⟨hx, hby, -⟩, vm0, locs, X, -⟩ := A
  subst hby hq
  refine own_by (fun t z => ?_) k
  exact XS.ifnullNo X.here hx rfl hd rfl z
theorem own_ifnonnullT (A : own_At w p l e R s m args below meth c bytes ret own nm mx Z n0 a0 EL sf T h cells slots) {b : Addr} {o : Int} (hd : decode bytes pc = .ok (.ifnonnull o, 3)) (k : own_Run p e below Q m T q Ls rest) (ho : 0 ≤ (pc : Int) + o := by decide) (hq : ((pc : Int) + o).toNat = q := by decide) : own_Run p e below Q m T pc Ls (.ref b :: rest) := by
  obtain ⟨⟨hx, hby, -⟩, vm0, locs, X, -⟩ := A
  subst hby
  refine own_by (fun t z => ?_) k
  exact XS.ifnonnullYes X.here hx rfl (pc0 := pc) rfl hd rfl ho hq z
theorem own_ifnonnullF (A : own_At w p l e R s m args below meth c bytes ret own nm mx Z n0 a0 EL sf T h cells slots) {b : Addr} {o : Int} (hd : decode bytes pc = .ok (.ifnonnull o, 3)) (k : own_Run p e below Q m T q Ls rest) (hq : pc + 3 = q := by rfl) : own_Run p e below Q m T pc Ls (.null :: rest) := by
  obtain ⟨⟨hx, hby, -⟩, vm0, locs, X, -⟩ := A
  subst hby hq
  refine own_by (fun t z => ?_) k
  exact XS.ifnonnullNo X.here hx rfl hd rfl z
theorem own_tswIn (A : own_At w p l e R s m args below meth c bytes ret own nm mx Z n0 a0 EL sf T h cells slots) {dflt low high : Int} {offs : Array Int} {len : Nat} {i : Int32} {o : Int} (hd : decode bytes pc = .ok (.tableswitch dflt low high offs, len)) (hin : ¬ (i.toInt < low ∨ i.toInt > high)) (hoff : offs[(i.toInt - low).toNat]? = some o) (k : own_Run p e below Q m T q Ls rest) (ho : 0 ≤ (pc : Int) + o := by decide) (hq : ((pc : Int) + o).toNat = q := by decide) : own_Run p e below Q m T pc Ls (.int i :: rest) := by
  obtain ⟨⟨hx, hby, -⟩, vm0, locs, X, -⟩ := A
  subst hby
  refine own_by (fun t z => ?_) k
  exact XS.tswIn X.here hx rfl (pc0 := pc) rfl hd rfl hin hoff ho hq z
theorem own_tswOut (A : own_At w p l e R s m args below meth c bytes ret own nm mx Z n0 a0 EL sf T h cells slots) {o low high : Int} {offs : Array Int} {len : Nat} {i : Int32} (hd : decode bytes pc = .ok (.tableswitch o low high offs, len)) (hout : i.toInt < low ∨ i.toInt > high) (k : own_Run p e below Q m T q Ls rest) (ho : 0 ≤ (pc : Int) + o := by decide) (hq : ((pc : Int) + o).toNat = q := by decide) : own_Run p e below Q m T pc Ls (.int i :: rest) := by
  obtain ⟨⟨hx, hby, -⟩, vm0, locs, X, -⟩ := A
  subst hby
  refine own_by (fun t z => ?_) k
  exact XS.tswOut X.here hx rfl (pc0 := pc) rfl hd rfl hout ho hq z
theorem own_ldcI (A : own_At w p l e R s m args below meth c bytes ret own nm mx Z n0 a0 EL sf T h cells slots) {i : Nat} {v : Int32} (wc : (Jvm.Cond.constant own i v).before a0 Z = true) (hd : decode bytes pc = .ok (.ldc i, 2)) (k : own_Run p e below Q m T q Ls (.int v :: st)) (hq : pc + 2 = q := by rfl) : own_Run p e below Q m T pc Ls st := by
  obtain ⟨⟨hx, hby, -⟩, vm0, locs, X, B, hZ, hown, hT, N, Od, hEL, Ch, Sf⟩ := A
  subst hby hq
  refine own_by (fun t z => ?_) k
  exact X.ldcI hx (s := s.setVm vm0) hown (mv (s := s.setVm vm0) hZ wc) rfl hd z
theorem own_ldcWI (A : own_At w p l e R s m args below meth c bytes ret own nm mx Z n0 a0 EL sf T h cells slots) {i : Nat} {v : Int32} (wc : (Jvm.Cond.constant own i v).before a0 Z = true) (hd : decode bytes pc = .ok (.ldc_w i, 3)) (k : own_Run p e below Q m T q Ls (.int v :: st)) (hq : pc + 3 = q := by rfl) : own_Run p e below Q m T pc Ls st := by
  obtain ⟨⟨hx, hby, -⟩, vm0, locs, X, B, hZ, hown, hT, N, Od, hEL, Ch, Sf⟩ := A
  subst hby hq
  refine own_by (fun t z => ?_) k
  exact X.ldcWI hx (s := s.setVm vm0) hown (mv (s := s.setVm vm0) hZ wc) rfl hd z
theorem own_ldc2J (A : own_At w p l e R s m args below meth c bytes ret own nm mx Z n0 a0 EL sf T h cells slots) {i : Nat} {v : Int64} (wc : (Jvm.Cond.constantLong own i v).before a0 Z = true) (hd : decode bytes pc = .ok (.ldc2_w i, 3)) (k : own_Run p e below Q m T q Ls (.long v :: st)) (hq : pc + 3 = q := by rfl) : own_Run p e below Q m T pc Ls st := by
  obtain ⟨⟨hx, hby, -⟩, vm0, locs, X, B, hZ, hown, hT, N, Od, hEL, Ch, Sf⟩ := A
  subst hby hq
  refine own_by (fun t z => ?_) k
  exact X.ldc2J hx (s := s.setVm vm0) hown (mv (s := s.setVm vm0) hZ wc) rfl hd z
theorem own_getF (A : own_At w p l e R s m args below meth c bytes ret own nm mx Z n0 a0 EL sf T h cells slots) {i : Nat} {R0 O n d host : String} {a : Addr} {v : Value} (wl : (Jvm.Cond.fieldLink own i R0 n d).before a0 Z = true ∨ (Jvm.Cond.fieldLinkNest own i R0 n d host).before a0 Z = true) (via : Via Z R0 O n d) (F : Fld Z h a O n d v) (hd : decode bytes pc = .ok (.getfield i, 3))
    (k : ∀ T', own_At w p l e R s m args below meth c bytes ret own nm mx Z n0 a0 EL sf T' h cells slots → own_Run p e below Q m T' q Ls (v :: rest)) (hq : pc + 3 = q := by rfl) : own_Run p e below Q m T pc Ls (.ref a :: rest) := by
  obtain ⟨⟨hx, hby, r⟩, vm0, locs, X, B, hZ, hown, hT, N, Od, hEL, Ch, Sf⟩ := A
  subst hby hq
  obtain ⟨T', X', e', st'⟩ := getF X hx (s := s.setVm vm0) hZ hown wl via hT F (g := mkF m pc Ls (.ref a :: rest)) rfl rfl hd
  exact own_by st' (k T' ⟨⟨hx, rfl, r⟩, vm0, locs, X', B, hZ, hown, e', N, Od, hEL, Ch, Sf⟩)
theorem own_getS (A : own_At w p l e R s m args below meth c bytes ret own nm mx Z n0 a0 EL sf T h cells slots) {i : Nat} {R0 O n d : String} {v : Value} (wl : (Jvm.Cond.fieldLink own i R0 n d).before a0 Z = true) (via : Via Z R0 O n d) (F : Sta Z Z.heap O n d v) (hd : decode bytes pc = .ok (.getstatic i, 3))
    (k : ∀ T', own_At w p l e R s m args below meth c bytes ret own nm mx Z n0 a0 EL sf T' h cells slots → own_Run p e below Q m T' q Ls (v :: st)) (hq : pc + 3 = q := by rfl) : own_Run p e below Q m T pc Ls st := by
  obtain ⟨⟨hx, hby, r⟩, vm0, locs, X, B, hZ, hown, hT, N, Od, hEL, Ch, Sf⟩ := A
  subst hby hq
  obtain ⟨T', X', e', st'⟩ := getS X hx (s := s.setVm vm0) (host := "") hZ hown wl via hT (F.ext Od.2) (g := mkF m pc Ls st) rfl hd
  exact own_by st' (k T' ⟨⟨hx, rfl, r⟩, vm0, locs, X', B, hZ, hown, e', N, Od, hEL, Ch, Sf⟩)
theorem own_putF (A : own_At w p l e R s m args below meth c bytes ret own nm mx Z n0 a0 EL sf T h cells slots) {i kk : Nat} {R0 O n d host C : String} {ty : FieldType} {a : Addr} {v old : Value} (wl : (Jvm.Cond.fieldLink own i R0 n d).before a0 Z = true ∨ (Jvm.Cond.fieldLinkNest own i R0 n d host).before a0 Z = true) (via : Via Z R0 O n d) (F : Fld Z h a O n d old) (E : Exa Z h a C) (L : (Jvm.Cond.lays C O n d).before a0 Z = true ∨ ((Jvm.Cond.laysFinal C O n d).before a0 Z = true ∧ own = O ∧ nm = "<init>")) (wi : (Jvm.Cond.instantiable C kk).before a0 Z = true)
    (hty : parseFieldDescriptor d = some ty) (hn : narrow ty v = v) (hf : fits ty v = true) (ha : n0 ≤ a) (hwo : own_Wok Z EL sf h a) (hd : decode bytes pc = .ok (.putfield i, 3)) (k : ∀ T' h', own_At w p l e R s m args below meth c bytes ret own nm mx Z n0 a0 EL sf T' h' cells slots → Wr h h' a (RoadKit.slotOf Z O n d) v → own_Run p e below Q m T' q Ls rest) (hq : pc + 3 = q := by rfl) : own_Run p e below Q m T pc Ls (v :: .ref a :: rest) := by
  obtain ⟨⟨hx, hby, r1, r2, r3, r4⟩, vm0, locs, X, B, hZ, hown, hT, N, Od, hEL, Ch, Sf⟩ := A
  subst hby hq
  obtain ⟨T', h', X', e', W, st'⟩ := putF X hx (s := s.setVm vm0) hZ hown wl via hT F E (L.imp id fun z => ⟨z.1, z.2.1, r3.trans z.2.2⟩) wi hty hn hf (g := mkF m pc Ls (v :: .ref a :: rest)) rfl rfl hd
  exact own_by st' (k T' h' ⟨⟨hx, rfl, r1, r2, r3, r4⟩, vm0, _, X', B.le (Nat.le_of_eq W.size.symm), hZ, hown, e', Fr.snoc X' N ha, Od.wr W ha, hEL, Ch.trans (CHr.wr W (hwo.safe hZ Sf) Ch.1), Sf.wr Ch.1 W (hwo.safe hZ Sf)⟩ W)
theorem own_newO (A : own_At w p l e R s m args below meth c bytes ret own nm mx Z n0 a0 EL sf T h cells slots) {i n : Nat} {C : String} (w1 : (Jvm.Cond.classLink own i C).before a0 Z = true) (wi : (Jvm.Cond.instantiable C n).before a0 Z = true) (wz : (Jvm.Cond.initialized C).before a0 Z = true) (hd : decode bytes pc = .ok (.new i, 3)) (hc : cells + 1 ≤ R.cells) (hl : slots + n ≤ R.slots)
    (k : ∀ T' h' a, h.size = a → n0 ≤ a → own_At w p l e R s m args below meth c bytes ret own nm mx Z n0 a0 EL (a :: sf) T' h' (cells + 1) (slots + n) → Ext h h' → Exa Z h' a C → (∀ {O nm d : String} {ty : FieldType}, Laid Z a0 C O nm d → parseFieldDescriptor d = some ty → Fld Z h' a O nm d (defaultValue ty)) → own_Run p e below Q m T' q Ls (.ref a :: st)) (hq : pc + 3 = q := by rfl) : own_Run p e below Q m T pc Ls st := by
  have g0 := A.fr
  obtain ⟨⟨hx, hby, r⟩, vm0, locs, X, B, hZ, hown, hT, N, Od, hEL, Ch, Sf⟩ := A
  subst hby hq
  obtain ⟨T', h', X', e', E, Ex, D, -, st'⟩ := newO X hx (s := s.setVm vm0) hZ hown w1 wi wz hT (g := mkF m pc Ls st) rfl hd hc hl
  exact own_by st' (k T' h' h.size rfl g0 ⟨⟨hx, rfl, r⟩, vm0, _, X', B.le E.1, hZ, hown, e', N, Od.ext E, hEL, Ch.trans (CHr.ext E Ch.1), Sf.new Ch.1 E Ex.lt⟩ E Ex D)
theorem own_newP (A : own_At w p l e R s m args below meth c bytes ret own nm mx Z n0 a0 EL sf T h cells slots) {aty : ArrayType} (w1 : (Jvm.Cond.arrayClass (newarray.typeOf aty)).before a0 Z = true) (hd : decode bytes pc = .ok (.newarray aty, 2)) {n : Int32} (cap : Nat) (hn : ¬ n < 0) (hcap : n.toNatClampNeg ≤ cap) (hb : cap * 8 ≤ 536870912) (hc : cells + 1 ≤ R.cells) (hl : slots + cap ≤ R.slots)
    (k : ∀ T' h' a cA, h.size = a → n0 ≤ a → own_At w p l e R s m args below meth c bytes ret own nm mx Z n0 a0 EL (a :: sf) T' h' (cells + 1) (slots + cap) → Ext h h' → Arr Z h' a (newA cA (newarray.typeOf aty) n) (newarray.typeOf aty) → own_Run p e below Q m T' q Ls (.ref a :: rest)) (hq : pc + 2 = q := by rfl) : own_Run p e below Q m T pc Ls (.int n :: rest) := by
  have g0 := A.fr
  obtain ⟨⟨hx, hby, r⟩, vm0, locs, X, B, hZ, hown, hT, N, Od, hEL, Ch, Sf⟩ := A
  subst hby hq
  obtain ⟨T', h', cA, X', e', E, Ar, st'⟩ := newP X hx (s := s.setVm vm0) hZ w1 hT (g := mkF m pc Ls (.int n :: rest)) rfl hd rfl hn hcap hb hc hl
  exact own_by st' (k T' h' h.size cA rfl g0 ⟨⟨hx, rfl, r⟩, vm0, _, X', B.le E.1, hZ, hown, e', N, Od.ext E, hEL, Ch.trans (CHr.ext E Ch.1), Sf.new Ch.1 E Ar.lt⟩ E Ar)
theorem own_newR (A : own_At w p l e R s m args below meth c bytes ret own nm mx Z n0 a0 EL sf T h cells slots) {i : Nat} {C : String} (w1 : (Jvm.Cond.classLink own i C).before a0 Z = true) (w2 : (Jvm.Cond.arrayOver (.object C)).before a0 Z = true) (hd : decode bytes pc = .ok (.anewarray i, 3)) {n : Int32} (cap : Nat) (hn : ¬ n < 0) (hcap : n.toNatClampNeg ≤ cap) (hb : cap * 8 ≤ 536870912) (hc : cells + 1 ≤ R.cells) (hl : slots + cap ≤ R.slots)
    (k : ∀ T' h' a cA, h.size = a → n0 ≤ a → own_At w p l e R s m args below meth c bytes ret own nm mx Z n0 a0 EL (a :: sf) T' h' (cells + 1) (slots + cap) → Ext h h' → Arr Z h' a (newA cA (.object C) n) (.object C) → Ovr Z cA C → own_Run p e below Q m T' q Ls (.ref a :: rest)) (hq : pc + 3 = q := by rfl) : own_Run p e below Q m T pc Ls (.int n :: rest) := by
  have g0 := A.fr
  obtain ⟨⟨hx, hby, r⟩, vm0, locs, X, B, hZ, hown, hT, N, Od, hEL, Ch, Sf⟩ := A
  subst hby hq
  obtain ⟨T', h', cA, X', e', E, Ar, Ov, st'⟩ := newR X hx (s := s.setVm vm0) hZ hown w1 w2 hT (g := mkF m pc Ls (.int n :: rest)) rfl hd rfl hn hcap hb hc hl
  exact own_by st' (k T' h' h.size cA rfl g0 ⟨⟨hx, rfl, r⟩, vm0, _, X', B.le E.1, hZ, hown, e', N, Od.ext E, hEL, Ch.trans (CHr.ext E Ch.1), Sf.new Ch.1 E Ar.lt⟩ E Ar Ov)
theorem own_initO (A : own_At w p l e R s m args below meth c bytes ret own nm mx Z n0 a0 EL sf T h cells slots) {i : Nat} {a : Addr} (w1 : (Jvm.Cond.methodLink own i Lib.objectInit).before a0 Z = true) (w2 : (Jvm.Cond.instanceMethod Lib.objectInit).before a0 Z = true) (w3 : (Jvm.Cond.code Lib.objectInit ⟨#[0xb1]⟩ 1 none).before a0 Z = true) (hd : decode bytes pc = .ok (.invokespecial i, 3)) (hsz : Ls.size = mx) {W : Nat} (hf : 1 ≤ R.frames) (hW : (rest.map fun v => v.category).sum ≤ W) (hl : W + 12 ≤ R.locals)
    (k : ∀ T', own_At w p l e R s m args below meth c bytes ret own nm mx Z n0 a0 EL sf T' h cells slots → own_Run p e below Q m T' q Ls rest) (hq : pc + 3 = q := by rfl) : own_Run p e below Q m T pc Ls (.ref a :: rest) := by
  obtain ⟨⟨hx, hby, r1, r2, r3, r4⟩, vm0, locs, X, B, hZ, hown, hT, N, Od, hEL, Ch, Sf⟩ := A
  subst hby hq
  obtain ⟨T', X', e', st'⟩ := initO X hx (s := s.setVm vm0) hZ hown w1 w2 w3 hT (g := mkF m pc Ls (.ref a :: rest)) rfl (hsz.trans r4.symm) rfl hd hf (W := W) (by show 2 * 0 + _ ≤ _; rw [Nat.mul_zero, Nat.zero_add]; exact hW) hl
  exact own_by st' (k T' ⟨⟨hx, rfl, r1, r2, r3, r4⟩, vm0, _, X', B, hZ, hown, e', N, Od, hEL, Ch, Sf⟩)
theorem own_stI (A : own_At w p l e R s m args below meth c bytes ret own nm mx Z n0 a0 EL sf T h cells slots) {a : Addr} {cl : Cell} {j x : Int32} (Ar : Arr Z h a cl .int) (hj : ¬ (j < 0 ∨ cl.slots.size ≤ j.toNatClampNeg)) (ha : n0 ≤ a) (hwo : own_Wok Z EL sf h a) (hd : decode bytes pc = .ok (.iastore, 1)) (k : ∀ T' h', own_At w p l e R s m args below meth c bytes ret own nm mx Z n0 a0 EL sf T' h' cells slots → Wr h h' a j.toNatClampNeg (.int x) → own_Run p e below Q m T' q Ls rest) (hq : pc + 1 = q := by rfl) : own_Run p e below Q m T pc Ls (.int x :: .int j :: .ref a :: rest) := by
  obtain ⟨⟨hx, hby, r⟩, vm0, locs, X, B, hZ, hown, hT, N, Od, hEL, Ch, Sf⟩ := A
  subst hby hq
  obtain ⟨T', h', X', e', W, st'⟩ := RoadKit.stI X hx (s := s.setVm vm0) hZ hT Ar hj (g := mkF m pc Ls (.int x :: .int j :: .ref a :: rest)) rfl rfl hd
  exact own_by st' (k T' h' ⟨⟨hx, rfl, r⟩, vm0, _, X', B.le (Nat.le_of_eq W.size.symm), hZ, hown, e', Fr.snoc X' N ha, Od.wr W ha, hEL, Ch.trans (CHr.wr W (hwo.safe hZ Sf) Ch.1), Sf.wr Ch.1 W (hwo.safe hZ Sf)⟩ W)
theorem own_stC (A : own_At w p l e R s m args below meth c bytes ret own nm mx Z n0 a0 EL sf T h cells slots) {a : Addr} {cl : Cell} {j x : Int32} (Ar : Arr Z h a cl .char) (hj : ¬ (j < 0 ∨ cl.slots.size ≤ j.toNatClampNeg)) (ha : n0 ≤ a) (hwo : own_Wok Z EL sf h a) (hd : decode bytes pc = .ok (.castore, 1)) (k : ∀ T' h', own_At w p l e R s m args below meth c bytes ret own nm mx Z n0 a0 EL sf T' h' cells slots → Wr h h' a j.toNatClampNeg (.int (nar .char x)) → own_Run p e below Q m T' q Ls rest) (hq : pc + 1 = q := by rfl) : own_Run p e below Q m T pc Ls (.int x :: .int j :: .ref a :: rest) := by
  obtain ⟨⟨hx, hby, r⟩, vm0, locs, X, B, hZ, hown, hT, N, Od, hEL, Ch, Sf⟩ := A
  subst hby hq
  obtain ⟨T', h', X', e', W, st'⟩ := RoadKit.stC X hx (s := s.setVm vm0) hZ hT Ar hj (g := mkF m pc Ls (.int x :: .int j :: .ref a :: rest)) rfl rfl hd
  exact own_by st' (k T' h' ⟨⟨hx, rfl, r⟩, vm0, _, X', B.le (Nat.le_of_eq W.size.symm), hZ, hown, e', Fr.snoc X' N ha, Od.wr W ha, hEL, Ch.trans (CHr.wr W (hwo.safe hZ Sf) Ch.1), Sf.wr Ch.1 W (hwo.safe hZ Sf)⟩ W)
theorem own_stB (A : own_At w p l e R s m args below meth c bytes ret own nm mx Z n0 a0 EL sf T h cells slots) {a : Addr} {cl : Cell} {j x : Int32} (Ar : Arr Z h a cl .byte) (hj : ¬ (j < 0 ∨ cl.slots.size ≤ j.toNatClampNeg)) (ha : n0 ≤ a) (hwo : own_Wok Z EL sf h a) (hd : decode bytes pc = .ok (.bastore, 1)) (k : ∀ T' h', own_At w p l e R s m args below meth c bytes ret own nm mx Z n0 a0 EL sf T' h' cells slots → Wr h h' a j.toNatClampNeg (.int (nar .byte x)) → own_Run p e below Q m T' q Ls rest) (hq : pc + 1 = q := by rfl) : own_Run p e below Q m T pc Ls (.int x :: .int j :: .ref a :: rest) := by
  obtain ⟨⟨hx, hby, r⟩, vm0, locs, X, B, hZ, hown, hT, N, Od, hEL, Ch, Sf⟩ := A
  subst hby hq
  obtain ⟨T', h', X', e', W, st'⟩ := RoadKit.stB X hx (s := s.setVm vm0) hZ hT Ar hj (g := mkF m pc Ls (.int x :: .int j :: .ref a :: rest)) rfl rfl hd
  exact own_by st' (k T' h' ⟨⟨hx, rfl, r⟩, vm0, _, X', B.le (Nat.le_of_eq W.size.symm), hZ, hown, e', Fr.snoc X' N ha, Od.wr W ha, hEL, Ch.trans (CHr.wr W (hwo.safe hZ Sf) Ch.1), Sf.wr Ch.1 W (hwo.safe hZ Sf)⟩ W)
theorem own_stR (A : own_At w p l e R s m args below meth c bytes ret own nm mx Z n0 a0 EL sf T h cells slots) {a : Addr} {cl : Cell} {ty : FieldType} {j : Int32} {v : Value} (Ar : Arr Z h a cl ty) (hj : ¬ (j < 0 ∨ cl.slots.size ≤ j.toNatClampNeg)) (hty : ty.isReference = true) (F : Sto Z h a v) (ha : n0 ≤ a) (hwo : own_Wok Z EL sf h a) (hd : decode bytes pc = .ok (.aastore, 1)) (k : ∀ T' h', own_At w p l e R s m args below meth c bytes ret own nm mx Z n0 a0 EL sf T' h' cells slots → Wr h h' a j.toNatClampNeg v → own_Run p e below Q m T' q Ls rest) (hq : pc + 1 = q := by rfl) : own_Run p e below Q m T pc Ls (v :: .int j :: .ref a :: rest) := by
  obtain ⟨⟨hx, hby, r⟩, vm0, locs, X, B, hZ, hown, hT, N, Od, hEL, Ch, Sf⟩ := A
  subst hby hq
  obtain ⟨T', h', X', e', W, st'⟩ := stR X hx (s := s.setVm vm0) hZ hT Ar hj hty F (g := mkF m pc Ls (v :: .int j :: .ref a :: rest)) rfl rfl hd
  exact own_by st' (k T' h' ⟨⟨hx, rfl, r⟩, vm0, _, X', B.le (Nat.le_of_eq W.size.symm), hZ, hown, e', Fr.snoc X' N ha, Od.wr W ha, hEL, Ch.trans (CHr.wr W (hwo.safe hZ Sf) Ch.1), Sf.wr Ch.1 W (hwo.safe hZ Sf)⟩ W)
theorem own_arrlen (A : own_At w p l e R s m args below meth c bytes ret own nm mx Z n0 a0 EL sf T h cells slots) {a : Addr} {cl : Cell} {ty : FieldType} (Ar : Arr Z h a cl ty) (hd : decode bytes pc = .ok (.arraylength, 1)) (k : own_Run p e below Q m T q Ls (.int cl.slots.size.toInt32 :: rest)) (hq : pc + 1 = q := by rfl) : own_Run p e below Q m T pc Ls (.ref a :: rest) := by
  obtain ⟨⟨hx, hby, r⟩, vm0, locs, X, B, hZ, hown, hT, N, Od, hEL, Ch, Sf⟩ := A
  subst hby hq hT
  exact own_by (fun t z => X.arraylength hx Ar.1 (State.isArrayOf_alike (T := s.setVm vm0) hZ.alike Ar.2.1) (g := mkF m pc Ls (.ref a :: rest)) rfl rfl hd t z) k
theorem own_aaload (A : own_At w p l e R s m args below meth c bytes ret own nm mx Z n0 a0 EL sf T h cells slots) {a : Addr} {cl : Cell} {ty : FieldType} {j : Int32} {v : Value} (Ar : Arr Z h a cl ty) (hty : ty.isReference = true) (hj : ¬ (j < 0 ∨ cl.slots.size ≤ j.toNatClampNeg)) (hv : cl.slots[j.toNatClampNeg]? = some v) (hd : decode bytes pc = .ok (.aaload, 1)) (k : own_Run p e below Q m T q Ls (v :: rest)) (hq : pc + 1 = q := by rfl) : own_Run p e below Q m T pc Ls (.int j :: .ref a :: rest) := by
  obtain ⟨⟨hx, hby, r⟩, vm0, locs, X, B, hZ, hown, hT, N, Od, hEL, Ch, Sf⟩ := A
  subst hby hq hT
  exact own_by (fun t z => X.aaload hx Ar.1 (State.isArrayOf_alike (T := s.setVm vm0) hZ.alike Ar.2.1) hty Ar.2.2 hj hv (g := mkF m pc Ls (.int j :: .ref a :: rest)) rfl rfl hd t z) k
theorem own_iaload (A : own_At w p l e R s m args below meth c bytes ret own nm mx Z n0 a0 EL sf T h cells slots) {a : Addr} {cl : Cell} {j : Int32} {v : Value} (Ar : Arr Z h a cl .int) (hj : ¬ (j < 0 ∨ cl.slots.size ≤ j.toNatClampNeg)) (hv : cl.slots[j.toNatClampNeg]? = some v) (hd : decode bytes pc = .ok (.iaload, 1)) (k : own_Run p e below Q m T q Ls (v :: rest)) (hq : pc + 1 = q := by rfl) : own_Run p e below Q m T pc Ls (.int j :: .ref a :: rest) := by
  obtain ⟨⟨hx, hby, r⟩, vm0, locs, X, B, hZ, hown, hT, N, Od, hEL, Ch, Sf⟩ := A
  subst hby hq hT
  exact own_by (fun t z => X.iaload hx Ar.1 (State.isArrayOf_alike (T := s.setVm vm0) hZ.alike Ar.2.1) Ar.2.2 hj hv (g := mkF m pc Ls (.int j :: .ref a :: rest)) rfl rfl hd t z) k
theorem own_caload (A : own_At w p l e R s m args below meth c bytes ret own nm mx Z n0 a0 EL sf T h cells slots) {a : Addr} {cl : Cell} {j : Int32} {v : Value} (Ar : Arr Z h a cl .char) (hj : ¬ (j < 0 ∨ cl.slots.size ≤ j.toNatClampNeg)) (hv : cl.slots[j.toNatClampNeg]? = some v) (hd : decode bytes pc = .ok (.caload, 1)) (k : own_Run p e below Q m T q Ls (v :: rest)) (hq : pc + 1 = q := by rfl) : own_Run p e below Q m T pc Ls (.int j :: .ref a :: rest) := by
  obtain ⟨⟨hx, hby, r⟩, vm0, locs, X, B, hZ, hown, hT, N, Od, hEL, Ch, Sf⟩ := A
  subst hby hq hT
  exact own_by (fun t z => X.caload hx Ar.1 (State.isArrayOf_alike (T := s.setVm vm0) hZ.alike Ar.2.1) Ar.2.2 hj hv (g := mkF m pc Ls (.int j :: .ref a :: rest)) rfl rfl hd t z) k
theorem own_baload (A : own_At w p l e R s m args below meth c bytes ret own nm mx Z n0 a0 EL sf T h cells slots) {a : Addr} {cl : Cell} {j : Int32} {v : Value} (Ar : Arr Z h a cl .byte) (hj : ¬ (j < 0 ∨ cl.slots.size ≤ j.toNatClampNeg)) (hv : cl.slots[j.toNatClampNeg]? = some v) (hd : decode bytes pc = .ok (.baload, 1)) (k : own_Run p e below Q m T q Ls (v :: rest)) (hq : pc + 1 = q := by rfl) : own_Run p e below Q m T pc Ls (.int j :: .ref a :: rest) := by
  obtain ⟨⟨hx, hby, r⟩, vm0, locs, X, B, hZ, hown, hT, N, Od, hEL, Ch, Sf⟩ := A
  subst hby hq hT
  exact own_by (fun t z => X.baloadBytes hx Ar.1 (State.isArrayOf_alike (T := s.setVm vm0) hZ.alike Ar.2.1) Ar.2.2 hj hv (g := mkF m pc Ls (.int j :: .ref a :: rest)) rfl rfl hd t z) k
/-- a callee that a library or own law pays, narrow (it interns nothing; ws: what it may write) -/
def own_Pays (l : Launch) (R : Room) (p : Program) (e : Env) (below : List Frame) (s : State) (args : Array Value) (Z : State) (n0 : Nat) (EL : List (String × Nat)) (ws : List Addr) (y : MethodName) (len W k n : Nat) (as' : Array Value) (h : Heap) (Qc : Option Value → Heap → Prop) : Prop :=
  ∀ vm0, Z.Warmed39 vm0 → Back l R p e below (s.setVm vm0) args y len W (fun A a => a = as' ∧ A.U.heap = h ∧ A.cells + k ≤ R.cells ∧ A.slots + n ≤ R.slots)
    (fun A _ v B => ∃ L, (Qc v B.U.heap ∧ Fr n0 L ∧ Old Z n0 B.U.heap ∧ h.size ≤ B.U.heap.size ∧ (EL = [] ∨ Keep h B.U.heap ws)) ∧ B.locs = A.locs ++ L ∧ B.cells = A.cells + k ∧ B.slots = A.slots + n)
theorem own_pay {y : MethodName} {bytes : ByteArray} {mx len W : Nat} {ret : Option FieldType} {rm : Room} {as' : Array Value} {Qc : Option Value → Heap → Prop} (M : own_Met false l Z n0 [] [] y bytes mx ret [] rm as' h Qc) (wc : (Jvm.Cond.code y bytes mx ret).before a0 Z = true) (wz : (Jvm.Cond.initialized y.cls).before a0 Z = true) (hf : rm.frames + 1 ≤ R.frames) (hl : W + (mx + 11) + rm.locals ≤ R.locals) :
    own_Pays l R p e below s args Z n0 [] [] y len W rm.cells rm.slots as' h Qc := fun vm0 hZ => by
  have M' : MetFree l y (head1 [Jvm.Cond.code y bytes mx ret] rm) (fun a U => a = as' ∧ Z.Warmed39 U.vm ∧ U.heap = h) (fun _ _ _ _ _ => True) (fun _ U o U' => ∃ v L, o = .returned v ∧ (fun v h' L => Qc v h' ∧ Fr n0 L ∧ Old Z n0 h' ∧ h.size ≤ h'.size ∧ (([] : List (String × Nat)) = [] ∨ Keep h h' [])) v U'.heap L ∧ FrameEnd U o U' L rm.cells rm.slots) :=
    MetFree.mono M (fun _ U z => ⟨z.1, z.2.1, z.2.2, (own_ch0 (vm := U.vm) (h := h) (Nat.le_refl _)).1, fun x hx => nomatch hx⟩) (fun _ _ _ _ _ z => z) (fun a U o U' hp ⟨v, L, h1, ⟨h2, h3, h4, h5⟩, _, h6⟩ => ⟨v, L, h1, ⟨h2, h3, h4, hp.2.2 ▸ h5, Or.inl rfl⟩, h6⟩)
  exact backOf (s := s.setVm vm0) (Q := fun v h' L => Qc v h' ∧ Fr n0 L ∧ Old Z n0 h' ∧ h.size ≤ h'.size ∧ (([] : List (String × Nat)) = [] ∨ Keep h h' [])) M' hZ wc wz hf hl
/-- a callee that may intern; sf': what it asks to be made and no literal's -/
def own_PaysW (l : Launch) (R : Room) (p : Program) (e : Env) (below : List Frame) (s : State) (args : Array Value) (Z : State) (n0 : Nat) (a0 : Array Value) (EL : List (String × Nat)) (ws : List Addr) (y : MethodName) (len W k n : Nat) (as' : Array Value) (h : Heap) (Qc : Option Value → Heap → Prop) : Prop :=
  ∀ vm0, EW Z a0 EL → Z.Warmed39 vm0 → CHv Z EL vm0 h → own_Sf Z EL vm0 h ws → BackS l R p e below (s.setVm vm0) args y len W (fun A a => a = as' ∧ A.U.heap = h ∧ A.cells + k ≤ R.cells ∧ A.slots + n ≤ R.slots)
    (fun A _ v B => ∃ L, (Qc v B.U.heap ∧ Fr n0 L ∧ Old Z n0 B.U.heap ∧ CHr Z EL vm0 h B.U.vm B.U.heap) ∧ B.locs = A.locs ++ L ∧ B.cells = A.cells + k ∧ B.slots = A.slots + n)
theorem own_payW {ws : List Addr} {y : MethodName} {bytes : ByteArray} {mx len W : Nat} {ret : Option FieldType} {rm : Room} {as' : Array Value} {Qc : Option Value → Heap → Prop} (M : own_Met true l Z n0 EL ws y bytes mx ret [] rm as' h Qc) (wc : (Jvm.Cond.code y bytes mx ret).before a0 Z = true) (wz : (Jvm.Cond.initialized y.cls).before a0 Z = true) (hf : rm.frames + 1 ≤ R.frames) (hl : W + (mx + 11) + rm.locals ≤ R.locals) :
    own_PaysW l R p e below s args Z n0 a0 EL ws y len W rm.cells rm.slots as' h Qc := fun vm0 hEL hZ H S => by
  refine BackS.of_freeW (bytes := bytes) (maxL := mx) (ret := ret) (E := fun _ first o t L k n => k = rm.cells ∧ n = rm.slots ∧ (∃ v, o = .returned v ∧ Qc v t.heap ∧ Fr n0 L ∧ Old Z n0 t.heap) ∧ CHr Z EL first.vm first.heap t.vm t.heap) M hf hl ?_ ?_ (fun _ _ _ _ _ _ _ _ _ => trivial) ?_ ?_
  · intro m meth c A a Y hp
    have hU : Z.Warmed39 A.U.vm := wtrans (s := s.setVm vm0) hZ Y.warmed
    exact ⟨by show (Cond.and _ .tt).before a A.U = true; rw [Cond.before_and, mv hU wc]; rfl, mv hU wc, mv hU wz, hp.2.2.1, hp.2.2.2⟩
  · intro m meth c A a g mk Y hp
    have C := CHv.at Y hZ hEL H
    exact ⟨hp.1, wtrans (s := s.setVm vm0) hZ Y.warmed, hp.2.1, C.1, fun x hx => ⟨C.safe (S x hx).2 (S x hx).1, (S x hx).2⟩⟩
  · rintro a first o t ⟨v, L, h1, ⟨h2, h3, h4, h5⟩, h6, h7⟩
    exact ⟨L, _, _, h7, rfl, rfl, ⟨v, h1, h2, h3, h4⟩, h6⟩
  · rintro m meth c A a g mk v t L k n Y hp - - ⟨e1, e2, ⟨v', e3, e4, e5, e6⟩, e7⟩
    cases e3
    subst e1 e2
    refine ⟨L, ⟨e4, e5, e6, (CHv.at Y hZ hEL H).trans ?_⟩, rfl, rfl, rfl⟩
    rw [← hp.2.1]
    exact e7
theorem own_static (A : own_At w p l e R s m args below meth c bytes ret own nm mx Z n0 a0 EL sf T h cells slots) {i mxy : Nat} {y : MethodName} {by' : ByteArray} {rt : Option FieldType} {k n W : Nat} {argsL : List Value} {Qc : Option Value → Heap → Prop} (w1 : (Jvm.Cond.methodLink own i y).before a0 Z = true) (w2 : (Jvm.Cond.static y).before a0 Z = true) (w3 : (Jvm.Cond.initialized y.cls).before a0 Z = true) (w4 : (Jvm.Cond.code y by' mxy rt).before a0 Z = true) (hy : y.cls ≠ "java/lang/invoke/MethodHandle" ∧ y.cls ≠ "java/lang/invoke/VarHandle") {ws : List Addr} (M : own_Pays l R p e below s args Z n0 EL ws y 3 W k n argsL.toArray h Qc) (hws : ∀ x ∈ ws, x ∈ sf) (hW : (rest.map fun v => v.category).sum ≤ W)  {sig : MethodDescriptor} (hds : parseMethodDescriptor y.desc = some sig) (hlen : argsL.length = sig.parameters.length) (hst : st = argsL.reverse ++ rest) (hsz : Ls.size = mx) (hd : decode bytes pc = .ok (.invokestatic i, 3)) (hc : cells + k ≤ R.cells) (hs : slots + n ≤ R.slots)
    (kk : ∀ v T' h', own_At w p l e R s m args below meth c bytes ret own nm mx Z n0 a0 EL sf T' h' (cells + k) (slots + n) → Qc v h' → own_Run p e below Q m T' q Ls (v.toList ++ rest)) (hq : pc + 3 = q := by rfl) : own_Run p e below Q m T pc Ls st := by
  obtain ⟨⟨hx, hby, r1, r2, r3, r4⟩, vm0, locs, X, B, hZ, hown, hT, N, Od, hEL, Ch, Sf⟩ := A
  subst hby hq hst hT
  obtain ⟨v, vm1, ⟨T', L', k', n'⟩, -, X', ⟨L, ⟨hQ, N', O', gr, hK⟩, l1, l2, l3⟩, st'⟩ := Jvm.LawKit.callS X hx hown (mvT (s := s.setVm vm0) hZ w1) (mvT (s := s.setVm vm0) hZ w2) (mvT (s := s.setVm vm0) hZ w3) (mvT (s := s.setVm vm0) hZ w4) hy (M vm0 hZ) (g := mkF m pc Ls (argsL.reverse ++ rest)) rfl (hsz.trans r4.symm)  (argsL := argsL) (rest := rest) (lenOf (ps := sig.parameters) (r := sig.returnType) hds hlen) rfl (by show 2 * 0 + _ ≤ _; rw [Nat.mul_zero, Nat.zero_add]; exact hW) hd (fun _ _ => ⟨rfl, rfl, hc, hs⟩)
  dsimp only [Pt.U, Pt.locs, Pt.cells, Pt.slots] at X' l1 l2 l3 st' hQ O' gr hK
  subst l1 l2 l3
  have C : CHr Z EL vm0 T.heap vm0 T'.heap := by
    rcases hK with rfl | hK
    · exact own_ch0 gr
    · exact CHr.keep hK (fun x hx => (Sf x (hws x hx)).1) Ch.1
  exact own_by (st') (kk v T' T'.heap ⟨⟨hx, rfl, r1, r2, r3, r4⟩, vm0, _, X', B.le gr, hZ, hown, rfl, N.app N', O', hEL, Ch.trans C, Sf.ch C⟩ hQ)
theorem own_staticW (A : own_At true p l e R s m args below meth c bytes ret own nm mx Z n0 a0 EL sf T h cells slots) {i mxy : Nat} {y : MethodName} {by' : ByteArray} {rt : Option FieldType} {k n W : Nat} {argsL : List Value} {Qc : Option Value → Heap → Prop} (w1 : (Jvm.Cond.methodLink own i y).before a0 Z = true) (w2 : (Jvm.Cond.static y).before a0 Z = true) (w3 : (Jvm.Cond.initialized y.cls).before a0 Z = true) (w4 : (Jvm.Cond.code y by' mxy rt).before a0 Z = true) (hy : y.cls ≠ "java/lang/invoke/MethodHandle" ∧ y.cls ≠ "java/lang/invoke/VarHandle") {ws : List Addr} (M : own_PaysW l R p e below s args Z n0 a0 EL ws y 3 W k n argsL.toArray h Qc) (hws : ∀ x ∈ ws, x ∈ sf) (hW : (rest.map fun v => v.category).sum ≤ W)  {sig : MethodDescriptor} (hds : parseMethodDescriptor y.desc = some sig) (hlen : argsL.length = sig.parameters.length) (hst : st = argsL.reverse ++ rest) (hsz : Ls.size = mx) (hd : decode bytes pc = .ok (.invokestatic i, 3)) (hc : cells + k ≤ R.cells) (hs : slots + n ≤ R.slots)
    (kk : ∀ v T' h', own_At true p l e R s m args below meth c bytes ret own nm mx Z n0 a0 EL sf T' h' (cells + k) (slots + n) → Qc v h' → own_Run p e below Q m T' q Ls (v.toList ++ rest)) (hq : pc + 3 = q := by rfl) : own_Run p e below Q m T pc Ls st := by
  obtain ⟨⟨hx, hby, r1, r2, r3, r4⟩, vm0, locs, X, B, hZ, hown, hT, N, Od, hEL, Ch, Sf⟩ := A
  subst hby hq hst hT
  obtain ⟨v, vm1, ⟨T', L', k', n'⟩, -, X', hS, gr, ⟨L, ⟨hQ, N', O', C⟩, l1, l2, l3⟩, st'⟩ := callSS X hx hown (mvT (s := s.setVm vm0) hZ w1) (mvT (s := s.setVm vm0) hZ w2) (mvT (s := s.setVm vm0) hZ w3) (mvT (s := s.setVm vm0) hZ w4) hy (M vm0 hEL hZ Ch.1 (fun x hx => Sf x (hws x hx))) (g := mkF m pc Ls (argsL.reverse ++ rest)) rfl (hsz.trans r4.symm)  (argsL := argsL) (rest := rest) (lenOf (ps := sig.parameters) (r := sig.returnType) hds hlen) rfl (by show 2 * 0 + _ ≤ _; rw [Nat.mul_zero, Nat.zero_add]; exact hW) hd (fun _ _ => ⟨rfl, rfl, hc, hs⟩)
  dsimp only [Pt.U, Pt.locs, Pt.cells, Pt.slots] at X' l1 l2 l3 st' hQ O' hS gr C
  subst l1 l2 l3
  have hZ' : Z.Warmed39 T'.vm := State.Warmed39.trans (t := s.setVm vm0) hZ hS.1
  have hown' : T'.vm.findClass own = some m.cls := by rw [hS.1.alike.findClass]; exact hown
  obtain ⟨k0, B1, B2⟩ : ∃ k0, s.Since vm0 k0 ∧ k0 ≤ T.heap.size := by
    rcases B with ⟨B, -⟩ | ⟨-, B⟩
    · cases B
    · exact B
  exact own_by (fun _ z => st'.trans z) (kk v T' T'.heap ⟨⟨hx, rfl, r1, r2, r3, r4⟩, T'.vm, _, X', Or.inr ⟨rfl, _, B1.trans hS (Nat.le_trans B2 gr), Nat.le_refl _⟩, hZ', hown', rfl, N.app N', O', hEL, Ch.trans C, Sf.ch C⟩ hQ)
theorem own_special (A : own_At w p l e R s m args below meth c bytes ret own nm mx Z n0 a0 EL sf T h cells slots) {i mxy : Nat} {y : MethodName} {by' : ByteArray} {a : Addr} {k n W : Nat} {argsL : List Value} {Qc : Option Value → Heap → Prop} (hy1 : y.name = "<init>") (w1 : (Jvm.Cond.methodLink own i y).before a0 Z = true) (w2 : (Jvm.Cond.instanceMethod y).before a0 Z = true) (w3 : (Jvm.Cond.code y by' mxy none).before a0 Z = true) (hy : y.cls ≠ "java/lang/invoke/MethodHandle" ∧ y.cls ≠ "java/lang/invoke/VarHandle") {ws : List Addr} (M : own_Pays l R p e below s args Z n0 EL ws y 3 W k n (.ref a :: argsL).toArray h Qc) (hws : ∀ x ∈ ws, x ∈ sf) (hW : (rest.map fun v => v.category).sum ≤ W)  {sig : MethodDescriptor} (hds : parseMethodDescriptor y.desc = some sig) (hlen : argsL.length = sig.parameters.length) (hst : st = argsL.reverse ++ .ref a :: rest) (hsz : Ls.size = mx) (hd : decode bytes pc = .ok (.invokespecial i, 3)) (hc : cells + k ≤ R.cells) (hs : slots + n ≤ R.slots)
    (kk : ∀ v T' h', own_At w p l e R s m args below meth c bytes ret own nm mx Z n0 a0 EL sf T' h' (cells + k) (slots + n) → Qc v h' → own_Run p e below Q m T' q Ls (v.toList ++ rest)) (hq : pc + 3 = q := by rfl) : own_Run p e below Q m T pc Ls st := by
  obtain ⟨⟨hx, hby, r1, r2, r3, r4⟩, vm0, locs, X, B, hZ, hown, hT, N, Od, hEL, Ch, Sf⟩ := A
  subst hby hq hst hT
  obtain ⟨v, vm1, ⟨T', L', k', n'⟩, -, X', ⟨L, ⟨hQ, N', O', gr, hK⟩, l1, l2, l3⟩, st'⟩ := X.specialBack hx hy1 hown (mvT (s := s.setVm vm0) hZ w1) (mvT (s := s.setVm vm0) hZ w2) (mvT (s := s.setVm vm0) hZ w3) hy (M vm0 hZ) (g := mkF m pc Ls (argsL.reverse ++ .ref a :: rest)) rfl (hsz.trans r4.symm) (Steps.refl _) (a := a) (argsL := argsL) (rest := rest) (lenOf (ps := sig.parameters) (r := sig.returnType) hds hlen) rfl (by show 2 * 0 + _ ≤ _; rw [Nat.mul_zero, Nat.zero_add]; exact hW) hd (fun _ _ => ⟨rfl, rfl, hc, hs⟩)
  dsimp only [Pt.U, Pt.locs, Pt.cells, Pt.slots] at X' l1 l2 l3 st' hQ O' gr hK
  subst l1 l2 l3
  have C : CHr Z EL vm0 T.heap vm0 T'.heap := by
    rcases hK with rfl | hK
    · exact own_ch0 gr
    · exact CHr.keep hK (fun x hx => (Sf x (hws x hx)).1) Ch.1
  exact own_by (fun _ z => st'.trans z) (kk v T' T'.heap ⟨⟨hx, rfl, r1, r2, r3, r4⟩, vm0, _, X', B.le gr, hZ, hown, rfl, N.app N', O', hEL, Ch.trans C, Sf.ch C⟩ hQ)
theorem own_specialW (A : own_At true p l e R s m args below meth c bytes ret own nm mx Z n0 a0 EL sf T h cells slots) {i mxy : Nat} {y : MethodName} {by' : ByteArray} {a : Addr} {k n W : Nat} {argsL : List Value} {Qc : Option Value → Heap → Prop} (hy1 : y.name = "<init>") (w1 : (Jvm.Cond.methodLink own i y).before a0 Z = true) (w2 : (Jvm.Cond.instanceMethod y).before a0 Z = true) (w3 : (Jvm.Cond.code y by' mxy none).before a0 Z = true) (hy : y.cls ≠ "java/lang/invoke/MethodHandle" ∧ y.cls ≠ "java/lang/invoke/VarHandle") {ws : List Addr} (M : own_PaysW l R p e below s args Z n0 a0 EL ws y 3 W k n (.ref a :: argsL).toArray h Qc) (hws : ∀ x ∈ ws, x ∈ sf) (hW : (rest.map fun v => v.category).sum ≤ W)  {sig : MethodDescriptor} (hds : parseMethodDescriptor y.desc = some sig) (hlen : argsL.length = sig.parameters.length) (hst : st = argsL.reverse ++ .ref a :: rest) (hsz : Ls.size = mx) (hd : decode bytes pc = .ok (.invokespecial i, 3)) (hc : cells + k ≤ R.cells) (hs : slots + n ≤ R.slots)
    (kk : ∀ v T' h', own_At true p l e R s m args below meth c bytes ret own nm mx Z n0 a0 EL sf T' h' (cells + k) (slots + n) → Qc v h' → own_Run p e below Q m T' q Ls (v.toList ++ rest)) (hq : pc + 3 = q := by rfl) : own_Run p e below Q m T pc Ls st := by
  obtain ⟨⟨hx, hby, r1, r2, r3, r4⟩, vm0, locs, X, B, hZ, hown, hT, N, Od, hEL, Ch, Sf⟩ := A
  subst hby hq hst hT
  obtain ⟨v, vm1, ⟨T', L', k', n'⟩, -, X', hS, gr, ⟨L, ⟨hQ, N', O', C⟩, l1, l2, l3⟩, st'⟩ := X.specialBackS hx hy1 hown (mvT (s := s.setVm vm0) hZ w1) (mvT (s := s.setVm vm0) hZ w2) (mvT (s := s.setVm vm0) hZ w3) hy (M vm0 hEL hZ Ch.1 (fun x hx => Sf x (hws x hx))) (g := mkF m pc Ls (argsL.reverse ++ .ref a :: rest)) rfl (hsz.trans r4.symm) (Steps.refl _) (a := a) (argsL := argsL) (rest := rest) (lenOf (ps := sig.parameters) (r := sig.returnType) hds hlen) rfl (by show 2 * 0 + _ ≤ _; rw [Nat.mul_zero, Nat.zero_add]; exact hW) hd (fun _ _ => ⟨rfl, rfl, hc, hs⟩)
  dsimp only [Pt.U, Pt.locs, Pt.cells, Pt.slots] at X' l1 l2 l3 st' hQ O' hS gr C
  subst l1 l2 l3
  have hZ' : Z.Warmed39 T'.vm := State.Warmed39.trans (t := s.setVm vm0) hZ hS.1
  have hown' : T'.vm.findClass own = some m.cls := by rw [hS.1.alike.findClass]; exact hown
  obtain ⟨k0, B1, B2⟩ : ∃ k0, s.Since vm0 k0 ∧ k0 ≤ T.heap.size := by
    rcases B with ⟨B, -⟩ | ⟨-, B⟩
    · cases B
    · exact B
  exact own_by (fun _ z => st'.trans z) (kk v T' T'.heap ⟨⟨hx, rfl, r1, r2, r3, r4⟩, T'.vm, _, X', Or.inr ⟨rfl, _, B1.trans hS (Nat.le_trans B2 gr), Nat.le_refl _⟩, hZ', hown', rfl, N.app N', O', hEL, Ch.trans C, Sf.ch C⟩ hQ)
theorem own_virtual (A : own_At w p l e R s m args below meth c bytes ret own nm mx Z n0 a0 EL sf T h cells slots) {i : Nat} {y : MethodName} {C : String} {a : Addr} {k n W : Nat} {argsL : List Value} {Qc : Option Value → Heap → Prop} (w1 : (Jvm.Cond.methodLink own i y).before a0 Z = true) (w2 : (Jvm.Cond.declares y).before a0 Z = true) (w3 : (Jvm.Cond.selects C y y).before a0 Z = true) (w4 : (Jvm.Cond.instanceMethod y).before a0 Z = true) (hy : y.cls ≠ "java/lang/invoke/MethodHandle" ∧ y.cls ≠ "java/lang/invoke/VarHandle") {ws : List Addr} (M : own_Pays l R p e below s args Z n0 EL ws y 3 W k n (.ref a :: argsL).toArray h Qc) (hws : ∀ x ∈ ws, x ∈ sf) (hW : (rest.map fun v => v.category).sum ≤ W) (E : Exa Z h a C) {sig : MethodDescriptor} (hds : parseMethodDescriptor y.desc = some sig) (hlen : argsL.length = sig.parameters.length) (hst : st = argsL.reverse ++ .ref a :: rest) (hsz : Ls.size = mx) (hd : decode bytes pc = .ok (.invokevirtual i, 3)) (hc : cells + k ≤ R.cells) (hs : slots + n ≤ R.slots)
    (kk : ∀ v T' h', own_At w p l e R s m args below meth c bytes ret own nm mx Z n0 a0 EL sf T' h' (cells + k) (slots + n) → Qc v h' → own_Run p e below Q m T' q Ls (v.toList ++ rest)) (hq : pc + 3 = q := by rfl) : own_Run p e below Q m T pc Ls st := by
  obtain ⟨⟨hx, hby, r1, r2, r3, r4⟩, vm0, locs, X, B, hZ, hown, hT, N, Od, hEL, Ch, Sf⟩ := A
  subst hby hq hst hT
  obtain ⟨cq, kq, qa, qb, qc⟩ := isOf (s := s.setVm vm0) (T := T) hZ rfl E
  obtain ⟨v, vm1, ⟨T', L', k', n'⟩, -, X', ⟨L, ⟨hQ, N', O', gr, hK⟩, l1, l2, l3⟩, st'⟩ := X.virtualBack hx hown (mvT (s := s.setVm vm0) hZ w1) (mvT (s := s.setVm vm0) hZ w2) (notFace_of_selects (args := #[]) (mvT (s := s.setVm vm0) hZ w3)) (mvT (s := s.setVm vm0) hZ w3) (mvT (s := s.setVm vm0) hZ w4) hy (M vm0 hZ) qa qc (g := mkF m pc Ls (argsL.reverse ++ .ref a :: rest)) rfl (hsz.trans r4.symm) (Steps.refl _) (argsL := argsL) (rest := rest) (lenOf (ps := sig.parameters) (r := sig.returnType) hds hlen) rfl (by show 2 * 0 + _ ≤ _; rw [Nat.mul_zero, Nat.zero_add]; exact hW) hd (fun _ _ => ⟨rfl, rfl, hc, hs⟩)
  dsimp only [Pt.U, Pt.locs, Pt.cells, Pt.slots] at X' l1 l2 l3 st' hQ O' gr hK
  subst l1 l2 l3
  have C : CHr Z EL vm0 T.heap vm0 T'.heap := by
    rcases hK with rfl | hK
    · exact own_ch0 gr
    · exact CHr.keep hK (fun x hx => (Sf x (hws x hx)).1) Ch.1
  exact own_by (fun _ z => st'.trans z) (kk v T' T'.heap ⟨⟨hx, rfl, r1, r2, r3, r4⟩, vm0, _, X', B.le gr, hZ, hown, rfl, N.app N', O', hEL, Ch.trans C, Sf.ch C⟩ hQ)
theorem own_virtualW (A : own_At true p l e R s m args below meth c bytes ret own nm mx Z n0 a0 EL sf T h cells slots) {i : Nat} {y : MethodName} {C : String} {a : Addr} {k n W : Nat} {argsL : List Value} {Qc : Option Value → Heap → Prop} (w1 : (Jvm.Cond.methodLink own i y).before a0 Z = true) (w2 : (Jvm.Cond.declares y).before a0 Z = true) (w3 : (Jvm.Cond.selects C y y).before a0 Z = true) (w4 : (Jvm.Cond.instanceMethod y).before a0 Z = true) (hy : y.cls ≠ "java/lang/invoke/MethodHandle" ∧ y.cls ≠ "java/lang/invoke/VarHandle") {ws : List Addr} (M : own_PaysW l R p e below s args Z n0 a0 EL ws y 3 W k n (.ref a :: argsL).toArray h Qc) (hws : ∀ x ∈ ws, x ∈ sf) (hW : (rest.map fun v => v.category).sum ≤ W) (E : Exa Z h a C) {sig : MethodDescriptor} (hds : parseMethodDescriptor y.desc = some sig) (hlen : argsL.length = sig.parameters.length) (hst : st = argsL.reverse ++ .ref a :: rest) (hsz : Ls.size = mx) (hd : decode bytes pc = .ok (.invokevirtual i, 3)) (hc : cells + k ≤ R.cells) (hs : slots + n ≤ R.slots)
    (kk : ∀ v T' h', own_At true p l e R s m args below meth c bytes ret own nm mx Z n0 a0 EL sf T' h' (cells + k) (slots + n) → Qc v h' → own_Run p e below Q m T' q Ls (v.toList ++ rest)) (hq : pc + 3 = q := by rfl) : own_Run p e below Q m T pc Ls st := by
  obtain ⟨⟨hx, hby, r1, r2, r3, r4⟩, vm0, locs, X, B, hZ, hown, hT, N, Od, hEL, Ch, Sf⟩ := A
  subst hby hq hst hT
  obtain ⟨cq, kq, qa, qb, qc⟩ := isOf (s := s.setVm vm0) (T := T) hZ rfl E
  obtain ⟨v, vm1, ⟨T', L', k', n'⟩, -, X', hS, gr, ⟨L, ⟨hQ, N', O', C⟩, l1, l2, l3⟩, st'⟩ := X.virtualBackS hx hown (mvT (s := s.setVm vm0) hZ w1) (mvT (s := s.setVm vm0) hZ w2) (notFace_of_selects (args := #[]) (mvT (s := s.setVm vm0) hZ w3)) (mvT (s := s.setVm vm0) hZ w3) (mvT (s := s.setVm vm0) hZ w4) hy (M vm0 hEL hZ Ch.1 (fun x hx => Sf x (hws x hx))) qa qc (g := mkF m pc Ls (argsL.reverse ++ .ref a :: rest)) rfl (hsz.trans r4.symm) (Steps.refl _) (argsL := argsL) (rest := rest) (lenOf (ps := sig.parameters) (r := sig.returnType) hds hlen) rfl (by show 2 * 0 + _ ≤ _; rw [Nat.mul_zero, Nat.zero_add]; exact hW) hd (fun _ _ => ⟨rfl, rfl, hc, hs⟩)
  dsimp only [Pt.U, Pt.locs, Pt.cells, Pt.slots] at X' l1 l2 l3 st' hQ O' hS gr C
  subst l1 l2 l3
  have hZ' : Z.Warmed39 T'.vm := State.Warmed39.trans (t := s.setVm vm0) hZ hS.1
  have hown' : T'.vm.findClass own = some m.cls := by rw [hS.1.alike.findClass]; exact hown
  obtain ⟨k0, B1, B2⟩ : ∃ k0, s.Since vm0 k0 ∧ k0 ≤ T.heap.size := by
    rcases B with ⟨B, -⟩ | ⟨-, B⟩
    · cases B
    · exact B
  exact own_by (fun _ z => st'.trans z) (kk v T' T'.heap ⟨⟨hx, rfl, r1, r2, r3, r4⟩, T'.vm, _, X', Or.inr ⟨rfl, _, B1.trans hS (Nat.le_trans B2 gr), Nat.le_refl _⟩, hZ', hown', rfl, N.app N', O', hEL, Ch.trans C, Sf.ch C⟩ hQ)
theorem own_virtualUp (A : own_At w p l e R s m args below meth c bytes ret own nm mx Z n0 a0 EL sf T h cells slots) {i : Nat} {x y : MethodName} {C owner : String} {a : Addr} {k n W : Nat} {argsL : List Value} {Qc : Option Value → Heap → Prop} (w1 : (Jvm.Cond.methodLink own i x).before a0 Z = true) (w2 : (Jvm.Cond.sameMethod x.cls owner x.name x.desc).before a0 Z = true) (w3 : (Jvm.Cond.declares ⟨owner, x.name, x.desc⟩).before a0 Z = true) (hy : owner ≠ "java/lang/invoke/MethodHandle" ∧ owner ≠ "java/lang/invoke/VarHandle") (w4 : (Jvm.Cond.selects C x y).before a0 Z = true) (w5 : (Jvm.Cond.instanceMethod y).before a0 Z = true) {ws : List Addr} (M : own_Pays l R p e below s args Z n0 EL ws y 3 W k n (.ref a :: argsL).toArray h Qc) (hws : ∀ x ∈ ws, x ∈ sf) (hW : (rest.map fun v => v.category).sum ≤ W) (E : Exa Z h a C) {sig : MethodDescriptor} (hds : parseMethodDescriptor x.desc = some sig) (hlen : argsL.length = sig.parameters.length) (hst : st = argsL.reverse ++ .ref a :: rest) (hsz : Ls.size = mx) (hd : decode bytes pc = .ok (.invokevirtual i, 3)) (hc : cells + k ≤ R.cells) (hs : slots + n ≤ R.slots)
    (kk : ∀ v T' h', own_At w p l e R s m args below meth c bytes ret own nm mx Z n0 a0 EL sf T' h' (cells + k) (slots + n) → Qc v h' → own_Run p e below Q m T' q Ls (v.toList ++ rest)) (hq : pc + 3 = q := by rfl) : own_Run p e below Q m T pc Ls st := by
  obtain ⟨⟨hx, hby, r1, r2, r3, r4⟩, vm0, locs, X, B, hZ, hown, hT, N, Od, hEL, Ch, Sf⟩ := A
  subst hby hq hst hT
  obtain ⟨cq, kq, qa, qb, qc⟩ := isOf (s := s.setVm vm0) (T := T) hZ rfl E
  obtain ⟨v, vm1, ⟨T', L', k', n'⟩, -, X', ⟨L, ⟨hQ, N', O', gr, hK⟩, l1, l2, l3⟩, st'⟩ := X.virtualBackUp hx hown (mvT (s := s.setVm vm0) hZ w1) (mvT (s := s.setVm vm0) hZ w2) (mvT (s := s.setVm vm0) hZ w3) hy (mvT (s := s.setVm vm0) hZ w4) (mvT (s := s.setVm vm0) hZ w5) (M vm0 hZ) qa qc (g := mkF m pc Ls (argsL.reverse ++ .ref a :: rest)) rfl (hsz.trans r4.symm) (Steps.refl _) (argsL := argsL) (rest := rest) (lenOf (ps := sig.parameters) (r := sig.returnType) hds hlen) rfl (by show 2 * 0 + _ ≤ _; rw [Nat.mul_zero, Nat.zero_add]; exact hW) hd (fun _ _ => ⟨rfl, rfl, hc, hs⟩)
  dsimp only [Pt.U, Pt.locs, Pt.cells, Pt.slots] at X' l1 l2 l3 st' hQ O' gr hK
  subst l1 l2 l3
  have C : CHr Z EL vm0 T.heap vm0 T'.heap := by
    rcases hK with rfl | hK
    · exact own_ch0 gr
    · exact CHr.keep hK (fun x hx => (Sf x (hws x hx)).1) Ch.1
  exact own_by (fun _ z => st'.trans z) (kk v T' T'.heap ⟨⟨hx, rfl, r1, r2, r3, r4⟩, vm0, _, X', B.le gr, hZ, hown, rfl, N.app N', O', hEL, Ch.trans C, Sf.ch C⟩ hQ)
theorem own_virtualUpW (A : own_At true p l e R s m args below meth c bytes ret own nm mx Z n0 a0 EL sf T h cells slots) {i : Nat} {x y : MethodName} {C owner : String} {a : Addr} {k n W : Nat} {argsL : List Value} {Qc : Option Value → Heap → Prop} (w1 : (Jvm.Cond.methodLink own i x).before a0 Z = true) (w2 : (Jvm.Cond.sameMethod x.cls owner x.name x.desc).before a0 Z = true) (w3 : (Jvm.Cond.declares ⟨owner, x.name, x.desc⟩).before a0 Z = true) (hy : owner ≠ "java/lang/invoke/MethodHandle" ∧ owner ≠ "java/lang/invoke/VarHandle") (w4 : (Jvm.Cond.selects C x y).before a0 Z = true) (w5 : (Jvm.Cond.instanceMethod y).before a0 Z = true) {ws : List Addr} (M : own_PaysW l R p e below s args Z n0 a0 EL ws y 3 W k n (.ref a :: argsL).toArray h Qc) (hws : ∀ x ∈ ws, x ∈ sf) (hW : (rest.map fun v => v.category).sum ≤ W) (E : Exa Z h a C) {sig : MethodDescriptor} (hds : parseMethodDescriptor x.desc = some sig) (hlen : argsL.length = sig.parameters.length) (hst : st = argsL.reverse ++ .ref a :: rest) (hsz : Ls.size = mx) (hd : decode bytes pc = .ok (.invokevirtual i, 3)) (hc : cells + k ≤ R.cells) (hs : slots + n ≤ R.slots)
    (kk : ∀ v T' h', own_At true p l e R s m args below meth c bytes ret own nm mx Z n0 a0 EL sf T' h' (cells + k) (slots + n) → Qc v h' → own_Run p e below Q m T' q Ls (v.toList ++ rest)) (hq : pc + 3 = q := by rfl) : own_Run p e below Q m T pc Ls st := by
  obtain ⟨⟨hx, hby, r1, r2, r3, r4⟩, vm0, locs, X, B, hZ, hown, hT, N, Od, hEL, Ch, Sf⟩ := A
  subst hby hq hst hT
  obtain ⟨cq, kq, qa, qb, qc⟩ := isOf (s := s.setVm vm0) (T := T) hZ rfl E
  obtain ⟨v, vm1, ⟨T', L', k', n'⟩, -, X', hS, gr, ⟨L, ⟨hQ, N', O', C⟩, l1, l2, l3⟩, st'⟩ := X.virtualBackUpS hx hown (mvT (s := s.setVm vm0) hZ w1) (mvT (s := s.setVm vm0) hZ w2) (mvT (s := s.setVm vm0) hZ w3) hy (mvT (s := s.setVm vm0) hZ w4) (mvT (s := s.setVm vm0) hZ w5) (M vm0 hEL hZ Ch.1 (fun x hx => Sf x (hws x hx))) qa qc (g := mkF m pc Ls (argsL.reverse ++ .ref a :: rest)) rfl (hsz.trans r4.symm) (Steps.refl _) (argsL := argsL) (rest := rest) (lenOf (ps := sig.parameters) (r := sig.returnType) hds hlen) rfl (by show 2 * 0 + _ ≤ _; rw [Nat.mul_zero, Nat.zero_add]; exact hW) hd (fun _ _ => ⟨rfl, rfl, hc, hs⟩)
  dsimp only [Pt.U, Pt.locs, Pt.cells, Pt.slots] at X' l1 l2 l3 st' hQ O' hS gr C
  subst l1 l2 l3
  have hZ' : Z.Warmed39 T'.vm := State.Warmed39.trans (t := s.setVm vm0) hZ hS.1
  have hown' : T'.vm.findClass own = some m.cls := by rw [hS.1.alike.findClass]; exact hown
  obtain ⟨k0, B1, B2⟩ : ∃ k0, s.Since vm0 k0 ∧ k0 ≤ T.heap.size := by
    rcases B with ⟨B, -⟩ | ⟨-, B⟩
    · cases B
    · exact B
  exact own_by (fun _ z => st'.trans z) (kk v T' T'.heap ⟨⟨hx, rfl, r1, r2, r3, r4⟩, T'.vm, _, X', Or.inr ⟨rfl, _, B1.trans hS (Nat.le_trans B2 gr), Nat.le_refl _⟩, hZ', hown', rfl, N.app N', O', hEL, Ch.trans C, Sf.ch C⟩ hQ)
/-- ldc of a String constant, opaque -/
theorem own_ldcO (A : own_At true p l e R s m args below meth c bytes ret own nm mx Z n0 a0 EL sf T h cells slots) {i n : Nat} {text : String} (wl : (Jvm.Cond.stringLink own i text).before a0 Z = true) (wS : ∀ a ∈ Bundle.stringAtoms, a.before a0 Z = true) (hd : decode bytes pc = .ok (.ldc i, 2)) (hn : 4 * text.toList.length ≤ n) (hbig : n ≤ 536870912) (hc : cells + 2 ≤ R.cells) (hl : slots + (n + 4) ≤ R.slots)
    (k : ∀ a T' h', own_At true p l e R s m args below meth c bytes ret own nm mx Z n0 a0 EL sf T' h' (cells + 2) (slots + (n + 4)) → Ext h h' → own_Run p e below Q m T' q Ls (.ref a :: st)) (hq : pc + 2 = q := by rfl) : own_Run p e below Q m T pc Ls st := by
  obtain ⟨⟨hx, hby, r⟩, vm0, locs, X, B, hZ, hown, hT, N, Od, hEL, Ch, Sf⟩ := A
  subst hby hq
  obtain ⟨k0, B1, B2⟩ : ∃ k0, s.Since vm0 k0 ∧ k0 ≤ h.size := by
    rcases B with ⟨B, -⟩ | ⟨-, B⟩
    · cases B
    · exact B
  obtain ⟨a, T', h', k1, X', e', E, hS, hk, hZ', hown', C, -, st'⟩ := ldcOH X hx hZ hown wl wS hT B1 B2 hEL Ch.1 (g := mkF m pc Ls st) rfl hd hn hbig hc hl
  exact own_by st' (k a T' h' ⟨⟨hx, rfl, r⟩, T'.vm, _, X', Or.inr ⟨rfl, k1, hS, hk⟩, hZ', hown', e', N, Od.ext E, hEL, Ch.trans C, Sf.ch C⟩ E)
/-- ldc of a String constant that is said to be held, read -/
theorem own_ldcR (A : own_At true p l e R s m args below meth c bytes ret own nm mx Z n0 a0 EL sf T h cells slots) {i n : Nat} {text : String} (wl : (Jvm.Cond.stringLink own i text).before a0 Z = true) (wS : ∀ a ∈ Bundle.stringAtoms, a.before a0 Z = true) (hmem : (own, i) ∈ EL) {vs : List Value} {z : Int32} (ht : (∀ c ∈ text.toList, c.toNat < 256) ∧ text.toList.map (fun c => Value.int (Jvm.Lit.byteI c.toNat.toUInt16)) = vs) (hz : ¬ z < 0) (hlz : z.toNatClampNeg = vs.length) (hd : decode bytes pc = .ok (.ldc i, 2)) (hn : 4 * text.toList.length ≤ n) (hbig : n ≤ 536870912) (hc : cells + 2 ≤ R.cells) (hl : slots + (n + 4) ≤ R.slots)
    (k : ∀ a b cb T' h', own_At true p l e R s m args below meth c bytes ret own nm mx Z n0 a0 EL sf T' h' (cells + 2) (slots + (n + 4)) → Ext h h' → Exa Z h' a "java/lang/String" → Fld Z h' a "java/lang/String" "coder" "B" (.int 0) → Fld Z h' a "java/lang/String" "value" "[B" (.ref b) → Arv Z h' b cb .byte z vs (.int 0) → (∀ x ∈ sf, x ≠ a ∧ x ≠ b) → own_Run p e below Q m T' q Ls (.ref a :: st)) (hq : pc + 2 = q := by rfl) : own_Run p e below Q m T pc Ls st := by
  obtain ⟨⟨hx, hby, r⟩, vm0, locs, X, B, hZ, hown, hT, N, Od, hEL, Ch, Sf⟩ := A
  subst hby hq
  obtain ⟨k0, B1, B2⟩ : ∃ k0, s.Since vm0 k0 ∧ k0 ≤ h.size := by
    rcases B with ⟨B, -⟩ | ⟨-, B⟩
    · cases B
    · exact B
  obtain ⟨a, T', h', k1, b, cb, X', e', E, hS, hk, hZ', hown', f1, f2, f3, f4, -, -, C, -, f5, st'⟩ := ldcCH X hx hZ hown wl wS hT B1 B2 hEL hmem Ch.1 ht hz hlz (g := mkF m pc Ls st) rfl hd hn hbig hc hl
  exact own_by st' (k a b cb T' h' ⟨⟨hx, rfl, r⟩, T'.vm, _, X', Or.inr ⟨rfl, k1, hS, hk⟩, hZ', hown', e', N, Od.ext E, hEL, Ch.trans C, Sf.ch C⟩ E f1 f2 f3 f4 (fun x hx => f5 x (Sf.ch C x hx).1))
end Own
section OwnCase
variable {args : Array Value} {s : State} {t : Term}
theorem own_ord {C n d : String} {k : Int32} {a : Addr} (ev : t.eval args s none [] s = some (.ref a)) (q : (Jvm.Cond.eq (Term.field t C n d) (Term.int k)).value args s none s [] = some true) : Fld s s.heap a C n d (.int k) := by
  obtain ⟨x, y, e1, e2, k1, k2⟩ := cmp_v (Or.inl q)
  obtain rfl : y = .int k := Option.some.inj (e2.symm.trans (Term.int_eval k))
  obtain ⟨z, rfl⟩ : ∃ z, x = .int z := k2
  obtain rfl : z = k := gotT (Cond.eq_ints e1 (Term.int_eval k)) q
  exact Fld.start ((fld_at ev).symm.trans e1)
theorem own_elem {ty : FieldType} {i k : Int32} {a : Addr} {c : Cell} (ev : t.eval args s none [] s = some (.ref a)) (Ar : Arr s s.heap a c ty) (q : (Jvm.Cond.eq (Term.elem t (Term.int i)) (Term.int k)).value args s none s [] = some true) : ¬ (i < 0 ∨ c.slots.size ≤ i.toNatClampNeg) ∧ c.slots[i.toNatClampNeg]? = some (.int k) := by
  obtain ⟨x, y, e1, e2, k1, k2⟩ := cmp_v (Or.inl q)
  obtain rfl : y = .int k := Option.some.inj (e2.symm.trans (Term.int_eval k))
  obtain ⟨z, rfl⟩ : ∃ z, x = .int z := k2
  obtain rfl : z = k := gotT (Cond.eq_ints e1 (Term.int_eval k)) q
  exact elem_in e1 ev (Term.int_eval i) Ar.1
theorem own_staI {C n d : String} {k : Int32} (q : (Jvm.Cond.eq (Term.static C n d) (Term.int k)).value args s none s [] = some true) : (Term.static C n d).eval args s none [] s = some (.int k) := by
  obtain ⟨x, y, e1, e2, k1, k2⟩ := cmp_v (Or.inl q)
  obtain rfl : y = .int k := Option.some.inj (e2.symm.trans (Term.int_eval k))
  obtain ⟨z, rfl⟩ : ∃ z, x = .int z := k2
  obtain rfl : z = k := gotT (Cond.eq_ints e1 (Term.int_eval k)) q
  exact e1
end OwnCase
def own_holds (k x : Int32) : Int32 := if k = 0 then (if x = 0 then 1 else 0) else if k = 1 then (if x = 0 then 0 else 1) else if k = 2 then (if 0 < x then 1 else 0) else if k = 3 then (if x < 0 then 0 else 1) else if k = 4 then (if x < 0 then 1 else 0) else (if 0 < x then 0 else 1)
def own_agr (g t c : Int32) : Int32 := if g = (if (t >>> (c &&& 31)) &&& 1 = 0 then 0 else 1) then 1 else 0
theorem own_neg {x : Int32} (h : x < 0) : own_holds 0 x = 0 ∧ own_holds 1 x = 1 ∧ own_holds 2 x = 0 ∧ own_holds 3 x = 0 ∧ own_holds 4 x = 1 ∧ own_holds 5 x = 1 := by
  have h1 : ¬ x = 0 := fun e => by subst e; exact absurd h (by decide)
  have h2 : ¬ 0 < x := by rw [Int32.lt_iff_toInt_lt] at h ⊢; omega
  simp [own_holds, h, h1, h2]
theorem own_zer {x : Int32} (h : x = 0) : own_holds 0 x = 1 ∧ own_holds 1 x = 0 ∧ own_holds 2 x = 0 ∧ own_holds 3 x = 1 ∧ own_holds 4 x = 0 ∧ own_holds 5 x = 1 := by
  subst h
  decide
theorem own_pos {x : Int32} (h : ¬ x < 0) (h0 : ¬ x = 0) : own_holds 0 x = 0 ∧ own_holds 1 x = 1 ∧ own_holds 2 x = 1 ∧ own_holds 3 x = 1 ∧ own_holds 4 x = 0 ∧ own_holds 5 x = 0 := by
  have h2 : 0 < x := by
    rw [Int32.lt_iff_toInt_lt] at h ⊢
    rw [← Int32.toInt_inj] at h0
    have e : (0 : Int32).toInt = 0 := rfl
    omega
  simp [own_holds, h, h0, h2]
theorem d2_0 : decode jdk_37_method_2_code 0 = .ok (.aload_n 0, 1) := by decide +kernel
theorem d2_1 : decode jdk_37_method_2_code 1 = .ok (.getfield 7, 3) := by decide +kernel
theorem d2_4 : decode jdk_37_method_2_code 4 = .ok (.ireturn, 1) := by decide +kernel
theorem own_pn0 : plainName "java/lang/Enum" = true := by first | (simp [plainName, overriddenIn]; done) | decide +kernel
set_option maxRecDepth 65536 in
set_option maxHeartbeats 40000000 in
theorem rm_ord (l : Launch) (Z : State) (a0 : Array Value) (hw : ∀ d ∈ tables_1, d.before a0 Z = true) (a : Addr) (k : Int32) (h0 : Heap) (n0 : Nat) (O0 : Old Z n0 h0) (F : Fld Z h0 a "java/lang/Enum" "ordinal" "I" (.int k)) :
    own_Met false l Z n0 [] [] (⟨"java/lang/Enum", "ordinal", "()I"⟩ : MethodName) jdk_37_method_2_code 1 (some .int) [] ({ frames := 0, cells := 0, slots := 0, locals := 0 } : Room) #[(.ref a)] h0 (fun v h => v = some (.int k) ∧ h0 = h) := by
  refine own_enter (a0 := a0) (own := "java/lang/Enum") (nm := "ordinal") (Ls := #[.val (.ref a)]) own_pn0 O0 EW.nil (fun m => by first | (simp [entryFrame, mkF, argsToLocals, Value.category, maxLocals]; done) | rfl) ?_
  intro p e s m args below meth cde T0 Q hQ A0
  show own_Run p e below Q m T0 0 #[.val (.ref a)] []
  refine own_aloadN (q := 1) (v := (.ref a)) A0 d2_0 rfl rfl ?_
  refine own_getF (host := "") (q := 4) A0 (Or.inl (hw _ (List.mem_of_getElem? (i := 15) rfl))) Via.refl F d2_1 ?_
  intro T1 A2
  exact own_retI A2 hQ d2_4 ⟨rfl, rfl⟩
theorem own_pd0 : parseMethodDescriptor "()I" = some ⟨[], some .int⟩ := by decide +kernel
theorem own_pd1 : parseMethodDescriptor "(I)Z" = some ⟨[.int], some .boolean⟩ := by decide +kernel
theorem own_pd2 : parseMethodDescriptor "(ZII)Z" = some ⟨[.boolean, .int, .int], some .boolean⟩ := by decide +kernel
theorem d1_0 : decode prog_4_method_5_code 0 = .ok (.aload_n 0, 1) := by decide +kernel
theorem d1_1 : decode prog_4_method_5_code 1 = .ok (.invokevirtual 55, 3) := by decide +kernel
theorem d1_4 : decode prog_4_method_5_code 4 = .ok (.tableswitch 101 0 4 #[36, 49, 62, 75, 88], 36) := by decide +kernel
theorem d1_40 : decode prog_4_method_5_code 40 = .ok (.iload_n 1, 1) := by decide +kernel
theorem d1_41 : decode prog_4_method_5_code 41 = .ok (.ifCond .ne 7, 3) := by decide +kernel
theorem d1_44 : decode prog_4_method_5_code 44 = .ok (.iconst 1, 1) := by decide +kernel
theorem d1_45 : decode prog_4_method_5_code 45 = .ok (.goto 4, 3) := by decide +kernel
theorem d1_48 : decode prog_4_method_5_code 48 = .ok (.iconst 0, 1) := by decide +kernel
theorem d1_49 : decode prog_4_method_5_code 49 = .ok (.istore_n 2, 1) := by decide +kernel
theorem d1_50 : decode prog_4_method_5_code 50 = .ok (.goto 65, 3) := by decide +kernel
theorem d1_53 : decode prog_4_method_5_code 53 = .ok (.iload_n 1, 1) := by decide +kernel
theorem d1_54 : decode prog_4_method_5_code 54 = .ok (.ifCond .eq 7, 3) := by decide +kernel
theorem d1_57 : decode prog_4_method_5_code 57 = .ok (.iconst 1, 1) := by decide +kernel
theorem d1_58 : decode prog_4_method_5_code 58 = .ok (.goto 4, 3) := by decide +kernel
theorem d1_61 : decode prog_4_method_5_code 61 = .ok (.iconst 0, 1) := by decide +kernel
theorem d1_62 : decode prog_4_method_5_code 62 = .ok (.istore_n 2, 1) := by decide +kernel
theorem d1_63 : decode prog_4_method_5_code 63 = .ok (.goto 52, 3) := by decide +kernel
theorem d1_66 : decode prog_4_method_5_code 66 = .ok (.iload_n 1, 1) := by decide +kernel
theorem d1_67 : decode prog_4_method_5_code 67 = .ok (.ifCond .le 7, 3) := by decide +kernel
theorem d1_70 : decode prog_4_method_5_code 70 = .ok (.iconst 1, 1) := by decide +kernel
theorem d1_71 : decode prog_4_method_5_code 71 = .ok (.goto 4, 3) := by decide +kernel
theorem d1_74 : decode prog_4_method_5_code 74 = .ok (.iconst 0, 1) := by decide +kernel
theorem d1_75 : decode prog_4_method_5_code 75 = .ok (.istore_n 2, 1) := by decide +kernel
theorem d1_76 : decode prog_4_method_5_code 76 = .ok (.goto 39, 3) := by decide +kernel
theorem d1_79 : decode prog_4_method_5_code 79 = .ok (.iload_n 1, 1) := by decide +kernel
theorem d1_80 : decode prog_4_method_5_code 80 = .ok (.ifCond .lt 7, 3) := by decide +kernel
theorem d1_83 : decode prog_4_method_5_code 83 = .ok (.iconst 1, 1) := by decide +kernel
theorem d1_84 : decode prog_4_method_5_code 84 = .ok (.goto 4, 3) := by decide +kernel
theorem d1_87 : decode prog_4_method_5_code 87 = .ok (.iconst 0, 1) := by decide +kernel
theorem d1_88 : decode prog_4_method_5_code 88 = .ok (.istore_n 2, 1) := by decide +kernel
theorem d1_89 : decode prog_4_method_5_code 89 = .ok (.goto 26, 3) := by decide +kernel
theorem d1_92 : decode prog_4_method_5_code 92 = .ok (.iload_n 1, 1) := by decide +kernel
theorem d1_93 : decode prog_4_method_5_code 93 = .ok (.ifCond .ge 7, 3) := by decide +kernel
theorem d1_96 : decode prog_4_method_5_code 96 = .ok (.iconst 1, 1) := by decide +kernel
theorem d1_97 : decode prog_4_method_5_code 97 = .ok (.goto 4, 3) := by decide +kernel
theorem d1_100 : decode prog_4_method_5_code 100 = .ok (.iconst 0, 1) := by decide +kernel
theorem d1_101 : decode prog_4_method_5_code 101 = .ok (.istore_n 2, 1) := by decide +kernel
theorem d1_102 : decode prog_4_method_5_code 102 = .ok (.goto 13, 3) := by decide +kernel
theorem d1_105 : decode prog_4_method_5_code 105 = .ok (.iload_n 1, 1) := by decide +kernel
theorem d1_106 : decode prog_4_method_5_code 106 = .ok (.ifCond .gt 7, 3) := by decide +kernel
theorem d1_109 : decode prog_4_method_5_code 109 = .ok (.iconst 1, 1) := by decide +kernel
theorem d1_110 : decode prog_4_method_5_code 110 = .ok (.goto 4, 3) := by decide +kernel
theorem d1_113 : decode prog_4_method_5_code 113 = .ok (.iconst 0, 1) := by decide +kernel
theorem d1_114 : decode prog_4_method_5_code 114 = .ok (.istore_n 2, 1) := by decide +kernel
theorem d1_115 : decode prog_4_method_5_code 115 = .ok (.iload_n 2, 1) := by decide +kernel
theorem d1_116 : decode prog_4_method_5_code 116 = .ok (.ireturn, 1) := by decide +kernel
theorem own_pn1 : plainName "com/example/any_row/anyrow/ComparisonOperator" = true := by first | (simp [plainName, overriddenIn]; done) | decide +kernel
set_option maxRecDepth 65536 in
set_option maxHeartbeats 40000000 in
theorem rm_holds (l : Launch) (Z : State) (a0 : Array Value) (hw : ∀ d ∈ tables_1, d.before a0 Z = true) (a : Addr) (k x : Int32) (h0 : Heap) (n0 : Nat) (O0 : Old Z n0 h0) (E : Exa Z h0 a "com/example/any_row/anyrow/ComparisonOperator") (F : Fld Z h0 a "java/lang/Enum" "ordinal" "I" (.int k)) (hk : k = 0 ∨ k = 1 ∨ k = 2 ∨ k = 3 ∨ k = 4 ∨ k = 5) :
    own_Met false l Z n0 [] [] (⟨"com/example/any_row/anyrow/ComparisonOperator", "holds", "(I)Z"⟩ : MethodName) prog_4_method_5_code 3 (some .boolean) [] ({ frames := 1, cells := 0, slots := 0, locals := 12 } : Room) #[(.ref a), (.int x)] h0 (fun v h => v = some (.int (own_holds k x)) ∧ h0 = h) := by
  refine own_enter (a0 := a0) (own := "com/example/any_row/anyrow/ComparisonOperator") (nm := "holds") (Ls := #[.val (.ref a), .val (.int x), .unset]) own_pn1 O0 EW.nil (fun m => by first | (simp [entryFrame, mkF, argsToLocals, Value.category, maxLocals]; done) | rfl) ?_
  intro p e s m args below meth cde T0 Q hQ A0
  show own_Run p e below Q m T0 0 #[.val (.ref a), .val (.int x), .unset] []
  refine own_aloadN (q := 1) (v := (.ref a)) A0 d1_0 rfl rfl ?_
  refine own_virtualUp (q := 4) (W := 0) (argsL := []) (rest := []) A0 (hw _ (List.mem_of_getElem? (i := 8) rfl)) (hw _ (List.mem_of_getElem? (i := 9) rfl)) (hw _ (List.mem_of_getElem? (i := 10) rfl)) (by decide) (hw _ (List.mem_of_getElem? (i := 12) rfl)) (hw _ (List.mem_of_getElem? (i := 11) rfl)) (own_pay (rm_ord l Z a0 hw a k h0 n0 O0 F) (hw _ (List.mem_of_getElem? (i := 14) rfl)) (hw _ (List.mem_of_getElem? (i := 13) rfl)) (by decide) (by decide)) (fun _ z => nomatch z) (Nat.le_of_eq rfl) E own_pd0 rfl rfl rfl d1_1 (by decide) (by decide) ?_
  rintro v1 T2 h3 A4 ⟨rfl, rfl⟩
  show own_Run p e below Q m T2 4 #[.val (.ref a), .val (.int x), .unset] [(.int k)]
  rcases hk with rfl | rfl | rfl | rfl | rfl | rfl
  · refine own_tswIn (q := 40) (o := 36) A4 d1_4 (by decide) (by decide) ?_
    refine own_iloadN (q := 41) (v := x) A4 d1_40 rfl ?_
    refine own_ifc (q := 48) (q' := 44) A4 d1_41 ?_ ?_
    · rintro (c5 : ¬ x = (0 : Int32))
      refine own_iconst (q := 49) A4 (0 : Int32) d1_48 rfl ?_
      refine own_istoreN (q := 50) (L' := #[.val (.ref a), .val (.int x), .val (.int (0 : Int32))]) A4 d1_49 rfl ?_
      refine own_goto (q := 115) A4 d1_50 ?_
      refine own_iloadN (q := 116) (v := (0 : Int32)) A4 d1_115 rfl ?_
      exact own_retN A4 hQ (t := .boolean) (by simp) d1_116 ⟨by simp [nar, own_holds, *], rfl⟩
    · rintro (c5 : x = (0 : Int32))
      refine own_iconst (q := 45) A4 (1 : Int32) d1_44 rfl ?_
      refine own_goto (q := 49) A4 d1_45 ?_
      refine own_istoreN (q := 50) (L' := #[.val (.ref a), .val (.int x), .val (.int (1 : Int32))]) A4 d1_49 rfl ?_
      refine own_goto (q := 115) A4 d1_50 ?_
      refine own_iloadN (q := 116) (v := (1 : Int32)) A4 d1_115 rfl ?_
      exact own_retN A4 hQ (t := .boolean) (by simp) d1_116 ⟨by simp [nar, own_holds, *], rfl⟩
  · refine own_tswIn (q := 53) (o := 49) A4 d1_4 (by decide) (by decide) ?_
    refine own_iloadN (q := 54) (v := x) A4 d1_53 rfl ?_
    refine own_ifc (q := 61) (q' := 57) A4 d1_54 ?_ ?_
    · rintro (c6 : x = (0 : Int32))
      refine own_iconst (q := 62) A4 (0 : Int32) d1_61 rfl ?_
      refine own_istoreN (q := 63) (L' := #[.val (.ref a), .val (.int x), .val (.int (0 : Int32))]) A4 d1_62 rfl ?_
      refine own_goto (q := 115) A4 d1_63 ?_
      refine own_iloadN (q := 116) (v := (0 : Int32)) A4 d1_115 rfl ?_
      exact own_retN A4 hQ (t := .boolean) (by simp) d1_116 ⟨by simp [nar, own_holds, *], rfl⟩
    · rintro (c6 : ¬ x = (0 : Int32))
      refine own_iconst (q := 58) A4 (1 : Int32) d1_57 rfl ?_
      refine own_goto (q := 62) A4 d1_58 ?_
      refine own_istoreN (q := 63) (L' := #[.val (.ref a), .val (.int x), .val (.int (1 : Int32))]) A4 d1_62 rfl ?_
      refine own_goto (q := 115) A4 d1_63 ?_
      refine own_iloadN (q := 116) (v := (1 : Int32)) A4 d1_115 rfl ?_
      exact own_retN A4 hQ (t := .boolean) (by simp) d1_116 ⟨by simp [nar, own_holds, *], rfl⟩
  · refine own_tswIn (q := 66) (o := 62) A4 d1_4 (by decide) (by decide) ?_
    refine own_iloadN (q := 67) (v := x) A4 d1_66 rfl ?_
    refine own_ifc (q := 74) (q' := 70) A4 d1_67 ?_ ?_
    · rintro (c7 : ¬ (0 : Int32) < x)
      refine own_iconst (q := 75) A4 (0 : Int32) d1_74 rfl ?_
      refine own_istoreN (q := 76) (L' := #[.val (.ref a), .val (.int x), .val (.int (0 : Int32))]) A4 d1_75 rfl ?_
      refine own_goto (q := 115) A4 d1_76 ?_
      refine own_iloadN (q := 116) (v := (0 : Int32)) A4 d1_115 rfl ?_
      exact own_retN A4 hQ (t := .boolean) (by simp) d1_116 ⟨by simp [nar, own_holds, *], rfl⟩
    · rintro (c7 : (0 : Int32) < x)
      refine own_iconst (q := 71) A4 (1 : Int32) d1_70 rfl ?_
      refine own_goto (q := 75) A4 d1_71 ?_
      refine own_istoreN (q := 76) (L' := #[.val (.ref a), .val (.int x), .val (.int (1 : Int32))]) A4 d1_75 rfl ?_
      refine own_goto (q := 115) A4 d1_76 ?_
      refine own_iloadN (q := 116) (v := (1 : Int32)) A4 d1_115 rfl ?_
      exact own_retN A4 hQ (t := .boolean) (by simp) d1_116 ⟨by simp [nar, own_holds, *], rfl⟩
  · refine own_tswIn (q := 79) (o := 75) A4 d1_4 (by decide) (by decide) ?_
    refine own_iloadN (q := 80) (v := x) A4 d1_79 rfl ?_
    refine own_ifc (q := 87) (q' := 83) A4 d1_80 ?_ ?_
    · rintro (c8 : x < (0 : Int32))
      refine own_iconst (q := 88) A4 (0 : Int32) d1_87 rfl ?_
      refine own_istoreN (q := 89) (L' := #[.val (.ref a), .val (.int x), .val (.int (0 : Int32))]) A4 d1_88 rfl ?_
      refine own_goto (q := 115) A4 d1_89 ?_
      refine own_iloadN (q := 116) (v := (0 : Int32)) A4 d1_115 rfl ?_
      exact own_retN A4 hQ (t := .boolean) (by simp) d1_116 ⟨by simp [nar, own_holds, *], rfl⟩
    · rintro (c8 : ¬ x < (0 : Int32))
      refine own_iconst (q := 84) A4 (1 : Int32) d1_83 rfl ?_
      refine own_goto (q := 88) A4 d1_84 ?_
      refine own_istoreN (q := 89) (L' := #[.val (.ref a), .val (.int x), .val (.int (1 : Int32))]) A4 d1_88 rfl ?_
      refine own_goto (q := 115) A4 d1_89 ?_
      refine own_iloadN (q := 116) (v := (1 : Int32)) A4 d1_115 rfl ?_
      exact own_retN A4 hQ (t := .boolean) (by simp) d1_116 ⟨by simp [nar, own_holds, *], rfl⟩
  · refine own_tswIn (q := 92) (o := 88) A4 d1_4 (by decide) (by decide) ?_
    refine own_iloadN (q := 93) (v := x) A4 d1_92 rfl ?_
    refine own_ifc (q := 100) (q' := 96) A4 d1_93 ?_ ?_
    · rintro (c9 : ¬ x < (0 : Int32))
      refine own_iconst (q := 101) A4 (0 : Int32) d1_100 rfl ?_
      refine own_istoreN (q := 102) (L' := #[.val (.ref a), .val (.int x), .val (.int (0 : Int32))]) A4 d1_101 rfl ?_
      refine own_goto (q := 115) A4 d1_102 ?_
      refine own_iloadN (q := 116) (v := (0 : Int32)) A4 d1_115 rfl ?_
      exact own_retN A4 hQ (t := .boolean) (by simp) d1_116 ⟨by simp [nar, own_holds, *], rfl⟩
    · rintro (c9 : x < (0 : Int32))
      refine own_iconst (q := 97) A4 (1 : Int32) d1_96 rfl ?_
      refine own_goto (q := 101) A4 d1_97 ?_
      refine own_istoreN (q := 102) (L' := #[.val (.ref a), .val (.int x), .val (.int (1 : Int32))]) A4 d1_101 rfl ?_
      refine own_goto (q := 115) A4 d1_102 ?_
      refine own_iloadN (q := 116) (v := (1 : Int32)) A4 d1_115 rfl ?_
      exact own_retN A4 hQ (t := .boolean) (by simp) d1_116 ⟨by simp [nar, own_holds, *], rfl⟩
  · refine own_tswOut (q := 105) A4 d1_4 (by decide) ?_
    refine own_iloadN (q := 106) (v := x) A4 d1_105 rfl ?_
    refine own_ifc (q := 113) (q' := 109) A4 d1_106 ?_ ?_
    · rintro (c10 : (0 : Int32) < x)
      refine own_iconst (q := 114) A4 (0 : Int32) d1_113 rfl ?_
      refine own_istoreN (q := 115) (L' := #[.val (.ref a), .val (.int x), .val (.int (0 : Int32))]) A4 d1_114 rfl ?_
      refine own_iloadN (q := 116) (v := (0 : Int32)) A4 d1_115 rfl ?_
      exact own_retN A4 hQ (t := .boolean) (by simp) d1_116 ⟨by simp [nar, own_holds, *], rfl⟩
    · rintro (c10 : ¬ (0 : Int32) < x)
      refine own_iconst (q := 110) A4 (1 : Int32) d1_109 rfl ?_
      refine own_goto (q := 114) A4 d1_110 ?_
      refine own_istoreN (q := 115) (L' := #[.val (.ref a), .val (.int x), .val (.int (1 : Int32))]) A4 d1_114 rfl ?_
      refine own_iloadN (q := 116) (v := (1 : Int32)) A4 d1_115 rfl ?_
      exact own_retN A4 hQ (t := .boolean) (by simp) d1_116 ⟨by simp [nar, own_holds, *], rfl⟩
theorem d3_0 : decode method_3_code 0 = .ok (.iload_n 1, 1) := by decide +kernel
theorem d3_1 : decode method_3_code 1 = .ok (.iload_n 2, 1) := by decide +kernel
theorem d3_2 : decode method_3_code 2 = .ok (.ishr, 1) := by decide +kernel
theorem d3_3 : decode method_3_code 3 = .ok (.iconst 1, 1) := by decide +kernel
theorem d3_4 : decode method_3_code 4 = .ok (.iand, 1) := by decide +kernel
theorem d3_5 : decode method_3_code 5 = .ok (.ifCond .eq 7, 3) := by decide +kernel
theorem d3_8 : decode method_3_code 8 = .ok (.iconst 1, 1) := by decide +kernel
theorem d3_9 : decode method_3_code 9 = .ok (.goto 4, 3) := by decide +kernel
theorem d3_12 : decode method_3_code 12 = .ok (.iconst 0, 1) := by decide +kernel
theorem d3_13 : decode method_3_code 13 = .ok (.istore_n 3, 1) := by decide +kernel
theorem d3_14 : decode method_3_code 14 = .ok (.iload_n 0, 1) := by decide +kernel
theorem d3_15 : decode method_3_code 15 = .ok (.iload_n 3, 1) := by decide +kernel
theorem d3_16 : decode method_3_code 16 = .ok (.if_icmp .ne 7, 3) := by decide +kernel
theorem d3_19 : decode method_3_code 19 = .ok (.iconst 1, 1) := by decide +kernel
theorem d3_20 : decode method_3_code 20 = .ok (.goto 4, 3) := by decide +kernel
theorem d3_23 : decode method_3_code 23 = .ok (.iconst 0, 1) := by decide +kernel
theorem d3_24 : decode method_3_code 24 = .ok (.ireturn, 1) := by decide +kernel
theorem own_pn2 : plainName "com/example/any_row/anyrow/ComparisonOperatorHoldsPinLaw" = true := by first | (simp [plainName, overriddenIn]; done) | decide +kernel
set_option maxRecDepth 65536 in
set_option maxHeartbeats 40000000 in
theorem rm_agr (l : Launch) (Z : State) (a0 : Array Value) (hw : ∀ d ∈ tables_1, d.before a0 Z = true) (g t c : Int32) (h0 : Heap) (n0 : Nat) (O0 : Old Z n0 h0)  :
    own_Met false l Z n0 [] [] (⟨"com/example/any_row/anyrow/ComparisonOperatorHoldsPinLaw", "agrees", "(ZII)Z"⟩ : MethodName) method_3_code 4 (some .boolean) [] ({ frames := 0, cells := 0, slots := 0, locals := 0 } : Room) #[(.int g), (.int t), (.int c)] h0 (fun v h => v = some (.int (own_agr g t c)) ∧ h0 = h) := by
  refine own_enter (a0 := a0) (own := "com/example/any_row/anyrow/ComparisonOperatorHoldsPinLaw") (nm := "agrees") (Ls := #[.val (.int g), .val (.int t), .val (.int c), .unset]) own_pn2 O0 EW.nil (fun m => by first | (simp [entryFrame, mkF, argsToLocals, Value.category, maxLocals]; done) | rfl) ?_
  intro p e s m args below meth cde T0 Q hQ A0
  show own_Run p e below Q m T0 0 #[.val (.int g), .val (.int t), .val (.int c), .unset] []
  refine own_iloadN (q := 1) (v := t) A0 d3_0 rfl ?_
  refine own_iloadN (q := 2) (v := c) A0 d3_1 rfl ?_
  refine own_ishr (q := 3) A0 d3_2 ?_
  refine own_iconst (q := 4) A0 (1 : Int32) d3_3 rfl ?_
  refine own_iand (q := 5) A0 d3_4 ?_
  refine own_ifc (q := 12) (q' := 8) A0 d3_5 ?_ ?_
  · rintro (c1 : (((t >>> (c &&& 31))) &&& (1 : Int32)) = (0 : Int32))
    refine own_iconst (q := 13) A0 (0 : Int32) d3_12 rfl ?_
    refine own_istoreN (q := 14) (L' := #[.val (.int g), .val (.int t), .val (.int c), .val (.int (0 : Int32))]) A0 d3_13 rfl ?_
    refine own_iloadN (q := 15) (v := g) A0 d3_14 rfl ?_
    refine own_iloadN (q := 16) (v := (0 : Int32)) A0 d3_15 rfl ?_
    refine own_icmp (q := 23) (q' := 19) A0 d3_16 ?_ ?_
    · rintro (c2 : ¬ g = (0 : Int32))
      refine own_iconst (q := 24) A0 (0 : Int32) d3_23 rfl ?_
      exact own_retN A0 hQ (t := .boolean) (by simp) d3_24 ⟨by simp [nar, own_agr, *], rfl⟩
    · rintro (c2 : g = (0 : Int32))
      refine own_iconst (q := 20) A0 (1 : Int32) d3_19 rfl ?_
      refine own_goto (q := 24) A0 d3_20 ?_
      exact own_retN A0 hQ (t := .boolean) (by simp) d3_24 ⟨by simp [nar, own_agr, *], rfl⟩
  · rintro (c1 : ¬ (((t >>> (c &&& 31))) &&& (1 : Int32)) = (0 : Int32))
    refine own_iconst (q := 9) A0 (1 : Int32) d3_8 rfl ?_
    refine own_goto (q := 13) A0 d3_9 ?_
    refine own_istoreN (q := 14) (L' := #[.val (.int g), .val (.int t), .val (.int c), .val (.int (1 : Int32))]) A0 d3_13 rfl ?_
    refine own_iloadN (q := 15) (v := g) A0 d3_14 rfl ?_
    refine own_iloadN (q := 16) (v := (1 : Int32)) A0 d3_15 rfl ?_
    refine own_icmp (q := 23) (q' := 19) A0 d3_16 ?_ ?_
    · rintro (c3 : ¬ g = (1 : Int32))
      refine own_iconst (q := 24) A0 (0 : Int32) d3_23 rfl ?_
      exact own_retN A0 hQ (t := .boolean) (by simp) d3_24 ⟨by simp [nar, own_agr, *], rfl⟩
    · rintro (c3 : g = (1 : Int32))
      refine own_iconst (q := 20) A0 (1 : Int32) d3_19 rfl ?_
      refine own_goto (q := 24) A0 d3_20 ?_
      exact own_retN A0 hQ (t := .boolean) (by simp) d3_24 ⟨by simp [nar, own_agr, *], rfl⟩
set_option maxRecDepth 65536 in
set_option maxHeartbeats 40000000 in
theorem rm_law (l : Launch) (Z : State) (a0 : Array Value) (hw : ∀ d ∈ tables_1, d.before a0 Z = true) (ws : List Jvm.Cond) (aEQ aNE aGT aGE aLT aLE : Addr) (i0 : Int32) (h0 : Heap) (n0 : Nat) (O0 : Old Z n0 h0) (SEQ : Sta Z Z.heap "com/example/any_row/anyrow/ComparisonOperator" "EQ" "Lcom/example/any_row/anyrow/ComparisonOperator;" (.ref aEQ)) (EEQ : Exa Z Z.heap aEQ "com/example/any_row/anyrow/ComparisonOperator") (FEQ : Fld Z Z.heap aEQ "java/lang/Enum" "ordinal" "I" (.int 0)) (SNE : Sta Z Z.heap "com/example/any_row/anyrow/ComparisonOperator" "NE" "Lcom/example/any_row/anyrow/ComparisonOperator;" (.ref aNE)) (ENE : Exa Z Z.heap aNE "com/example/any_row/anyrow/ComparisonOperator") (FNE : Fld Z Z.heap aNE "java/lang/Enum" "ordinal" "I" (.int 1)) (SGT : Sta Z Z.heap "com/example/any_row/anyrow/ComparisonOperator" "GT" "Lcom/example/any_row/anyrow/ComparisonOperator;" (.ref aGT)) (EGT : Exa Z Z.heap aGT "com/example/any_row/anyrow/ComparisonOperator") (FGT : Fld Z Z.heap aGT "java/lang/Enum" "ordinal" "I" (.int 2)) (SGE : Sta Z Z.heap "com/example/any_row/anyrow/ComparisonOperator" "GE" "Lcom/example/any_row/anyrow/ComparisonOperator;" (.ref aGE)) (EGE : Exa Z Z.heap aGE "com/example/any_row/anyrow/ComparisonOperator") (FGE : Fld Z Z.heap aGE "java/lang/Enum" "ordinal" "I" (.int 3)) (SLT : Sta Z Z.heap "com/example/any_row/anyrow/ComparisonOperator" "LT" "Lcom/example/any_row/anyrow/ComparisonOperator;" (.ref aLT)) (ELT : Exa Z Z.heap aLT "com/example/any_row/anyrow/ComparisonOperator") (FLT : Fld Z Z.heap aLT "java/lang/Enum" "ordinal" "I" (.int 4)) (SLE : Sta Z Z.heap "com/example/any_row/anyrow/ComparisonOperator" "LE" "Lcom/example/any_row/anyrow/ComparisonOperator;" (.ref aLE)) (ELE : Exa Z Z.heap aLE "com/example/any_row/anyrow/ComparisonOperator") (FLE : Fld Z Z.heap aLE "java/lang/Enum" "ordinal" "I" (.int 5)) :
    own_Met false l Z n0 [] [] x code maxLocals ret ws room_1 #[(.int i0)] h0 (fun v _ => v = some (.int 1)) := by
  refine own_enter (a0 := a0) (own := "com/example/any_row/anyrow/ComparisonOperatorHoldsPinLaw") (nm := "law") (Ls := #[.val (.int i0), .unset]) own_pn2 O0 EW.nil (fun m => by first | (simp [entryFrame, mkF, argsToLocals, Value.category, maxLocals]; done) | rfl) ?_
  intro p e s m args below meth cde T0 Q hQ A0
  show own_Run p e below Q m T0 0 #[.val (.int i0), .unset] []
  refine own_iloadN (q := 1) (v := i0) A0 at_0 rfl ?_
  refine own_ifc (q := 8) (q' := 4) A0 at_1 ?_ ?_
  · rintro (c1 : ¬ i0 < (0 : Int32))
    refine own_iloadN (q := 9) (v := i0) A0 at_8 rfl ?_
    refine own_ifc (q := 16) (q' := 12) A0 at_9 ?_ ?_
    · rintro (c2 : ¬ i0 = (0 : Int32))
      obtain ⟨e0, e1, e2, e3, e4, e5⟩ := own_pos c1 c2
      refine own_iconst (q := 17) A0 (2 : Int32) at_16 rfl ?_
      refine own_istoreN (q := 18) (L' := #[.val (.int i0), .val (.int (2 : Int32))]) A0 at_17 rfl ?_
      refine own_getS (q := 21) A0 (hw _ (List.mem_of_getElem? (i := 0) rfl)) Via.refl SEQ at_18 ?_
      intro T3 A4
      refine own_iloadN (q := 22) (v := i0) A4 at_21 rfl ?_
      refine own_virtual (q := 25) (W := 0) (argsL := [(.int i0)]) (rest := []) A4 (hw _ (List.mem_of_getElem? (i := 3) rfl)) (hw _ (List.mem_of_getElem? (i := 4) rfl)) (hw _ (List.mem_of_getElem? (i := 6) rfl)) (hw _ (List.mem_of_getElem? (i := 5) rfl)) (by decide) (own_pay (rm_holds l Z a0 hw aEQ 0 i0 h0 n0 O0 (Exa.ext A4.old.2 EEQ) (Fld.ext A4.old.2 FEQ) (by decide)) (hw _ (List.mem_of_getElem? (i := 7) rfl)) (hw _ (List.mem_of_getElem? (i := 1) rfl)) (by decide) (by decide)) (fun _ z => nomatch z) (Nat.le_of_eq rfl) (Exa.ext A4.old.2 EEQ) own_pd1 rfl rfl rfl at_22 (by decide) (by decide) ?_
      rintro v5 T6 h7 A8 ⟨rfl, rfl⟩
      show own_Run p e below Q m T6 25 #[.val (.int i0), .val (.int (2 : Int32))] [(.int (own_holds 0 i0))]
      refine own_iconst (q := 26) A8 (2 : Int32) at_25 rfl ?_
      refine own_iloadN (q := 27) (v := (2 : Int32)) A8 at_26 rfl ?_
      refine own_static (q := 30) (W := 0) (argsL := [(.int (own_holds 0 i0)), (.int (2 : Int32)), (.int (2 : Int32))]) (rest := []) A8 (hw _ (List.mem_of_getElem? (i := 17) rfl)) (hw _ (List.mem_of_getElem? (i := 18) rfl)) (hw _ (List.mem_of_getElem? (i := 19) rfl)) (hw _ (List.mem_of_getElem? (i := 20) rfl)) (by decide) (own_pay (rm_agr l Z a0 hw (own_holds 0 i0) (2 : Int32) (2 : Int32) h0 n0 O0) (hw _ (List.mem_of_getElem? (i := 20) rfl)) (hw _ (List.mem_of_getElem? (i := 19) rfl)) (by decide) (by decide)) (fun _ z => nomatch z) (Nat.le_of_eq rfl) own_pd2 rfl rfl rfl at_27 (by decide) (by decide) ?_
      rintro v9 T10 h11 A12 ⟨rfl, rfl⟩
      show own_Run p e below Q m T10 30 #[.val (.int i0), .val (.int (2 : Int32))] [(.int (own_agr (own_holds 0 i0) (2 : Int32) (2 : Int32)))]
      refine own_ifcF (q := 33) A12 at_30 (show ¬ (own_agr (own_holds 0 i0) (2 : Int32) (2 : Int32)) = (0 : Int32) from by rw [e0]; decide) ?_
      refine own_getS (q := 36) A12 (hw _ (List.mem_of_getElem? (i := 21) rfl)) Via.refl SNE at_33 ?_
      intro T13 A14
      refine own_iloadN (q := 37) (v := i0) A14 at_36 rfl ?_
      refine own_virtual (q := 40) (W := 0) (argsL := [(.int i0)]) (rest := []) A14 (hw _ (List.mem_of_getElem? (i := 3) rfl)) (hw _ (List.mem_of_getElem? (i := 4) rfl)) (hw _ (List.mem_of_getElem? (i := 6) rfl)) (hw _ (List.mem_of_getElem? (i := 5) rfl)) (by decide) (own_pay (rm_holds l Z a0 hw aNE 1 i0 h0 n0 O0 (Exa.ext A14.old.2 ENE) (Fld.ext A14.old.2 FNE) (by decide)) (hw _ (List.mem_of_getElem? (i := 7) rfl)) (hw _ (List.mem_of_getElem? (i := 1) rfl)) (by decide) (by decide)) (fun _ z => nomatch z) (Nat.le_of_eq rfl) (Exa.ext A14.old.2 ENE) own_pd1 rfl rfl rfl at_37 (by decide) (by decide) ?_
      rintro v15 T16 h17 A18 ⟨rfl, rfl⟩
      show own_Run p e below Q m T16 40 #[.val (.int i0), .val (.int (2 : Int32))] [(.int (own_holds 1 i0))]
      refine own_iconst (q := 41) A18 (5 : Int32) at_40 rfl ?_
      refine own_iloadN (q := 42) (v := (2 : Int32)) A18 at_41 rfl ?_
      refine own_static (q := 45) (W := 0) (argsL := [(.int (own_holds 1 i0)), (.int (5 : Int32)), (.int (2 : Int32))]) (rest := []) A18 (hw _ (List.mem_of_getElem? (i := 17) rfl)) (hw _ (List.mem_of_getElem? (i := 18) rfl)) (hw _ (List.mem_of_getElem? (i := 19) rfl)) (hw _ (List.mem_of_getElem? (i := 20) rfl)) (by decide) (own_pay (rm_agr l Z a0 hw (own_holds 1 i0) (5 : Int32) (2 : Int32) h0 n0 O0) (hw _ (List.mem_of_getElem? (i := 20) rfl)) (hw _ (List.mem_of_getElem? (i := 19) rfl)) (by decide) (by decide)) (fun _ z => nomatch z) (Nat.le_of_eq rfl) own_pd2 rfl rfl rfl at_42 (by decide) (by decide) ?_
      rintro v19 T20 h21 A22 ⟨rfl, rfl⟩
      show own_Run p e below Q m T20 45 #[.val (.int i0), .val (.int (2 : Int32))] [(.int (own_agr (own_holds 1 i0) (5 : Int32) (2 : Int32)))]
      refine own_ifcF (q := 48) A22 at_45 (show ¬ (own_agr (own_holds 1 i0) (5 : Int32) (2 : Int32)) = (0 : Int32) from by rw [e1]; decide) ?_
      refine own_getS (q := 51) A22 (hw _ (List.mem_of_getElem? (i := 23) rfl)) Via.refl SGT at_48 ?_
      intro T23 A24
      refine own_iloadN (q := 52) (v := i0) A24 at_51 rfl ?_
      refine own_virtual (q := 55) (W := 0) (argsL := [(.int i0)]) (rest := []) A24 (hw _ (List.mem_of_getElem? (i := 3) rfl)) (hw _ (List.mem_of_getElem? (i := 4) rfl)) (hw _ (List.mem_of_getElem? (i := 6) rfl)) (hw _ (List.mem_of_getElem? (i := 5) rfl)) (by decide) (own_pay (rm_holds l Z a0 hw aGT 2 i0 h0 n0 O0 (Exa.ext A24.old.2 EGT) (Fld.ext A24.old.2 FGT) (by decide)) (hw _ (List.mem_of_getElem? (i := 7) rfl)) (hw _ (List.mem_of_getElem? (i := 1) rfl)) (by decide) (by decide)) (fun _ z => nomatch z) (Nat.le_of_eq rfl) (Exa.ext A24.old.2 EGT) own_pd1 rfl rfl rfl at_52 (by decide) (by decide) ?_
      rintro v25 T26 h27 A28 ⟨rfl, rfl⟩
      show own_Run p e below Q m T26 55 #[.val (.int i0), .val (.int (2 : Int32))] [(.int (own_holds 2 i0))]
      refine own_iconst (q := 56) A28 (4 : Int32) at_55 rfl ?_
      refine own_iloadN (q := 57) (v := (2 : Int32)) A28 at_56 rfl ?_
      refine own_static (q := 60) (W := 0) (argsL := [(.int (own_holds 2 i0)), (.int (4 : Int32)), (.int (2 : Int32))]) (rest := []) A28 (hw _ (List.mem_of_getElem? (i := 17) rfl)) (hw _ (List.mem_of_getElem? (i := 18) rfl)) (hw _ (List.mem_of_getElem? (i := 19) rfl)) (hw _ (List.mem_of_getElem? (i := 20) rfl)) (by decide) (own_pay (rm_agr l Z a0 hw (own_holds 2 i0) (4 : Int32) (2 : Int32) h0 n0 O0) (hw _ (List.mem_of_getElem? (i := 20) rfl)) (hw _ (List.mem_of_getElem? (i := 19) rfl)) (by decide) (by decide)) (fun _ z => nomatch z) (Nat.le_of_eq rfl) own_pd2 rfl rfl rfl at_57 (by decide) (by decide) ?_
      rintro v29 T30 h31 A32 ⟨rfl, rfl⟩
      show own_Run p e below Q m T30 60 #[.val (.int i0), .val (.int (2 : Int32))] [(.int (own_agr (own_holds 2 i0) (4 : Int32) (2 : Int32)))]
      refine own_ifcF (q := 63) A32 at_60 (show ¬ (own_agr (own_holds 2 i0) (4 : Int32) (2 : Int32)) = (0 : Int32) from by rw [e2]; decide) ?_
      refine own_getS (q := 66) A32 (hw _ (List.mem_of_getElem? (i := 25) rfl)) Via.refl SGE at_63 ?_
      intro T33 A34
      refine own_iloadN (q := 67) (v := i0) A34 at_66 rfl ?_
      refine own_virtual (q := 70) (W := 0) (argsL := [(.int i0)]) (rest := []) A34 (hw _ (List.mem_of_getElem? (i := 3) rfl)) (hw _ (List.mem_of_getElem? (i := 4) rfl)) (hw _ (List.mem_of_getElem? (i := 6) rfl)) (hw _ (List.mem_of_getElem? (i := 5) rfl)) (by decide) (own_pay (rm_holds l Z a0 hw aGE 3 i0 h0 n0 O0 (Exa.ext A34.old.2 EGE) (Fld.ext A34.old.2 FGE) (by decide)) (hw _ (List.mem_of_getElem? (i := 7) rfl)) (hw _ (List.mem_of_getElem? (i := 1) rfl)) (by decide) (by decide)) (fun _ z => nomatch z) (Nat.le_of_eq rfl) (Exa.ext A34.old.2 EGE) own_pd1 rfl rfl rfl at_67 (by decide) (by decide) ?_
      rintro v35 T36 h37 A38 ⟨rfl, rfl⟩
      show own_Run p e below Q m T36 70 #[.val (.int i0), .val (.int (2 : Int32))] [(.int (own_holds 3 i0))]
      refine own_bipush (q := 72) A38 (6 : Int32) at_70 rfl ?_
      refine own_iloadN (q := 73) (v := (2 : Int32)) A38 at_72 rfl ?_
      refine own_static (q := 76) (W := 0) (argsL := [(.int (own_holds 3 i0)), (.int (6 : Int32)), (.int (2 : Int32))]) (rest := []) A38 (hw _ (List.mem_of_getElem? (i := 17) rfl)) (hw _ (List.mem_of_getElem? (i := 18) rfl)) (hw _ (List.mem_of_getElem? (i := 19) rfl)) (hw _ (List.mem_of_getElem? (i := 20) rfl)) (by decide) (own_pay (rm_agr l Z a0 hw (own_holds 3 i0) (6 : Int32) (2 : Int32) h0 n0 O0) (hw _ (List.mem_of_getElem? (i := 20) rfl)) (hw _ (List.mem_of_getElem? (i := 19) rfl)) (by decide) (by decide)) (fun _ z => nomatch z) (Nat.le_of_eq rfl) own_pd2 rfl rfl rfl at_73 (by decide) (by decide) ?_
      rintro v39 T40 h41 A42 ⟨rfl, rfl⟩
      show own_Run p e below Q m T40 76 #[.val (.int i0), .val (.int (2 : Int32))] [(.int (own_agr (own_holds 3 i0) (6 : Int32) (2 : Int32)))]
      refine own_ifcF (q := 79) A42 at_76 (show ¬ (own_agr (own_holds 3 i0) (6 : Int32) (2 : Int32)) = (0 : Int32) from by rw [e3]; decide) ?_
      refine own_getS (q := 82) A42 (hw _ (List.mem_of_getElem? (i := 27) rfl)) Via.refl SLT at_79 ?_
      intro T43 A44
      refine own_iloadN (q := 83) (v := i0) A44 at_82 rfl ?_
      refine own_virtual (q := 86) (W := 0) (argsL := [(.int i0)]) (rest := []) A44 (hw _ (List.mem_of_getElem? (i := 3) rfl)) (hw _ (List.mem_of_getElem? (i := 4) rfl)) (hw _ (List.mem_of_getElem? (i := 6) rfl)) (hw _ (List.mem_of_getElem? (i := 5) rfl)) (by decide) (own_pay (rm_holds l Z a0 hw aLT 4 i0 h0 n0 O0 (Exa.ext A44.old.2 ELT) (Fld.ext A44.old.2 FLT) (by decide)) (hw _ (List.mem_of_getElem? (i := 7) rfl)) (hw _ (List.mem_of_getElem? (i := 1) rfl)) (by decide) (by decide)) (fun _ z => nomatch z) (Nat.le_of_eq rfl) (Exa.ext A44.old.2 ELT) own_pd1 rfl rfl rfl at_83 (by decide) (by decide) ?_
      rintro v45 T46 h47 A48 ⟨rfl, rfl⟩
      show own_Run p e below Q m T46 86 #[.val (.int i0), .val (.int (2 : Int32))] [(.int (own_holds 4 i0))]
      refine own_iconst (q := 87) A48 (1 : Int32) at_86 rfl ?_
      refine own_iloadN (q := 88) (v := (2 : Int32)) A48 at_87 rfl ?_
      refine own_static (q := 91) (W := 0) (argsL := [(.int (own_holds 4 i0)), (.int (1 : Int32)), (.int (2 : Int32))]) (rest := []) A48 (hw _ (List.mem_of_getElem? (i := 17) rfl)) (hw _ (List.mem_of_getElem? (i := 18) rfl)) (hw _ (List.mem_of_getElem? (i := 19) rfl)) (hw _ (List.mem_of_getElem? (i := 20) rfl)) (by decide) (own_pay (rm_agr l Z a0 hw (own_holds 4 i0) (1 : Int32) (2 : Int32) h0 n0 O0) (hw _ (List.mem_of_getElem? (i := 20) rfl)) (hw _ (List.mem_of_getElem? (i := 19) rfl)) (by decide) (by decide)) (fun _ z => nomatch z) (Nat.le_of_eq rfl) own_pd2 rfl rfl rfl at_88 (by decide) (by decide) ?_
      rintro v49 T50 h51 A52 ⟨rfl, rfl⟩
      show own_Run p e below Q m T50 91 #[.val (.int i0), .val (.int (2 : Int32))] [(.int (own_agr (own_holds 4 i0) (1 : Int32) (2 : Int32)))]
      refine own_ifcF (q := 94) A52 at_91 (show ¬ (own_agr (own_holds 4 i0) (1 : Int32) (2 : Int32)) = (0 : Int32) from by rw [e4]; decide) ?_
      refine own_getS (q := 97) A52 (hw _ (List.mem_of_getElem? (i := 29) rfl)) Via.refl SLE at_94 ?_
      intro T53 A54
      refine own_iloadN (q := 98) (v := i0) A54 at_97 rfl ?_
      refine own_virtual (q := 101) (W := 0) (argsL := [(.int i0)]) (rest := []) A54 (hw _ (List.mem_of_getElem? (i := 3) rfl)) (hw _ (List.mem_of_getElem? (i := 4) rfl)) (hw _ (List.mem_of_getElem? (i := 6) rfl)) (hw _ (List.mem_of_getElem? (i := 5) rfl)) (by decide) (own_pay (rm_holds l Z a0 hw aLE 5 i0 h0 n0 O0 (Exa.ext A54.old.2 ELE) (Fld.ext A54.old.2 FLE) (by decide)) (hw _ (List.mem_of_getElem? (i := 7) rfl)) (hw _ (List.mem_of_getElem? (i := 1) rfl)) (by decide) (by decide)) (fun _ z => nomatch z) (Nat.le_of_eq rfl) (Exa.ext A54.old.2 ELE) own_pd1 rfl rfl rfl at_98 (by decide) (by decide) ?_
      rintro v55 T56 h57 A58 ⟨rfl, rfl⟩
      show own_Run p e below Q m T56 101 #[.val (.int i0), .val (.int (2 : Int32))] [(.int (own_holds 5 i0))]
      refine own_iconst (q := 102) A58 (3 : Int32) at_101 rfl ?_
      refine own_iloadN (q := 103) (v := (2 : Int32)) A58 at_102 rfl ?_
      refine own_static (q := 106) (W := 0) (argsL := [(.int (own_holds 5 i0)), (.int (3 : Int32)), (.int (2 : Int32))]) (rest := []) A58 (hw _ (List.mem_of_getElem? (i := 17) rfl)) (hw _ (List.mem_of_getElem? (i := 18) rfl)) (hw _ (List.mem_of_getElem? (i := 19) rfl)) (hw _ (List.mem_of_getElem? (i := 20) rfl)) (by decide) (own_pay (rm_agr l Z a0 hw (own_holds 5 i0) (3 : Int32) (2 : Int32) h0 n0 O0) (hw _ (List.mem_of_getElem? (i := 20) rfl)) (hw _ (List.mem_of_getElem? (i := 19) rfl)) (by decide) (by decide)) (fun _ z => nomatch z) (Nat.le_of_eq rfl) own_pd2 rfl rfl rfl at_103 (by decide) (by decide) ?_
      rintro v59 T60 h61 A62 ⟨rfl, rfl⟩
      show own_Run p e below Q m T60 106 #[.val (.int i0), .val (.int (2 : Int32))] [(.int (own_agr (own_holds 5 i0) (3 : Int32) (2 : Int32)))]
      refine own_ifcF (q := 109) A62 at_106 (show ¬ (own_agr (own_holds 5 i0) (3 : Int32) (2 : Int32)) = (0 : Int32) from by rw [e5]; decide) ?_
      refine own_iconst (q := 110) A62 (1 : Int32) at_109 rfl ?_
      refine own_goto (q := 114) A62 at_110 ?_
      exact own_retN A62 hQ (t := .boolean) (by simp) at_114 rfl
    · rintro (c2 : i0 = (0 : Int32))
      obtain ⟨e0, e1, e2, e3, e4, e5⟩ := own_zer c2
      refine own_iconst (q := 13) A0 (1 : Int32) at_12 rfl ?_
      refine own_goto (q := 17) A0 at_13 ?_
      refine own_istoreN (q := 18) (L' := #[.val (.int i0), .val (.int (1 : Int32))]) A0 at_17 rfl ?_
      refine own_getS (q := 21) A0 (hw _ (List.mem_of_getElem? (i := 0) rfl)) Via.refl SEQ at_18 ?_
      intro T63 A64
      refine own_iloadN (q := 22) (v := i0) A64 at_21 rfl ?_
      refine own_virtual (q := 25) (W := 0) (argsL := [(.int i0)]) (rest := []) A64 (hw _ (List.mem_of_getElem? (i := 3) rfl)) (hw _ (List.mem_of_getElem? (i := 4) rfl)) (hw _ (List.mem_of_getElem? (i := 6) rfl)) (hw _ (List.mem_of_getElem? (i := 5) rfl)) (by decide) (own_pay (rm_holds l Z a0 hw aEQ 0 i0 h0 n0 O0 (Exa.ext A64.old.2 EEQ) (Fld.ext A64.old.2 FEQ) (by decide)) (hw _ (List.mem_of_getElem? (i := 7) rfl)) (hw _ (List.mem_of_getElem? (i := 1) rfl)) (by decide) (by decide)) (fun _ z => nomatch z) (Nat.le_of_eq rfl) (Exa.ext A64.old.2 EEQ) own_pd1 rfl rfl rfl at_22 (by decide) (by decide) ?_
      rintro v65 T66 h67 A68 ⟨rfl, rfl⟩
      show own_Run p e below Q m T66 25 #[.val (.int i0), .val (.int (1 : Int32))] [(.int (own_holds 0 i0))]
      refine own_iconst (q := 26) A68 (2 : Int32) at_25 rfl ?_
      refine own_iloadN (q := 27) (v := (1 : Int32)) A68 at_26 rfl ?_
      refine own_static (q := 30) (W := 0) (argsL := [(.int (own_holds 0 i0)), (.int (2 : Int32)), (.int (1 : Int32))]) (rest := []) A68 (hw _ (List.mem_of_getElem? (i := 17) rfl)) (hw _ (List.mem_of_getElem? (i := 18) rfl)) (hw _ (List.mem_of_getElem? (i := 19) rfl)) (hw _ (List.mem_of_getElem? (i := 20) rfl)) (by decide) (own_pay (rm_agr l Z a0 hw (own_holds 0 i0) (2 : Int32) (1 : Int32) h0 n0 O0) (hw _ (List.mem_of_getElem? (i := 20) rfl)) (hw _ (List.mem_of_getElem? (i := 19) rfl)) (by decide) (by decide)) (fun _ z => nomatch z) (Nat.le_of_eq rfl) own_pd2 rfl rfl rfl at_27 (by decide) (by decide) ?_
      rintro v69 T70 h71 A72 ⟨rfl, rfl⟩
      show own_Run p e below Q m T70 30 #[.val (.int i0), .val (.int (1 : Int32))] [(.int (own_agr (own_holds 0 i0) (2 : Int32) (1 : Int32)))]
      refine own_ifcF (q := 33) A72 at_30 (show ¬ (own_agr (own_holds 0 i0) (2 : Int32) (1 : Int32)) = (0 : Int32) from by rw [e0]; decide) ?_
      refine own_getS (q := 36) A72 (hw _ (List.mem_of_getElem? (i := 21) rfl)) Via.refl SNE at_33 ?_
      intro T73 A74
      refine own_iloadN (q := 37) (v := i0) A74 at_36 rfl ?_
      refine own_virtual (q := 40) (W := 0) (argsL := [(.int i0)]) (rest := []) A74 (hw _ (List.mem_of_getElem? (i := 3) rfl)) (hw _ (List.mem_of_getElem? (i := 4) rfl)) (hw _ (List.mem_of_getElem? (i := 6) rfl)) (hw _ (List.mem_of_getElem? (i := 5) rfl)) (by decide) (own_pay (rm_holds l Z a0 hw aNE 1 i0 h0 n0 O0 (Exa.ext A74.old.2 ENE) (Fld.ext A74.old.2 FNE) (by decide)) (hw _ (List.mem_of_getElem? (i := 7) rfl)) (hw _ (List.mem_of_getElem? (i := 1) rfl)) (by decide) (by decide)) (fun _ z => nomatch z) (Nat.le_of_eq rfl) (Exa.ext A74.old.2 ENE) own_pd1 rfl rfl rfl at_37 (by decide) (by decide) ?_
      rintro v75 T76 h77 A78 ⟨rfl, rfl⟩
      show own_Run p e below Q m T76 40 #[.val (.int i0), .val (.int (1 : Int32))] [(.int (own_holds 1 i0))]
      refine own_iconst (q := 41) A78 (5 : Int32) at_40 rfl ?_
      refine own_iloadN (q := 42) (v := (1 : Int32)) A78 at_41 rfl ?_
      refine own_static (q := 45) (W := 0) (argsL := [(.int (own_holds 1 i0)), (.int (5 : Int32)), (.int (1 : Int32))]) (rest := []) A78 (hw _ (List.mem_of_getElem? (i := 17) rfl)) (hw _ (List.mem_of_getElem? (i := 18) rfl)) (hw _ (List.mem_of_getElem? (i := 19) rfl)) (hw _ (List.mem_of_getElem? (i := 20) rfl)) (by decide) (own_pay (rm_agr l Z a0 hw (own_holds 1 i0) (5 : Int32) (1 : Int32) h0 n0 O0) (hw _ (List.mem_of_getElem? (i := 20) rfl)) (hw _ (List.mem_of_getElem? (i := 19) rfl)) (by decide) (by decide)) (fun _ z => nomatch z) (Nat.le_of_eq rfl) own_pd2 rfl rfl rfl at_42 (by decide) (by decide) ?_
      rintro v79 T80 h81 A82 ⟨rfl, rfl⟩
      show own_Run p e below Q m T80 45 #[.val (.int i0), .val (.int (1 : Int32))] [(.int (own_agr (own_holds 1 i0) (5 : Int32) (1 : Int32)))]
      refine own_ifcF (q := 48) A82 at_45 (show ¬ (own_agr (own_holds 1 i0) (5 : Int32) (1 : Int32)) = (0 : Int32) from by rw [e1]; decide) ?_
      refine own_getS (q := 51) A82 (hw _ (List.mem_of_getElem? (i := 23) rfl)) Via.refl SGT at_48 ?_
      intro T83 A84
      refine own_iloadN (q := 52) (v := i0) A84 at_51 rfl ?_
      refine own_virtual (q := 55) (W := 0) (argsL := [(.int i0)]) (rest := []) A84 (hw _ (List.mem_of_getElem? (i := 3) rfl)) (hw _ (List.mem_of_getElem? (i := 4) rfl)) (hw _ (List.mem_of_getElem? (i := 6) rfl)) (hw _ (List.mem_of_getElem? (i := 5) rfl)) (by decide) (own_pay (rm_holds l Z a0 hw aGT 2 i0 h0 n0 O0 (Exa.ext A84.old.2 EGT) (Fld.ext A84.old.2 FGT) (by decide)) (hw _ (List.mem_of_getElem? (i := 7) rfl)) (hw _ (List.mem_of_getElem? (i := 1) rfl)) (by decide) (by decide)) (fun _ z => nomatch z) (Nat.le_of_eq rfl) (Exa.ext A84.old.2 EGT) own_pd1 rfl rfl rfl at_52 (by decide) (by decide) ?_
      rintro v85 T86 h87 A88 ⟨rfl, rfl⟩
      show own_Run p e below Q m T86 55 #[.val (.int i0), .val (.int (1 : Int32))] [(.int (own_holds 2 i0))]
      refine own_iconst (q := 56) A88 (4 : Int32) at_55 rfl ?_
      refine own_iloadN (q := 57) (v := (1 : Int32)) A88 at_56 rfl ?_
      refine own_static (q := 60) (W := 0) (argsL := [(.int (own_holds 2 i0)), (.int (4 : Int32)), (.int (1 : Int32))]) (rest := []) A88 (hw _ (List.mem_of_getElem? (i := 17) rfl)) (hw _ (List.mem_of_getElem? (i := 18) rfl)) (hw _ (List.mem_of_getElem? (i := 19) rfl)) (hw _ (List.mem_of_getElem? (i := 20) rfl)) (by decide) (own_pay (rm_agr l Z a0 hw (own_holds 2 i0) (4 : Int32) (1 : Int32) h0 n0 O0) (hw _ (List.mem_of_getElem? (i := 20) rfl)) (hw _ (List.mem_of_getElem? (i := 19) rfl)) (by decide) (by decide)) (fun _ z => nomatch z) (Nat.le_of_eq rfl) own_pd2 rfl rfl rfl at_57 (by decide) (by decide) ?_
      rintro v89 T90 h91 A92 ⟨rfl, rfl⟩
      show own_Run p e below Q m T90 60 #[.val (.int i0), .val (.int (1 : Int32))] [(.int (own_agr (own_holds 2 i0) (4 : Int32) (1 : Int32)))]
      refine own_ifcF (q := 63) A92 at_60 (show ¬ (own_agr (own_holds 2 i0) (4 : Int32) (1 : Int32)) = (0 : Int32) from by rw [e2]; decide) ?_
      refine own_getS (q := 66) A92 (hw _ (List.mem_of_getElem? (i := 25) rfl)) Via.refl SGE at_63 ?_
      intro T93 A94
      refine own_iloadN (q := 67) (v := i0) A94 at_66 rfl ?_
      refine own_virtual (q := 70) (W := 0) (argsL := [(.int i0)]) (rest := []) A94 (hw _ (List.mem_of_getElem? (i := 3) rfl)) (hw _ (List.mem_of_getElem? (i := 4) rfl)) (hw _ (List.mem_of_getElem? (i := 6) rfl)) (hw _ (List.mem_of_getElem? (i := 5) rfl)) (by decide) (own_pay (rm_holds l Z a0 hw aGE 3 i0 h0 n0 O0 (Exa.ext A94.old.2 EGE) (Fld.ext A94.old.2 FGE) (by decide)) (hw _ (List.mem_of_getElem? (i := 7) rfl)) (hw _ (List.mem_of_getElem? (i := 1) rfl)) (by decide) (by decide)) (fun _ z => nomatch z) (Nat.le_of_eq rfl) (Exa.ext A94.old.2 EGE) own_pd1 rfl rfl rfl at_67 (by decide) (by decide) ?_
      rintro v95 T96 h97 A98 ⟨rfl, rfl⟩
      show own_Run p e below Q m T96 70 #[.val (.int i0), .val (.int (1 : Int32))] [(.int (own_holds 3 i0))]
      refine own_bipush (q := 72) A98 (6 : Int32) at_70 rfl ?_
      refine own_iloadN (q := 73) (v := (1 : Int32)) A98 at_72 rfl ?_
      refine own_static (q := 76) (W := 0) (argsL := [(.int (own_holds 3 i0)), (.int (6 : Int32)), (.int (1 : Int32))]) (rest := []) A98 (hw _ (List.mem_of_getElem? (i := 17) rfl)) (hw _ (List.mem_of_getElem? (i := 18) rfl)) (hw _ (List.mem_of_getElem? (i := 19) rfl)) (hw _ (List.mem_of_getElem? (i := 20) rfl)) (by decide) (own_pay (rm_agr l Z a0 hw (own_holds 3 i0) (6 : Int32) (1 : Int32) h0 n0 O0) (hw _ (List.mem_of_getElem? (i := 20) rfl)) (hw _ (List.mem_of_getElem? (i := 19) rfl)) (by decide) (by decide)) (fun _ z => nomatch z) (Nat.le_of_eq rfl) own_pd2 rfl rfl rfl at_73 (by decide) (by decide) ?_
      rintro v99 T100 h101 A102 ⟨rfl, rfl⟩
      show own_Run p e below Q m T100 76 #[.val (.int i0), .val (.int (1 : Int32))] [(.int (own_agr (own_holds 3 i0) (6 : Int32) (1 : Int32)))]
      refine own_ifcF (q := 79) A102 at_76 (show ¬ (own_agr (own_holds 3 i0) (6 : Int32) (1 : Int32)) = (0 : Int32) from by rw [e3]; decide) ?_
      refine own_getS (q := 82) A102 (hw _ (List.mem_of_getElem? (i := 27) rfl)) Via.refl SLT at_79 ?_
      intro T103 A104
      refine own_iloadN (q := 83) (v := i0) A104 at_82 rfl ?_
      refine own_virtual (q := 86) (W := 0) (argsL := [(.int i0)]) (rest := []) A104 (hw _ (List.mem_of_getElem? (i := 3) rfl)) (hw _ (List.mem_of_getElem? (i := 4) rfl)) (hw _ (List.mem_of_getElem? (i := 6) rfl)) (hw _ (List.mem_of_getElem? (i := 5) rfl)) (by decide) (own_pay (rm_holds l Z a0 hw aLT 4 i0 h0 n0 O0 (Exa.ext A104.old.2 ELT) (Fld.ext A104.old.2 FLT) (by decide)) (hw _ (List.mem_of_getElem? (i := 7) rfl)) (hw _ (List.mem_of_getElem? (i := 1) rfl)) (by decide) (by decide)) (fun _ z => nomatch z) (Nat.le_of_eq rfl) (Exa.ext A104.old.2 ELT) own_pd1 rfl rfl rfl at_83 (by decide) (by decide) ?_
      rintro v105 T106 h107 A108 ⟨rfl, rfl⟩
      show own_Run p e below Q m T106 86 #[.val (.int i0), .val (.int (1 : Int32))] [(.int (own_holds 4 i0))]
      refine own_iconst (q := 87) A108 (1 : Int32) at_86 rfl ?_
      refine own_iloadN (q := 88) (v := (1 : Int32)) A108 at_87 rfl ?_
      refine own_static (q := 91) (W := 0) (argsL := [(.int (own_holds 4 i0)), (.int (1 : Int32)), (.int (1 : Int32))]) (rest := []) A108 (hw _ (List.mem_of_getElem? (i := 17) rfl)) (hw _ (List.mem_of_getElem? (i := 18) rfl)) (hw _ (List.mem_of_getElem? (i := 19) rfl)) (hw _ (List.mem_of_getElem? (i := 20) rfl)) (by decide) (own_pay (rm_agr l Z a0 hw (own_holds 4 i0) (1 : Int32) (1 : Int32) h0 n0 O0) (hw _ (List.mem_of_getElem? (i := 20) rfl)) (hw _ (List.mem_of_getElem? (i := 19) rfl)) (by decide) (by decide)) (fun _ z => nomatch z) (Nat.le_of_eq rfl) own_pd2 rfl rfl rfl at_88 (by decide) (by decide) ?_
      rintro v109 T110 h111 A112 ⟨rfl, rfl⟩
      show own_Run p e below Q m T110 91 #[.val (.int i0), .val (.int (1 : Int32))] [(.int (own_agr (own_holds 4 i0) (1 : Int32) (1 : Int32)))]
      refine own_ifcF (q := 94) A112 at_91 (show ¬ (own_agr (own_holds 4 i0) (1 : Int32) (1 : Int32)) = (0 : Int32) from by rw [e4]; decide) ?_
      refine own_getS (q := 97) A112 (hw _ (List.mem_of_getElem? (i := 29) rfl)) Via.refl SLE at_94 ?_
      intro T113 A114
      refine own_iloadN (q := 98) (v := i0) A114 at_97 rfl ?_
      refine own_virtual (q := 101) (W := 0) (argsL := [(.int i0)]) (rest := []) A114 (hw _ (List.mem_of_getElem? (i := 3) rfl)) (hw _ (List.mem_of_getElem? (i := 4) rfl)) (hw _ (List.mem_of_getElem? (i := 6) rfl)) (hw _ (List.mem_of_getElem? (i := 5) rfl)) (by decide) (own_pay (rm_holds l Z a0 hw aLE 5 i0 h0 n0 O0 (Exa.ext A114.old.2 ELE) (Fld.ext A114.old.2 FLE) (by decide)) (hw _ (List.mem_of_getElem? (i := 7) rfl)) (hw _ (List.mem_of_getElem? (i := 1) rfl)) (by decide) (by decide)) (fun _ z => nomatch z) (Nat.le_of_eq rfl) (Exa.ext A114.old.2 ELE) own_pd1 rfl rfl rfl at_98 (by decide) (by decide) ?_
      rintro v115 T116 h117 A118 ⟨rfl, rfl⟩
      show own_Run p e below Q m T116 101 #[.val (.int i0), .val (.int (1 : Int32))] [(.int (own_holds 5 i0))]
      refine own_iconst (q := 102) A118 (3 : Int32) at_101 rfl ?_
      refine own_iloadN (q := 103) (v := (1 : Int32)) A118 at_102 rfl ?_
      refine own_static (q := 106) (W := 0) (argsL := [(.int (own_holds 5 i0)), (.int (3 : Int32)), (.int (1 : Int32))]) (rest := []) A118 (hw _ (List.mem_of_getElem? (i := 17) rfl)) (hw _ (List.mem_of_getElem? (i := 18) rfl)) (hw _ (List.mem_of_getElem? (i := 19) rfl)) (hw _ (List.mem_of_getElem? (i := 20) rfl)) (by decide) (own_pay (rm_agr l Z a0 hw (own_holds 5 i0) (3 : Int32) (1 : Int32) h0 n0 O0) (hw _ (List.mem_of_getElem? (i := 20) rfl)) (hw _ (List.mem_of_getElem? (i := 19) rfl)) (by decide) (by decide)) (fun _ z => nomatch z) (Nat.le_of_eq rfl) own_pd2 rfl rfl rfl at_103 (by decide) (by decide) ?_
      rintro v119 T120 h121 A122 ⟨rfl, rfl⟩
      show own_Run p e below Q m T120 106 #[.val (.int i0), .val (.int (1 : Int32))] [(.int (own_agr (own_holds 5 i0) (3 : Int32) (1 : Int32)))]
      refine own_ifcF (q := 109) A122 at_106 (show ¬ (own_agr (own_holds 5 i0) (3 : Int32) (1 : Int32)) = (0 : Int32) from by rw [e5]; decide) ?_
      refine own_iconst (q := 110) A122 (1 : Int32) at_109 rfl ?_
      refine own_goto (q := 114) A122 at_110 ?_
      exact own_retN A122 hQ (t := .boolean) (by simp) at_114 rfl
  · rintro (c1 : i0 < (0 : Int32))
    obtain ⟨e0, e1, e2, e3, e4, e5⟩ := own_neg c1
    refine own_iconst (q := 5) A0 (0 : Int32) at_4 rfl ?_
    refine own_goto (q := 17) A0 at_5 ?_
    refine own_istoreN (q := 18) (L' := #[.val (.int i0), .val (.int (0 : Int32))]) A0 at_17 rfl ?_
    refine own_getS (q := 21) A0 (hw _ (List.mem_of_getElem? (i := 0) rfl)) Via.refl SEQ at_18 ?_
    intro T123 A124
    refine own_iloadN (q := 22) (v := i0) A124 at_21 rfl ?_
    refine own_virtual (q := 25) (W := 0) (argsL := [(.int i0)]) (rest := []) A124 (hw _ (List.mem_of_getElem? (i := 3) rfl)) (hw _ (List.mem_of_getElem? (i := 4) rfl)) (hw _ (List.mem_of_getElem? (i := 6) rfl)) (hw _ (List.mem_of_getElem? (i := 5) rfl)) (by decide) (own_pay (rm_holds l Z a0 hw aEQ 0 i0 h0 n0 O0 (Exa.ext A124.old.2 EEQ) (Fld.ext A124.old.2 FEQ) (by decide)) (hw _ (List.mem_of_getElem? (i := 7) rfl)) (hw _ (List.mem_of_getElem? (i := 1) rfl)) (by decide) (by decide)) (fun _ z => nomatch z) (Nat.le_of_eq rfl) (Exa.ext A124.old.2 EEQ) own_pd1 rfl rfl rfl at_22 (by decide) (by decide) ?_
    rintro v125 T126 h127 A128 ⟨rfl, rfl⟩
    show own_Run p e below Q m T126 25 #[.val (.int i0), .val (.int (0 : Int32))] [(.int (own_holds 0 i0))]
    refine own_iconst (q := 26) A128 (2 : Int32) at_25 rfl ?_
    refine own_iloadN (q := 27) (v := (0 : Int32)) A128 at_26 rfl ?_
    refine own_static (q := 30) (W := 0) (argsL := [(.int (own_holds 0 i0)), (.int (2 : Int32)), (.int (0 : Int32))]) (rest := []) A128 (hw _ (List.mem_of_getElem? (i := 17) rfl)) (hw _ (List.mem_of_getElem? (i := 18) rfl)) (hw _ (List.mem_of_getElem? (i := 19) rfl)) (hw _ (List.mem_of_getElem? (i := 20) rfl)) (by decide) (own_pay (rm_agr l Z a0 hw (own_holds 0 i0) (2 : Int32) (0 : Int32) h0 n0 O0) (hw _ (List.mem_of_getElem? (i := 20) rfl)) (hw _ (List.mem_of_getElem? (i := 19) rfl)) (by decide) (by decide)) (fun _ z => nomatch z) (Nat.le_of_eq rfl) own_pd2 rfl rfl rfl at_27 (by decide) (by decide) ?_
    rintro v129 T130 h131 A132 ⟨rfl, rfl⟩
    show own_Run p e below Q m T130 30 #[.val (.int i0), .val (.int (0 : Int32))] [(.int (own_agr (own_holds 0 i0) (2 : Int32) (0 : Int32)))]
    refine own_ifcF (q := 33) A132 at_30 (show ¬ (own_agr (own_holds 0 i0) (2 : Int32) (0 : Int32)) = (0 : Int32) from by rw [e0]; decide) ?_
    refine own_getS (q := 36) A132 (hw _ (List.mem_of_getElem? (i := 21) rfl)) Via.refl SNE at_33 ?_
    intro T133 A134
    refine own_iloadN (q := 37) (v := i0) A134 at_36 rfl ?_
    refine own_virtual (q := 40) (W := 0) (argsL := [(.int i0)]) (rest := []) A134 (hw _ (List.mem_of_getElem? (i := 3) rfl)) (hw _ (List.mem_of_getElem? (i := 4) rfl)) (hw _ (List.mem_of_getElem? (i := 6) rfl)) (hw _ (List.mem_of_getElem? (i := 5) rfl)) (by decide) (own_pay (rm_holds l Z a0 hw aNE 1 i0 h0 n0 O0 (Exa.ext A134.old.2 ENE) (Fld.ext A134.old.2 FNE) (by decide)) (hw _ (List.mem_of_getElem? (i := 7) rfl)) (hw _ (List.mem_of_getElem? (i := 1) rfl)) (by decide) (by decide)) (fun _ z => nomatch z) (Nat.le_of_eq rfl) (Exa.ext A134.old.2 ENE) own_pd1 rfl rfl rfl at_37 (by decide) (by decide) ?_
    rintro v135 T136 h137 A138 ⟨rfl, rfl⟩
    show own_Run p e below Q m T136 40 #[.val (.int i0), .val (.int (0 : Int32))] [(.int (own_holds 1 i0))]
    refine own_iconst (q := 41) A138 (5 : Int32) at_40 rfl ?_
    refine own_iloadN (q := 42) (v := (0 : Int32)) A138 at_41 rfl ?_
    refine own_static (q := 45) (W := 0) (argsL := [(.int (own_holds 1 i0)), (.int (5 : Int32)), (.int (0 : Int32))]) (rest := []) A138 (hw _ (List.mem_of_getElem? (i := 17) rfl)) (hw _ (List.mem_of_getElem? (i := 18) rfl)) (hw _ (List.mem_of_getElem? (i := 19) rfl)) (hw _ (List.mem_of_getElem? (i := 20) rfl)) (by decide) (own_pay (rm_agr l Z a0 hw (own_holds 1 i0) (5 : Int32) (0 : Int32) h0 n0 O0) (hw _ (List.mem_of_getElem? (i := 20) rfl)) (hw _ (List.mem_of_getElem? (i := 19) rfl)) (by decide) (by decide)) (fun _ z => nomatch z) (Nat.le_of_eq rfl) own_pd2 rfl rfl rfl at_42 (by decide) (by decide) ?_
    rintro v139 T140 h141 A142 ⟨rfl, rfl⟩
    show own_Run p e below Q m T140 45 #[.val (.int i0), .val (.int (0 : Int32))] [(.int (own_agr (own_holds 1 i0) (5 : Int32) (0 : Int32)))]
    refine own_ifcF (q := 48) A142 at_45 (show ¬ (own_agr (own_holds 1 i0) (5 : Int32) (0 : Int32)) = (0 : Int32) from by rw [e1]; decide) ?_
    refine own_getS (q := 51) A142 (hw _ (List.mem_of_getElem? (i := 23) rfl)) Via.refl SGT at_48 ?_
    intro T143 A144
    refine own_iloadN (q := 52) (v := i0) A144 at_51 rfl ?_
    refine own_virtual (q := 55) (W := 0) (argsL := [(.int i0)]) (rest := []) A144 (hw _ (List.mem_of_getElem? (i := 3) rfl)) (hw _ (List.mem_of_getElem? (i := 4) rfl)) (hw _ (List.mem_of_getElem? (i := 6) rfl)) (hw _ (List.mem_of_getElem? (i := 5) rfl)) (by decide) (own_pay (rm_holds l Z a0 hw aGT 2 i0 h0 n0 O0 (Exa.ext A144.old.2 EGT) (Fld.ext A144.old.2 FGT) (by decide)) (hw _ (List.mem_of_getElem? (i := 7) rfl)) (hw _ (List.mem_of_getElem? (i := 1) rfl)) (by decide) (by decide)) (fun _ z => nomatch z) (Nat.le_of_eq rfl) (Exa.ext A144.old.2 EGT) own_pd1 rfl rfl rfl at_52 (by decide) (by decide) ?_
    rintro v145 T146 h147 A148 ⟨rfl, rfl⟩
    show own_Run p e below Q m T146 55 #[.val (.int i0), .val (.int (0 : Int32))] [(.int (own_holds 2 i0))]
    refine own_iconst (q := 56) A148 (4 : Int32) at_55 rfl ?_
    refine own_iloadN (q := 57) (v := (0 : Int32)) A148 at_56 rfl ?_
    refine own_static (q := 60) (W := 0) (argsL := [(.int (own_holds 2 i0)), (.int (4 : Int32)), (.int (0 : Int32))]) (rest := []) A148 (hw _ (List.mem_of_getElem? (i := 17) rfl)) (hw _ (List.mem_of_getElem? (i := 18) rfl)) (hw _ (List.mem_of_getElem? (i := 19) rfl)) (hw _ (List.mem_of_getElem? (i := 20) rfl)) (by decide) (own_pay (rm_agr l Z a0 hw (own_holds 2 i0) (4 : Int32) (0 : Int32) h0 n0 O0) (hw _ (List.mem_of_getElem? (i := 20) rfl)) (hw _ (List.mem_of_getElem? (i := 19) rfl)) (by decide) (by decide)) (fun _ z => nomatch z) (Nat.le_of_eq rfl) own_pd2 rfl rfl rfl at_57 (by decide) (by decide) ?_
    rintro v149 T150 h151 A152 ⟨rfl, rfl⟩
    show own_Run p e below Q m T150 60 #[.val (.int i0), .val (.int (0 : Int32))] [(.int (own_agr (own_holds 2 i0) (4 : Int32) (0 : Int32)))]
    refine own_ifcF (q := 63) A152 at_60 (show ¬ (own_agr (own_holds 2 i0) (4 : Int32) (0 : Int32)) = (0 : Int32) from by rw [e2]; decide) ?_
    refine own_getS (q := 66) A152 (hw _ (List.mem_of_getElem? (i := 25) rfl)) Via.refl SGE at_63 ?_
    intro T153 A154
    refine own_iloadN (q := 67) (v := i0) A154 at_66 rfl ?_
    refine own_virtual (q := 70) (W := 0) (argsL := [(.int i0)]) (rest := []) A154 (hw _ (List.mem_of_getElem? (i := 3) rfl)) (hw _ (List.mem_of_getElem? (i := 4) rfl)) (hw _ (List.mem_of_getElem? (i := 6) rfl)) (hw _ (List.mem_of_getElem? (i := 5) rfl)) (by decide) (own_pay (rm_holds l Z a0 hw aGE 3 i0 h0 n0 O0 (Exa.ext A154.old.2 EGE) (Fld.ext A154.old.2 FGE) (by decide)) (hw _ (List.mem_of_getElem? (i := 7) rfl)) (hw _ (List.mem_of_getElem? (i := 1) rfl)) (by decide) (by decide)) (fun _ z => nomatch z) (Nat.le_of_eq rfl) (Exa.ext A154.old.2 EGE) own_pd1 rfl rfl rfl at_67 (by decide) (by decide) ?_
    rintro v155 T156 h157 A158 ⟨rfl, rfl⟩
    show own_Run p e below Q m T156 70 #[.val (.int i0), .val (.int (0 : Int32))] [(.int (own_holds 3 i0))]
    refine own_bipush (q := 72) A158 (6 : Int32) at_70 rfl ?_
    refine own_iloadN (q := 73) (v := (0 : Int32)) A158 at_72 rfl ?_
    refine own_static (q := 76) (W := 0) (argsL := [(.int (own_holds 3 i0)), (.int (6 : Int32)), (.int (0 : Int32))]) (rest := []) A158 (hw _ (List.mem_of_getElem? (i := 17) rfl)) (hw _ (List.mem_of_getElem? (i := 18) rfl)) (hw _ (List.mem_of_getElem? (i := 19) rfl)) (hw _ (List.mem_of_getElem? (i := 20) rfl)) (by decide) (own_pay (rm_agr l Z a0 hw (own_holds 3 i0) (6 : Int32) (0 : Int32) h0 n0 O0) (hw _ (List.mem_of_getElem? (i := 20) rfl)) (hw _ (List.mem_of_getElem? (i := 19) rfl)) (by decide) (by decide)) (fun _ z => nomatch z) (Nat.le_of_eq rfl) own_pd2 rfl rfl rfl at_73 (by decide) (by decide) ?_
    rintro v159 T160 h161 A162 ⟨rfl, rfl⟩
    show own_Run p e below Q m T160 76 #[.val (.int i0), .val (.int (0 : Int32))] [(.int (own_agr (own_holds 3 i0) (6 : Int32) (0 : Int32)))]
    refine own_ifcF (q := 79) A162 at_76 (show ¬ (own_agr (own_holds 3 i0) (6 : Int32) (0 : Int32)) = (0 : Int32) from by rw [e3]; decide) ?_
    refine own_getS (q := 82) A162 (hw _ (List.mem_of_getElem? (i := 27) rfl)) Via.refl SLT at_79 ?_
    intro T163 A164
    refine own_iloadN (q := 83) (v := i0) A164 at_82 rfl ?_
    refine own_virtual (q := 86) (W := 0) (argsL := [(.int i0)]) (rest := []) A164 (hw _ (List.mem_of_getElem? (i := 3) rfl)) (hw _ (List.mem_of_getElem? (i := 4) rfl)) (hw _ (List.mem_of_getElem? (i := 6) rfl)) (hw _ (List.mem_of_getElem? (i := 5) rfl)) (by decide) (own_pay (rm_holds l Z a0 hw aLT 4 i0 h0 n0 O0 (Exa.ext A164.old.2 ELT) (Fld.ext A164.old.2 FLT) (by decide)) (hw _ (List.mem_of_getElem? (i := 7) rfl)) (hw _ (List.mem_of_getElem? (i := 1) rfl)) (by decide) (by decide)) (fun _ z => nomatch z) (Nat.le_of_eq rfl) (Exa.ext A164.old.2 ELT) own_pd1 rfl rfl rfl at_83 (by decide) (by decide) ?_
    rintro v165 T166 h167 A168 ⟨rfl, rfl⟩
    show own_Run p e below Q m T166 86 #[.val (.int i0), .val (.int (0 : Int32))] [(.int (own_holds 4 i0))]
    refine own_iconst (q := 87) A168 (1 : Int32) at_86 rfl ?_
    refine own_iloadN (q := 88) (v := (0 : Int32)) A168 at_87 rfl ?_
    refine own_static (q := 91) (W := 0) (argsL := [(.int (own_holds 4 i0)), (.int (1 : Int32)), (.int (0 : Int32))]) (rest := []) A168 (hw _ (List.mem_of_getElem? (i := 17) rfl)) (hw _ (List.mem_of_getElem? (i := 18) rfl)) (hw _ (List.mem_of_getElem? (i := 19) rfl)) (hw _ (List.mem_of_getElem? (i := 20) rfl)) (by decide) (own_pay (rm_agr l Z a0 hw (own_holds 4 i0) (1 : Int32) (0 : Int32) h0 n0 O0) (hw _ (List.mem_of_getElem? (i := 20) rfl)) (hw _ (List.mem_of_getElem? (i := 19) rfl)) (by decide) (by decide)) (fun _ z => nomatch z) (Nat.le_of_eq rfl) own_pd2 rfl rfl rfl at_88 (by decide) (by decide) ?_
    rintro v169 T170 h171 A172 ⟨rfl, rfl⟩
    show own_Run p e below Q m T170 91 #[.val (.int i0), .val (.int (0 : Int32))] [(.int (own_agr (own_holds 4 i0) (1 : Int32) (0 : Int32)))]
    refine own_ifcF (q := 94) A172 at_91 (show ¬ (own_agr (own_holds 4 i0) (1 : Int32) (0 : Int32)) = (0 : Int32) from by rw [e4]; decide) ?_
    refine own_getS (q := 97) A172 (hw _ (List.mem_of_getElem? (i := 29) rfl)) Via.refl SLE at_94 ?_
    intro T173 A174
    refine own_iloadN (q := 98) (v := i0) A174 at_97 rfl ?_
    refine own_virtual (q := 101) (W := 0) (argsL := [(.int i0)]) (rest := []) A174 (hw _ (List.mem_of_getElem? (i := 3) rfl)) (hw _ (List.mem_of_getElem? (i := 4) rfl)) (hw _ (List.mem_of_getElem? (i := 6) rfl)) (hw _ (List.mem_of_getElem? (i := 5) rfl)) (by decide) (own_pay (rm_holds l Z a0 hw aLE 5 i0 h0 n0 O0 (Exa.ext A174.old.2 ELE) (Fld.ext A174.old.2 FLE) (by decide)) (hw _ (List.mem_of_getElem? (i := 7) rfl)) (hw _ (List.mem_of_getElem? (i := 1) rfl)) (by decide) (by decide)) (fun _ z => nomatch z) (Nat.le_of_eq rfl) (Exa.ext A174.old.2 ELE) own_pd1 rfl rfl rfl at_98 (by decide) (by decide) ?_
    rintro v175 T176 h177 A178 ⟨rfl, rfl⟩
    show own_Run p e below Q m T176 101 #[.val (.int i0), .val (.int (0 : Int32))] [(.int (own_holds 5 i0))]
    refine own_iconst (q := 102) A178 (3 : Int32) at_101 rfl ?_
    refine own_iloadN (q := 103) (v := (0 : Int32)) A178 at_102 rfl ?_
    refine own_static (q := 106) (W := 0) (argsL := [(.int (own_holds 5 i0)), (.int (3 : Int32)), (.int (0 : Int32))]) (rest := []) A178 (hw _ (List.mem_of_getElem? (i := 17) rfl)) (hw _ (List.mem_of_getElem? (i := 18) rfl)) (hw _ (List.mem_of_getElem? (i := 19) rfl)) (hw _ (List.mem_of_getElem? (i := 20) rfl)) (by decide) (own_pay (rm_agr l Z a0 hw (own_holds 5 i0) (3 : Int32) (0 : Int32) h0 n0 O0) (hw _ (List.mem_of_getElem? (i := 20) rfl)) (hw _ (List.mem_of_getElem? (i := 19) rfl)) (by decide) (by decide)) (fun _ z => nomatch z) (Nat.le_of_eq rfl) own_pd2 rfl rfl rfl at_103 (by decide) (by decide) ?_
    rintro v179 T180 h181 A182 ⟨rfl, rfl⟩
    show own_Run p e below Q m T180 106 #[.val (.int i0), .val (.int (0 : Int32))] [(.int (own_agr (own_holds 5 i0) (3 : Int32) (0 : Int32)))]
    refine own_ifcF (q := 109) A182 at_106 (show ¬ (own_agr (own_holds 5 i0) (3 : Int32) (0 : Int32)) = (0 : Int32) from by rw [e5]; decide) ?_
    refine own_iconst (q := 110) A182 (1 : Int32) at_109 rfl ?_
    refine own_goto (q := 114) A182 at_110 ?_
    exact own_retN A182 hQ (t := .boolean) (by simp) at_114 rfl
set_option maxRecDepth 65536 in
set_option maxHeartbeats 40000000 in
theorem comes_1 {Post : Tables → Env → Array Value → State → Outcome → State → Prop} (hpost : ∀ tb e args s v u, (limb_1_1.after args s (.returned v) u = true ∧ limb_1_2.after args s (.returned v) u = true ∧ True) → FrameEnd s (.returned v) u (Jvm.fieldLocs frame_1_writes args s ++ Jvm.arrayLocs frame_1_arrays args s ++ Jvm.staticLocs frame_1_statics s) 0 0 → Post tb e args s (.returned v) u) :
    ArmFor flags0 classFile x code maxLocals ret World_1 tables_1 room_1 Calls_1 rest_1 Pre_1 Post := by
  intro l hfl _ _ p e ha hc hk s m args below hf hA hF happ hP
  obtain ⟨hcalls, hrest, hpre⟩ := hP
  obtain ⟨-, -, -, hnamed, -, -, -, hat⟩ := (Spec.applies_iff hf).mp happ
  obtain ⟨hg, hn⟩ := and_e (Cond.before_iff.mp (show (Jvm.Cond.and given_1 narrow_1).before args s = true from hpre))
  obtain ⟨g0, hg0⟩ := and_e hg
  have g1 := hg0
  obtain ⟨w0, rfl⟩ : ∃ w0 : Value, args = #[w0] := by
    have hs : args.size = 1 := by simpa [Cond.value, given_1] using g0
    obtain ⟨L⟩ := args
    match L, hs with
    | [w0], _ => exact ⟨w0, rfl⟩
  have hw := fun d (hd : d ∈ tables_1) => atoms_spec (ws := Jvm.Cond.code x code maxLocals ret :: tables_1) hat d (List.mem_cons_of_mem _ hd)
  have hfit : Fit s := fun {y c} hc i hi => by
    obtain ⟨ha, rfl⟩ := Array.getElem?_eq_some_iff.mp hc
    have q := List.all_eq_true.mp ((Array.all_eq_true_iff_forall_mem.mp hF) _ (Array.getElem_mem ha)) i (List.mem_range.mpr hi)
    simpa [Array.getElem?_eq_getElem hi] using q
  obtain ⟨i0, ei0⟩ := is_v g1
  obtain rfl : w0 = (.int i0) := Option.some.inj ei0
  obtain ⟨q0, r0⟩ := and_e hn
  obtain ⟨q1, r1⟩ := and_e r0
  obtain ⟨q2, r2⟩ := and_e r1
  obtain ⟨q3, r3⟩ := and_e r2
  obtain ⟨q4, r4⟩ := and_e r3
  obtain ⟨q5, r5⟩ := and_e r4
  obtain ⟨q6, r6⟩ := and_e r5
  obtain ⟨q7, r7⟩ := and_e r6
  obtain ⟨q8, r8⟩ := and_e r7
  obtain ⟨q9, r9⟩ := and_e r8
  obtain ⟨q10, r10⟩ := and_e r9
  have q11 := r10
  obtain ⟨aEQ, eEQ⟩ := exa_v q0
  have EEQ := Exa.start eEQ q0
  have SEQ := Sta.start eEQ (Or.inr ⟨(hw _ (List.mem_of_getElem? (i := 1) rfl)), (hw _ (List.mem_of_getElem? (i := 2) rfl))⟩)
  obtain ⟨aNE, eNE⟩ := exa_v q2
  have ENE := Exa.start eNE q2
  have SNE := Sta.start eNE (Or.inr ⟨(hw _ (List.mem_of_getElem? (i := 1) rfl)), (hw _ (List.mem_of_getElem? (i := 22) rfl))⟩)
  obtain ⟨aGT, eGT⟩ := exa_v q4
  have EGT := Exa.start eGT q4
  have SGT := Sta.start eGT (Or.inr ⟨(hw _ (List.mem_of_getElem? (i := 1) rfl)), (hw _ (List.mem_of_getElem? (i := 24) rfl))⟩)
  obtain ⟨aGE, eGE⟩ := exa_v q6
  have EGE := Exa.start eGE q6
  have SGE := Sta.start eGE (Or.inr ⟨(hw _ (List.mem_of_getElem? (i := 1) rfl)), (hw _ (List.mem_of_getElem? (i := 26) rfl))⟩)
  obtain ⟨aLT, eLT⟩ := exa_v q8
  have ELT := Exa.start eLT q8
  have SLT := Sta.start eLT (Or.inr ⟨(hw _ (List.mem_of_getElem? (i := 1) rfl)), (hw _ (List.mem_of_getElem? (i := 28) rfl))⟩)
  obtain ⟨aLE, eLE⟩ := exa_v q10
  have ELE := Exa.start eLE q10
  have SLE := Sta.start eLE (Or.inr ⟨(hw _ (List.mem_of_getElem? (i := 1) rfl)), (hw _ (List.mem_of_getElem? (i := 30) rfl))⟩)
  have FEQ := own_ord eEQ q1
  have FNE := own_ord eNE q3
  have FGT := own_ord eGT q5
  have FGE := own_ord eGE q7
  have FLT := own_ord eLT q9
  have FLE := own_ord eLE q11
  obtain ⟨n, o, h1, h2, h3, v, L, rfl, ⟨rfl, N, -, -⟩, -, hq⟩ := rm_law l s _ hw tables_1 aEQ aNE aGT aGE aLT aLE i0 s.heap s.heap.size (Old.start s) SEQ EEQ FEQ SNE ENE FNE SGT EGT FGT SGE EGE FGE SLT ELT FLT SLE ELE FLE p e ha hc hk s m _ below hf ((Spec.applies_iff_loose hf).mp happ).1 ⟨rfl, State.Warmed39.refl s, rfl, (own_ch0 (vm := s.vm) (h := s.heap) (Nat.le_refl _)).1, fun _ z => nomatch z⟩ trivial
  have hq' : FrameEnd s _ _ L _ _ := hq
  refine ⟨n, _, h1, h2, h3, hpost _ _ _ _ _ _ ⟨Cond.after_iff.mpr rfl, Cond.after_iff.mpr (eq_i res_at (Term.int_eval (1)) rfl), trivial⟩ ⟨hq'.1, hq'.2.1, (hq'.2.2.sift fun y hy => Or.inr (N y hy)).mono (by decide) (by decide)⟩⟩
theorem main_1_1 : Claimed_1_1 := comes_1 fun _ _ _ _ _ _ h hF => ⟨h.1, hF⟩
theorem main_1_2 : Claimed_1_2 := comes_1 fun _ _ _ _ _ _ h hF => ⟨h.2.1, hF⟩
end Jvm.Pilot.@@N@@
namespace Jvm.Pilot.@@N@@
open Jvm Jvm.ClassFile Sem Op Lib Jvm.Free Jvm.Stand Jvm.Pilot.@@N@@.Jvm.D
/-! MADE BY PROGRAM (witnessworld.py) out of the Statement's table words and the real class files: 12 classes; the members and pool entries that the words name. The judged class is class 1, her method 1. -/
namespace start1
open Jvm.ClassFile
def u (s : String) : CpInfo := .utf8 (stringToUtf16 s)
/-- a pool by its gaps: so many unusable entries, then the entry; so many at the end -/
def gap : Nat → List CpInfo → List CpInfo
  | 0, r => r
  | n + 1, r => .unusable :: gap n r
def poolList (es : List (Nat × CpInfo)) (last : Nat) : List CpInfo := es.foldr (fun e r => gap e.1 (e.2 :: r)) (gap last [])
def pool (es : List (Nat × CpInfo)) (last : Nat) : Array CpInfo := ⟨poolList es last⟩
def fileOf (pool : Array CpInfo) (this : Nat) (attrs : Array Attribute := #[]) (ms : Array MethodInfo := #[]) (fl : Nat := 33) (sup : Nat := 0) (ifs : Array Nat := #[]) (fds : Array FieldInfo := #[]) : ClassFile where
  minorVersion := 0
  majorVersion := 65
  constantPool := pool
  accessFlags := fl
  thisClass := this
  superClass := sup
  interfaces := ifs
  fields := fds
  methods := ms
  attributes := attrs
def plain (name : String) (sup : Option ClassId) : Class where
  name := name
  kind := .ordinary
  loader := none
  accessFlags := 33
  super := sup
  interfaces := #[]
  cf := none
  fields := #[]
  methods := #[]
  instanceTypes := #[]
  staticTypes := #[]
  resolved := #[]
  callSites := []
  init := .initialized
  statics := none
  mirror := none

def pool0 : Array CpInfo := pool [(5, u "<init>"), (0, u "()V"), (1, .class_ 10), (1, u "java/lang/Object")] 113

def k0m0 : Method := { name := "<init>", desc := "()V", sig := { parameters := [], returnType := none }, accessFlags := 1, code := none }
/-- java/lang/Object -/
def k0 : Class := { plain "java/lang/Object" none with
  accessFlags := 33
  interfaces := #[]
  cf := some (fileOf pool0 8 #[] #[{ accessFlags := 1, nameIndex := 5, descriptorIndex := 6, attributes := #[] }] 33 0 #[] #[])
  fields := #[]
  methods := #[k0m0]
  instanceTypes := #[]
  staticTypes := #[]
  resolved := Array.replicate 124 none
  statics := none }

def pool1 : Array CpInfo := pool [(2, .class_ 4), (1, u "java/lang/Object"), (0, u "<init>"), (0, u "()V"), (0, .fieldref 8 9), (0, .class_ 10), (0, .nameAndType 11 12), (0, u "com/example/any_row/anyrow/ComparisonOperator"), (0, u "EQ"), (0, u "Lcom/example/any_row/anyrow/ComparisonOperator;"), (0, .methodref 8 14), (0, .nameAndType 15 16), (0, u "holds"), (0, u "(I)Z"), (0, .methodref 18 19), (0, .class_ 20), (0, .nameAndType 21 22), (0, u "com/example/any_row/anyrow/ComparisonOperatorHoldsPinLaw"), (0, u "agrees"), (0, u "(ZII)Z"), (0, .fieldref 8 24), (0, .nameAndType 25 12), (0, u "NE"), (0, .fieldref 8 27), (0, .nameAndType 28 12), (0, u "GT"), (0, .fieldref 8 30), (0, .nameAndType 31 12), (0, u "GE"), (0, .fieldref 8 33), (0, .nameAndType 34 12), (0, u "LT"), (0, .fieldref 8 36), (0, .nameAndType 37 12), (0, u "LE"), (2, u "law")] 3

def k1m0 : Method := { name := "<init>", desc := "()V", sig := { parameters := [], returnType := none }, accessFlags := 1, code := none }
def k1c1 : Code := { maxStack := 3, maxLocals := 2, code := code, exceptionTable := #[], attributes := #[] }
def k1m1 : Method := { name := "law", desc := "(I)Z", sig := { parameters := [.int], returnType := some .boolean }, accessFlags := 9, code := some k1c1 }
def k1c2 : Code := { maxStack := 2, maxLocals := 4, code := method_3_code, exceptionTable := #[], attributes := #[] }
def k1m2 : Method := { name := "agrees", desc := "(ZII)Z", sig := { parameters := [.boolean, .int, .int], returnType := some .boolean }, accessFlags := 10, code := some k1c2 }
/-- com/example/any_row/anyrow/ComparisonOperatorHoldsPinLaw -/
def k1 : Class := { plain "com/example/any_row/anyrow/ComparisonOperatorHoldsPinLaw" (some 0) with
  accessFlags := 49
  interfaces := #[]
  cf := some (fileOf pool1 18 #[] #[{ accessFlags := 1, nameIndex := 5, descriptorIndex := 6, attributes := #[] }, { accessFlags := 9, nameIndex := 40, descriptorIndex := 16, attributes := #[] }, { accessFlags := 10, nameIndex := 21, descriptorIndex := 22, attributes := #[] }] 49 2 #[] #[])
  fields := #[]
  methods := #[k1m0, k1m1, k1m2]
  instanceTypes := #[]
  staticTypes := #[]
  resolved := Array.replicate 44 none
  statics := none }

def pool2 : Array CpInfo := pool [(1, .class_ 2), (0, u "java/lang/constant/Constable"), (0, .class_ 4), (0, u "java/lang/Object")] 6

/-- java/lang/constant/Constable -/
def k2 : Class := { plain "java/lang/constant/Constable" (some 0) with
  accessFlags := 1537
  interfaces := #[]
  cf := some (fileOf pool2 1 #[] #[] 1537 3 #[] #[])
  fields := #[]
  methods := #[]
  instanceTypes := #[]
  staticTypes := #[]
  resolved := Array.replicate 11 none
  statics := none }

def pool3 : Array CpInfo := pool [(1, .class_ 2), (0, u "java/lang/Comparable"), (0, .class_ 4), (0, u "java/lang/Object")] 7

/-- java/lang/Comparable -/
def k3 : Class := { plain "java/lang/Comparable" (some 0) with
  accessFlags := 1537
  interfaces := #[]
  cf := some (fileOf pool3 1 #[] #[] 1537 3 #[] #[])
  fields := #[]
  methods := #[]
  instanceTypes := #[]
  staticTypes := #[]
  resolved := Array.replicate 12 none
  statics := none }

def pool4 : Array CpInfo := pool [(1, .class_ 2), (0, u "java/io/Serializable"), (0, .class_ 4), (0, u "java/lang/Object")] 2

/-- java/io/Serializable -/
def k4 : Class := { plain "java/io/Serializable" (some 0) with
  accessFlags := 1537
  interfaces := #[]
  cf := some (fileOf pool4 1 #[] #[] 1537 3 #[] #[])
  fields := #[]
  methods := #[]
  instanceTypes := #[]
  staticTypes := #[]
  resolved := Array.replicate 7 none
  statics := none }

def pool5 : Array CpInfo := pool [(2, .class_ 4), (1, u "java/lang/Enum"), (0, u "name"), (0, u "Ljava/lang/String;"), (0, .fieldref 2 8), (0, .nameAndType 9 10), (0, u "ordinal"), (0, u "I"), (1, .class_ 14), (1, u "java/lang/Object"), (4, u "hash"), (86, .class_ 108), (1, u "java/lang/Enum$EnumDesc"), (2, .class_ 112), (0, u "java/lang/constant/Constable"), (0, .class_ 114), (0, u "java/lang/Comparable"), (0, .class_ 116), (0, u "java/io/Serializable"), (9, u "()I")] 77

def k5c0 : Code := { maxStack := 1, maxLocals := 1, code := jdk_37_method_2_code, exceptionTable := #[], attributes := #[] }
def k5m0 : Method := { name := "ordinal", desc := "()I", sig := { parameters := [], returnType := some .int }, accessFlags := 17, code := some k5c0 }
/-- java/lang/Enum -/
def k5 : Class := { plain "java/lang/Enum" (some 0) with
  accessFlags := 1057
  interfaces := #[2, 3, 4]
  cf := some (fileOf pool5 2 #[.nestMembers #[106]] #[{ accessFlags := 17, nameIndex := 9, descriptorIndex := 126, attributes := #[] }] 1057 12 #[111, 113, 115] #[{ accessFlags := 18, nameIndex := 5, descriptorIndex := 6, attributes := #[] }, { accessFlags := 18, nameIndex := 9, descriptorIndex := 10, attributes := #[] }, { accessFlags := 2, nameIndex := 19, descriptorIndex := 10, attributes := #[] }])
  fields := #[{ name := "name", type := (.object "java/lang/String"), accessFlags := 18, slot := 0, constantValue := 0 }, { name := "ordinal", type := .int, accessFlags := 18, slot := 1, constantValue := 0 }, { name := "hash", type := .int, accessFlags := 2, slot := 2, constantValue := 0 }]
  methods := #[k5m0]
  instanceTypes := #[(.object "java/lang/String"), .int, .int]
  staticTypes := #[]
  resolved := Array.replicate 204 none
  statics := none }

def pool6 : Array CpInfo := pool [(1, .class_ 2), (0, u "com/example/any_row/anyrow/ComparisonOperator"), (2, u "EQ"), (0, u "Lcom/example/any_row/anyrow/ComparisonOperator;"), (2, u "NE"), (2, u "GT"), (2, u "GE"), (2, u "LT"), (2, u "LE"), (2, u "$VALUES"), (0, u "[Lcom/example/any_row/anyrow/ComparisonOperator;"), (6, .class_ 34), (1, u "java/lang/Enum"), (8, u "keyword"), (0, u "Ljava/lang/String;"), (10, .methodref 1 56), (0, .nameAndType 57 58), (0, u "ordinal"), (0, u "()I"), (32, u "holds"), (0, u "(I)Z")] 7

def k6c0 : Code := { maxStack := 1, maxLocals := 3, code := prog_4_method_5_code, exceptionTable := #[], attributes := #[] }
def k6m0 : Method := { name := "holds", desc := "(I)Z", sig := { parameters := [.int], returnType := some .boolean }, accessFlags := 1, code := some k6c0 }
/-- com/example/any_row/anyrow/ComparisonOperator -/
def k6 : Class := { plain "com/example/any_row/anyrow/ComparisonOperator" (some 5) with
  accessFlags := 16433
  interfaces := #[]
  cf := some (fileOf pool6 1 #[] #[{ accessFlags := 1, nameIndex := 91, descriptorIndex := 92, attributes := #[] }] 16433 32 #[] #[{ accessFlags := 16409, nameIndex := 5, descriptorIndex := 6, attributes := #[] }, { accessFlags := 16409, nameIndex := 9, descriptorIndex := 6, attributes := #[] }, { accessFlags := 16409, nameIndex := 12, descriptorIndex := 6, attributes := #[] }, { accessFlags := 16409, nameIndex := 15, descriptorIndex := 6, attributes := #[] }, { accessFlags := 16409, nameIndex := 18, descriptorIndex := 6, attributes := #[] }, { accessFlags := 16409, nameIndex := 21, descriptorIndex := 6, attributes := #[] }, { accessFlags := 18, nameIndex := 43, descriptorIndex := 44, attributes := #[] }, { accessFlags := 4122, nameIndex := 24, descriptorIndex := 25, attributes := #[] }])
  fields := #[{ name := "EQ", type := (.object "com/example/any_row/anyrow/ComparisonOperator"), accessFlags := 16409, slot := 0, constantValue := 0 }, { name := "NE", type := (.object "com/example/any_row/anyrow/ComparisonOperator"), accessFlags := 16409, slot := 1, constantValue := 0 }, { name := "GT", type := (.object "com/example/any_row/anyrow/ComparisonOperator"), accessFlags := 16409, slot := 2, constantValue := 0 }, { name := "GE", type := (.object "com/example/any_row/anyrow/ComparisonOperator"), accessFlags := 16409, slot := 3, constantValue := 0 }, { name := "LT", type := (.object "com/example/any_row/anyrow/ComparisonOperator"), accessFlags := 16409, slot := 4, constantValue := 0 }, { name := "LE", type := (.object "com/example/any_row/anyrow/ComparisonOperator"), accessFlags := 16409, slot := 5, constantValue := 0 }, { name := "keyword", type := (.object "java/lang/String"), accessFlags := 18, slot := 3, constantValue := 0 }, { name := "$VALUES", type := (.array (.object "com/example/any_row/anyrow/ComparisonOperator")), accessFlags := 4122, slot := 6, constantValue := 0 }]
  methods := #[k6m0]
  instanceTypes := #[(.object "java/lang/String"), .int, .int, (.object "java/lang/String")]
  staticTypes := #[(.object "com/example/any_row/anyrow/ComparisonOperator"), (.object "com/example/any_row/anyrow/ComparisonOperator"), (.object "com/example/any_row/anyrow/ComparisonOperator"), (.object "com/example/any_row/anyrow/ComparisonOperator"), (.object "com/example/any_row/anyrow/ComparisonOperator"), (.object "com/example/any_row/anyrow/ComparisonOperator"), (.array (.object "com/example/any_row/anyrow/ComparisonOperator"))]
  resolved := Array.replicate 100 none
  statics := some 0 }

def pool7 : Array CpInfo := pool [(1, u "java/lang/Cloneable"), (0, .class_ 1), (0, u "java/lang/Object"), (0, .class_ 3)] 3

/-- java/lang/Cloneable -/
def k7 : Class := { plain "java/lang/Cloneable" (some 0) with
  accessFlags := 1537
  interfaces := #[]
  cf := some (fileOf pool7 2 #[] #[] 1537 4 #[] #[])
  fields := #[]
  methods := #[]
  instanceTypes := #[]
  staticTypes := #[]
  resolved := Array.replicate 8 none
  statics := none }

/-- the primitive byte -/
def k8 : Class := { plain "byte" none with kind := .primitive 'B', accessFlags := 0x411 }
/-- [B -/
def k9 : Class := { plain "[B" (some 0) with kind := .array 8 .byte, interfaces := #[7, 4], accessFlags := 1041 }

/-- the primitive int -/
def k10 : Class := { plain "int" none with kind := .primitive 'I', accessFlags := 0x411 }
/-- [I -/
def k11 : Class := { plain "[I" (some 0) with kind := .array 10 .int, interfaces := #[7, 4], accessFlags := 1041 }

def heap : Heap := #[{ cls := 6, slots := #[.ref 1, .ref 2, .ref 3, .ref 4, .ref 5, .ref 6, .null], vm := .statics 6 },
  { cls := 6, slots := #[.null, .int 0, .int 0, .null], vm := .none },
  { cls := 6, slots := #[.null, .int 1, .int 0, .null], vm := .none },
  { cls := 6, slots := #[.null, .int 2, .int 0, .null], vm := .none },
  { cls := 6, slots := #[.null, .int 3, .int 0, .null], vm := .none },
  { cls := 6, slots := #[.null, .int 4, .int 0, .null], vm := .none },
  { cls := 6, slots := #[.null, .int 5, .int 0, .null], vm := .none }]
def classes : Array Class := #[k0, k1, k2, k3, k4, k5, k6, k7, k8, k9, k10, k11]
def interned : List (Array UInt16 × Addr) := []
def slotsUsed : Nat := 31
def theMethod : MethodId := ⟨1, 1⟩
def args0 : Array Value := #[.int 5]
def aboutOver (below : List Frame) : State where
  vm := { classes := classes, interned := interned.toArray }
  heap := heap
  slotsUsed := slotsUsed
  threads := #[{ frames := .invoking theMethod args0 :: below }]
def below0 : List Frame := [.native { method := ⟨0, 0⟩, args := #[] }]
def about1 : State := aboutOver below0
def p0 : Program := .bare "" "" ""
def e0 : Env := launch0.env 0 0 0
theorem w_frames : about1.frames = Frame.invoking theMethod args0 :: below0 := rfl
set_option maxRecDepth 65536 in
theorem w_args : argsFit about1.vm theMethod args0 = true := by decide +kernel
set_option maxRecDepth 65536 in
theorem w_heap : heapFits about1 = true := by decide +kernel
set_option maxRecDepth 65536 in
theorem w_runnable : about1.curStatus? = some .runnable := by decide +kernel
set_option maxRecDepth 65536 in
theorem w_alone : about1.alone = true := by decide +kernel
set_option maxRecDepth 65536 in
theorem w_named : about1.methodNamed? x = some theMethod := by decide +kernel
set_option maxRecDepth 65536 in
theorem w_hears : about1.hears theMethod below0 = true := by decide +kernel
set_option maxRecDepth 65536 in
theorem w_ripe : about1.ripe theMethod args0 below0 = true := by decide +kernel
theorem w_running : about1.status = .running := rfl
set_option maxRecDepth 65536 in
theorem w_room : about1.hasRoom e0.platform room_1 = true :=
  launch0.hasRoom_least _ room_1 (by decide +kernel) (by decide +kernel) (by decide +kernel) (by decide +kernel) (by decide +kernel) (by decide +kernel)
theorem allAtoms_all (ts : List Jvm.Cond) (a : Array Jvm.Value) (st : Jvm.State) : (allAtoms ts).before a st = ts.all (fun c => c.before a st) := by
  induction ts with
  | nil => rfl
  | cons c t ih =>
    show (Jvm.Cond.and c (allAtoms t)).before a st = _
    rw [Jvm.Cond.before_and, ih, List.all_cons]
def words1 : List Jvm.Cond := Jvm.Cond.code x code maxLocals ret :: tables_1
/-- a 'code' word, met by the world's own term for the bytes: nothing is compared byte by byte -/
theorem code_word {y : MethodName} {bytes : ByteArray} {mx : Nat} {rt : Option FieldType} {a : Array Value} {s : State} {m : MethodId} {meth : Method} {c : Code} (h1 : s.methodNamed? y = some m) (h2 : s.vm.method? m = some meth) (h3 : meth.code = some c) (h4 : c.code = bytes)
    (h5 : (c.maxLocals == mx && c.exceptionTable.isEmpty && decide (c.maxStack ≤ mostOperands) && decide (meth.sig.returnType = rt) && !meth.locks && decide (parseMethodDescriptor y.desc = some meth.sig)) = true) : (Jvm.Cond.code y bytes mx rt).before a s = true := by
  simp only [Bool.and_eq_true, beq_iff_eq, Bool.not_eq_true', decide_eq_true_eq] at h5
  obtain ⟨⟨⟨⟨⟨g1, g2⟩, g3⟩, g4⟩, g5⟩, g6⟩ := h5
  simp [Cond.before, Cond.holds, Cond.value, h1, h2, h3, h4, g1, g2, g3, g4, g5, g6]
def isCode : Jvm.Cond → Bool
  | .code _ _ _ _ => true
  | _ => false
theorem all_split {L : List Jvm.Cond} {P : Jvm.Cond → Bool} (h1 : L.all (fun c => isCode c || P c) = true) (h2 : ∀ c ∈ L.filter isCode, P c = true) : L.all P = true := by
  refine List.all_eq_true.mpr fun c hc => ?_
  have h := List.all_eq_true.mp h1 c hc
  rcases Bool.eq_false_or_eq_true (isCode c) with hi | hi
  · exact h2 c (List.mem_filter.mpr ⟨hc, hi⟩)
  · simpa [hi] using h
set_option maxRecDepth 65536 in
theorem w_c0 : (Jvm.Cond.code x code maxLocals ret).before args0 about1 = true := code_word (m := ⟨1, 1⟩) (meth := k1m1) (c := k1c1) (by decide +kernel) rfl rfl rfl (by decide +kernel)
set_option maxRecDepth 65536 in
theorem w_c1 : (Jvm.Cond.code ({ cls := "com/example/any_row/anyrow/ComparisonOperator", name := "holds", desc := "(I)Z" } : Jvm.MethodName) prog_4_method_5_code (3 : Nat) (Option.some Jvm.ClassFile.FieldType.boolean)).before args0 about1 = true := code_word (m := ⟨6, 0⟩) (meth := k6m0) (c := k6c0) (by decide +kernel) rfl rfl rfl (by decide +kernel)
set_option maxRecDepth 65536 in
theorem w_c2 : (Jvm.Cond.code ({ cls := "java/lang/Enum", name := "ordinal", desc := "()I" } : Jvm.MethodName) jdk_37_method_2_code (1 : Nat) (Option.some Jvm.ClassFile.FieldType.int)).before args0 about1 = true := code_word (m := ⟨5, 0⟩) (meth := k5m0) (c := k5c0) (by decide +kernel) rfl rfl rfl (by decide +kernel)
set_option maxRecDepth 65536 in
theorem w_c3 : (Jvm.Cond.code ({ cls := "com/example/any_row/anyrow/ComparisonOperatorHoldsPinLaw", name := "agrees", desc := "(ZII)Z" } : Jvm.MethodName) method_3_code (4 : Nat) (Option.some Jvm.ClassFile.FieldType.boolean)).before args0 about1 = true := code_word (m := ⟨1, 2⟩) (meth := k1m2) (c := k1c2) (by decide +kernel) rfl rfl rfl (by decide +kernel)
def codes1 : List Jvm.Cond := [Jvm.Cond.code x code maxLocals ret, Jvm.Cond.code ({ cls := "com/example/any_row/anyrow/ComparisonOperator", name := "holds", desc := "(I)Z" } : Jvm.MethodName) prog_4_method_5_code (3 : Nat) (Option.some Jvm.ClassFile.FieldType.boolean), Jvm.Cond.code ({ cls := "java/lang/Enum", name := "ordinal", desc := "()I" } : Jvm.MethodName) jdk_37_method_2_code (1 : Nat) (Option.some Jvm.ClassFile.FieldType.int), Jvm.Cond.code ({ cls := "com/example/any_row/anyrow/ComparisonOperatorHoldsPinLaw", name := "agrees", desc := "(ZII)Z" } : Jvm.MethodName) method_3_code (4 : Nat) (Option.some Jvm.ClassFile.FieldType.boolean)]
set_option maxRecDepth 65536 in
theorem codes_eq : words1.filter isCode = codes1 := rfl
theorem w_codes : ∀ c ∈ words1.filter isCode, c.before args0 about1 = true := by
  rw [codes_eq]
  intro c hc
  simp only [codes1, List.mem_cons, List.not_mem_nil, or_false] at hc
  rcases hc with rfl | rfl | rfl | rfl
  · exact w_c0
  · exact w_c1
  · exact w_c2
  · exact w_c3
set_option maxRecDepth 65536 in
theorem w_t1 : (words1.take 24).all (fun c => isCode c || c.before args0 about1) = true := by decide +kernel
set_option maxRecDepth 65536 in
theorem w_t2 : (words1.drop 24).all (fun c => isCode c || c.before args0 about1) = true := by decide +kernel
theorem w_tables : (allAtoms (Jvm.Cond.code x code maxLocals ret :: tables_1)).before args0 about1 = true := by
  rw [allAtoms_all]
  show words1.all (fun c => c.before args0 about1) = true
  refine all_split ?_ w_codes
  rw [← List.take_append_drop 24 words1, List.all_append, w_t1, w_t2]
  rfl
set_option maxRecDepth 65536 in
theorem w_case : (Jvm.Cond.and given_1 narrow_1).before args0 about1 = true := by decide +kernel
theorem w_applies : (headSpec (Jvm.Cond.code x code maxLocals ret :: tables_1) room_1).applies x e0.platform about1 = true :=
  (Spec.applies_iff w_frames).mpr ⟨w_running, w_runnable, w_alone, w_named, w_hears, w_ripe, w_room, w_tables⟩
theorem atStart : AtStart classFile x code maxLocals ret World_1 tables_1 room_1 Calls_1 rest_1 Pre_1 launch0 p0 e0 about1 theMethod args0 below0 :=
  ⟨lists_1, trivial, launch0.admits_env _ _ _, launch0.least_env, fairChoices_fair.cas, fairChoices_fair.clock, w_frames, w_args, w_heap, w_applies, trivial, trivial, w_case⟩
end start1
theorem witness_1 : WitnessClaimed_1 := ⟨start1.p0, start1.e0, start1.about1, start1.theMethod, start1.args0, start1.below0, start1.atStart⟩
end Jvm.Pilot.@@N@@
