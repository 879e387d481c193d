import JvmDerived
import JvmDerived.Pilot.@@N@@Statement
import JvmDerived.Pilot.@@N@@Code
set_option linter.unusedVariables false
set_option linter.unusedSimpArgs false
namespace Jvm.Pilot.@@N@@
open Jvm Jvm.ClassFile Sem Op Lib Jvm.Free Jvm.Stand Jvm.LawKit Jvm.RoadKit Bundle Jvm.Pilot.@@N@@.Jvm.D
section Own
variable {w : Bool} {p : Program} {l : Launch} {e : Env} {R : Room} {s : State} {m : MethodId} {args : Array Value} {below : List Frame} {meth : Method} {c : Code} {T : State} {cells slots n0 mx : Nat} {Z : State} {a0 : Array Value} {h : Heap} {bytes : ByteArray} {ret : Option FieldType} {own nm : String} {EL : List (String × Nat)} {sf : List Addr} {Q : Outcome → State → Prop} {pc q : Nat} {Ls : Array Slot} {st rest : List Value}
def own_Base (w : Bool) (s : State) (vm0 : Vm) (h : Heap) : Prop := (w = false ∧ vm0 = s.vm) ∨ (w = true ∧ ∃ k0, s.Since vm0 k0 ∧ k0 ≤ h.size)
/-- addresses that the walk has made and that are no literal's -/
def own_Sf (Z : State) (EL : List (String × Nat)) (vm : Vm) (h : Heap) (sf : List Addr) : Prop := ∀ x ∈ sf, Safe Z EL vm h x ∧ x < h.size
def own_At (w : Bool) (p : Program) (l : Launch) (e : Env) (R : Room) (s : State) (m : MethodId) (args : Array Value) (below : List Frame) (meth : Method) (c : Code) (bytes : ByteArray) (ret : Option FieldType) (own nm : String) (mx : Nat) (Z : State) (n0 : Nat) (a0 : Array Value) (EL : List (String × Nat)) (sf : List Addr) (T : State) (h : Heap) (cells slots : Nat) : Prop :=
  (p.tables.exec = Jvm.exec ∧ c.code = bytes ∧ meth.sig.returnType = ret ∧ meth.locks = false ∧ meth.name = nm ∧ c.maxLocals = mx) ∧
  ∃ (vm0 : Vm) (locs : List Loc), Stand p l e R (s.setVm vm0) m args below meth c T locs cells slots ∧ own_Base w s vm0 h ∧ Z.Warmed39 vm0 ∧ vm0.findClass own = some m.cls ∧ T.heap = h ∧ Fr n0 locs ∧ Old Z n0 h ∧ EW Z a0 EL ∧ CHr Z EL s.vm s.heap vm0 h ∧ own_Sf Z EL vm0 h sf
def own_Run (p : Program) (e : Env) (below : List Frame) (Q : Outcome → State → Prop) (m : MethodId) (T : State) (pc : Nat) (Ls : Array Slot) (st : List Value) : Prop :=
  ∃ s₂ o, Steps p.tables e below (T.setTop (mkF m pc Ls st)) s₂ ∧ s₂.status = .running ∧ Ended s₂ below o ∧ Q o s₂
def own_End : Bool → State → Outcome → State → List Loc → Nat → Nat → Prop
  | true, s, o, t, L, k, n => ReturnedEndW s o t L k n
  | false, s, o, t, L, k, n => FrameEnd s o t L k n
/-- what an invocation leaves: Qc of the value returned and the heap -/
def own_Q (w : Bool) (s : State) (rm : Room) (n0 : Nat) (Z : State) (EL : List (String × Nat)) (Qc : Option Value → Heap → Prop) (o : Outcome) (t : State) : Prop :=
  ∃ v L, o = .returned v ∧ (Qc v t.heap ∧ Fr n0 L ∧ Old Z n0 t.heap ∧ s.heap.size ≤ t.heap.size) ∧ CHr Z EL s.vm s.heap t.vm t.heap ∧ own_End w s o t L rm.cells rm.slots
def own_Met (w : Bool) (l : Launch) (Z : State) (n0 : Nat) (EL : List (String × Nat)) (sf : List Addr) (y : MethodName) (bytes : ByteArray) (mx : Nat) (ret : Option FieldType) (ws : List Jvm.Cond) (rm : Room) (as' : Array Value) (h : Heap) (Qc : Option Value → Heap → Prop) : Prop :=
  MetFree l y (head1 (Jvm.Cond.code y bytes mx ret :: ws) rm) (fun a U => a = as' ∧ Z.Warmed39 U.vm ∧ U.heap = h ∧ CHv Z EL U.vm h ∧ own_Sf Z EL U.vm h sf) (fun _ _ _ _ _ => True) (fun _ U o U' => own_Q w U rm n0 Z EL Qc o U')
theorem own_by {T' : State} {Ls' : Array Slot} {st' : List Value} (hs : ∀ t, Steps p.tables e below (T'.setTop (mkF m q Ls' st')) t → Steps p.tables e below (T.setTop (mkF m pc Ls st)) t) (k : own_Run p e below Q m T' q Ls' st') : own_Run p e below Q m T pc Ls st := by
  obtain ⟨a, o, h1, r⟩ := k
  exact ⟨a, o, hs _ h1, r⟩
theorem own_At.old (A : own_At w p l e R s m args below meth c bytes ret own nm mx Z n0 a0 EL sf T h cells slots) : Old Z n0 h := by obtain ⟨-, _, _, -, -, -, -, -, -, O, -⟩ := A; exact O
theorem own_At.fr (A : own_At w p l e R s m args below meth c bytes ret own nm mx Z n0 a0 EL sf T h cells slots) : n0 ≤ h.size := by have O := A.old; exact O.1 ▸ O.2.1
theorem own_Base.le {vm0 : Vm} {h h' : Heap} (B : own_Base w s vm0 h) (g : h.size ≤ h'.size) : own_Base w s vm0 h' := by
  rcases B with B | ⟨B, k0, B1, B2⟩
  · exact Or.inl B
  · exact Or.inr ⟨B, k0, B1, Nat.le_trans B2 g⟩
theorem own_ch0 {vm vm1 : Vm} {h h' : Heap} (g : h.size ≤ h'.size) : CHr Z [] vm h vm1 h' := by
  refine ⟨fun p hp => ?_, g, fun y B => ?_⟩
  · cases hp
  · obtain ⟨p, hp, -⟩ := B
    cases hp
theorem own_Sf.ext {vm : Vm} {h h' : Heap} (S : own_Sf Z EL vm h sf) (H : CHv Z EL vm h) (E : Ext h h') : own_Sf Z EL vm h' sf := fun x hx => ⟨(S x hx).1.ext E H, Nat.lt_of_lt_of_le (S x hx).2 E.1⟩
theorem own_Sf.new {vm : Vm} {h h' : Heap} (S : own_Sf Z EL vm h sf) (H : CHv Z EL vm h) (E : Ext h h') (g : h.size < h'.size) : own_Sf Z EL vm h' (h.size :: sf) := fun x hx => by
  rcases List.mem_cons.mp hx with rfl | hx
  · exact ⟨(Safe.new (Nat.le_refl _)).ext E H, g⟩
  · exact S.ext H E x hx
theorem own_Sf.wr {vm : Vm} {h h' : Heap} {a : Addr} {sl : Nat} {v : Value} (S : own_Sf Z EL vm h sf) (H : CHv Z EL vm h) (W : Wr h h' a sl v) (Sa : Safe Z EL vm h a) : own_Sf Z EL vm h' sf := fun x hx => ⟨Safe.wr W Sa H (S x hx).1, by rw [W.size]; exact (S x hx).2⟩
theorem own_Sf.ch {vm vm1 : Vm} {h h' : Heap} (S : own_Sf Z EL vm h sf) (C : CHr Z EL vm h vm1 h') : own_Sf Z EL vm1 h' sf := fun x hx => ⟨C.safe (S x hx).2 (S x hx).1, Nat.lt_of_lt_of_le (S x hx).2 C.2.1⟩
/-- what may be written: a made object, anything where there are no literals, no String and no byte[] -/
def own_Wok (Z : State) (EL : List (String × Nat)) (sf : List Addr) (h : Heap) (a : Addr) : Prop := a ∈ sf ∨ EL = [] ∨ (∃ C, Exa Z h a C ∧ C ≠ "java/lang/String" ∧ C ≠ "[B") ∨ ∃ cl ty, Arr Z h a cl ty ∧ ty ≠ .byte
theorem own_Wok.safe {vm : Vm} {a : Addr} (W : own_Wok Z EL sf h a) (hZ : Z.Warmed39 vm) (S : own_Sf Z EL vm h sf) : Safe Z EL vm h a := by
  rcases W with W | rfl | ⟨C, E, h1, h2⟩ | ⟨cl, ty, Ar, ht⟩
  · exact (S a W).1
  · exact fun B => by
      obtain ⟨p, hp, -⟩ := B
      cases hp
  · exact Safe.exa hZ.alike E h1 h2
  · exact Safe.arr hZ.alike Ar ht
/-- the entry -/
theorem own_enter {y : MethodName} {mx : Nat} {ws : List Jvm.Cond} {rm : Room} {as' : Array Value} {Qc : Option Value → Heap → Prop} (hpl : plainName own = true) (O : Old Z n0 h) (hEL : EW Z a0 EL) (hef : ∀ m, entryFrame m as' mx = mkF m 0 Ls [])
    (body : ∀ p e s m args below meth c T Q, Q = own_Q w s rm n0 Z EL Qc → own_At w p l e rm s m args below meth c bytes ret own nm mx Z n0 a0 EL sf T h 0 0 → own_Run p e below Q m T 0 Ls []) (ho : y.cls = own := by rfl) (hn : y.name = nm := by rfl) : own_Met w l Z n0 EL sf y bytes mx ret ws rm as' h Qc := by
  subst ho hn
  refine MetFree.of_bodySF (plainFor_of_name hpl) hisR ?_
  intro p e s m args below meth c s₁ Bd hml0 hP hK
  obtain ⟨rfl, hZ, hh, hCH, hSf⟩ := hP
  have X0 : Stand p l e rm s m args below meth c s₁ [] 0 0 := Stand.of_body Bd
  have e0 : s₁.heap = h := by rw [← hh, Bd.state]; rfl
  have hown : s.vm.findClass y.cls = some m.cls := findClass_of_methodNamed Bd.named
  have A : own_At w p l e rm s m args below meth c bytes ret y.cls y.name mx Z n0 a0 EL sf s₁ h 0 0 :=
    ⟨⟨Bd.exec, Bd.bytes, Bd.returns, Bd.notSynchronized, (name_of_methodNamed Bd.named Bd.method).1, hml0⟩, s.vm, [], X0, (by
      cases w
      · exact Or.inl ⟨rfl, rfl⟩
      · exact Or.inr ⟨rfl, 0, (State.WarmedH.refl s).since 0, Nat.zero_le _⟩), hZ, hown, e0, Fr.nil n0, O, hEL, (by rw [hh]; exact CHr.refl hCH), hSf⟩
  obtain ⟨s₂, o, h1, h2, h3, h4⟩ := body p e s m args below meth c s₁ _ rfl A
  exact ⟨s₂, o, castTop (hef m) h1, h2, h3, h4⟩
/-- the end of a walk, whatever the returning instruction -/
theorem own_end {rm : Room} {Qc : Option Value → Heap → Prop} (A : own_At w p l e R s m args below meth c bytes ret own nm mx Z n0 a0 EL sf T h cells slots) (hQ : Q = own_Q w s rm n0 Z EL Qc) (v : Option Value) (hv : ret = none → v = none) (hq : Qc v h) (hk : cells ≤ rm.cells) (hn : slots ≤ rm.slots)
    (hs : ∀ fs, (∀ (f : JFrame) (acts : List Action), f.method = m → f.locked = none → f.entered = [] → (doReturn e (T.setTop f) acts v).1 = T.setFrames fs) → Steps p.tables e below (T.setTop (mkF m pc Ls st)) (T.setFrames fs)) : own_Run p e below Q m T pc Ls st := by
  subst hQ
  obtain ⟨⟨hx, hby, hret, hlk, hnm, hml⟩, vm0, locs, X, B, hZ, hown, hT, N, O, hEL, Ch, Sf⟩ := A
  subst hT
  have Ch' := Ch.trans (CHv.at X hZ hEL Ch.1)
  rcases B with ⟨rfl, rfl⟩ | ⟨rfl, k0, B1, B2⟩
  · have X' : Stand p l e R s m args below meth c T locs cells slots := X
    obtain ⟨fs, hr, hrun, hended, hW, hsame⟩ := X'.leave (v := v) (fun z => hv (hret ▸ z)) hlk
    exact ⟨_, _, hs fs hr, hrun, hended, v, locs, rfl, ⟨hq, N, O, X'.same.2.1⟩, Ch', ⟨_, rfl⟩, hW, hsame.mono hk hn⟩
  · obtain ⟨fs, hr, hrun, hended, hW⟩ := X.leaveW B1 B2 (v := v) (fun z => hv (hret ▸ z)) hlk
    exact ⟨_, _, hs fs hr, hrun, hended, v, locs, rfl, ⟨hq, N, O, X.same.2.1⟩, Ch', hW.1, hW.2.1, hW.2.2.1, hW.2.2.2.mono hk hn⟩
theorem own_retN {z : Int32} {t : FieldType} {rm : Room} {Qc : Option Value → Heap → Prop} (A : own_At w p l e R s m args below meth c bytes (some t) own nm mx Z n0 a0 EL sf T h cells slots) (hQ : Q = own_Q w s rm n0 Z EL Qc) (ht : t = .boolean ∨ t = .byte ∨ t = .char ∨ t = .short) (hd : decode bytes pc = .ok (.ireturn, 1)) (hq : Qc (some (.int (nar t z))) h) (hk : cells ≤ rm.cells := by decide) (hn : slots ≤ rm.slots := by decide) : own_Run p e below Q m T pc Ls (.int z :: rest) := by
  obtain ⟨⟨hx, hby, hret, hlk, hnm, hml⟩, vm0, locs, X, r⟩ := id A
  subst hby
  exact own_end A hQ (some (.int (nar t z))) (fun z => by cases z) hq hk hn (fun fs hr => RoadKit.retN X hx hret ht hd hr)
theorem own_retI {z : Int32} {rm : Room} {Qc : Option Value → Heap → Prop} (A : own_At w p l e R s m args below meth c bytes (some .int) own nm mx Z n0 a0 EL sf T h cells slots) (hQ : Q = own_Q w s rm n0 Z EL Qc)  (hd : decode bytes pc = .ok (.ireturn, 1)) (hq : Qc (some (.int z)) h) (hk : cells ≤ rm.cells := by decide) (hn : slots ≤ rm.slots := by decide) : own_Run p e below Q m T pc Ls (.int z :: rest) := by
  obtain ⟨⟨hx, hby, hret, hlk, hnm, hml⟩, vm0, locs, X, r⟩ := id A
  subst hby
  exact own_end A hQ (some (.int z)) (fun z => by cases z) hq hk hn (fun fs hr => RoadKit.retOut X hx hret rfl (Or.inl ⟨rfl, Or.inl rfl, z, rfl⟩) hd hr)
theorem own_retJ {z : Int64} {rm : Room} {Qc : Option Value → Heap → Prop} (A : own_At w p l e R s m args below meth c bytes (some .long) own nm mx Z n0 a0 EL sf T h cells slots) (hQ : Q = own_Q w s rm n0 Z EL Qc)  (hd : decode bytes pc = .ok (.lreturn, 1)) (hq : Qc (some (.long z)) h) (hk : cells ≤ rm.cells := by decide) (hn : slots ≤ rm.slots := by decide) : own_Run p e below Q m T pc Ls (.long z :: rest) := by
  obtain ⟨⟨hx, hby, hret, hlk, hnm, hml⟩, vm0, locs, X, r⟩ := id A
  subst hby
  exact own_end A hQ (some (.long z)) (fun z => by cases z) hq hk hn (fun fs hr => RoadKit.retOut X hx hret rfl (Or.inr (Or.inl ⟨rfl, rfl, z, rfl⟩)) hd hr)
theorem own_retD {z : UInt64} {rm : Room} {Qc : Option Value → Heap → Prop} (A : own_At w p l e R s m args below meth c bytes (some .double) own nm mx Z n0 a0 EL sf T h cells slots) (hQ : Q = own_Q w s rm n0 Z EL Qc)  (hd : decode bytes pc = .ok (.dreturn, 1)) (hq : Qc (some (.double z)) h) (hk : cells ≤ rm.cells := by decide) (hn : slots ≤ rm.slots := by decide) : own_Run p e below Q m T pc Ls (.double z :: rest) := by
  obtain ⟨⟨hx, hby, hret, hlk, hnm, hml⟩, vm0, locs, X, r⟩ := id A
  subst hby
  exact own_end A hQ (some (.double z)) (fun z => by cases z) hq hk hn (fun fs hr => RoadKit.retOut X hx hret rfl (Or.inr (Or.inr (Or.inl ⟨rfl, rfl, z, rfl⟩))) hd hr)
theorem own_retA {z : Value} {t : FieldType} {rm : Room} {Qc : Option Value → Heap → Prop} (A : own_At w p l e R s m args below meth c bytes (some t) own nm mx Z n0 a0 EL sf T h cells slots) (hQ : Q = own_Q w s rm n0 Z EL Qc) (ht : t.isReference = true) (hz : z.isRef = true) (hnz : narrow t z = z) (hd : decode bytes pc = .ok (.areturn, 1)) (hq : Qc (some z) h) (hk : cells ≤ rm.cells := by decide) (hn : slots ≤ rm.slots := by decide) : own_Run p e below Q m T pc Ls (z :: rest) := by
  obtain ⟨⟨hx, hby, hret, hlk, hnm, hml⟩, vm0, locs, X, r⟩ := id A
  subst hby
  exact own_end A hQ (some z) (fun z => by cases z) hq hk hn (fun fs hr => RoadKit.retOut X hx hret hnz (Or.inr (Or.inr (Or.inr (Or.inr ⟨rfl, ht, hz⟩)))) hd hr)
theorem own_ret0 {rm : Room} {Qc : Option Value → Heap → Prop} (A : own_At w p l e R s m args below meth c bytes none own nm mx Z n0 a0 EL sf T h cells slots) (hQ : Q = own_Q w s rm n0 Z EL Qc) (hd : decode bytes pc = .ok (.return_, 1)) (hq : Qc none h) (hk : cells ≤ rm.cells := by decide) (hn : slots ≤ rm.slots := by decide) : own_Run p e below Q m T pc Ls [] := by
  obtain ⟨⟨hx, hby, hret, hlk, hnm, hml⟩, vm0, locs, X, r⟩ := id A
  subst hby
  exact own_end A hQ none (fun _ => rfl) hq hk hn (fun fs hr => X.returnOut hx hret hd hr)
theorem own_aloadN (A : own_At w p l e R s m args below meth c bytes ret own nm mx Z n0 a0 EL sf T h cells slots) {i : Fin 4} {v : Value} (hd : decode bytes pc = .ok (.aload_n i, 1)) (hl : Ls[i.val]? = some (.val v)) (hv : v.isRef = true) (k : own_Run p e below Q m T q Ls (v :: st)) (hq : pc + 1 = q := by rfl) : own_Run p e below Q m T pc Ls st := by
  obtain ⟨⟨hx, hby, -⟩, vm0, locs, X, -⟩ := A
  subst hby hq
  refine own_by (fun t z => ?_) k
  exact XS.aloadN X.here hx rfl hd hl hv z
theorem own_aload (A : own_At w p l e R s m args below meth c bytes ret own nm mx Z n0 a0 EL sf T h cells slots) {i : Nat} {v : Value} (hd : decode bytes pc = .ok (.aload i, 2)) (hl : Ls[i]? = some (.val v)) (hv : v.isRef = true) (k : own_Run p e below Q m T q Ls (v :: st)) (hq : pc + 2 = q := by rfl) : own_Run p e below Q m T pc Ls st := by
  obtain ⟨⟨hx, hby, -⟩, vm0, locs, X, -⟩ := A
  subst hby hq
  refine own_by (fun t z => ?_) k
  exact XS.aload X.here hx rfl hd hl hv z
theorem own_iloadN (A : own_At w p l e R s m args below meth c bytes ret own nm mx Z n0 a0 EL sf T h cells slots) {i : Fin 4} {v : Int32} (hd : decode bytes pc = .ok (.iload_n i, 1)) (hl : Ls[i.val]? = some (.val (.int v))) (k : own_Run p e below Q m T q Ls (.int v :: st)) (hq : pc + 1 = q := by rfl) : own_Run p e below Q m T pc Ls st := by
  obtain ⟨⟨hx, hby, -⟩, vm0, locs, X, -⟩ := A
  subst hby hq
  refine own_by (fun t z => ?_) k
  exact XS.iloadN X.here hx rfl hd hl z
theorem own_iload (A : own_At w p l e R s m args below meth c bytes ret own nm mx Z n0 a0 EL sf T h cells slots) {i : Nat} {v : Int32} (hd : decode bytes pc = .ok (.iload i, 2)) (hl : Ls[i]? = some (.val (.int v))) (k : own_Run p e below Q m T q Ls (.int v :: st)) (hq : pc + 2 = q := by rfl) : own_Run p e below Q m T pc Ls st := by
  obtain ⟨⟨hx, hby, -⟩, vm0, locs, X, -⟩ := A
  subst hby hq
  refine own_by (fun t z => ?_) k
  exact XS.iload X.here hx rfl hd hl z
theorem own_istoreN (A : own_At w p l e R s m args below meth c bytes ret own nm mx Z n0 a0 EL sf T h cells slots) {i : Fin 4} {v : Int32} {L' : Array Slot} (hd : decode bytes pc = .ok (.istore_n i, 1)) (hl : storeLocals Ls i.val (.int v) = some L') (k : own_Run p e below Q m T q L' rest) (hq : pc + 1 = q := by rfl) : own_Run p e below Q m T pc Ls (.int v :: rest) := by
  obtain ⟨⟨hx, hby, -⟩, vm0, locs, X, -⟩ := A
  subst hby hq
  refine own_by (fun t z => ?_) k
  exact XS.istoreN X.here hx rfl hd rfl hl z
theorem own_istore (A : own_At w p l e R s m args below meth c bytes ret own nm mx Z n0 a0 EL sf T h cells slots) {i : Nat} {v : Int32} {L' : Array Slot} (hd : decode bytes pc = .ok (.istore i, 2)) (hl : storeLocals Ls i (.int v) = some L') (k : own_Run p e below Q m T q L' rest) (hq : pc + 2 = q := by rfl) : own_Run p e below Q m T pc Ls (.int v :: rest) := by
  obtain ⟨⟨hx, hby, -⟩, vm0, locs, X, -⟩ := A
  subst hby hq
  refine own_by (fun t z => ?_) k
  exact XS.istore X.here hx rfl hd rfl hl z
theorem own_lloadN (A : own_At w p l e R s m args below meth c bytes ret own nm mx Z n0 a0 EL sf T h cells slots) {i : Fin 4} {v : Int64} (hd : decode bytes pc = .ok (.lload_n i, 1)) (hl : Ls[i.val]? = some (.val (.long v))) (k : own_Run p e below Q m T q Ls (.long v :: st)) (hq : pc + 1 = q := by rfl) : own_Run p e below Q m T pc Ls st := by
  obtain ⟨⟨hx, hby, -⟩, vm0, locs, X, -⟩ := A
  subst hby hq
  refine own_by (fun t z => ?_) k
  exact XS.lloadN X.here hx rfl hd hl z
theorem own_lload (A : own_At w p l e R s m args below meth c bytes ret own nm mx Z n0 a0 EL sf T h cells slots) {i : Nat} {v : Int64} (hd : decode bytes pc = .ok (.lload i, 2)) (hl : Ls[i]? = some (.val (.long v))) (k : own_Run p e below Q m T q Ls (.long v :: st)) (hq : pc + 2 = q := by rfl) : own_Run p e below Q m T pc Ls st := by
  obtain ⟨⟨hx, hby, -⟩, vm0, locs, X, -⟩ := A
  subst hby hq
  refine own_by (fun t z => ?_) k
  exact XS.lload X.here hx rfl hd hl z
theorem own_lstoreN (A : own_At w p l e R s m args below meth c bytes ret own nm mx Z n0 a0 EL sf T h cells slots) {i : Fin 4} {v : Int64} {L' : Array Slot} (hd : decode bytes pc = .ok (.lstore_n i, 1)) (hl : storeLocals Ls i.val (.long v) = some L') (k : own_Run p e below Q m T q L' rest) (hq : pc + 1 = q := by rfl) : own_Run p e below Q m T pc Ls (.long v :: rest) := by
  obtain ⟨⟨hx, hby, -⟩, vm0, locs, X, -⟩ := A
  subst hby hq
  refine own_by (fun t z => ?_) k
  exact XS.lstoreN X.here hx rfl hd rfl hl z
theorem own_lstore (A : own_At w p l e R s m args below meth c bytes ret own nm mx Z n0 a0 EL sf T h cells slots) {i : Nat} {v : Int64} {L' : Array Slot} (hd : decode bytes pc = .ok (.lstore i, 2)) (hl : storeLocals Ls i (.long v) = some L') (k : own_Run p e below Q m T q L' rest) (hq : pc + 2 = q := by rfl) : own_Run p e below Q m T pc Ls (.long v :: rest) := by
  obtain ⟨⟨hx, hby, -⟩, vm0, locs, X, -⟩ := A
  subst hby hq
  refine own_by (fun t z => ?_) k
  exact XS.lstore X.here hx rfl hd rfl hl z
theorem own_dloadN (A : own_At w p l e R s m args below meth c bytes ret own nm mx Z n0 a0 EL sf T h cells slots) {i : Fin 4} {v : UInt64} (hd : decode bytes pc = .ok (.dload_n i, 1)) (hl : Ls[i.val]? = some (.val (.double v))) (k : own_Run p e below Q m T q Ls (.double v :: st)) (hq : pc + 1 = q := by rfl) : own_Run p e below Q m T pc Ls st := by
  obtain ⟨⟨hx, hby, -⟩, vm0, locs, X, -⟩ := A
  subst hby hq
  refine own_by (fun t z => ?_) k
  exact XS.dloadN X.here hx rfl hd hl z
theorem own_dload (A : own_At w p l e R s m args below meth c bytes ret own nm mx Z n0 a0 EL sf T h cells slots) {i : Nat} {v : UInt64} (hd : decode bytes pc = .ok (.dload i, 2)) (hl : Ls[i]? = some (.val (.double v))) (k : own_Run p e below Q m T q Ls (.double v :: st)) (hq : pc + 2 = q := by rfl) : own_Run p e below Q m T pc Ls st := by
  obtain ⟨⟨hx, hby, -⟩, vm0, locs, X, -⟩ := A
  subst hby hq
  refine own_by (fun t z => ?_) k
  exact XS.dload X.here hx rfl hd hl z
theorem own_dstoreN (A : own_At w p l e R s m args below meth c bytes ret own nm mx Z n0 a0 EL sf T h cells slots) {i : Fin 4} {v : UInt64} {L' : Array Slot} (hd : decode bytes pc = .ok (.dstore_n i, 1)) (hl : storeLocals Ls i.val (.double v) = some L') (k : own_Run p e below Q m T q L' rest) (hq : pc + 1 = q := by rfl) : own_Run p e below Q m T pc Ls (.double v :: rest) := by
  obtain ⟨⟨hx, hby, -⟩, vm0, locs, X, -⟩ := A
  subst hby hq
  refine own_by (fun t z => ?_) k
  exact XS.dstoreN X.here hx rfl hd rfl hl z
theorem own_dstore (A : own_At w p l e R s m args below meth c bytes ret own nm mx Z n0 a0 EL sf T h cells slots) {i : Nat} {v : UInt64} {L' : Array Slot} (hd : decode bytes pc = .ok (.dstore i, 2)) (hl : storeLocals Ls i (.double v) = some L') (k : own_Run p e below Q m T q L' rest) (hq : pc + 2 = q := by rfl) : own_Run p e below Q m T pc Ls (.double v :: rest) := by
  obtain ⟨⟨hx, hby, -⟩, vm0, locs, X, -⟩ := A
  subst hby hq
  refine own_by (fun t z => ?_) k
  exact XS.dstore X.here hx rfl hd rfl hl z
theorem own_astoreN (A : own_At w p l e R s m args below meth c bytes ret own nm mx Z n0 a0 EL sf T h cells slots) {i : Fin 4} {v : Value} {L' : Array Slot} (hd : decode bytes pc = .ok (.astore_n i, 1)) (hv : v.isRef = true) (hl : storeLocals Ls i.val v = some L') (k : own_Run p e below Q m T q L' rest) (hq : pc + 1 = q := by rfl) : own_Run p e below Q m T pc Ls (v :: rest) := by
  obtain ⟨⟨hx, hby, -⟩, vm0, locs, X, -⟩ := A
  subst hby hq
  refine own_by (fun t z => ?_) k
  exact XS.astoreN X.here hx rfl hd rfl hv hl z
theorem own_astore (A : own_At w p l e R s m args below meth c bytes ret own nm mx Z n0 a0 EL sf T h cells slots) {i : Nat} {v : Value} {L' : Array Slot} (hd : decode bytes pc = .ok (.astore i, 2)) (hv : v.isRef = true) (hl : storeLocals Ls i v = some L') (k : own_Run p e below Q m T q L' rest) (hq : pc + 2 = q := by rfl) : own_Run p e below Q m T pc Ls (v :: rest) := by
  obtain ⟨⟨hx, hby, -⟩, vm0, locs, X, -⟩ := A
  subst hby hq
  refine own_by (fun t z => ?_) k
  exact XS.astore X.here hx rfl hd rfl hv hl z
theorem own_iconst (A : own_At w p l e R s m args below meth c bytes ret own nm mx Z n0 a0 EL sf T h cells slots) {i : Int} (v : Int32) (hd : decode bytes pc = .ok (.iconst i, 1)) (hv : Int32.ofInt i = v) (k : own_Run p e below Q m T q Ls (.int v :: st)) (hq : pc + 1 = q := by rfl) : own_Run p e below Q m T pc Ls st := by
  obtain ⟨⟨hx, hby, -⟩, vm0, locs, X, -⟩ := A
  subst hby hq hv
  refine own_by (fun t z => ?_) k
  exact XS.iconst X.here hx rfl hd z
theorem own_bipush (A : own_At w p l e R s m args below meth c bytes ret own nm mx Z n0 a0 EL sf T h cells slots) {i : Int} (v : Int32) (hd : decode bytes pc = .ok (.bipush i, 2)) (hv : (Int8.ofInt i).toInt32 = v) (k : own_Run p e below Q m T q Ls (.int v :: st)) (hq : pc + 2 = q := by rfl) : own_Run p e below Q m T pc Ls st := by
  obtain ⟨⟨hx, hby, -⟩, vm0, locs, X, -⟩ := A
  subst hby hq hv
  refine own_by (fun t z => ?_) k
  exact XS.bipush X.here hx rfl hd z
theorem own_sipush (A : own_At w p l e R s m args below meth c bytes ret own nm mx Z n0 a0 EL sf T h cells slots) {i : Int} (v : Int32) (hd : decode bytes pc = .ok (.sipush i, 3)) (hv : (Int16.ofInt i).toInt32 = v) (k : own_Run p e below Q m T q Ls (.int v :: st)) (hq : pc + 3 = q := by rfl) : own_Run p e below Q m T pc Ls st := by
  obtain ⟨⟨hx, hby, -⟩, vm0, locs, X, -⟩ := A
  subst hby hq hv
  refine own_by (fun t z => ?_) k
  exact XS.sipush X.here hx rfl hd z
theorem own_lconst (A : own_At w p l e R s m args below meth c bytes ret own nm mx Z n0 a0 EL sf T h cells slots) {i : Fin 2} (v : Int64) (hd : decode bytes pc = .ok (.lconst i, 1)) (hv : Int64.ofNat i = v) (k : own_Run p e below Q m T q Ls (.long v :: st)) (hq : pc + 1 = q := by rfl) : own_Run p e below Q m T pc Ls st := by
  obtain ⟨⟨hx, hby, -⟩, vm0, locs, X, -⟩ := A
  subst hby hq hv
  refine own_by (fun t z => ?_) k
  exact XS.lconst X.here hx rfl hd z
theorem own_aconstNull (A : own_At w p l e R s m args below meth c bytes ret own nm mx Z n0 a0 EL sf T h cells slots)  (hd : decode bytes pc = .ok (.aconst_null, 1))  (k : own_Run p e below Q m T q Ls (.null :: st)) (hq : pc + 1 = q := by rfl) : own_Run p e below Q m T pc Ls st := by
  obtain ⟨⟨hx, hby, -⟩, vm0, locs, X, -⟩ := A
  subst hby hq
  refine own_by (fun t z => ?_) k
  exact XS.aconstNull X.here hx rfl hd  z
theorem own_iadd (A : own_At w p l e R s m args below meth c bytes ret own nm mx Z n0 a0 EL sf T h cells slots) {x y : Int32} (hd : decode bytes pc = .ok (.iadd, 1))  (k : own_Run p e below Q m T q Ls (.int (x + y) :: rest)) (hq : pc + 1 = q := by rfl) : own_Run p e below Q m T pc Ls (.int y :: .int x :: rest) := by
  obtain ⟨⟨hx, hby, -⟩, vm0, locs, X, -⟩ := A
  subst hby hq
  refine own_by (fun t z => ?_) k
  exact XS.iadd X.here hx rfl hd rfl z
theorem own_ladd (A : own_At w p l e R s m args below meth c bytes ret own nm mx Z n0 a0 EL sf T h cells slots) {x y : Int64} (hd : decode bytes pc = .ok (.ladd, 1))  (k : own_Run p e below Q m T q Ls (.long (x + y) :: rest)) (hq : pc + 1 = q := by rfl) : own_Run p e below Q m T pc Ls (.long y :: .long x :: rest) := by
  obtain ⟨⟨hx, hby, -⟩, vm0, locs, X, -⟩ := A
  subst hby hq
  refine own_by (fun t z => ?_) k
  exact XS.ladd X.here hx rfl hd rfl z
theorem own_isub (A : own_At w p l e R s m args below meth c bytes ret own nm mx Z n0 a0 EL sf T h cells slots) {x y : Int32} (hd : decode bytes pc = .ok (.isub, 1))  (k : own_Run p e below Q m T q Ls (.int (x - y) :: rest)) (hq : pc + 1 = q := by rfl) : own_Run p e below Q m T pc Ls (.int y :: .int x :: rest) := by
  obtain ⟨⟨hx, hby, -⟩, vm0, locs, X, -⟩ := A
  subst hby hq
  refine own_by (fun t z => ?_) k
  exact XS.isub X.here hx rfl hd rfl z
theorem own_lsub (A : own_At w p l e R s m args below meth c bytes ret own nm mx Z n0 a0 EL sf T h cells slots) {x y : Int64} (hd : decode bytes pc = .ok (.lsub, 1))  (k : own_Run p e below Q m T q Ls (.long (x - y) :: rest)) (hq : pc + 1 = q := by rfl) : own_Run p e below Q m T pc Ls (.long y :: .long x :: rest) := by
  obtain ⟨⟨hx, hby, -⟩, vm0, locs, X, -⟩ := A
  subst hby hq
  refine own_by (fun t z => ?_) k
  exact XS.lsub X.here hx rfl hd rfl z
theorem own_imul (A : own_At w p l e R s m args below meth c bytes ret own nm mx Z n0 a0 EL sf T h cells slots) {x y : Int32} (hd : decode bytes pc = .ok (.imul, 1))  (k : own_Run p e below Q m T q Ls (.int (x * y) :: rest)) (hq : pc + 1 = q := by rfl) : own_Run p e below Q m T pc Ls (.int y :: .int x :: rest) := by
  obtain ⟨⟨hx, hby, -⟩, vm0, locs, X, -⟩ := A
  subst hby hq
  refine own_by (fun t z => ?_) k
  exact XS.imul X.here hx rfl hd rfl z
theorem own_lmul (A : own_At w p l e R s m args below meth c bytes ret own nm mx Z n0 a0 EL sf T h cells slots) {x y : Int64} (hd : decode bytes pc = .ok (.lmul, 1))  (k : own_Run p e below Q m T q Ls (.long (x * y) :: rest)) (hq : pc + 1 = q := by rfl) : own_Run p e below Q m T pc Ls (.long y :: .long x :: rest) := by
  obtain ⟨⟨hx, hby, -⟩, vm0, locs, X, -⟩ := A
  subst hby hq
  refine own_by (fun t z => ?_) k
  exact XS.lmul X.here hx rfl hd rfl z
theorem own_iand (A : own_At w p l e R s m args below meth c bytes ret own nm mx Z n0 a0 EL sf T h cells slots) {x y : Int32} (hd : decode bytes pc = .ok (.iand, 1))  (k : own_Run p e below Q m T q Ls (.int (x &&& y) :: rest)) (hq : pc + 1 = q := by rfl) : own_Run p e below Q m T pc Ls (.int y :: .int x :: rest) := by
  obtain ⟨⟨hx, hby, -⟩, vm0, locs, X, -⟩ := A
  subst hby hq
  refine own_by (fun t z => ?_) k
  exact XS.iand X.here hx rfl hd rfl z
theorem own_land (A : own_At w p l e R s m args below meth c bytes ret own nm mx Z n0 a0 EL sf T h cells slots) {x y : Int64} (hd : decode bytes pc = .ok (.land, 1))  (k : own_Run p e below Q m T q Ls (.long (x &&& y) :: rest)) (hq : pc + 1 = q := by rfl) : own_Run p e below Q m T pc Ls (.long y :: .long x :: rest) := by
  obtain ⟨⟨hx, hby, -⟩, vm0, locs, X, -⟩ := A
  subst hby hq
  refine own_by (fun t z => ?_) k
  exact XS.land X.here hx rfl hd rfl z
theorem own_ior (A : own_At w p l e R s m args below meth c bytes ret own nm mx Z n0 a0 EL sf T h cells slots) {x y : Int32} (hd : decode bytes pc = .ok (.ior, 1))  (k : own_Run p e below Q m T q Ls (.int (x ||| y) :: rest)) (hq : pc + 1 = q := by rfl) : own_Run p e below Q m T pc Ls (.int y :: .int x :: rest) := by
  obtain ⟨⟨hx, hby, -⟩, vm0, locs, X, -⟩ := A
  subst hby hq
  refine own_by (fun t z => ?_) k
  exact XS.ior X.here hx rfl hd rfl z
theorem own_lor (A : own_At w p l e R s m args below meth c bytes ret own nm mx Z n0 a0 EL sf T h cells slots) {x y : Int64} (hd : decode bytes pc = .ok (.lor, 1))  (k : own_Run p e below Q m T q Ls (.long (x ||| y) :: rest)) (hq : pc + 1 = q := by rfl) : own_Run p e below Q m T pc Ls (.long y :: .long x :: rest) := by
  obtain ⟨⟨hx, hby, -⟩, vm0, locs, X, -⟩ := A
  subst hby hq
  refine own_by (fun t z => ?_) k
  exact XS.lor X.here hx rfl hd rfl z
theorem own_ixor (A : own_At w p l e R s m args below meth c bytes ret own nm mx Z n0 a0 EL sf T h cells slots) {x y : Int32} (hd : decode bytes pc = .ok (.ixor, 1))  (k : own_Run p e below Q m T q Ls (.int (x ^^^ y) :: rest)) (hq : pc + 1 = q := by rfl) : own_Run p e below Q m T pc Ls (.int y :: .int x :: rest) := by
  obtain ⟨⟨hx, hby, -⟩, vm0, locs, X, -⟩ := A
  subst hby hq
  refine own_by (fun t z => ?_) k
  exact XS.ixor X.here hx rfl hd rfl z
theorem own_lxor (A : own_At w p l e R s m args below meth c bytes ret own nm mx Z n0 a0 EL sf T h cells slots) {x y : Int64} (hd : decode bytes pc = .ok (.lxor, 1))  (k : own_Run p e below Q m T q Ls (.long (x ^^^ y) :: rest)) (hq : pc + 1 = q := by rfl) : own_Run p e below Q m T pc Ls (.long y :: .long x :: rest) := by
  obtain ⟨⟨hx, hby, -⟩, vm0, locs, X, -⟩ := A
  subst hby hq
  refine own_by (fun t z => ?_) k
  exact XS.lxor X.here hx rfl hd rfl z
theorem own_ishl (A : own_At w p l e R s m args below meth c bytes ret own nm mx Z n0 a0 EL sf T h cells slots) {x y : Int32} (hd : decode bytes pc = .ok (.ishl, 1))  (k : own_Run p e below Q m T q Ls (.int (x <<< (y &&& 31)) :: rest)) (hq : pc + 1 = q := by rfl) : own_Run p e below Q m T pc Ls (.int y :: .int x :: rest) := by
  obtain ⟨⟨hx, hby, -⟩, vm0, locs, X, -⟩ := A
  subst hby hq
  refine own_by (fun t z => ?_) k
  exact XS.ishl X.here hx rfl hd rfl z
theorem own_ishr (A : own_At w p l e R s m args below meth c bytes ret own nm mx Z n0 a0 EL sf T h cells slots) {x y : Int32} (hd : decode bytes pc = .ok (.ishr, 1))  (k : own_Run p e below Q m T q Ls (.int (x >>> (y &&& 31)) :: rest)) (hq : pc + 1 = q := by rfl) : own_Run p e below Q m T pc Ls (.int y :: .int x :: rest) := by
  obtain ⟨⟨hx, hby, -⟩, vm0, locs, X, -⟩ := A
  subst hby hq
  refine own_by (fun t z => ?_) k
  exact XS.ishr X.here hx rfl hd rfl z
theorem own_iushr (A : own_At w p l e R s m args below meth c bytes ret own nm mx Z n0 a0 EL sf T h cells slots) {x y : Int32} (hd : decode bytes pc = .ok (.iushr, 1))  (k : own_Run p e below Q m T q Ls (.int ((x.toUInt32 >>> (y &&& 31).toUInt32).toInt32) :: rest)) (hq : pc + 1 = q := by rfl) : own_Run p e below Q m T pc Ls (.int y :: .int x :: rest) := by
  obtain ⟨⟨hx, hby, -⟩, vm0, locs, X, -⟩ := A
  subst hby hq
  refine own_by (fun t z => ?_) k
  exact XS.iushr X.here hx rfl hd rfl z
theorem own_idiv (A : own_At w p l e R s m args below meth c bytes ret own nm mx Z n0 a0 EL sf T h cells slots) {x y : Int32} (hd : decode bytes pc = .ok (.idiv, 1)) (hy : y ≠ 0) (k : own_Run p e below Q m T q Ls (.int (x / y) :: rest)) (hq : pc + 1 = q := by rfl) : own_Run p e below Q m T pc Ls (.int y :: .int x :: rest) := by
  obtain ⟨⟨hx, hby, -⟩, vm0, locs, X, -⟩ := A
  subst hby hq
  refine own_by (fun t z => ?_) k
  exact XS.idiv X.here hx rfl hd rfl hy z
theorem own_ldiv (A : own_At w p l e R s m args below meth c bytes ret own nm mx Z n0 a0 EL sf T h cells slots) {x y : Int64} (hd : decode bytes pc = .ok (.ldiv, 1)) (hy : y ≠ 0) (k : own_Run p e below Q m T q Ls (.long (x / y) :: rest)) (hq : pc + 1 = q := by rfl) : own_Run p e below Q m T pc Ls (.long y :: .long x :: rest) := by
  obtain ⟨⟨hx, hby, -⟩, vm0, locs, X, -⟩ := A
  subst hby hq
  refine own_by (fun t z => ?_) k
  exact XS.ldiv X.here hx rfl hd rfl hy z
theorem own_lrem (A : own_At w p l e R s m args below meth c bytes ret own nm mx Z n0 a0 EL sf T h cells slots) {x y : Int64} (hd : decode bytes pc = .ok (.lrem, 1)) (hy : y ≠ 0) (k : own_Run p e below Q m T q Ls (.long (x - (x / y) * y) :: rest)) (hq : pc + 1 = q := by rfl) : own_Run p e below Q m T pc Ls (.long y :: .long x :: rest) := by
  obtain ⟨⟨hx, hby, -⟩, vm0, locs, X, -⟩ := A
  subst hby hq
  refine own_by (fun t z => ?_) k
  exact XS.lrem X.here hx rfl hd rfl hy z
theorem own_irem (A : own_At w p l e R s m args below meth c bytes ret own nm mx Z n0 a0 EL sf T h cells slots) {x y : Int32} (hd : decode bytes pc = .ok (.irem, 1)) (hy : y ≠ 0) (k : own_Run p e below Q m T q Ls (.int (x % y) :: rest)) (hq : pc + 1 = q := by rfl) : own_Run p e below Q m T pc Ls (.int y :: .int x :: rest) := by
  obtain ⟨⟨hx, hby, -⟩, vm0, locs, X, -⟩ := A
  subst hby hq
  refine own_by (fun t z => ?_) k
  exact iremM X hx rfl hd rfl hy z
theorem own_ineg (A : own_At w p l e R s m args below meth c bytes ret own nm mx Z n0 a0 EL sf T h cells slots) {x : Int32} (hd : decode bytes pc = .ok (.ineg, 1))  (k : own_Run p e below Q m T q Ls (.int (-x) :: rest)) (hq : pc + 1 = q := by rfl) : own_Run p e below Q m T pc Ls (.int x :: rest) := by
  obtain ⟨⟨hx, hby, -⟩, vm0, locs, X, -⟩ := A
  subst hby hq
  refine own_by (fun t z => ?_) k
  exact XS.ineg X.here hx rfl hd rfl z
theorem own_lneg (A : own_At w p l e R s m args below meth c bytes ret own nm mx Z n0 a0 EL sf T h cells slots) {x : Int64} (hd : decode bytes pc = .ok (.lneg, 1))  (k : own_Run p e below Q m T q Ls (.long (-x) :: rest)) (hq : pc + 1 = q := by rfl) : own_Run p e below Q m T pc Ls (.long x :: rest) := by
  obtain ⟨⟨hx, hby, -⟩, vm0, locs, X, -⟩ := A
  subst hby hq
  refine own_by (fun t z => ?_) k
  exact XS.lneg X.here hx rfl hd rfl z
theorem own_i2b (A : own_At w p l e R s m args below meth c bytes ret own nm mx Z n0 a0 EL sf T h cells slots) {x : Int32} (hd : decode bytes pc = .ok (.i2b, 1))  (k : own_Run p e below Q m T q Ls (.int (x.toInt8.toInt32) :: rest)) (hq : pc + 1 = q := by rfl) : own_Run p e below Q m T pc Ls (.int x :: rest) := by
  obtain ⟨⟨hx, hby, -⟩, vm0, locs, X, -⟩ := A
  subst hby hq
  refine own_by (fun t z => ?_) k
  exact XS.i2b X.here hx rfl hd rfl z
theorem own_i2c (A : own_At w p l e R s m args below meth c bytes ret own nm mx Z n0 a0 EL sf T h cells slots) {x : Int32} (hd : decode bytes pc = .ok (.i2c, 1))  (k : own_Run p e below Q m T q Ls (.int (x.toUInt32.toUInt16.toUInt32.toInt32) :: rest)) (hq : pc + 1 = q := by rfl) : own_Run p e below Q m T pc Ls (.int x :: rest) := by
  obtain ⟨⟨hx, hby, -⟩, vm0, locs, X, -⟩ := A
  subst hby hq
  refine own_by (fun t z => ?_) k
  exact XS.i2c X.here hx rfl hd rfl z
theorem own_i2s (A : own_At w p l e R s m args below meth c bytes ret own nm mx Z n0 a0 EL sf T h cells slots) {x : Int32} (hd : decode bytes pc = .ok (.i2s, 1))  (k : own_Run p e below Q m T q Ls (.int (x.toInt16.toInt32) :: rest)) (hq : pc + 1 = q := by rfl) : own_Run p e below Q m T pc Ls (.int x :: rest) := by
  obtain ⟨⟨hx, hby, -⟩, vm0, locs, X, -⟩ := A
  subst hby hq
  refine own_by (fun t z => ?_) k
  exact XS.i2s X.here hx rfl hd rfl z
theorem own_i2l (A : own_At w p l e R s m args below meth c bytes ret own nm mx Z n0 a0 EL sf T h cells slots) {x : Int32} (hd : decode bytes pc = .ok (.i2l, 1))  (k : own_Run p e below Q m T q Ls (.long (x.toInt64) :: rest)) (hq : pc + 1 = q := by rfl) : own_Run p e below Q m T pc Ls (.int x :: rest) := by
  obtain ⟨⟨hx, hby, -⟩, vm0, locs, X, -⟩ := A
  subst hby hq
  refine own_by (fun t z => ?_) k
  exact XS.i2l X.here hx rfl hd rfl z
theorem own_l2i (A : own_At w p l e R s m args below meth c bytes ret own nm mx Z n0 a0 EL sf T h cells slots) {x : Int64} (hd : decode bytes pc = .ok (.l2i, 1))  (k : own_Run p e below Q m T q Ls (.int (x.toInt32) :: rest)) (hq : pc + 1 = q := by rfl) : own_Run p e below Q m T pc Ls (.long x :: rest) := by
  obtain ⟨⟨hx, hby, -⟩, vm0, locs, X, -⟩ := A
  subst hby hq
  refine own_by (fun t z => ?_) k
  exact XS.l2i X.here hx rfl hd rfl z
theorem own_lcmp (A : own_At w p l e R s m args below meth c bytes ret own nm mx Z n0 a0 EL sf T h cells slots) {x y : Int64} (hd : decode bytes pc = .ok (.lcmp, 1))  (k : own_Run p e below Q m T q Ls (.int (lcmpW x y) :: rest)) (hq : pc + 1 = q := by rfl) : own_Run p e below Q m T pc Ls (.long y :: .long x :: rest) := by
  obtain ⟨⟨hx, hby, -⟩, vm0, locs, X, -⟩ := A
  subst hby hq
  refine own_by (fun t z => ?_) k
  exact XS.lcmp X.here hx rfl hd rfl z
theorem own_dup (A : own_At w p l e R s m args below meth c bytes ret own nm mx Z n0 a0 EL sf T h cells slots) {x : Value} (hd : decode bytes pc = .ok (.dup, 1)) (hc : x.category = 1) (k : own_Run p e below Q m T q Ls (x :: x :: rest)) (hq : pc + 1 = q := by rfl) : own_Run p e below Q m T pc Ls (x :: rest) := by
  obtain ⟨⟨hx, hby, -⟩, vm0, locs, X, -⟩ := A
  subst hby hq
  refine own_by (fun t z => ?_) k
  exact XS.dup X.here hx rfl hd rfl hc z
theorem own_pop (A : own_At w p l e R s m args below meth c bytes ret own nm mx Z n0 a0 EL sf T h cells slots) {x : Value} (hd : decode bytes pc = .ok (.pop, 1)) (hc : x.category = 1) (k : own_Run p e below Q m T q Ls rest) (hq : pc + 1 = q := by rfl) : own_Run p e below Q m T pc Ls (x :: rest) := by
  obtain ⟨⟨hx, hby, -⟩, vm0, locs, X, -⟩ := A
  subst hby hq
  refine own_by (fun t z => ?_) k
  exact XS.pop X.here hx rfl hd rfl hc z
theorem own_dupX1 (A : own_At w p l e R s m args below meth c bytes ret own nm mx Z n0 a0 EL sf T h cells slots) {x y : Value} (hd : decode bytes pc = .ok (.dup_x1, 1)) (hc : x.category = 1) (hc2 : y.category = 1) (k : own_Run p e below Q m T q Ls (x :: y :: x :: rest)) (hq : pc + 1 = q := by rfl) : own_Run p e below Q m T pc Ls (x :: y :: rest) := by
  obtain ⟨⟨hx, hby, -⟩, vm0, locs, X, -⟩ := A
  subst hby hq
  refine own_by (fun t z => ?_) k
  exact XS.dupX1 X.here hx rfl hd rfl hc hc2 z
theorem own_iinc (A : own_At w p l e R s m args below meth c bytes ret own nm mx Z n0 a0 EL sf T h cells slots) {i : Nat} {cst : Int} {x v : Int32} {L' : Array Slot} (hd : decode bytes pc = .ok (.iinc i cst, 3)) (hl : Ls[i]? = some (.val (.int x))) (hv : Int32.ofInt cst = v) (hl' : storeLocals Ls i (.int (x + v)) = some L') (k : own_Run p e below Q m T q L' st) (hq : pc + 3 = q := by rfl) : own_Run p e below Q m T pc Ls st := by
  obtain ⟨⟨hx, hby, -⟩, vm0, locs, X, -⟩ := A
  subst hby hq hv
  refine own_by (fun t z => ?_) k
  exact XS.iinc X.here hx rfl hd hl hl' z
theorem own_dconst0 (A : own_At w p l e R s m args below meth c bytes ret own nm mx Z n0 a0 EL sf T h cells slots) (hd : decode bytes pc = .ok (.dconst 0, 1)) (k : own_Run p e below Q m T q Ls (.double FP.dconst0 :: st)) (hq : pc + 1 = q := by rfl) : own_Run p e below Q m T pc Ls st := by
  obtain ⟨⟨hx, hby, -⟩, vm0, locs, X, -⟩ := A
  subst hby hq
  refine own_by (fun t z => ?_) k
  exact XS.dconst0 X.here hx rfl hd rfl z
theorem own_dconst1 (A : own_At w p l e R s m args below meth c bytes ret own nm mx Z n0 a0 EL sf T h cells slots) (hd : decode bytes pc = .ok (.dconst 1, 1)) (k : own_Run p e below Q m T q Ls (.double FP.dconst1 :: st)) (hq : pc + 1 = q := by rfl) : own_Run p e below Q m T pc Ls st := by
  obtain ⟨⟨hx, hby, -⟩, vm0, locs, X, -⟩ := A
  subst hby hq
  refine own_by (fun t z => ?_) k
  exact XS.dconst1 X.here hx rfl hd rfl z
theorem own_i2d (A : own_At w p l e R s m args below meth c bytes ret own nm mx Z n0 a0 EL sf T h cells slots) {x : Int32} (hd : decode bytes pc = .ok (.i2d, 1))  (k : own_Run p e below Q m T q Ls (.double (FP.i2d x) :: rest)) (hq : pc + 1 = q := by rfl) : own_Run p e below Q m T pc Ls (.int x :: rest) := by
  obtain ⟨⟨hx, hby, -⟩, vm0, locs, X, -⟩ := A
  subst hby hq
  refine own_by (fun t z => ?_) k
  exact XS.i2dS X.here hx rfl hd rfl rfl z
theorem own_l2d (A : own_At w p l e R s m args below meth c bytes ret own nm mx Z n0 a0 EL sf T h cells slots) {x : Int64} (hd : decode bytes pc = .ok (.l2d, 1))  (k : own_Run p e below Q m T q Ls (.double (FP.l2d x) :: rest)) (hq : pc + 1 = q := by rfl) : own_Run p e below Q m T pc Ls (.long x :: rest) := by
  obtain ⟨⟨hx, hby, -⟩, vm0, locs, X, -⟩ := A
  subst hby hq
  refine own_by (fun t z => ?_) k
  exact XS.l2dS X.here hx rfl hd rfl rfl z
theorem own_dcmp (A : own_At w p l e R s m args below meth c bytes ret own nm mx Z n0 a0 EL sf T h cells slots) {o : CmpOp} {x y : UInt64} (hd : decode bytes pc = .ok (.dcmp o, 1))  (k : own_Run p e below Q m T q Ls (.int (cmpValue (FP.dcmp x y) o) :: rest)) (hq : pc + 1 = q := by rfl) : own_Run p e below Q m T pc Ls (.double y :: .double x :: rest) := by
  obtain ⟨⟨hx, hby, -⟩, vm0, locs, X, -⟩ := A
  subst hby hq
  refine own_by (fun t z => ?_) k
  exact XS.dcmpS X.here hx rfl hd rfl rfl z
theorem own_dadd (A : own_At w p l e R s m args below meth c bytes ret own nm mx Z n0 a0 EL sf T h cells slots) {x y : UInt64} (hd : decode bytes pc = .ok (.dadd, 1)) (hn : Jvm.Free.Fl.NoNaN64 (FP.dadd x y)) (k : own_Run p e below Q m T q Ls (.double (FP.dadd x y) :: rest)) (hq : pc + 1 = q := by rfl) : own_Run p e below Q m T pc Ls (.double y :: .double x :: rest) := by
  obtain ⟨⟨hx, hby, -⟩, vm0, locs, X, -⟩ := A
  subst hby hq
  refine own_by (fun t z => ?_) k
  exact XS.daddS X.here hx rfl hd rfl hn rfl z
theorem own_ddiv (A : own_At w p l e R s m args below meth c bytes ret own nm mx Z n0 a0 EL sf T h cells slots) {x y : UInt64} (hd : decode bytes pc = .ok (.ddiv, 1)) (hn : Jvm.Free.Fl.NoNaN64 (FP.ddiv x y)) (k : own_Run p e below Q m T q Ls (.double (FP.ddiv x y) :: rest)) (hq : pc + 1 = q := by rfl) : own_Run p e below Q m T pc Ls (.double y :: .double x :: rest) := by
  obtain ⟨⟨hx, hby, -⟩, vm0, locs, X, -⟩ := A
  subst hby hq
  refine own_by (fun t z => ?_) k
  exact XS.ddivS X.here hx rfl hd rfl hn rfl z
theorem own_goto (A : own_At w p l e R s m args below meth c bytes ret own nm mx Z n0 a0 EL sf T h cells slots) {o : Int} (hd : decode bytes pc = .ok (.goto o, 3)) (k : own_Run p e below Q m T q Ls st) (ho : 0 ≤ (pc : Int) + o := by decide) (hq : ((pc : Int) + o).toNat = q := by decide) : own_Run p e below Q m T pc Ls st := by
  obtain ⟨⟨hx, hby, -⟩, vm0, locs, X, -⟩ := A
  subst hby
  refine own_by (fun t z => ?_) k
  exact XS.goto X.here hx rfl (pc0 := pc) rfl hd ho hq z
def own_cp : ClassFile.Cond → Int32 → Int32 → Prop
  | .eq, x, y => x = y
  | .ne, x, y => ¬ x = y
  | .lt, x, y => x < y
  | .ge, x, y => ¬ x < y
  | .gt, x, y => y < x
  | .le, x, y => ¬ y < x
def own_cn : ClassFile.Cond → Int32 → Int32 → Prop
  | .eq, x, y => ¬ x = y
  | .ne, x, y => x = y
  | .lt, x, y => ¬ x < y
  | .ge, x, y => x < y
  | .gt, x, y => ¬ y < x
  | .le, x, y => y < x
theorem own_cpT {cd : ClassFile.Cond} {x y : Int32} (h : own_cp cd x y) : if_icmp.holds cd x y = true := by
  cases cd
  all_goals simp only [own_cp] at h
  · exact (teq h).1
  · exact (feq h).2
  · exact (tlt h).1
  · exact (flt h).2.1
  · exact (tlt h).2.2.1
  · exact (flt h).2.2.2
theorem own_cnF {cd : ClassFile.Cond} {x y : Int32} (h : own_cn cd x y) : if_icmp.holds cd x y = false := by
  cases cd
  all_goals simp only [own_cn] at h
  · exact (feq h).1
  · exact (teq h).2
  · exact (flt h).1
  · exact (tlt h).2.1
  · exact (flt h).2.2.1
  · exact (tlt h).2.2.2
theorem own_cpn (cd : ClassFile.Cond) (x y : Int32) : own_cp cd x y ∨ own_cn cd x y := by
  cases cd <;> simp only [own_cp, own_cn]
  · exact Classical.em _
  · exact (Classical.em _).symm
  · exact Classical.em _
  · exact (Classical.em _).symm
  · exact Classical.em _
  · exact (Classical.em _).symm
theorem own_ifcT (A : own_At w p l e R s m args below meth c bytes ret own nm mx Z n0 a0 EL sf T h cells slots) {cd : ClassFile.Cond} {x : Int32} {o : Int} (hd : decode bytes pc = .ok (.ifCond cd o, 3)) (hc : own_cp cd x (0 : Int32)) (k : own_Run p e below Q m T q Ls rest) (ho : 0 ≤ (pc : Int) + o := by decide) (hq : ((pc : Int) + o).toNat = q := by decide) : own_Run p e below Q m T pc Ls (.int x :: rest) := by
  obtain ⟨⟨hx, hby, -⟩, vm0, locs, X, -⟩ := A
  subst hby
  refine own_by (fun t z => ?_) k
  exact XS.ifYes X.here hx rfl (pc0 := pc) rfl hd rfl (by rw [if0]; exact own_cpT hc) ho hq z
theorem own_ifcF (A : own_At w p l e R s m args below meth c bytes ret own nm mx Z n0 a0 EL sf T h cells slots) {cd : ClassFile.Cond} {x : Int32} {o : Int} (hd : decode bytes pc = .ok (.ifCond cd o, 3)) (hc : own_cn cd x (0 : Int32)) (k : own_Run p e below Q m T q Ls rest) (hq : pc + 3 = q := by rfl) : own_Run p e below Q m T pc Ls (.int x :: rest) := by
  obtain ⟨⟨hx, hby, -⟩, vm0, locs, X, -⟩ := A
  subst hby hq
  refine own_by (fun t z => ?_) k
  exact XS.ifNo X.here hx rfl hd rfl (by rw [if0]; exact own_cnF hc) z
theorem own_ifc (A : own_At w p l e R s m args below meth c bytes ret own nm mx Z n0 a0 EL sf T h cells slots) {cd : ClassFile.Cond} {x : Int32} {o : Int} {q' : Nat} (hd : decode bytes pc = .ok (.ifCond cd o, 3)) (kt : own_cp cd x (0 : Int32) → own_Run p e below Q m T q Ls rest) (kf : own_cn cd x (0 : Int32) → own_Run p e below Q m T q' Ls rest) (ho : 0 ≤ (pc : Int) + o := by decide) (hq : ((pc : Int) + o).toNat = q := by decide) (hq' : pc + 3 = q' := by rfl) : own_Run p e below Q m T pc Ls (.int x :: rest) :=
  (own_cpn cd x (0 : Int32)).elim (fun z => own_ifcT A hd z (kt z) ho hq) (fun z => own_ifcF A hd z (kf z) hq')
theorem own_icmpT (A : own_At w p l e R s m args below meth c bytes ret own nm mx Z n0 a0 EL sf T h cells slots) {cd : ClassFile.Cond} {x y : Int32} {o : Int} (hd : decode bytes pc = .ok (.if_icmp cd o, 3)) (hc : own_cp cd x y) (k : own_Run p e below Q m T q Ls rest) (ho : 0 ≤ (pc : Int) + o := by decide) (hq : ((pc : Int) + o).toNat = q := by decide) : own_Run p e below Q m T pc Ls (.int y :: .int x :: rest) := by
  obtain ⟨⟨hx, hby, -⟩, vm0, locs, X, -⟩ := A
  subst hby
  refine own_by (fun t z => ?_) k
  exact XS.icmpYes X.here hx rfl (pc0 := pc) rfl hd rfl (own_cpT hc) ho hq z
theorem own_icmpF (A : own_At w p l e R s m args below meth c bytes ret own nm mx Z n0 a0 EL sf T h cells slots) {cd : ClassFile.Cond} {x y : Int32} {o : Int} (hd : decode bytes pc = .ok (.if_icmp cd o, 3)) (hc : own_cn cd x y) (k : own_Run p e below Q m T q Ls rest) (hq : pc + 3 = q := by rfl) : own_Run p e below Q m T pc Ls (.int y :: .int x :: rest) := by
  obtain ⟨⟨hx, hby, -⟩, vm0, locs, X, -⟩ := A
  subst hby hq
  refine own_by (fun t z => ?_) k
  exact XS.icmpNo X.here hx rfl hd rfl (own_cnF hc) z
theorem own_icmp (A : own_At w p l e R s m args below meth c bytes ret own nm mx Z n0 a0 EL sf T h cells slots) {cd : ClassFile.Cond} {x y : Int32} {o : Int} {q' : Nat} (hd : decode bytes pc = .ok (.if_icmp cd o, 3)) (kt : own_cp cd x y → own_Run p e below Q m T q Ls rest) (kf : own_cn cd x y → own_Run p e below Q m T q' Ls rest) (ho : 0 ≤ (pc : Int) + o := by decide) (hq : ((pc : Int) + o).toNat = q := by decide) (hq' : pc + 3 = q' := by rfl) : own_Run p e below Q m T pc Ls (.int y :: .int x :: rest) :=
  (own_cpn cd x y).elim (fun z => own_icmpT A hd z (kt z) ho hq) (fun z => own_icmpF A hd z (kf z) hq')
theorem own_acmpT (A : own_At w p l e R s m args below meth c bytes ret own nm mx Z n0 a0 EL sf T h cells slots) {cd : ClassFile.ACond} {x y : Value} {o : Int} (hd : decode bytes pc = .ok (.if_acmp cd o, 3)) (hx' : x.isRef = true) (hy' : y.isRef = true) (hc : XT.acmp cd x y = true) (k : own_Run p e below Q m T q Ls rest) (ho : 0 ≤ (pc : Int) + o := by decide) (hq : ((pc : Int) + o).toNat = q := by decide) : own_Run p e below Q m T pc Ls (y :: x :: rest) := by
  obtain ⟨⟨hx, hby, -⟩, vm0, locs, X, -⟩ := A
  subst hby
  refine own_by (fun t z => ?_) k
  exact XT.acmpYes X.here hx rfl (pc0 := pc) rfl hd rfl hx' hy' hc ho hq z
theorem own_acmpF (A : own_At w p l e R s m args below meth c bytes ret own nm mx Z n0 a0 EL sf T h cells slots) {cd : ClassFile.ACond} {x y : Value} {o : Int} (hd : decode bytes pc = .ok (.if_acmp cd o, 3)) (hx' : x.isRef = true) (hy' : y.isRef = true) (hc : XT.acmp cd x y = false) (k : own_Run p e below Q m T q Ls rest) (hq : pc + 3 = q := by rfl) : own_Run p e below Q m T pc Ls (y :: x :: rest) := by
  obtain ⟨⟨hx, hby, -⟩, vm0, locs, X, -⟩ := A
  subst hby hq
  refine own_by (fun t z => ?_) k
  exact XT.acmpNo X.here hx rfl hd rfl hx' hy' hc z
theorem own_ifnullT (A : own_At w p l e R s m args below meth c bytes ret own nm mx Z n0 a0 EL sf T h cells slots) {b : Addr} {o : Int} (hd : decode bytes pc = .ok (.ifnull o, 3)) (k : own_Run p e below Q m T q Ls rest) (ho : 0 ≤ (pc : Int) + o := by decide) (hq : ((pc : Int) + o).toNat = q := by decide) : own_Run p e below Q m T pc Ls (.null :: rest) := by
  obtain ⟨⟨hx, hby, -⟩, vm0, locs, X, -⟩ := A
  subst hby
  refine own_by (fun t z => ?_) k
  exact XS.ifnullYes X.here hx rfl (pc0 := pc) rfl hd rfl ho hq z
theorem own_ifnullF (A : own_At w p l e R s m args below meth c bytes ret own nm mx Z n0 a0 EL sf T h cells slots) {b : Addr} {o : Int} (hd : decode bytes pc = .ok (.ifnull o, 3)) (k : own_Run p e below Q m T q Ls rest) (hq : pc + 3 = q := by rfl) : own_Run p e below Q m T pc Ls (.ref b :: rest) := by
  obtain ⟨⟨hx, hby, -⟩, vm0, locs, X, -⟩ := A
  subst hby hq
  refine own_by (fun t z => ?_) k
  exact XS.ifnullNo X.here hx rfl hd rfl z
theorem own_ifnonnullT (A : own_At w p l e R s m args below meth c bytes ret own nm mx Z n0 a0 EL sf T h cells slots) {b : Addr} {o : Int} (hd : decode bytes pc = .ok (.ifnonnull o, 3)) (k : own_Run p e below Q m T q Ls rest) (ho : 0 ≤ (pc : Int) + o := by decide) (hq : ((pc : Int) + o).toNat = q := by decide) : own_Run p e below Q m T pc Ls (.ref b :: rest) := by
  obtain ⟨⟨hx, hby, -⟩, vm0, locs, X, -⟩ := A
  subst hby
  refine own_by (fun t z => ?_) k
  exact XS.ifnonnullYes X.here hx rfl (pc0 := pc) rfl hd rfl ho hq z
theorem own_ifnonnullF (A : own_At w p l e R s m args below meth c bytes ret own nm mx Z n0 a0 EL sf T h cells slots) {b : Addr} {o : Int} (hd : decode bytes pc = .ok (.ifnonnull o, 3)) (k : own_Run p e below Q m T q Ls rest) (hq : pc + 3 = q := by rfl) : own_Run p e below Q m T pc Ls (.null :: rest) := by
  obtain ⟨⟨hx, hby, -⟩, vm0, locs, X, -⟩ := A
  subst hby hq
  refine own_by (fun t z => ?_) k
  exact XS.ifnonnullNo X.here hx rfl hd rfl z
theorem own_tswIn (A : own_At w p l e R s m args below meth c bytes ret own nm mx Z n0 a0 EL sf T h cells slots) {dflt low high : Int} {offs : Array Int} {len : Nat} {i : Int32} {o : Int} (hd : decode bytes pc = .ok (.tableswitch dflt low high offs, len)) (hin : ¬ (i.toInt < low ∨ i.toInt > high)) (hoff : offs[(i.toInt - low).toNat]? = some o) (k : own_Run p e below Q m T q Ls rest) (ho : 0 ≤ (pc : Int) + o := by decide) (hq : ((pc : Int) + o).toNat = q := by decide) : own_Run p e below Q m T pc Ls (.int i :: rest) := by
  obtain ⟨⟨hx, hby, -⟩, vm0, locs, X, -⟩ := A
  subst hby
  refine own_by (fun t z => ?_) k
  exact XS.tswIn X.here hx rfl (pc0 := pc) rfl hd rfl hin hoff ho hq z
theorem own_tswOut (A : own_At w p l e R s m args below meth c bytes ret own nm mx Z n0 a0 EL sf T h cells slots) {o low high : Int} {offs : Array Int} {len : Nat} {i : Int32} (hd : decode bytes pc = .ok (.tableswitch o low high offs, len)) (hout : i.toInt < low ∨ i.toInt > high) (k : own_Run p e below Q m T q Ls rest) (ho : 0 ≤ (pc : Int) + o := by decide) (hq : ((pc : Int) + o).toNat = q := by decide) : own_Run p e below Q m T pc Ls (.int i :: rest) := by
  obtain ⟨⟨hx, hby, -⟩, vm0, locs, X, -⟩ := A
  subst hby
  refine own_by (fun t z => ?_) k
  exact XS.tswOut X.here hx rfl (pc0 := pc) rfl hd rfl hout ho hq z
theorem own_ldcI (A : own_At w p l e R s m args below meth c bytes ret own nm mx Z n0 a0 EL sf T h cells slots) {i : Nat} {v : Int32} (wc : (Jvm.Cond.constant own i v).before a0 Z = true) (hd : decode bytes pc = .ok (.ldc i, 2)) (k : own_Run p e below Q m T q Ls (.int v :: st)) (hq : pc + 2 = q := by rfl) : own_Run p e below Q m T pc Ls st := by
  obtain ⟨⟨hx, hby, -⟩, vm0, locs, X, B, hZ, hown, hT, N, Od, hEL, Ch, Sf⟩ := A
  subst hby hq
  refine own_by (fun t z => ?_) k
  exact X.ldcI hx (s := s.setVm vm0) hown (mv (s := s.setVm vm0) hZ wc) rfl hd z
theorem own_ldcWI (A : own_At w p l e R s m args below meth c bytes ret own nm mx Z n0 a0 EL sf T h cells slots) {i : Nat} {v : Int32} (wc : (Jvm.Cond.constant own i v).before a0 Z = true) (hd : decode bytes pc = .ok (.ldc_w i, 3)) (k : own_Run p e below Q m T q Ls (.int v :: st)) (hq : pc + 3 = q := by rfl) : own_Run p e below Q m T pc Ls st := by
  obtain ⟨⟨hx, hby, -⟩, vm0, locs, X, B, hZ, hown, hT, N, Od, hEL, Ch, Sf⟩ := A
  subst hby hq
  refine own_by (fun t z => ?_) k
  exact X.ldcWI hx (s := s.setVm vm0) hown (mv (s := s.setVm vm0) hZ wc) rfl hd z
theorem own_ldc2J (A : own_At w p l e R s m args below meth c bytes ret own nm mx Z n0 a0 EL sf T h cells slots) {i : Nat} {v : Int64} (wc : (Jvm.Cond.constantLong own i v).before a0 Z = true) (hd : decode bytes pc = .ok (.ldc2_w i, 3)) (k : own_Run p e below Q m T q Ls (.long v :: st)) (hq : pc + 3 = q := by rfl) : own_Run p e below Q m T pc Ls st := by
  obtain ⟨⟨hx, hby, -⟩, vm0, locs, X, B, hZ, hown, hT, N, Od, hEL, Ch, Sf⟩ := A
  subst hby hq
  refine own_by (fun t z => ?_) k
  exact X.ldc2J hx (s := s.setVm vm0) hown (mv (s := s.setVm vm0) hZ wc) rfl hd z
theorem own_getF (A : own_At w p l e R s m args below meth c bytes ret own nm mx Z n0 a0 EL sf T h cells slots) {i : Nat} {R0 O n d host : String} {a : Addr} {v : Value} (wl : (Jvm.Cond.fieldLink own i R0 n d).before a0 Z = true ∨ (Jvm.Cond.fieldLinkNest own i R0 n d host).before a0 Z = true) (via : Via Z R0 O n d) (F : Fld Z h a O n d v) (hd : decode bytes pc = .ok (.getfield i, 3))
    (k : ∀ T', own_At w p l e R s m args below meth c bytes ret own nm mx Z n0 a0 EL sf T' h cells slots → own_Run p e below Q m T' q Ls (v :: rest)) (hq : pc + 3 = q := by rfl) : own_Run p e below Q m T pc Ls (.ref a :: rest) := by
  obtain ⟨⟨hx, hby, r⟩, vm0, locs, X, B, hZ, hown, hT, N, Od, hEL, Ch, Sf⟩ := A
  subst hby hq
  obtain ⟨T', X', e', st'⟩ := getF X hx (s := s.setVm vm0) hZ hown wl via hT F (g := mkF m pc Ls (.ref a :: rest)) rfl rfl hd
  exact own_by st' (k T' ⟨⟨hx, rfl, r⟩, vm0, locs, X', B, hZ, hown, e', N, Od, hEL, Ch, Sf⟩)
theorem own_getS (A : own_At w p l e R s m args below meth c bytes ret own nm mx Z n0 a0 EL sf T h cells slots) {i : Nat} {R0 O n d : String} {v : Value} (wl : (Jvm.Cond.fieldLink own i R0 n d).before a0 Z = true) (via : Via Z R0 O n d) (F : Sta Z Z.heap O n d v) (hd : decode bytes pc = .ok (.getstatic i, 3))
    (k : ∀ T', own_At w p l e R s m args below meth c bytes ret own nm mx Z n0 a0 EL sf T' h cells slots → own_Run p e below Q m T' q Ls (v :: st)) (hq : pc + 3 = q := by rfl) : own_Run p e below Q m T pc Ls st := by
  obtain ⟨⟨hx, hby, r⟩, vm0, locs, X, B, hZ, hown, hT, N, Od, hEL, Ch, Sf⟩ := A
  subst hby hq
  obtain ⟨T', X', e', st'⟩ := getS X hx (s := s.setVm vm0) (host := "") hZ hown wl via hT (F.ext Od.2) (g := mkF m pc Ls st) rfl hd
  exact own_by st' (k T' ⟨⟨hx, rfl, r⟩, vm0, locs, X', B, hZ, hown, e', N, Od, hEL, Ch, Sf⟩)
theorem own_putF (A : own_At w p l e R s m args below meth c bytes ret own nm mx Z n0 a0 EL sf T h cells slots) {i kk : Nat} {R0 O n d host C : String} {ty : FieldType} {a : Addr} {v old : Value} (wl : (Jvm.Cond.fieldLink own i R0 n d).before a0 Z = true ∨ (Jvm.Cond.fieldLinkNest own i R0 n d host).before a0 Z = true) (via : Via Z R0 O n d) (F : Fld Z h a O n d old) (E : Exa Z h a C) (L : (Jvm.Cond.lays C O n d).before a0 Z = true ∨ ((Jvm.Cond.laysFinal C O n d).before a0 Z = true ∧ own = O ∧ nm = "<init>")) (wi : (Jvm.Cond.instantiable C kk).before a0 Z = true)
    (hty : parseFieldDescriptor d = some ty) (hn : narrow ty v = v) (hf : fits ty v = true) (ha : n0 ≤ a) (hwo : own_Wok Z EL sf h a) (hd : decode bytes pc = .ok (.putfield i, 3)) (k : ∀ T' h', own_At w p l e R s m args below meth c bytes ret own nm mx Z n0 a0 EL sf T' h' cells slots → Wr h h' a (RoadKit.slotOf Z O n d) v → own_Run p e below Q m T' q Ls rest) (hq : pc + 3 = q := by rfl) : own_Run p e below Q m T pc Ls (v :: .ref a :: rest) := by
  obtain ⟨⟨hx, hby, r1, r2, r3, r4⟩, vm0, locs, X, B, hZ, hown, hT, N, Od, hEL, Ch, Sf⟩ := A
  subst hby hq
  obtain ⟨T', h', X', e', W, st'⟩ := putF X hx (s := s.setVm vm0) hZ hown wl via hT F E (L.imp id fun z => ⟨z.1, z.2.1, r3.trans z.2.2⟩) wi hty hn hf (g := mkF m pc Ls (v :: .ref a :: rest)) rfl rfl hd
  exact own_by st' (k T' h' ⟨⟨hx, rfl, r1, r2, r3, r4⟩, vm0, _, X', B.le (Nat.le_of_eq W.size.symm), hZ, hown, e', Fr.snoc X' N ha, Od.wr W ha, hEL, Ch.trans (CHr.wr W (hwo.safe hZ Sf) Ch.1), Sf.wr Ch.1 W (hwo.safe hZ Sf)⟩ W)
theorem own_newO (A : own_At w p l e R s m args below meth c bytes ret own nm mx Z n0 a0 EL sf T h cells slots) {i n : Nat} {C : String} (w1 : (Jvm.Cond.classLink own i C).before a0 Z = true) (wi : (Jvm.Cond.instantiable C n).before a0 Z = true) (wz : (Jvm.Cond.initialized C).before a0 Z = true) (hd : decode bytes pc = .ok (.new i, 3)) (hc : cells + 1 ≤ R.cells) (hl : slots + n ≤ R.slots)
    (k : ∀ T' h' a, h.size = a → n0 ≤ a → own_At w p l e R s m args below meth c bytes ret own nm mx Z n0 a0 EL (a :: sf) T' h' (cells + 1) (slots + n) → Ext h h' → Exa Z h' a C → (∀ {O nm d : String} {ty : FieldType}, Laid Z a0 C O nm d → parseFieldDescriptor d = some ty → Fld Z h' a O nm d (defaultValue ty)) → own_Run p e below Q m T' q Ls (.ref a :: st)) (hq : pc + 3 = q := by rfl) : own_Run p e below Q m T pc Ls st := by
  have g0 := A.fr
  obtain ⟨⟨hx, hby, r⟩, vm0, locs, X, B, hZ, hown, hT, N, Od, hEL, Ch, Sf⟩ := A
  subst hby hq
  obtain ⟨T', h', X', e', E, Ex, D, -, st'⟩ := newO X hx (s := s.setVm vm0) hZ hown w1 wi wz hT (g := mkF m pc Ls st) rfl hd hc hl
  exact own_by st' (k T' h' h.size rfl g0 ⟨⟨hx, rfl, r⟩, vm0, _, X', B.le E.1, hZ, hown, e', N, Od.ext E, hEL, Ch.trans (CHr.ext E Ch.1), Sf.new Ch.1 E Ex.lt⟩ E Ex D)
theorem own_newP (A : own_At w p l e R s m args below meth c bytes ret own nm mx Z n0 a0 EL sf T h cells slots) {aty : ArrayType} (w1 : (Jvm.Cond.arrayClass (newarray.typeOf aty)).before a0 Z = true) (hd : decode bytes pc = .ok (.newarray aty, 2)) {n : Int32} (cap : Nat) (hn : ¬ n < 0) (hcap : n.toNatClampNeg ≤ cap) (hb : cap * 8 ≤ 536870912) (hc : cells + 1 ≤ R.cells) (hl : slots + cap ≤ R.slots)
    (k : ∀ T' h' a cA, h.size = a → n0 ≤ a → own_At w p l e R s m args below meth c bytes ret own nm mx Z n0 a0 EL (a :: sf) T' h' (cells + 1) (slots + cap) → Ext h h' → Arr Z h' a (newA cA (newarray.typeOf aty) n) (newarray.typeOf aty) → own_Run p e below Q m T' q Ls (.ref a :: rest)) (hq : pc + 2 = q := by rfl) : own_Run p e below Q m T pc Ls (.int n :: rest) := by
  have g0 := A.fr
  obtain ⟨⟨hx, hby, r⟩, vm0, locs, X, B, hZ, hown, hT, N, Od, hEL, Ch, Sf⟩ := A
  subst hby hq
  obtain ⟨T', h', cA, X', e', E, Ar, st'⟩ := newP X hx (s := s.setVm vm0) hZ w1 hT (g := mkF m pc Ls (.int n :: rest)) rfl hd rfl hn hcap hb hc hl
  exact own_by st' (k T' h' h.size cA rfl g0 ⟨⟨hx, rfl, r⟩, vm0, _, X', B.le E.1, hZ, hown, e', N, Od.ext E, hEL, Ch.trans (CHr.ext E Ch.1), Sf.new Ch.1 E Ar.lt⟩ E Ar)
theorem own_newR (A : own_At w p l e R s m args below meth c bytes ret own nm mx Z n0 a0 EL sf T h cells slots) {i : Nat} {C : String} (w1 : (Jvm.Cond.classLink own i C).before a0 Z = true) (w2 : (Jvm.Cond.arrayOver (.object C)).before a0 Z = true) (hd : decode bytes pc = .ok (.anewarray i, 3)) {n : Int32} (cap : Nat) (hn : ¬ n < 0) (hcap : n.toNatClampNeg ≤ cap) (hb : cap * 8 ≤ 536870912) (hc : cells + 1 ≤ R.cells) (hl : slots + cap ≤ R.slots)
    (k : ∀ T' h' a cA, h.size = a → n0 ≤ a → own_At w p l e R s m args below meth c bytes ret own nm mx Z n0 a0 EL (a :: sf) T' h' (cells + 1) (slots + cap) → Ext h h' → Arr Z h' a (newA cA (.object C) n) (.object C) → Ovr Z cA C → own_Run p e below Q m T' q Ls (.ref a :: rest)) (hq : pc + 3 = q := by rfl) : own_Run p e below Q m T pc Ls (.int n :: rest) := by
  have g0 := A.fr
  obtain ⟨⟨hx, hby, r⟩, vm0, locs, X, B, hZ, hown, hT, N, Od, hEL, Ch, Sf⟩ := A
  subst hby hq
  obtain ⟨T', h', cA, X', e', E, Ar, Ov, st'⟩ := newR X hx (s := s.setVm vm0) hZ hown w1 w2 hT (g := mkF m pc Ls (.int n :: rest)) rfl hd rfl hn hcap hb hc hl
  exact own_by st' (k T' h' h.size cA rfl g0 ⟨⟨hx, rfl, r⟩, vm0, _, X', B.le E.1, hZ, hown, e', N, Od.ext E, hEL, Ch.trans (CHr.ext E Ch.1), Sf.new Ch.1 E Ar.lt⟩ E Ar Ov)
theorem own_initO (A : own_At w p l e R s m args below meth c bytes ret own nm mx Z n0 a0 EL sf T h cells slots) {i : Nat} {a : Addr} (w1 : (Jvm.Cond.methodLink own i Lib.objectInit).before a0 Z = true) (w2 : (Jvm.Cond.instanceMethod Lib.objectInit).before a0 Z = true) (w3 : (Jvm.Cond.code Lib.objectInit ⟨#[0xb1]⟩ 1 none).before a0 Z = true) (hd : decode bytes pc = .ok (.invokespecial i, 3)) (hsz : Ls.size = mx) {W : Nat} (hf : 1 ≤ R.frames) (hW : (rest.map fun v => v.category).sum ≤ W) (hl : W + 12 ≤ R.locals)
    (k : ∀ T', own_At w p l e R s m args below meth c bytes ret own nm mx Z n0 a0 EL sf T' h cells slots → own_Run p e below Q m T' q Ls rest) (hq : pc + 3 = q := by rfl) : own_Run p e below Q m T pc Ls (.ref a :: rest) := by
  obtain ⟨⟨hx, hby, r1, r2, r3, r4⟩, vm0, locs, X, B, hZ, hown, hT, N, Od, hEL, Ch, Sf⟩ := A
  subst hby hq
  obtain ⟨T', X', e', st'⟩ := initO X hx (s := s.setVm vm0) hZ hown w1 w2 w3 hT (g := mkF m pc Ls (.ref a :: rest)) rfl (hsz.trans r4.symm) rfl hd hf (W := W) (by show 2 * 0 + _ ≤ _; rw [Nat.mul_zero, Nat.zero_add]; exact hW) hl
  exact own_by st' (k T' ⟨⟨hx, rfl, r1, r2, r3, r4⟩, vm0, _, X', B, hZ, hown, e', N, Od, hEL, Ch, Sf⟩)
theorem own_stI (A : own_At w p l e R s m args below meth c bytes ret own nm mx Z n0 a0 EL sf T h cells slots) {a : Addr} {cl : Cell} {j x : Int32} (Ar : Arr Z h a cl .int) (hj : ¬ (j < 0 ∨ cl.slots.size ≤ j.toNatClampNeg)) (ha : n0 ≤ a) (hwo : own_Wok Z EL sf h a) (hd : decode bytes pc = .ok (.iastore, 1)) (k : ∀ T' h', own_At w p l e R s m args below meth c bytes ret own nm mx Z n0 a0 EL sf T' h' cells slots → Wr h h' a j.toNatClampNeg (.int x) → own_Run p e below Q m T' q Ls rest) (hq : pc + 1 = q := by rfl) : own_Run p e below Q m T pc Ls (.int x :: .int j :: .ref a :: rest) := by
  obtain ⟨⟨hx, hby, r⟩, vm0, locs, X, B, hZ, hown, hT, N, Od, hEL, Ch, Sf⟩ := A
  subst hby hq
  obtain ⟨T', h', X', e', W, st'⟩ := RoadKit.stI X hx (s := s.setVm vm0) hZ hT Ar hj (g := mkF m pc Ls (.int x :: .int j :: .ref a :: rest)) rfl rfl hd
  exact own_by st' (k T' h' ⟨⟨hx, rfl, r⟩, vm0, _, X', B.le (Nat.le_of_eq W.size.symm), hZ, hown, e', Fr.snoc X' N ha, Od.wr W ha, hEL, Ch.trans (CHr.wr W (hwo.safe hZ Sf) Ch.1), Sf.wr Ch.1 W (hwo.safe hZ Sf)⟩ W)
theorem own_stC (A : own_At w p l e R s m args below meth c bytes ret own nm mx Z n0 a0 EL sf T h cells slots) {a : Addr} {cl : Cell} {j x : Int32} (Ar : Arr Z h a cl .char) (hj : ¬ (j < 0 ∨ cl.slots.size ≤ j.toNatClampNeg)) (ha : n0 ≤ a) (hwo : own_Wok Z EL sf h a) (hd : decode bytes pc = .ok (.castore, 1)) (k : ∀ T' h', own_At w p l e R s m args below meth c bytes ret own nm mx Z n0 a0 EL sf T' h' cells slots → Wr h h' a j.toNatClampNeg (.int (nar .char x)) → own_Run p e below Q m T' q Ls rest) (hq : pc + 1 = q := by rfl) : own_Run p e below Q m T pc Ls (.int x :: .int j :: .ref a :: rest) := by
  obtain ⟨⟨hx, hby, r⟩, vm0, locs, X, B, hZ, hown, hT, N, Od, hEL, Ch, Sf⟩ := A
  subst hby hq
  obtain ⟨T', h', X', e', W, st'⟩ := RoadKit.stC X hx (s := s.setVm vm0) hZ hT Ar hj (g := mkF m pc Ls (.int x :: .int j :: .ref a :: rest)) rfl rfl hd
  exact own_by st' (k T' h' ⟨⟨hx, rfl, r⟩, vm0, _, X', B.le (Nat.le_of_eq W.size.symm), hZ, hown, e', Fr.snoc X' N ha, Od.wr W ha, hEL, Ch.trans (CHr.wr W (hwo.safe hZ Sf) Ch.1), Sf.wr Ch.1 W (hwo.safe hZ Sf)⟩ W)
theorem own_stB (A : own_At w p l e R s m args below meth c bytes ret own nm mx Z n0 a0 EL sf T h cells slots) {a : Addr} {cl : Cell} {j x : Int32} (Ar : Arr Z h a cl .byte) (hj : ¬ (j < 0 ∨ cl.slots.size ≤ j.toNatClampNeg)) (ha : n0 ≤ a) (hwo : own_Wok Z EL sf h a) (hd : decode bytes pc = .ok (.bastore, 1)) (k : ∀ T' h', own_At w p l e R s m args below meth c bytes ret own nm mx Z n0 a0 EL sf T' h' cells slots → Wr h h' a j.toNatClampNeg (.int (nar .byte x)) → own_Run p e below Q m T' q Ls rest) (hq : pc + 1 = q := by rfl) : own_Run p e below Q m T pc Ls (.int x :: .int j :: .ref a :: rest) := by
  obtain ⟨⟨hx, hby, r⟩, vm0, locs, X, B, hZ, hown, hT, N, Od, hEL, Ch, Sf⟩ := A
  subst hby hq
  obtain ⟨T', h', X', e', W, st'⟩ := RoadKit.stB X hx (s := s.setVm vm0) hZ hT Ar hj (g := mkF m pc Ls (.int x :: .int j :: .ref a :: rest)) rfl rfl hd
  exact own_by st' (k T' h' ⟨⟨hx, rfl, r⟩, vm0, _, X', B.le (Nat.le_of_eq W.size.symm), hZ, hown, e', Fr.snoc X' N ha, Od.wr W ha, hEL, Ch.trans (CHr.wr W (hwo.safe hZ Sf) Ch.1), Sf.wr Ch.1 W (hwo.safe hZ Sf)⟩ W)
theorem own_stR (A : own_At w p l e R s m args below meth c bytes ret own nm mx Z n0 a0 EL sf T h cells slots) {a : Addr} {cl : Cell} {ty : FieldType} {j : Int32} {v : Value} (Ar : Arr Z h a cl ty) (hj : ¬ (j < 0 ∨ cl.slots.size ≤ j.toNatClampNeg)) (hty : ty.isReference = true) (F : Sto Z h a v) (ha : n0 ≤ a) (hwo : own_Wok Z EL sf h a) (hd : decode bytes pc = .ok (.aastore, 1)) (k : ∀ T' h', own_At w p l e R s m args below meth c bytes ret own nm mx Z n0 a0 EL sf T' h' cells slots → Wr h h' a j.toNatClampNeg v → own_Run p e below Q m T' q Ls rest) (hq : pc + 1 = q := by rfl) : own_Run p e below Q m T pc Ls (v :: .int j :: .ref a :: rest) := by
  obtain ⟨⟨hx, hby, r⟩, vm0, locs, X, B, hZ, hown, hT, N, Od, hEL, Ch, Sf⟩ := A
  subst hby hq
  obtain ⟨T', h', X', e', W, st'⟩ := stR X hx (s := s.setVm vm0) hZ hT Ar hj hty F (g := mkF m pc Ls (v :: .int j :: .ref a :: rest)) rfl rfl hd
  exact own_by st' (k T' h' ⟨⟨hx, rfl, r⟩, vm0, _, X', B.le (Nat.le_of_eq W.size.symm), hZ, hown, e', Fr.snoc X' N ha, Od.wr W ha, hEL, Ch.trans (CHr.wr W (hwo.safe hZ Sf) Ch.1), Sf.wr Ch.1 W (hwo.safe hZ Sf)⟩ W)
theorem own_arrlen (A : own_At w p l e R s m args below meth c bytes ret own nm mx Z n0 a0 EL sf T h cells slots) {a : Addr} {cl : Cell} {ty : FieldType} (Ar : Arr Z h a cl ty) (hd : decode bytes pc = .ok (.arraylength, 1)) (k : own_Run p e below Q m T q Ls (.int cl.slots.size.toInt32 :: rest)) (hq : pc + 1 = q := by rfl) : own_Run p e below Q m T pc Ls (.ref a :: rest) := by
  obtain ⟨⟨hx, hby, r⟩, vm0, locs, X, B, hZ, hown, hT, N, Od, hEL, Ch, Sf⟩ := A
  subst hby hq hT
  exact own_by (fun t z => X.arraylength hx Ar.1 (State.isArrayOf_alike (T := s.setVm vm0) hZ.alike Ar.2.1) (g := mkF m pc Ls (.ref a :: rest)) rfl rfl hd t z) k
theorem own_aaload (A : own_At w p l e R s m args below meth c bytes ret own nm mx Z n0 a0 EL sf T h cells slots) {a : Addr} {cl : Cell} {ty : FieldType} {j : Int32} {v : Value} (Ar : Arr Z h a cl ty) (hty : ty.isReference = true) (hj : ¬ (j < 0 ∨ cl.slots.size ≤ j.toNatClampNeg)) (hv : cl.slots[j.toNatClampNeg]? = some v) (hd : decode bytes pc = .ok (.aaload, 1)) (k : own_Run p e below Q m T q Ls (v :: rest)) (hq : pc + 1 = q := by rfl) : own_Run p e below Q m T pc Ls (.int j :: .ref a :: rest) := by
  obtain ⟨⟨hx, hby, r⟩, vm0, locs, X, B, hZ, hown, hT, N, Od, hEL, Ch, Sf⟩ := A
  subst hby hq hT
  exact own_by (fun t z => X.aaload hx Ar.1 (State.isArrayOf_alike (T := s.setVm vm0) hZ.alike Ar.2.1) hty Ar.2.2 hj hv (g := mkF m pc Ls (.int j :: .ref a :: rest)) rfl rfl hd t z) k
theorem own_iaload (A : own_At w p l e R s m args below meth c bytes ret own nm mx Z n0 a0 EL sf T h cells slots) {a : Addr} {cl : Cell} {j : Int32} {v : Value} (Ar : Arr Z h a cl .int) (hj : ¬ (j < 0 ∨ cl.slots.size ≤ j.toNatClampNeg)) (hv : cl.slots[j.toNatClampNeg]? = some v) (hd : decode bytes pc = .ok (.iaload, 1)) (k : own_Run p e below Q m T q Ls (v :: rest)) (hq : pc + 1 = q := by rfl) : own_Run p e below Q m T pc Ls (.int j :: .ref a :: rest) := by
  obtain ⟨⟨hx, hby, r⟩, vm0, locs, X, B, hZ, hown, hT, N, Od, hEL, Ch, Sf⟩ := A
  subst hby hq hT
  exact own_by (fun t z => X.iaload hx Ar.1 (State.isArrayOf_alike (T := s.setVm vm0) hZ.alike Ar.2.1) Ar.2.2 hj hv (g := mkF m pc Ls (.int j :: .ref a :: rest)) rfl rfl hd t z) k
theorem own_caload (A : own_At w p l e R s m args below meth c bytes ret own nm mx Z n0 a0 EL sf T h cells slots) {a : Addr} {cl : Cell} {j : Int32} {v : Value} (Ar : Arr Z h a cl .char) (hj : ¬ (j < 0 ∨ cl.slots.size ≤ j.toNatClampNeg)) (hv : cl.slots[j.toNatClampNeg]? = some v) (hd : decode bytes pc = .ok (.caload, 1)) (k : own_Run p e below Q m T q Ls (v :: rest)) (hq : pc + 1 = q := by rfl) : own_Run p e below Q m T pc Ls (.int j :: .ref a :: rest) := by
  obtain ⟨⟨hx, hby, r⟩, vm0, locs, X, B, hZ, hown, hT, N, Od, hEL, Ch, Sf⟩ := A
  subst hby hq hT
  exact own_by (fun t z => X.caload hx Ar.1 (State.isArrayOf_alike (T := s.setVm vm0) hZ.alike Ar.2.1) Ar.2.2 hj hv (g := mkF m pc Ls (.int j :: .ref a :: rest)) rfl rfl hd t z) k
theorem own_baload (A : own_At w p l e R s m args below meth c bytes ret own nm mx Z n0 a0 EL sf T h cells slots) {a : Addr} {cl : Cell} {j : Int32} {v : Value} (Ar : Arr Z h a cl .byte) (hj : ¬ (j < 0 ∨ cl.slots.size ≤ j.toNatClampNeg)) (hv : cl.slots[j.toNatClampNeg]? = some v) (hd : decode bytes pc = .ok (.baload, 1)) (k : own_Run p e below Q m T q Ls (v :: rest)) (hq : pc + 1 = q := by rfl) : own_Run p e below Q m T pc Ls (.int j :: .ref a :: rest) := by
  obtain ⟨⟨hx, hby, r⟩, vm0, locs, X, B, hZ, hown, hT, N, Od, hEL, Ch, Sf⟩ := A
  subst hby hq hT
  exact own_by (fun t z => X.baloadBytes hx Ar.1 (State.isArrayOf_alike (T := s.setVm vm0) hZ.alike Ar.2.1) Ar.2.2 hj hv (g := mkF m pc Ls (.int j :: .ref a :: rest)) rfl rfl hd t z) k
/-- a callee that a library or own law pays, narrow (it interns nothing; ws: what it may write) -/
def own_Pays (l : Launch) (R : Room) (p : Program) (e : Env) (below : List Frame) (s : State) (args : Array Value) (Z : State) (n0 : Nat) (EL : List (String × Nat)) (ws : List Addr) (y : MethodName) (len W k n : Nat) (as' : Array Value) (h : Heap) (Qc : Option Value → Heap → Prop) : Prop :=
  ∀ vm0, Z.Warmed39 vm0 → Back l R p e below (s.setVm vm0) args y len W (fun A a => a = as' ∧ A.U.heap = h ∧ A.cells + k ≤ R.cells ∧ A.slots + n ≤ R.slots)
    (fun A _ v B => ∃ L, (Qc v B.U.heap ∧ Fr n0 L ∧ Old Z n0 B.U.heap ∧ h.size ≤ B.U.heap.size ∧ (EL = [] ∨ Keep h B.U.heap ws)) ∧ B.locs = A.locs ++ L ∧ B.cells = A.cells + k ∧ B.slots = A.slots + n)
theorem own_pay {y : MethodName} {bytes : ByteArray} {mx len W : Nat} {ret : Option FieldType} {rm : Room} {as' : Array Value} {Qc : Option Value → Heap → Prop} (M : own_Met false l Z n0 [] [] y bytes mx ret [] rm as' h Qc) (wc : (Jvm.Cond.code y bytes mx ret).before a0 Z = true) (wz : (Jvm.Cond.initialized y.cls).before a0 Z = true) (hf : rm.frames + 1 ≤ R.frames) (hl : W + (mx + 11) + rm.locals ≤ R.locals) :
    own_Pays l R p e below s args Z n0 [] [] y len W rm.cells rm.slots as' h Qc := fun vm0 hZ => by
  have M' : MetFree l y (head1 [Jvm.Cond.code y bytes mx ret] rm) (fun a U => a = as' ∧ Z.Warmed39 U.vm ∧ U.heap = h) (fun _ _ _ _ _ => True) (fun _ U o U' => ∃ v L, o = .returned v ∧ (fun v h' L => Qc v h' ∧ Fr n0 L ∧ Old Z n0 h' ∧ h.size ≤ h'.size ∧ (([] : List (String × Nat)) = [] ∨ Keep h h' [])) v U'.heap L ∧ FrameEnd U o U' L rm.cells rm.slots) :=
    MetFree.mono M (fun _ U z => ⟨z.1, z.2.1, z.2.2, (own_ch0 (vm := U.vm) (h := h) (Nat.le_refl _)).1, fun x hx => nomatch hx⟩) (fun _ _ _ _ _ z => z) (fun a U o U' hp ⟨v, L, h1, ⟨h2, h3, h4, h5⟩, _, h6⟩ => ⟨v, L, h1, ⟨h2, h3, h4, hp.2.2 ▸ h5, Or.inl rfl⟩, h6⟩)
  exact backOf (s := s.setVm vm0) (Q := fun v h' L => Qc v h' ∧ Fr n0 L ∧ Old Z n0 h' ∧ h.size ≤ h'.size ∧ (([] : List (String × Nat)) = [] ∨ Keep h h' [])) M' hZ wc wz hf hl
/-- a callee that may intern; sf': what it asks to be made and no literal's -/
def own_PaysW (l : Launch) (R : Room) (p : Program) (e : Env) (below : List Frame) (s : State) (args : Array Value) (Z : State) (n0 : Nat) (a0 : Array Value) (EL : List (String × Nat)) (ws : List Addr) (y : MethodName) (len W k n : Nat) (as' : Array Value) (h : Heap) (Qc : Option Value → Heap → Prop) : Prop :=
  ∀ vm0, EW Z a0 EL → Z.Warmed39 vm0 → CHv Z EL vm0 h → own_Sf Z EL vm0 h ws → BackS l R p e below (s.setVm vm0) args y len W (fun A a => a = as' ∧ A.U.heap = h ∧ A.cells + k ≤ R.cells ∧ A.slots + n ≤ R.slots)
    (fun A _ v B => ∃ L, (Qc v B.U.heap ∧ Fr n0 L ∧ Old Z n0 B.U.heap ∧ CHr Z EL vm0 h B.U.vm B.U.heap) ∧ B.locs = A.locs ++ L ∧ B.cells = A.cells + k ∧ B.slots = A.slots + n)
theorem own_payW {ws : List Addr} {y : MethodName} {bytes : ByteArray} {mx len W : Nat} {ret : Option FieldType} {rm : Room} {as' : Array Value} {Qc : Option Value → Heap → Prop} (M : own_Met true l Z n0 EL ws y bytes mx ret [] rm as' h Qc) (wc : (Jvm.Cond.code y bytes mx ret).before a0 Z = true) (wz : (Jvm.Cond.initialized y.cls).before a0 Z = true) (hf : rm.frames + 1 ≤ R.frames) (hl : W + (mx + 11) + rm.locals ≤ R.locals) :
    own_PaysW l R p e below s args Z n0 a0 EL ws y len W rm.cells rm.slots as' h Qc := fun vm0 hEL hZ H S => by
  refine BackS.of_freeW (bytes := bytes) (maxL := mx) (ret := ret) (E := fun _ first o t L k n => k = rm.cells ∧ n = rm.slots ∧ (∃ v, o = .returned v ∧ Qc v t.heap ∧ Fr n0 L ∧ Old Z n0 t.heap) ∧ CHr Z EL first.vm first.heap t.vm t.heap) M hf hl ?_ ?_ (fun _ _ _ _ _ _ _ _ _ => trivial) ?_ ?_
  · intro m meth c A a Y hp
    have hU : Z.Warmed39 A.U.vm := wtrans (s := s.setVm vm0) hZ Y.warmed
    exact ⟨by show (Cond.and _ .tt).before a A.U = true; rw [Cond.before_and, mv hU wc]; rfl, mv hU wc, mv hU wz, hp.2.2.1, hp.2.2.2⟩
  · intro m meth c A a g mk Y hp
    have C := CHv.at Y hZ hEL H
    exact ⟨hp.1, wtrans (s := s.setVm vm0) hZ Y.warmed, hp.2.1, C.1, fun x hx => ⟨C.safe (S x hx).2 (S x hx).1, (S x hx).2⟩⟩
  · rintro a first o t ⟨v, L, h1, ⟨h2, h3, h4, h5⟩, h6, h7⟩
    exact ⟨L, _, _, h7, rfl, rfl, ⟨v, h1, h2, h3, h4⟩, h6⟩
  · rintro m meth c A a g mk v t L k n Y hp - - ⟨e1, e2, ⟨v', e3, e4, e5, e6⟩, e7⟩
    cases e3
    subst e1 e2
    refine ⟨L, ⟨e4, e5, e6, (CHv.at Y hZ hEL H).trans ?_⟩, rfl, rfl, rfl⟩
    rw [← hp.2.1]
    exact e7
theorem own_static (A : own_At w p l e R s m args below meth c bytes ret own nm mx Z n0 a0 EL sf T h cells slots) {i mxy : Nat} {y : MethodName} {by' : ByteArray} {rt : Option FieldType} {k n W : Nat} {argsL : List Value} {Qc : Option Value → Heap → Prop} (w1 : (Jvm.Cond.methodLink own i y).before a0 Z = true) (w2 : (Jvm.Cond.static y).before a0 Z = true) (w3 : (Jvm.Cond.initialized y.cls).before a0 Z = true) (w4 : (Jvm.Cond.code y by' mxy rt).before a0 Z = true) (hy : y.cls ≠ "java/lang/invoke/MethodHandle" ∧ y.cls ≠ "java/lang/invoke/VarHandle") {ws : List Addr} (M : own_Pays l R p e below s args Z n0 EL ws y 3 W k n argsL.toArray h Qc) (hws : ∀ x ∈ ws, x ∈ sf) (hW : (rest.map fun v => v.category).sum ≤ W)  {sig : MethodDescriptor} (hds : parseMethodDescriptor y.desc = some sig) (hlen : argsL.length = sig.parameters.length) (hst : st = argsL.reverse ++ rest) (hsz : Ls.size = mx) (hd : decode bytes pc = .ok (.invokestatic i, 3)) (hc : cells + k ≤ R.cells) (hs : slots + n ≤ R.slots)
    (kk : ∀ v T' h', own_At w p l e R s m args below meth c bytes ret own nm mx Z n0 a0 EL sf T' h' (cells + k) (slots + n) → Qc v h' → own_Run p e below Q m T' q Ls (v.toList ++ rest)) (hq : pc + 3 = q := by rfl) : own_Run p e below Q m T pc Ls st := by
  obtain ⟨⟨hx, hby, r1, r2, r3, r4⟩, vm0, locs, X, B, hZ, hown, hT, N, Od, hEL, Ch, Sf⟩ := A
  subst hby hq hst hT
  obtain ⟨v, vm1, ⟨T', L', k', n'⟩, -, X', ⟨L, ⟨hQ, N', O', gr, hK⟩, l1, l2, l3⟩, st'⟩ := Jvm.LawKit.callS X hx hown (mvT (s := s.setVm vm0) hZ w1) (mvT (s := s.setVm vm0) hZ w2) (mvT (s := s.setVm vm0) hZ w3) (mvT (s := s.setVm vm0) hZ w4) hy (M vm0 hZ) (g := mkF m pc Ls (argsL.reverse ++ rest)) rfl (hsz.trans r4.symm)  (argsL := argsL) (rest := rest) (lenOf (ps := sig.parameters) (r := sig.returnType) hds hlen) rfl (by show 2 * 0 + _ ≤ _; rw [Nat.mul_zero, Nat.zero_add]; exact hW) hd (fun _ _ => ⟨rfl, rfl, hc, hs⟩)
  dsimp only [Pt.U, Pt.locs, Pt.cells, Pt.slots] at X' l1 l2 l3 st' hQ O' gr hK
  subst l1 l2 l3
  have C : CHr Z EL vm0 T.heap vm0 T'.heap := by
    rcases hK with rfl | hK
    · exact own_ch0 gr
    · exact CHr.keep hK (fun x hx => (Sf x (hws x hx)).1) Ch.1
  exact own_by (st') (kk v T' T'.heap ⟨⟨hx, rfl, r1, r2, r3, r4⟩, vm0, _, X', B.le gr, hZ, hown, rfl, N.app N', O', hEL, Ch.trans C, Sf.ch C⟩ hQ)
theorem own_staticW (A : own_At true p l e R s m args below meth c bytes ret own nm mx Z n0 a0 EL sf T h cells slots) {i mxy : Nat} {y : MethodName} {by' : ByteArray} {rt : Option FieldType} {k n W : Nat} {argsL : List Value} {Qc : Option Value → Heap → Prop} (w1 : (Jvm.Cond.methodLink own i y).before a0 Z = true) (w2 : (Jvm.Cond.static y).before a0 Z = true) (w3 : (Jvm.Cond.initialized y.cls).before a0 Z = true) (w4 : (Jvm.Cond.code y by' mxy rt).before a0 Z = true) (hy : y.cls ≠ "java/lang/invoke/MethodHandle" ∧ y.cls ≠ "java/lang/invoke/VarHandle") {ws : List Addr} (M : own_PaysW l R p e below s args Z n0 a0 EL ws y 3 W k n argsL.toArray h Qc) (hws : ∀ x ∈ ws, x ∈ sf) (hW : (rest.map fun v => v.category).sum ≤ W)  {sig : MethodDescriptor} (hds : parseMethodDescriptor y.desc = some sig) (hlen : argsL.length = sig.parameters.length) (hst : st = argsL.reverse ++ rest) (hsz : Ls.size = mx) (hd : decode bytes pc = .ok (.invokestatic i, 3)) (hc : cells + k ≤ R.cells) (hs : slots + n ≤ R.slots)
    (kk : ∀ v T' h', own_At true p l e R s m args below meth c bytes ret own nm mx Z n0 a0 EL sf T' h' (cells + k) (slots + n) → Qc v h' → own_Run p e below Q m T' q Ls (v.toList ++ rest)) (hq : pc + 3 = q := by rfl) : own_Run p e below Q m T pc Ls st := by
  obtain ⟨⟨hx, hby, r1, r2, r3, r4⟩, vm0, locs, X, B, hZ, hown, hT, N, Od, hEL, Ch, Sf⟩ := A
  subst hby hq hst hT
  obtain ⟨v, vm1, ⟨T', L', k', n'⟩, -, X', hS, gr, ⟨L, ⟨hQ, N', O', C⟩, l1, l2, l3⟩, st'⟩ := callSS X hx hown (mvT (s := s.setVm vm0) hZ w1) (mvT (s := s.setVm vm0) hZ w2) (mvT (s := s.setVm vm0) hZ w3) (mvT (s := s.setVm vm0) hZ w4) hy (M vm0 hEL hZ Ch.1 (fun x hx => Sf x (hws x hx))) (g := mkF m pc Ls (argsL.reverse ++ rest)) rfl (hsz.trans r4.symm)  (argsL := argsL) (rest := rest) (lenOf (ps := sig.parameters) (r := sig.returnType) hds hlen) rfl (by show 2 * 0 + _ ≤ _; rw [Nat.mul_zero, Nat.zero_add]; exact hW) hd (fun _ _ => ⟨rfl, rfl, hc, hs⟩)
  dsimp only [Pt.U, Pt.locs, Pt.cells, Pt.slots] at X' l1 l2 l3 st' hQ O' hS gr C
  subst l1 l2 l3
  have hZ' : Z.Warmed39 T'.vm := State.Warmed39.trans (t := s.setVm vm0) hZ hS.1
  have hown' : T'.vm.findClass own = some m.cls := by rw [hS.1.alike.findClass]; exact hown
  obtain ⟨k0, B1, B2⟩ : ∃ k0, s.Since vm0 k0 ∧ k0 ≤ T.heap.size := by
    rcases B with ⟨B, -⟩ | ⟨-, B⟩
    · cases B
    · exact B
  exact own_by (fun _ z => st'.trans z) (kk v T' T'.heap ⟨⟨hx, rfl, r1, r2, r3, r4⟩, T'.vm, _, X', Or.inr ⟨rfl, _, B1.trans hS (Nat.le_trans B2 gr), Nat.le_refl _⟩, hZ', hown', rfl, N.app N', O', hEL, Ch.trans C, Sf.ch C⟩ hQ)
theorem own_special (A : own_At w p l e R s m args below meth c bytes ret own nm mx Z n0 a0 EL sf T h cells slots) {i mxy : Nat} {y : MethodName} {by' : ByteArray} {a : Addr} {k n W : Nat} {argsL : List Value} {Qc : Option Value → Heap → Prop} (hy1 : y.name = "<init>") (w1 : (Jvm.Cond.methodLink own i y).before a0 Z = true) (w2 : (Jvm.Cond.instanceMethod y).before a0 Z = true) (w3 : (Jvm.Cond.code y by' mxy none).before a0 Z = true) (hy : y.cls ≠ "java/lang/invoke/MethodHandle" ∧ y.cls ≠ "java/lang/invoke/VarHandle") {ws : List Addr} (M : own_Pays l R p e below s args Z n0 EL ws y 3 W k n (.ref a :: argsL).toArray h Qc) (hws : ∀ x ∈ ws, x ∈ sf) (hW : (rest.map fun v => v.category).sum ≤ W)  {sig : MethodDescriptor} (hds : parseMethodDescriptor y.desc = some sig) (hlen : argsL.length = sig.parameters.length) (hst : st = argsL.reverse ++ .ref a :: rest) (hsz : Ls.size = mx) (hd : decode bytes pc = .ok (.invokespecial i, 3)) (hc : cells + k ≤ R.cells) (hs : slots + n ≤ R.slots)
    (kk : ∀ v T' h', own_At w p l e R s m args below meth c bytes ret own nm mx Z n0 a0 EL sf T' h' (cells + k) (slots + n) → Qc v h' → own_Run p e below Q m T' q Ls (v.toList ++ rest)) (hq : pc + 3 = q := by rfl) : own_Run p e below Q m T pc Ls st := by
  obtain ⟨⟨hx, hby, r1, r2, r3, r4⟩, vm0, locs, X, B, hZ, hown, hT, N, Od, hEL, Ch, Sf⟩ := A
  subst hby hq hst hT
  obtain ⟨v, vm1, ⟨T', L', k', n'⟩, -, X', ⟨L, ⟨hQ, N', O', gr, hK⟩, l1, l2, l3⟩, st'⟩ := X.specialBack hx hy1 hown (mvT (s := s.setVm vm0) hZ w1) (mvT (s := s.setVm vm0) hZ w2) (mvT (s := s.setVm vm0) hZ w3) hy (M vm0 hZ) (g := mkF m pc Ls (argsL.reverse ++ .ref a :: rest)) rfl (hsz.trans r4.symm) (Steps.refl _) (a := a) (argsL := argsL) (rest := rest) (lenOf (ps := sig.parameters) (r := sig.returnType) hds hlen) rfl (by show 2 * 0 + _ ≤ _; rw [Nat.mul_zero, Nat.zero_add]; exact hW) hd (fun _ _ => ⟨rfl, rfl, hc, hs⟩)
  dsimp only [Pt.U, Pt.locs, Pt.cells, Pt.slots] at X' l1 l2 l3 st' hQ O' gr hK
  subst l1 l2 l3
  have C : CHr Z EL vm0 T.heap vm0 T'.heap := by
    rcases hK with rfl | hK
    · exact own_ch0 gr
    · exact CHr.keep hK (fun x hx => (Sf x (hws x hx)).1) Ch.1
  exact own_by (fun _ z => st'.trans z) (kk v T' T'.heap ⟨⟨hx, rfl, r1, r2, r3, r4⟩, vm0, _, X', B.le gr, hZ, hown, rfl, N.app N', O', hEL, Ch.trans C, Sf.ch C⟩ hQ)
theorem own_specialW (A : own_At true p l e R s m args below meth c bytes ret own nm mx Z n0 a0 EL sf T h cells slots) {i mxy : Nat} {y : MethodName} {by' : ByteArray} {a : Addr} {k n W : Nat} {argsL : List Value} {Qc : Option Value → Heap → Prop} (hy1 : y.name = "<init>") (w1 : (Jvm.Cond.methodLink own i y).before a0 Z = true) (w2 : (Jvm.Cond.instanceMethod y).before a0 Z = true) (w3 : (Jvm.Cond.code y by' mxy none).before a0 Z = true) (hy : y.cls ≠ "java/lang/invoke/MethodHandle" ∧ y.cls ≠ "java/lang/invoke/VarHandle") {ws : List Addr} (M : own_PaysW l R p e below s args Z n0 a0 EL ws y 3 W k n (.ref a :: argsL).toArray h Qc) (hws : ∀ x ∈ ws, x ∈ sf) (hW : (rest.map fun v => v.category).sum ≤ W)  {sig : MethodDescriptor} (hds : parseMethodDescriptor y.desc = some sig) (hlen : argsL.length = sig.parameters.length) (hst : st = argsL.reverse ++ .ref a :: rest) (hsz : Ls.size = mx) (hd : decode bytes pc = .ok (.invokespecial i, 3)) (hc : cells + k ≤ R.cells) (hs : slots + n ≤ R.slots)
    (kk : ∀ v T' h', own_At true p l e R s m args below meth c bytes ret own nm mx Z n0 a0 EL sf T' h' (cells + k) (slots + n) → Qc v h' → own_Run p e below Q m T' q Ls (v.toList ++ rest)) (hq : pc + 3 = q := by rfl) : own_Run p e below Q m T pc Ls st := by
  obtain ⟨⟨hx, hby, r1, r2, r3, r4⟩, vm0, locs, X, B, hZ, hown, hT, N, Od, hEL, Ch, Sf⟩ := A
  subst hby hq hst hT
  obtain ⟨v, vm1, ⟨T', L', k', n'⟩, -, X', hS, gr, ⟨L, ⟨hQ, N', O', C⟩, l1, l2, l3⟩, st'⟩ := X.specialBackS hx hy1 hown (mvT (s := s.setVm vm0) hZ w1) (mvT (s := s.setVm vm0) hZ w2) (mvT (s := s.setVm vm0) hZ w3) hy (M vm0 hEL hZ Ch.1 (fun x hx => Sf x (hws x hx))) (g := mkF m pc Ls (argsL.reverse ++ .ref a :: rest)) rfl (hsz.trans r4.symm) (Steps.refl _) (a := a) (argsL := argsL) (rest := rest) (lenOf (ps := sig.parameters) (r := sig.returnType) hds hlen) rfl (by show 2 * 0 + _ ≤ _; rw [Nat.mul_zero, Nat.zero_add]; exact hW) hd (fun _ _ => ⟨rfl, rfl, hc, hs⟩)
  dsimp only [Pt.U, Pt.locs, Pt.cells, Pt.slots] at X' l1 l2 l3 st' hQ O' hS gr C
  subst l1 l2 l3
  have hZ' : Z.Warmed39 T'.vm := State.Warmed39.trans (t := s.setVm vm0) hZ hS.1
  have hown' : T'.vm.findClass own = some m.cls := by rw [hS.1.alike.findClass]; exact hown
  obtain ⟨k0, B1, B2⟩ : ∃ k0, s.Since vm0 k0 ∧ k0 ≤ T.heap.size := by
    rcases B with ⟨B, -⟩ | ⟨-, B⟩
    · cases B
    · exact B
  exact own_by (fun _ z => st'.trans z) (kk v T' T'.heap ⟨⟨hx, rfl, r1, r2, r3, r4⟩, T'.vm, _, X', Or.inr ⟨rfl, _, B1.trans hS (Nat.le_trans B2 gr), Nat.le_refl _⟩, hZ', hown', rfl, N.app N', O', hEL, Ch.trans C, Sf.ch C⟩ hQ)
theorem own_virtual (A : own_At w p l e R s m args below meth c bytes ret own nm mx Z n0 a0 EL sf T h cells slots) {i : Nat} {y : MethodName} {C : String} {a : Addr} {k n W : Nat} {argsL : List Value} {Qc : Option Value → Heap → Prop} (w1 : (Jvm.Cond.methodLink own i y).before a0 Z = true) (w2 : (Jvm.Cond.declares y).before a0 Z = true) (w3 : (Jvm.Cond.selects C y y).before a0 Z = true) (w4 : (Jvm.Cond.instanceMethod y).before a0 Z = true) (hy : y.cls ≠ "java/lang/invoke/MethodHandle" ∧ y.cls ≠ "java/lang/invoke/VarHandle") {ws : List Addr} (M : own_Pays l R p e below s args Z n0 EL ws y 3 W k n (.ref a :: argsL).toArray h Qc) (hws : ∀ x ∈ ws, x ∈ sf) (hW : (rest.map fun v => v.category).sum ≤ W) (E : Exa Z h a C) {sig : MethodDescriptor} (hds : parseMethodDescriptor y.desc = some sig) (hlen : argsL.length = sig.parameters.length) (hst : st = argsL.reverse ++ .ref a :: rest) (hsz : Ls.size = mx) (hd : decode bytes pc = .ok (.invokevirtual i, 3)) (hc : cells + k ≤ R.cells) (hs : slots + n ≤ R.slots)
    (kk : ∀ v T' h', own_At w p l e R s m args below meth c bytes ret own nm mx Z n0 a0 EL sf T' h' (cells + k) (slots + n) → Qc v h' → own_Run p e below Q m T' q Ls (v.toList ++ rest)) (hq : pc + 3 = q := by rfl) : own_Run p e below Q m T pc Ls st := by
  obtain ⟨⟨hx, hby, r1, r2, r3, r4⟩, vm0, locs, X, B, hZ, hown, hT, N, Od, hEL, Ch, Sf⟩ := A
  subst hby hq hst hT
  obtain ⟨cq, kq, qa, qb, qc⟩ := isOf (s := s.setVm vm0) (T := T) hZ rfl E
  obtain ⟨v, vm1, ⟨T', L', k', n'⟩, -, X', ⟨L, ⟨hQ, N', O', gr, hK⟩, l1, l2, l3⟩, st'⟩ := X.virtualBack hx hown (mvT (s := s.setVm vm0) hZ w1) (mvT (s := s.setVm vm0) hZ w2) (notFace_of_selects (args := #[]) (mvT (s := s.setVm vm0) hZ w3)) (mvT (s := s.setVm vm0) hZ w3) (mvT (s := s.setVm vm0) hZ w4) hy (M vm0 hZ) qa qc (g := mkF m pc Ls (argsL.reverse ++ .ref a :: rest)) rfl (hsz.trans r4.symm) (Steps.refl _) (argsL := argsL) (rest := rest) (lenOf (ps := sig.parameters) (r := sig.returnType) hds hlen) rfl (by show 2 * 0 + _ ≤ _; rw [Nat.mul_zero, Nat.zero_add]; exact hW) hd (fun _ _ => ⟨rfl, rfl, hc, hs⟩)
  dsimp only [Pt.U, Pt.locs, Pt.cells, Pt.slots] at X' l1 l2 l3 st' hQ O' gr hK
  subst l1 l2 l3
  have C : CHr Z EL vm0 T.heap vm0 T'.heap := by
    rcases hK with rfl | hK
    · exact own_ch0 gr
    · exact CHr.keep hK (fun x hx => (Sf x (hws x hx)).1) Ch.1
  exact own_by (fun _ z => st'.trans z) (kk v T' T'.heap ⟨⟨hx, rfl, r1, r2, r3, r4⟩, vm0, _, X', B.le gr, hZ, hown, rfl, N.app N', O', hEL, Ch.trans C, Sf.ch C⟩ hQ)
theorem own_virtualW (A : own_At true p l e R s m args below meth c bytes ret own nm mx Z n0 a0 EL sf T h cells slots) {i : Nat} {y : MethodName} {C : String} {a : Addr} {k n W : Nat} {argsL : List Value} {Qc : Option Value → Heap → Prop} (w1 : (Jvm.Cond.methodLink own i y).before a0 Z = true) (w2 : (Jvm.Cond.declares y).before a0 Z = true) (w3 : (Jvm.Cond.selects C y y).before a0 Z = true) (w4 : (Jvm.Cond.instanceMethod y).before a0 Z = true) (hy : y.cls ≠ "java/lang/invoke/MethodHandle" ∧ y.cls ≠ "java/lang/invoke/VarHandle") {ws : List Addr} (M : own_PaysW l R p e below s args Z n0 a0 EL ws y 3 W k n (.ref a :: argsL).toArray h Qc) (hws : ∀ x ∈ ws, x ∈ sf) (hW : (rest.map fun v => v.category).sum ≤ W) (E : Exa Z h a C) {sig : MethodDescriptor} (hds : parseMethodDescriptor y.desc = some sig) (hlen : argsL.length = sig.parameters.length) (hst : st = argsL.reverse ++ .ref a :: rest) (hsz : Ls.size = mx) (hd : decode bytes pc = .ok (.invokevirtual i, 3)) (hc : cells + k ≤ R.cells) (hs : slots + n ≤ R.slots)
    (kk : ∀ v T' h', own_At true p l e R s m args below meth c bytes ret own nm mx Z n0 a0 EL sf T' h' (cells + k) (slots + n) → Qc v h' → own_Run p e below Q m T' q Ls (v.toList ++ rest)) (hq : pc + 3 = q := by rfl) : own_Run p e below Q m T pc Ls st := by
  obtain ⟨⟨hx, hby, r1, r2, r3, r4⟩, vm0, locs, X, B, hZ, hown, hT, N, Od, hEL, Ch, Sf⟩ := A
  subst hby hq hst hT
  obtain ⟨cq, kq, qa, qb, qc⟩ := isOf (s := s.setVm vm0) (T := T) hZ rfl E
  obtain ⟨v, vm1, ⟨T', L', k', n'⟩, -, X', hS, gr, ⟨L, ⟨hQ, N', O', C⟩, l1, l2, l3⟩, st'⟩ := X.virtualBackS hx hown (mvT (s := s.setVm vm0) hZ w1) (mvT (s := s.setVm vm0) hZ w2) (notFace_of_selects (args := #[]) (mvT (s := s.setVm vm0) hZ w3)) (mvT (s := s.setVm vm0) hZ w3) (mvT (s := s.setVm vm0) hZ w4) hy (M vm0 hEL hZ Ch.1 (fun x hx => Sf x (hws x hx))) qa qc (g := mkF m pc Ls (argsL.reverse ++ .ref a :: rest)) rfl (hsz.trans r4.symm) (Steps.refl _) (argsL := argsL) (rest := rest) (lenOf (ps := sig.parameters) (r := sig.returnType) hds hlen) rfl (by show 2 * 0 + _ ≤ _; rw [Nat.mul_zero, Nat.zero_add]; exact hW) hd (fun _ _ => ⟨rfl, rfl, hc, hs⟩)
  dsimp only [Pt.U, Pt.locs, Pt.cells, Pt.slots] at X' l1 l2 l3 st' hQ O' hS gr C
  subst l1 l2 l3
  have hZ' : Z.Warmed39 T'.vm := State.Warmed39.trans (t := s.setVm vm0) hZ hS.1
  have hown' : T'.vm.findClass own = some m.cls := by rw [hS.1.alike.findClass]; exact hown
  obtain ⟨k0, B1, B2⟩ : ∃ k0, s.Since vm0 k0 ∧ k0 ≤ T.heap.size := by
    rcases B with ⟨B, -⟩ | ⟨-, B⟩
    · cases B
    · exact B
  exact own_by (fun _ z => st'.trans z) (kk v T' T'.heap ⟨⟨hx, rfl, r1, r2, r3, r4⟩, T'.vm, _, X', Or.inr ⟨rfl, _, B1.trans hS (Nat.le_trans B2 gr), Nat.le_refl _⟩, hZ', hown', rfl, N.app N', O', hEL, Ch.trans C, Sf.ch C⟩ hQ)
theorem own_virtualUp (A : own_At w p l e R s m args below meth c bytes ret own nm mx Z n0 a0 EL sf T h cells slots) {i : Nat} {x y : MethodName} {C owner : String} {a : Addr} {k n W : Nat} {argsL : List Value} {Qc : Option Value → Heap → Prop} (w1 : (Jvm.Cond.methodLink own i x).before a0 Z = true) (w2 : (Jvm.Cond.sameMethod x.cls owner x.name x.desc).before a0 Z = true) (w3 : (Jvm.Cond.declares ⟨owner, x.name, x.desc⟩).before a0 Z = true) (hy : owner ≠ "java/lang/invoke/MethodHandle" ∧ owner ≠ "java/lang/invoke/VarHandle") (w4 : (Jvm.Cond.selects C x y).before a0 Z = true) (w5 : (Jvm.Cond.instanceMethod y).before a0 Z = true) {ws : List Addr} (M : own_Pays l R p e below s args Z n0 EL ws y 3 W k n (.ref a :: argsL).toArray h Qc) (hws : ∀ x ∈ ws, x ∈ sf) (hW : (rest.map fun v => v.category).sum ≤ W) (E : Exa Z h a C) {sig : MethodDescriptor} (hds : parseMethodDescriptor x.desc = some sig) (hlen : argsL.length = sig.parameters.length) (hst : st = argsL.reverse ++ .ref a :: rest) (hsz : Ls.size = mx) (hd : decode bytes pc = .ok (.invokevirtual i, 3)) (hc : cells + k ≤ R.cells) (hs : slots + n ≤ R.slots)
    (kk : ∀ v T' h', own_At w p l e R s m args below meth c bytes ret own nm mx Z n0 a0 EL sf T' h' (cells + k) (slots + n) → Qc v h' → own_Run p e below Q m T' q Ls (v.toList ++ rest)) (hq : pc + 3 = q := by rfl) : own_Run p e below Q m T pc Ls st := by
  obtain ⟨⟨hx, hby, r1, r2, r3, r4⟩, vm0, locs, X, B, hZ, hown, hT, N, Od, hEL, Ch, Sf⟩ := A
  subst hby hq hst hT
  obtain ⟨cq, kq, qa, qb, qc⟩ := isOf (s := s.setVm vm0) (T := T) hZ rfl E
  obtain ⟨v, vm1, ⟨T', L', k', n'⟩, -, X', ⟨L, ⟨hQ, N', O', gr, hK⟩, l1, l2, l3⟩, st'⟩ := X.virtualBackUp hx hown (mvT (s := s.setVm vm0) hZ w1) (mvT (s := s.setVm vm0) hZ w2) (mvT (s := s.setVm vm0) hZ w3) hy (mvT (s := s.setVm vm0) hZ w4) (mvT (s := s.setVm vm0) hZ w5) (M vm0 hZ) qa qc (g := mkF m pc Ls (argsL.reverse ++ .ref a :: rest)) rfl (hsz.trans r4.symm) (Steps.refl _) (argsL := argsL) (rest := rest) (lenOf (ps := sig.parameters) (r := sig.returnType) hds hlen) rfl (by show 2 * 0 + _ ≤ _; rw [Nat.mul_zero, Nat.zero_add]; exact hW) hd (fun _ _ => ⟨rfl, rfl, hc, hs⟩)
  dsimp only [Pt.U, Pt.locs, Pt.cells, Pt.slots] at X' l1 l2 l3 st' hQ O' gr hK
  subst l1 l2 l3
  have C : CHr Z EL vm0 T.heap vm0 T'.heap := by
    rcases hK with rfl | hK
    · exact own_ch0 gr
    · exact CHr.keep hK (fun x hx => (Sf x (hws x hx)).1) Ch.1
  exact own_by (fun _ z => st'.trans z) (kk v T' T'.heap ⟨⟨hx, rfl, r1, r2, r3, r4⟩, vm0, _, X', B.le gr, hZ, hown, rfl, N.app N', O', hEL, Ch.trans C, Sf.ch C⟩ hQ)
theorem own_virtualUpW (A : own_At true p l e R s m args below meth c bytes ret own nm mx Z n0 a0 EL sf T h cells slots) {i : Nat} {x y : MethodName} {C owner : String} {a : Addr} {k n W : Nat} {argsL : List Value} {Qc : Option Value → Heap → Prop} (w1 : (Jvm.Cond.methodLink own i x).before a0 Z = true) (w2 : (Jvm.Cond.sameMethod x.cls owner x.name x.desc).before a0 Z = true) (w3 : (Jvm.Cond.declares ⟨owner, x.name, x.desc⟩).before a0 Z = true) (hy : owner ≠ "java/lang/invoke/MethodHandle" ∧ owner ≠ "java/lang/invoke/VarHandle") (w4 : (Jvm.Cond.selects C x y).before a0 Z = true) (w5 : (Jvm.Cond.instanceMethod y).before a0 Z = true) {ws : List Addr} (M : own_PaysW l R p e below s args Z n0 a0 EL ws y 3 W k n (.ref a :: argsL).toArray h Qc) (hws : ∀ x ∈ ws, x ∈ sf) (hW : (rest.map fun v => v.category).sum ≤ W) (E : Exa Z h a C) {sig : MethodDescriptor} (hds : parseMethodDescriptor x.desc = some sig) (hlen : argsL.length = sig.parameters.length) (hst : st = argsL.reverse ++ .ref a :: rest) (hsz : Ls.size = mx) (hd : decode bytes pc = .ok (.invokevirtual i, 3)) (hc : cells + k ≤ R.cells) (hs : slots + n ≤ R.slots)
    (kk : ∀ v T' h', own_At true p l e R s m args below meth c bytes ret own nm mx Z n0 a0 EL sf T' h' (cells + k) (slots + n) → Qc v h' → own_Run p e below Q m T' q Ls (v.toList ++ rest)) (hq : pc + 3 = q := by rfl) : own_Run p e below Q m T pc Ls st := by
  obtain ⟨⟨hx, hby, r1, r2, r3, r4⟩, vm0, locs, X, B, hZ, hown, hT, N, Od, hEL, Ch, Sf⟩ := A
  subst hby hq hst hT
  obtain ⟨cq, kq, qa, qb, qc⟩ := isOf (s := s.setVm vm0) (T := T) hZ rfl E
  obtain ⟨v, vm1, ⟨T', L', k', n'⟩, -, X', hS, gr, ⟨L, ⟨hQ, N', O', C⟩, l1, l2, l3⟩, st'⟩ := X.virtualBackUpS hx hown (mvT (s := s.setVm vm0) hZ w1) (mvT (s := s.setVm vm0) hZ w2) (mvT (s := s.setVm vm0) hZ w3) hy (mvT (s := s.setVm vm0) hZ w4) (mvT (s := s.setVm vm0) hZ w5) (M vm0 hEL hZ Ch.1 (fun x hx => Sf x (hws x hx))) qa qc (g := mkF m pc Ls (argsL.reverse ++ .ref a :: rest)) rfl (hsz.trans r4.symm) (Steps.refl _) (argsL := argsL) (rest := rest) (lenOf (ps := sig.parameters) (r := sig.returnType) hds hlen) rfl (by show 2 * 0 + _ ≤ _; rw [Nat.mul_zero, Nat.zero_add]; exact hW) hd (fun _ _ => ⟨rfl, rfl, hc, hs⟩)
  dsimp only [Pt.U, Pt.locs, Pt.cells, Pt.slots] at X' l1 l2 l3 st' hQ O' hS gr C
  subst l1 l2 l3
  have hZ' : Z.Warmed39 T'.vm := State.Warmed39.trans (t := s.setVm vm0) hZ hS.1
  have hown' : T'.vm.findClass own = some m.cls := by rw [hS.1.alike.findClass]; exact hown
  obtain ⟨k0, B1, B2⟩ : ∃ k0, s.Since vm0 k0 ∧ k0 ≤ T.heap.size := by
    rcases B with ⟨B, -⟩ | ⟨-, B⟩
    · cases B
    · exact B
  exact own_by (fun _ z => st'.trans z) (kk v T' T'.heap ⟨⟨hx, rfl, r1, r2, r3, r4⟩, T'.vm, _, X', Or.inr ⟨rfl, _, B1.trans hS (Nat.le_trans B2 gr), Nat.le_refl _⟩, hZ', hown', rfl, N.app N', O', hEL, Ch.trans C, Sf.ch C⟩ hQ)
/-- ldc of a String constant, opaque -/
theorem own_ldcO (A : own_At true p l e R s m args below meth c bytes ret own nm mx Z n0 a0 EL sf T h cells slots) {i n : Nat} {text : String} (wl : (Jvm.Cond.stringLink own i text).before a0 Z = true) (wS : ∀ a ∈ Bundle.stringAtoms, a.before a0 Z = true) (hd : decode bytes pc = .ok (.ldc i, 2)) (hn : 4 * text.toList.length ≤ n) (hbig : n ≤ 536870912) (hc : cells + 2 ≤ R.cells) (hl : slots + (n + 4) ≤ R.slots)
    (k : ∀ a T' h', own_At true p l e R s m args below meth c bytes ret own nm mx Z n0 a0 EL sf T' h' (cells + 2) (slots + (n + 4)) → Ext h h' → own_Run p e below Q m T' q Ls (.ref a :: st)) (hq : pc + 2 = q := by rfl) : own_Run p e below Q m T pc Ls st := by
  obtain ⟨⟨hx, hby, r⟩, vm0, locs, X, B, hZ, hown, hT, N, Od, hEL, Ch, Sf⟩ := A
  subst hby hq
  obtain ⟨k0, B1, B2⟩ : ∃ k0, s.Since vm0 k0 ∧ k0 ≤ h.size := by
    rcases B with ⟨B, -⟩ | ⟨-, B⟩
    · cases B
    · exact B
  obtain ⟨a, T', h', k1, X', e', E, hS, hk, hZ', hown', C, -, st'⟩ := ldcOH X hx hZ hown wl wS hT B1 B2 hEL Ch.1 (g := mkF m pc Ls st) rfl hd hn hbig hc hl
  exact own_by st' (k a T' h' ⟨⟨hx, rfl, r⟩, T'.vm, _, X', Or.inr ⟨rfl, k1, hS, hk⟩, hZ', hown', e', N, Od.ext E, hEL, Ch.trans C, Sf.ch C⟩ E)
/-- ldc of a String constant that is said to be held, read -/
theorem own_ldcR (A : own_At true p l e R s m args below meth c bytes ret own nm mx Z n0 a0 EL sf T h cells slots) {i n : Nat} {text : String} (wl : (Jvm.Cond.stringLink own i text).before a0 Z = true) (wS : ∀ a ∈ Bundle.stringAtoms, a.before a0 Z = true) (hmem : (own, i) ∈ EL) {vs : List Value} {z : Int32} (ht : (∀ c ∈ text.toList, c.toNat < 256) ∧ text.toList.map (fun c => Value.int (Jvm.Lit.byteI c.toNat.toUInt16)) = vs) (hz : ¬ z < 0) (hlz : z.toNatClampNeg = vs.length) (hd : decode bytes pc = .ok (.ldc i, 2)) (hn : 4 * text.toList.length ≤ n) (hbig : n ≤ 536870912) (hc : cells + 2 ≤ R.cells) (hl : slots + (n + 4) ≤ R.slots)
    (k : ∀ a b cb T' h', own_At true p l e R s m args below meth c bytes ret own nm mx Z n0 a0 EL sf T' h' (cells + 2) (slots + (n + 4)) → Ext h h' → Exa Z h' a "java/lang/String" → Fld Z h' a "java/lang/String" "coder" "B" (.int 0) → Fld Z h' a "java/lang/String" "value" "[B" (.ref b) → Arv Z h' b cb .byte z vs (.int 0) → (∀ x ∈ sf, x ≠ a ∧ x ≠ b) → own_Run p e below Q m T' q Ls (.ref a :: st)) (hq : pc + 2 = q := by rfl) : own_Run p e below Q m T pc Ls st := by
  obtain ⟨⟨hx, hby, r⟩, vm0, locs, X, B, hZ, hown, hT, N, Od, hEL, Ch, Sf⟩ := A
  subst hby hq
  obtain ⟨k0, B1, B2⟩ : ∃ k0, s.Since vm0 k0 ∧ k0 ≤ h.size := by
    rcases B with ⟨B, -⟩ | ⟨-, B⟩
    · cases B
    · exact B
  obtain ⟨a, T', h', k1, b, cb, X', e', E, hS, hk, hZ', hown', f1, f2, f3, f4, -, -, C, -, f5, st'⟩ := ldcCH X hx hZ hown wl wS hT B1 B2 hEL hmem Ch.1 ht hz hlz (g := mkF m pc Ls st) rfl hd hn hbig hc hl
  exact own_by st' (k a b cb T' h' ⟨⟨hx, rfl, r⟩, T'.vm, _, X', Or.inr ⟨rfl, k1, hS, hk⟩, hZ', hown', e', N, Od.ext E, hEL, Ch.trans C, Sf.ch C⟩ E f1 f2 f3 f4 (fun x hx => f5 x (Sf.ch C x hx).1))
end Own
section OwnArr
variable {w : Bool} {p : Program} {l : Launch} {e : Env} {R : Room} {s : State} {m : MethodId} {args : Array Value} {below : List Frame} {meth : Method} {c : Code} {T : State} {cells slots n0 mx : Nat} {Z : State} {a0 : Array Value} {h : Heap} {bytes : ByteArray} {ret : Option FieldType} {own nm : String} {EL : List (String × Nat)} {sf : List Addr} {Q : Outcome → State → Prop} {pc q : Nat} {Ls : Array Slot} {st rest : List Value}
theorem own_inb {c : Cell} {z j : Int32} {i : Nat} (S : c.slots.size = z.toNatClampNeg) (h0 : ¬ j < 0) (hj : j.toNatClampNeg = i) (hi : i < z.toNatClampNeg) : ¬ (j < 0 ∨ c.slots.size ≤ j.toNatClampNeg) := by
  rw [S, hj]
  exact fun y => y.elim h0 fun y => absurd hi (Nat.not_lt.mpr y)
theorem own_newRv (A : own_At w p l e R s m args below meth c bytes ret own nm mx Z n0 a0 EL sf T h cells slots) {i : Nat} {C : String} (w1 : (Jvm.Cond.classLink own i C).before a0 Z = true) (w2 : (Jvm.Cond.arrayOver (.object C)).before a0 Z = true) (hd : decode bytes pc = .ok (.anewarray i, 3)) {n : Int32} (cap : Nat) (hn : ¬ n < 0) (hcap : n.toNatClampNeg = cap) (hb : cap * 8 ≤ 536870912) (hc : cells + 1 ≤ R.cells) (hl : slots + cap ≤ R.slots)
    (k : ∀ T' h' a cA, h.size = a → n0 ≤ a → own_At w p l e R s m args below meth c bytes ret own nm mx Z n0 a0 EL (a :: sf) T' h' (cells + 1) (slots + cap) → Ext h h' → Arv Z h' a cA (.object C) n (List.replicate cap .null) .null → Ovr Z cA C → own_Run p e below Q m T' q Ls (.ref a :: rest)) (hq : pc + 3 = q := by rfl) : own_Run p e below Q m T pc Ls (.int n :: rest) :=
  own_newR A w1 w2 hd cap hn (Nat.le_of_eq hcap) hb hc hl (fun T' h' a cA g1 g2 A' E Ar Ov => k T' h' a cA g1 g2 A' E ((Arv.new Ar hn).pad (pad_rep [] .null cap)) Ov) hq
theorem own_newPv (A : own_At w p l e R s m args below meth c bytes ret own nm mx Z n0 a0 EL sf T h cells slots) {aty : ArrayType} {ty : FieldType} {dv : Value} (hty : newarray.typeOf aty = ty) (hdv : defaultValue ty = dv) (w1 : (Jvm.Cond.arrayClass ty).before a0 Z = true) (hd : decode bytes pc = .ok (.newarray aty, 2)) {n : Int32} (cap : Nat) (hn : ¬ n < 0) (hcap : n.toNatClampNeg = cap) (hb : cap * 8 ≤ 536870912) (hc : cells + 1 ≤ R.cells) (hl : slots + cap ≤ R.slots)
    (k : ∀ T' h' a cA, h.size = a → n0 ≤ a → own_At w p l e R s m args below meth c bytes ret own nm mx Z n0 a0 EL (a :: sf) T' h' (cells + 1) (slots + cap) → Ext h h' → Arv Z h' a cA ty n (List.replicate cap dv) dv → own_Run p e below Q m T' q Ls (.ref a :: rest)) (hq : pc + 2 = q := by rfl) : own_Run p e below Q m T pc Ls (.int n :: rest) := by
  subst hty hdv
  exact own_newP A w1 hd cap hn (Nat.le_of_eq hcap) hb hc hl (fun T' h' a cA g1 g2 A' E Ar => k T' h' a cA g1 g2 A' E ((Arv.new Ar hn).pad (pad_rep [] _ cap))) hq
theorem own_stRv (A : own_At w p l e R s m args below meth c bytes ret own nm mx Z n0 a0 EL sf T h cells slots) {a y : Addr} {cA : ClassId} {ty : FieldType} {C : String} {z j : Int32} {vs : List Value} {dv : Value} (V : Arv Z h a cA ty z vs dv) (Ov : Ovr Z cA C) (I : Ins Z h y C true) (i : Nat) (h0 : ¬ j < 0) (hj : j.toNatClampNeg = i) (hi : i < z.toNatClampNeg) (hi' : i < vs.length) (hty : ty.isReference = true) (hf : fits ty (.ref y) = true) (ha : n0 ≤ a) (hwo : own_Wok Z EL sf h a) (hd : decode bytes pc = .ok (.aastore, 1))
    (k : ∀ T' h' sl, own_At w p l e R s m args below meth c bytes ret own nm mx Z n0 a0 EL sf T' h' cells slots → Wr h h' a sl (.ref y) → Arv Z h' a cA ty z (vs.set i (.ref y)) dv → own_Run p e below Q m T' q Ls rest) (hq : pc + 1 = q := by rfl) : own_Run p e below Q m T pc Ls (.ref y :: .int j :: .ref a :: rest) := by
  obtain ⟨c, Ar, q1, S, q3, H, G⟩ := V
  exact own_stR A Ar (own_inb S h0 hj hi) hty (Sto.ofV Ar q1 Ov I) ha hwo hd (fun T' h' A' W => k T' h' _ A' W (Arv.set Ar q1 S q3 H G hf W i hj hi')) hq
theorem own_aaloadv (A : own_At w p l e R s m args below meth c bytes ret own nm mx Z n0 a0 EL sf T h cells slots) {a : Addr} {cA : ClassId} {ty : FieldType} {z j : Int32} {vs : List Value} {dv v : Value} (V : Arv Z h a cA ty z vs dv) (i : Nat) (h0 : ¬ j < 0) (hj : j.toNatClampNeg = i) (hi : i < z.toNatClampNeg) (hty : ty.isReference = true) (hv : vs.getD i dv = v) (hd : decode bytes pc = .ok (.aaload, 1)) (k : own_Run p e below Q m T q Ls (v :: rest)) (hq : pc + 1 = q := by rfl) : own_Run p e below Q m T pc Ls (.int j :: .ref a :: rest) := by
  obtain ⟨c, Ar, q1, S, q3, H, G⟩ := V
  have b := own_inb S h0 hj hi
  subst hj
  exact own_aaload A Ar hty b (H.at b hv) hd k hq
theorem own_arrlenv (A : own_At w p l e R s m args below meth c bytes ret own nm mx Z n0 a0 EL sf T h cells slots) {a : Addr} {cA : ClassId} {ty : FieldType} {z : Int32} {vs : List Value} {dv : Value} (V : Arv Z h a cA ty z vs dv) (hd : decode bytes pc = .ok (.arraylength, 1)) (k : own_Run p e below Q m T q Ls (.int z :: rest)) (hq : pc + 1 = q := by rfl) : own_Run p e below Q m T pc Ls (.ref a :: rest) := by
  obtain ⟨c, Ar, q1, S, q3, H, G⟩ := V
  refine own_arrlen A Ar hd ?_ hq
  rw [len_of S q3]
  exact k
theorem own_stCv (A : own_At w p l e R s m args below meth c bytes ret own nm mx Z n0 a0 EL sf T h cells slots) {a : Addr} {cA : ClassId} {z j x : Int32} {vs : List Value} {dv : Value} (V : Arv Z h a cA .char z vs dv) (i : Nat) (h0 : ¬ j < 0) (hj : j.toNatClampNeg = i) (hi : i < z.toNatClampNeg) (hi' : i < vs.length) (ha : n0 ≤ a) (hwo : own_Wok Z EL sf h a) (hd : decode bytes pc = .ok (.castore, 1))
    (k : ∀ T' h' sl, own_At w p l e R s m args below meth c bytes ret own nm mx Z n0 a0 EL sf T' h' cells slots → Wr h h' a sl (.int (nar .char x)) → Arv Z h' a cA .char z (vs.set i (.int (nar .char x))) dv → own_Run p e below Q m T' q Ls rest) (hq : pc + 1 = q := by rfl) : own_Run p e below Q m T pc Ls (.int x :: .int j :: .ref a :: rest) := by
  obtain ⟨c, Ar, q1, S, q3, H, G⟩ := V
  exact own_stC A Ar (own_inb S h0 hj hi) ha hwo hd (fun T' h' A' W => k T' h' _ A' W (Arv.set Ar q1 S q3 H G (fits_nar_char x) W i hj hi')) hq
theorem own_stIv (A : own_At w p l e R s m args below meth c bytes ret own nm mx Z n0 a0 EL sf T h cells slots) {a : Addr} {cA : ClassId} {z j x : Int32} {vs : List Value} {dv : Value} (V : Arv Z h a cA .int z vs dv) (i : Nat) (h0 : ¬ j < 0) (hj : j.toNatClampNeg = i) (hi : i < z.toNatClampNeg) (hi' : i < vs.length) (ha : n0 ≤ a) (hwo : own_Wok Z EL sf h a) (hd : decode bytes pc = .ok (.iastore, 1))
    (k : ∀ T' h' sl, own_At w p l e R s m args below meth c bytes ret own nm mx Z n0 a0 EL sf T' h' cells slots → Wr h h' a sl (.int x) → Arv Z h' a cA .int z (vs.set i (.int x)) dv → own_Run p e below Q m T' q Ls rest) (hq : pc + 1 = q := by rfl) : own_Run p e below Q m T pc Ls (.int x :: .int j :: .ref a :: rest) := by
  obtain ⟨c, Ar, q1, S, q3, H, G⟩ := V
  exact own_stI A Ar (own_inb S h0 hj hi) ha hwo hd (fun T' h' A' W => k T' h' _ A' W (Arv.set Ar q1 S q3 H G (rfl) W i hj hi')) hq
theorem own_stBv (A : own_At w p l e R s m args below meth c bytes ret own nm mx Z n0 a0 EL sf T h cells slots) {a : Addr} {cA : ClassId} {z j x : Int32} {vs : List Value} {dv : Value} (V : Arv Z h a cA .byte z vs dv) (i : Nat) (h0 : ¬ j < 0) (hj : j.toNatClampNeg = i) (hi : i < z.toNatClampNeg) (hi' : i < vs.length) (ha : n0 ≤ a) (hwo : own_Wok Z EL sf h a) (hd : decode bytes pc = .ok (.bastore, 1))
    (k : ∀ T' h' sl, own_At w p l e R s m args below meth c bytes ret own nm mx Z n0 a0 EL sf T' h' cells slots → Wr h h' a sl (.int (nar .byte x)) → Arv Z h' a cA .byte z (vs.set i (.int (nar .byte x))) dv → own_Run p e below Q m T' q Ls rest) (hq : pc + 1 = q := by rfl) : own_Run p e below Q m T pc Ls (.int x :: .int j :: .ref a :: rest) := by
  obtain ⟨c, Ar, q1, S, q3, H, G⟩ := V
  exact own_stB A Ar (own_inb S h0 hj hi) ha hwo hd (fun T' h' A' W => k T' h' _ A' W (Arv.set Ar q1 S q3 H G (fits_nar_byte x) W i hj hi')) hq
theorem own_ialoadv (A : own_At w p l e R s m args below meth c bytes ret own nm mx Z n0 a0 EL sf T h cells slots) {a : Addr} {cA : ClassId} {z j : Int32} {vs : List Value} {dv v : Value} (V : Arv Z h a cA .int z vs dv) (i : Nat) (h0 : ¬ j < 0) (hj : j.toNatClampNeg = i) (hi : i < z.toNatClampNeg) (hv : vs.getD i dv = v) (hd : decode bytes pc = .ok (.iaload, 1)) (k : own_Run p e below Q m T q Ls (v :: rest)) (hq : pc + 1 = q := by rfl) : own_Run p e below Q m T pc Ls (.int j :: .ref a :: rest) := by
  obtain ⟨c, Ar, q1, S, q3, H, G⟩ := V
  have b := own_inb S h0 hj hi
  subst hj
  exact own_iaload A Ar b (H.at b hv) hd k hq
theorem own_caloadv (A : own_At w p l e R s m args below meth c bytes ret own nm mx Z n0 a0 EL sf T h cells slots) {a : Addr} {cA : ClassId} {z j : Int32} {vs : List Value} {dv v : Value} (V : Arv Z h a cA .char z vs dv) (i : Nat) (h0 : ¬ j < 0) (hj : j.toNatClampNeg = i) (hi : i < z.toNatClampNeg) (hv : vs.getD i dv = v) (hd : decode bytes pc = .ok (.caload, 1)) (k : own_Run p e below Q m T q Ls (v :: rest)) (hq : pc + 1 = q := by rfl) : own_Run p e below Q m T pc Ls (.int j :: .ref a :: rest) := by
  obtain ⟨c, Ar, q1, S, q3, H, G⟩ := V
  have b := own_inb S h0 hj hi
  subst hj
  exact own_caload A Ar b (H.at b hv) hd k hq
theorem own_baloadv (A : own_At w p l e R s m args below meth c bytes ret own nm mx Z n0 a0 EL sf T h cells slots) {a : Addr} {cA : ClassId} {z j : Int32} {vs : List Value} {dv v : Value} (V : Arv Z h a cA .byte z vs dv) (i : Nat) (h0 : ¬ j < 0) (hj : j.toNatClampNeg = i) (hi : i < z.toNatClampNeg) (hv : vs.getD i dv = v) (hd : decode bytes pc = .ok (.baload, 1)) (k : own_Run p e below Q m T q Ls (v :: rest)) (hq : pc + 1 = q := by rfl) : own_Run p e below Q m T pc Ls (.int j :: .ref a :: rest) := by
  obtain ⟨c, Ar, q1, S, q3, H, G⟩ := V
  have b := own_inb S h0 hj hi
  subst hj
  exact own_baload A Ar b (H.at b hv) hd k hq
theorem own_and3 (x : Int32) : x &&& 3 = 0 ∨ x &&& 3 = 1 ∨ x &&& 3 = 2 ∨ x &&& 3 = 3 := by
  have e := c_mask x 3 2 (by decide) (by decide)
  have e4 : ((2 ^ 2 : Nat) : Int) = 4 := rfl
  rw [e4] at e
  have e0 : (0 : Int32).toInt = 0 := rfl
  have e1 : (1 : Int32).toInt = 1 := rfl
  have e2 : (2 : Int32).toInt = 2 := rfl
  have e3 : (3 : Int32).toInt = 3 := rfl
  simp only [← Int32.toInt_inj]
  omega
end OwnArr
section OwnCase
variable {args : Array Value} {s : State} {t : Term}
theorem own_ord {C n d : String} {k : Int32} {a : Addr} (ev : t.eval args s none [] s = some (.ref a)) (q : (Jvm.Cond.eq (Term.field t C n d) (Term.int k)).value args s none s [] = some true) : Fld s s.heap a C n d (.int k) := by
  obtain ⟨x, y, e1, e2, k1, k2⟩ := cmp_v (Or.inl q)
  obtain rfl : y = .int k := Option.some.inj (e2.symm.trans (Term.int_eval k))
  obtain ⟨z, rfl⟩ : ∃ z, x = .int z := k2
  obtain rfl : z = k := gotT (Cond.eq_ints e1 (Term.int_eval k)) q
  exact Fld.start ((fld_at ev).symm.trans e1)
theorem own_elem {ty : FieldType} {i k : Int32} {a : Addr} {c : Cell} (ev : t.eval args s none [] s = some (.ref a)) (Ar : Arr s s.heap a c ty) (q : (Jvm.Cond.eq (Term.elem t (Term.int i)) (Term.int k)).value args s none s [] = some true) : ¬ (i < 0 ∨ c.slots.size ≤ i.toNatClampNeg) ∧ c.slots[i.toNatClampNeg]? = some (.int k) := by
  obtain ⟨x, y, e1, e2, k1, k2⟩ := cmp_v (Or.inl q)
  obtain rfl : y = .int k := Option.some.inj (e2.symm.trans (Term.int_eval k))
  obtain ⟨z, rfl⟩ : ∃ z, x = .int z := k2
  obtain rfl : z = k := gotT (Cond.eq_ints e1 (Term.int_eval k)) q
  exact elem_in e1 ev (Term.int_eval i) Ar.1
theorem own_staI {C n d : String} {k : Int32} (q : (Jvm.Cond.eq (Term.static C n d) (Term.int k)).value args s none s [] = some true) : (Term.static C n d).eval args s none [] s = some (.int k) := by
  obtain ⟨x, y, e1, e2, k1, k2⟩ := cmp_v (Or.inl q)
  obtain rfl : y = .int k := Option.some.inj (e2.symm.trans (Term.int_eval k))
  obtain ⟨z, rfl⟩ : ∃ z, x = .int z := k2
  obtain rfl : z = k := gotT (Cond.eq_ints e1 (Term.int_eval k)) q
  exact e1
end OwnCase
theorem d2_0 : decode jdk_37_method_2_code 0 = .ok (.aload_n 0, 1) := by decide +kernel
theorem d2_1 : decode jdk_37_method_2_code 1 = .ok (.getfield 7, 3) := by decide +kernel
theorem d2_4 : decode jdk_37_method_2_code 4 = .ok (.ireturn, 1) := by decide +kernel
theorem own_pn0 : plainName "java/lang/Enum" = true := by first | (simp [plainName, overriddenIn]; done) | decide +kernel
set_option maxRecDepth 65536 in
set_option maxHeartbeats 40000000 in
theorem rm_ord (l : Launch) (Z : State) (a0 : Array Value) (hw : ∀ d ∈ tables_1, d.before a0 Z = true) (a : Addr) (k : Int32) (h0 : Heap) (n0 : Nat) (O0 : Old Z n0 h0) (F : Fld Z h0 a "java/lang/Enum" "ordinal" "I" (.int k)) :
    own_Met false l Z n0 [] [] (⟨"java/lang/Enum", "ordinal", "()I"⟩ : MethodName) jdk_37_method_2_code 1 (some .int) [] ({ frames := 0, cells := 0, slots := 0, locals := 0 } : Room) #[(.ref a)] h0 (fun v h => v = some (.int k) ∧ h0 = h) := by
  refine own_enter (a0 := a0) (own := "java/lang/Enum") (nm := "ordinal") (Ls := #[.val (.ref a)]) own_pn0 O0 EW.nil (fun m => by first | (simp [entryFrame, mkF, argsToLocals, Value.category, maxLocals]; done) | rfl) ?_
  intro p e s m args below meth cde T0 Q hQ A0
  show own_Run p e below Q m T0 0 #[.val (.ref a)] []
  refine own_aloadN (q := 1) (v := (.ref a)) A0 d2_0 rfl rfl ?_
  refine own_getF (host := "") (q := 4) A0 (Or.inl (hw _ (List.mem_of_getElem? (i := 37) rfl))) Via.refl F d2_1 ?_
  intro T1 A2
  exact own_retI A2 hQ d2_4 ⟨rfl, rfl⟩
theorem own_pd0 : parseMethodDescriptor "()I" = some ⟨[], some .int⟩ := by decide +kernel
theorem own_pd1 : parseMethodDescriptor "(Lcom/example/covenantry/covenantry/check/Outcome;)Lcom/example/covenantry/covenantry/Outcome;" = some ⟨[(.object "com/example/covenantry/covenantry/check/Outcome")], some (.object "com/example/covenantry/covenantry/Outcome")⟩ := by decide +kernel
theorem d1_0 : decode prog_22_method_4_code 0 = .ok (.getstatic 35, 3) := by decide +kernel
theorem d1_3 : decode prog_22_method_4_code 3 = .ok (.aload_n 0, 1) := by decide +kernel
theorem d1_4 : decode prog_22_method_4_code 4 = .ok (.invokevirtual 41, 3) := by decide +kernel
theorem d1_7 : decode prog_22_method_4_code 7 = .ok (.iaload, 1) := by decide +kernel
theorem d1_8 : decode prog_22_method_4_code 8 = .ok (.tableswitch 32 1 4 #[42, 48, 54, 60], 32) := by decide +kernel
theorem d1_40 : decode prog_22_method_4_code 40 = .ok (.new 47, 3) := by decide +kernel
theorem d1_43 : decode prog_22_method_4_code 43 = .ok (.dup, 1) := by decide +kernel
theorem d1_44 : decode prog_22_method_4_code 44 = .ok (.aconst_null, 1) := by decide +kernel
theorem d1_45 : decode prog_22_method_4_code 45 = .ok (.aconst_null, 1) := by decide +kernel
theorem d1_46 : decode prog_22_method_4_code 46 = .ok (.invokespecial 49, 3) := by decide +kernel
theorem d1_49 : decode prog_22_method_4_code 49 = .ok (.athrow, 1) := by decide +kernel
theorem d1_50 : decode prog_22_method_4_code 50 = .ok (.getstatic 3, 3) := by decide +kernel
theorem d1_53 : decode prog_22_method_4_code 53 = .ok (.goto 18, 3) := by decide +kernel
theorem d1_56 : decode prog_22_method_4_code 56 = .ok (.getstatic 7, 3) := by decide +kernel
theorem d1_59 : decode prog_22_method_4_code 59 = .ok (.goto 12, 3) := by decide +kernel
theorem d1_62 : decode prog_22_method_4_code 62 = .ok (.getstatic 10, 3) := by decide +kernel
theorem d1_65 : decode prog_22_method_4_code 65 = .ok (.goto 6, 3) := by decide +kernel
theorem d1_68 : decode prog_22_method_4_code 68 = .ok (.getstatic 13, 3) := by decide +kernel
theorem d1_71 : decode prog_22_method_4_code 71 = .ok (.areturn, 1) := by decide +kernel
theorem own_pn1 : plainName "com/example/covenantry/covenantry/Outcome" = true := by first | (simp [plainName, overriddenIn]; done) | decide +kernel
set_option maxRecDepth 65536 in
set_option maxHeartbeats 40000000 in
theorem rm_of (l : Launch) (Z : State) (a0 : Array Value) (hw : ∀ d ∈ tables_1, d.before a0 Z = true) (oMET oNOT_MET oNOT_TESTED oNOT_ENOUGH_FIGURES sw a r : Addr) (cl : Cell) (k j : Int32) (h0 : Heap) (n0 : Nat) (O0 : Old Z n0 h0) (SoMET : Sta Z Z.heap "com/example/covenantry/covenantry/Outcome" "MET" "Lcom/example/covenantry/covenantry/Outcome;" (.ref oMET)) (SoNOT_MET : Sta Z Z.heap "com/example/covenantry/covenantry/Outcome" "NOT_MET" "Lcom/example/covenantry/covenantry/Outcome;" (.ref oNOT_MET)) (SoNOT_TESTED : Sta Z Z.heap "com/example/covenantry/covenantry/Outcome" "NOT_TESTED" "Lcom/example/covenantry/covenantry/Outcome;" (.ref oNOT_TESTED)) (SoNOT_ENOUGH_FIGURES : Sta Z Z.heap "com/example/covenantry/covenantry/Outcome" "NOT_ENOUGH_FIGURES" "Lcom/example/covenantry/covenantry/Outcome;" (.ref oNOT_ENOUGH_FIGURES)) (Ssw : Sta Z Z.heap "com/example/covenantry/covenantry/Outcome$1" "$SwitchMap$com$example$covenantry$covenantry$check$Outcome" "[I" (.ref sw)) (Ar : Arr Z Z.heap sw cl .int) (E : Exa Z h0 a "com/example/covenantry/covenantry/check/Outcome") (F : Fld Z h0 a "java/lang/Enum" "ordinal" "I" (.int k)) (hin : ¬ (k < 0 ∨ cl.slots.size ≤ k.toNatClampNeg)) (hat : cl.slots[k.toNatClampNeg]? = some (.int j)) (hj : (j = 1 ∧ r = oMET) ∨ (j = 2 ∧ r = oNOT_MET) ∨ (j = 3 ∧ r = oNOT_TESTED) ∨ (j = 4 ∧ r = oNOT_ENOUGH_FIGURES)) :
    own_Met false l Z n0 [] [] (⟨"com/example/covenantry/covenantry/Outcome", "of", "(Lcom/example/covenantry/covenantry/check/Outcome;)Lcom/example/covenantry/covenantry/Outcome;"⟩ : MethodName) prog_22_method_4_code 1 (some (.object "com/example/covenantry/covenantry/Outcome")) [] ({ frames := 1, cells := 0, slots := 0, locals := 13 } : Room) #[(.ref a)] h0 (fun v h => v = some (.ref r) ∧ h0 = h) := by
  refine own_enter (a0 := a0) (own := "com/example/covenantry/covenantry/Outcome") (nm := "of") (Ls := #[.val (.ref a)]) own_pn1 O0 EW.nil (fun m => by first | (simp [entryFrame, mkF, argsToLocals, Value.category, maxLocals]; done) | rfl) ?_
  intro p e s m args below meth cde T0 Q hQ A0
  show own_Run p e below Q m T0 0 #[.val (.ref a)] []
  refine own_getS (q := 3) A0 (hw _ (List.mem_of_getElem? (i := 27) rfl)) Via.refl Ssw d1_0 ?_
  intro T1 A2
  refine own_aloadN (q := 4) (v := (.ref a)) A2 d1_3 rfl rfl ?_
  refine own_virtualUp (q := 7) (W := 1) (argsL := []) (rest := [(.ref sw)]) A2 (hw _ (List.mem_of_getElem? (i := 30) rfl)) (hw _ (List.mem_of_getElem? (i := 31) rfl)) (hw _ (List.mem_of_getElem? (i := 32) rfl)) (by decide) (hw _ (List.mem_of_getElem? (i := 34) rfl)) (hw _ (List.mem_of_getElem? (i := 33) rfl)) (own_pay (rm_ord l Z a0 hw a k h0 n0 O0 F) (hw _ (List.mem_of_getElem? (i := 36) rfl)) (hw _ (List.mem_of_getElem? (i := 35) rfl)) (by decide) (by decide)) (fun _ z => nomatch z) (Nat.le_of_eq rfl) E own_pd0 rfl rfl rfl d1_4 (by decide) (by decide) ?_
  rintro v3 T4 h5 A6 ⟨rfl, rfl⟩
  show own_Run p e below Q m T4 7 #[.val (.ref a)] [(.int k), (.ref sw)]
  refine own_iaload (q := 8) (v := (.int j)) A6 (Ar.ext A6.old.2) hin hat d1_7 ?_
  rcases hj with ⟨rfl, rfl⟩ | ⟨rfl, rfl⟩ | ⟨rfl, rfl⟩ | ⟨rfl, rfl⟩
  · refine own_tswIn (q := 50) (o := 42) A6 d1_8 (by decide) (by decide) ?_
    refine own_getS (q := 53) A6 (hw _ (List.mem_of_getElem? (i := 39) rfl)) Via.refl SoMET d1_50 ?_
    intro T7 A8
    refine own_goto (q := 71) A8 d1_53 ?_
    exact own_retA A8 hQ rfl rfl rfl d1_71 ⟨rfl, rfl⟩
  · refine own_tswIn (q := 56) (o := 48) A6 d1_8 (by decide) (by decide) ?_
    refine own_getS (q := 59) A6 (hw _ (List.mem_of_getElem? (i := 42) rfl)) Via.refl SoNOT_MET d1_56 ?_
    intro T9 A10
    refine own_goto (q := 71) A10 d1_59 ?_
    exact own_retA A10 hQ rfl rfl rfl d1_71 ⟨rfl, rfl⟩
  · refine own_tswIn (q := 62) (o := 54) A6 d1_8 (by decide) (by decide) ?_
    refine own_getS (q := 65) A6 (hw _ (List.mem_of_getElem? (i := 41) rfl)) Via.refl SoNOT_TESTED d1_62 ?_
    intro T11 A12
    refine own_goto (q := 71) A12 d1_65 ?_
    exact own_retA A12 hQ rfl rfl rfl d1_71 ⟨rfl, rfl⟩
  · refine own_tswIn (q := 68) (o := 60) A6 d1_8 (by decide) (by decide) ?_
    refine own_getS (q := 71) A6 (hw _ (List.mem_of_getElem? (i := 40) rfl)) Via.refl SoNOT_ENOUGH_FIGURES d1_68 ?_
    intro T13 A14
    exact own_retA A14 hQ rfl rfl rfl d1_71 ⟨rfl, rfl⟩
theorem own_pn2 : plainName "com/example/covenantry/covenantry/OutcomeOfPinLaw" = true := by first | (simp [plainName, overriddenIn]; done) | decide +kernel
set_option maxRecDepth 65536 in
set_option maxHeartbeats 40000000 in
theorem rm_law (l : Launch) (Z : State) (a0 : Array Value) (hw : ∀ d ∈ tables_1, d.before a0 Z = true) (ws : List Jvm.Cond) (oMET oNOT_MET oNOT_TESTED oNOT_ENOUGH_FIGURES cMET cNOT_MET cNOT_TESTED cNOT_ENOUGH_FIGURES sw : Addr) (cl : Cell) (i0 : Int32) (h0 : Heap) (n0 : Nat) (O0 : Old Z n0 h0) (SoMET : Sta Z Z.heap "com/example/covenantry/covenantry/Outcome" "MET" "Lcom/example/covenantry/covenantry/Outcome;" (.ref oMET)) (SoNOT_MET : Sta Z Z.heap "com/example/covenantry/covenantry/Outcome" "NOT_MET" "Lcom/example/covenantry/covenantry/Outcome;" (.ref oNOT_MET)) (SoNOT_TESTED : Sta Z Z.heap "com/example/covenantry/covenantry/Outcome" "NOT_TESTED" "Lcom/example/covenantry/covenantry/Outcome;" (.ref oNOT_TESTED)) (SoNOT_ENOUGH_FIGURES : Sta Z Z.heap "com/example/covenantry/covenantry/Outcome" "NOT_ENOUGH_FIGURES" "Lcom/example/covenantry/covenantry/Outcome;" (.ref oNOT_ENOUGH_FIGURES)) (ScMET : Sta Z Z.heap "com/example/covenantry/covenantry/check/Outcome" "MET" "Lcom/example/covenantry/covenantry/check/Outcome;" (.ref cMET)) (EcMET : Exa Z Z.heap cMET "com/example/covenantry/covenantry/check/Outcome") (EoMET : Exa Z Z.heap oMET "com/example/covenantry/covenantry/Outcome") (FcMET : Fld Z Z.heap cMET "java/lang/Enum" "ordinal" "I" (.int 0)) (ScNOT_MET : Sta Z Z.heap "com/example/covenantry/covenantry/check/Outcome" "NOT_MET" "Lcom/example/covenantry/covenantry/check/Outcome;" (.ref cNOT_MET)) (EcNOT_MET : Exa Z Z.heap cNOT_MET "com/example/covenantry/covenantry/check/Outcome") (EoNOT_MET : Exa Z Z.heap oNOT_MET "com/example/covenantry/covenantry/Outcome") (FcNOT_MET : Fld Z Z.heap cNOT_MET "java/lang/Enum" "ordinal" "I" (.int 1)) (ScNOT_TESTED : Sta Z Z.heap "com/example/covenantry/covenantry/check/Outcome" "NOT_TESTED" "Lcom/example/covenantry/covenantry/check/Outcome;" (.ref cNOT_TESTED)) (EcNOT_TESTED : Exa Z Z.heap cNOT_TESTED "com/example/covenantry/covenantry/check/Outcome") (EoNOT_TESTED : Exa Z Z.heap oNOT_TESTED "com/example/covenantry/covenantry/Outcome") (FcNOT_TESTED : Fld Z Z.heap cNOT_TESTED "java/lang/Enum" "ordinal" "I" (.int 2)) (ScNOT_ENOUGH_FIGURES : Sta Z Z.heap "com/example/covenantry/covenantry/check/Outcome" "NOT_ENOUGH_FIGURES" "Lcom/example/covenantry/covenantry/check/Outcome;" (.ref cNOT_ENOUGH_FIGURES)) (EcNOT_ENOUGH_FIGURES : Exa Z Z.heap cNOT_ENOUGH_FIGURES "com/example/covenantry/covenantry/check/Outcome") (EoNOT_ENOUGH_FIGURES : Exa Z Z.heap oNOT_ENOUGH_FIGURES "com/example/covenantry/covenantry/Outcome") (FcNOT_ENOUGH_FIGURES : Fld Z Z.heap cNOT_ENOUGH_FIGURES "java/lang/Enum" "ordinal" "I" (.int 3)) (Ssw : Sta Z Z.heap "com/example/covenantry/covenantry/Outcome$1" "$SwitchMap$com$example$covenantry$covenantry$check$Outcome" "[I" (.ref sw)) (Ar : Arr Z Z.heap sw cl .int) (hi0 : ¬ ((0 : Int32) < 0 ∨ cl.slots.size ≤ (0 : Int32).toNatClampNeg)) (ha0 : cl.slots[(0 : Int32).toNatClampNeg]? = some (.int 1)) (hi1 : ¬ ((1 : Int32) < 0 ∨ cl.slots.size ≤ (1 : Int32).toNatClampNeg)) (ha1 : cl.slots[(1 : Int32).toNatClampNeg]? = some (.int 2)) (hi2 : ¬ ((2 : Int32) < 0 ∨ cl.slots.size ≤ (2 : Int32).toNatClampNeg)) (ha2 : cl.slots[(2 : Int32).toNatClampNeg]? = some (.int 3)) (hi3 : ¬ ((3 : Int32) < 0 ∨ cl.slots.size ≤ (3 : Int32).toNatClampNeg)) (ha3 : cl.slots[(3 : Int32).toNatClampNeg]? = some (.int 4)) :
    own_Met false l Z n0 [] [] x code maxLocals ret ws room_1 #[(.int i0)] h0 (fun v _ => v = some (.int 1)) := by
  refine own_enter (a0 := a0) (own := "com/example/covenantry/covenantry/OutcomeOfPinLaw") (nm := "law") (Ls := #[.val (.int i0), .unset, .unset, .unset]) own_pn2 O0 EW.nil (fun m => by first | (simp [entryFrame, mkF, argsToLocals, Value.category, maxLocals]; done) | rfl) ?_
  intro p e s m args below meth cde T0 Q hQ A0
  show own_Run p e below Q m T0 0 #[.val (.int i0), .unset, .unset, .unset] []
  refine own_iconst (q := 1) A0 (4 : Int32) at_0 rfl ?_
  refine own_newRv (q := 4) A0 (hw _ (List.mem_of_getElem? (i := 0) rfl)) (hw _ (List.mem_of_getElem? (i := 1) rfl)) at_1 4 (by decide) (by decide) (by decide) (by decide) (by decide) ?_
  intro T1 h2 a3 k4 g5 g6 A7 X8 V9 Y10
  refine own_dup (q := 5) A7 at_4 rfl ?_
  refine own_iconst (q := 6) A7 (0 : Int32) at_5 rfl ?_
  refine own_getS (q := 9) A7 (hw _ (List.mem_of_getElem? (i := 2) rfl)) Via.refl ScMET at_6 ?_
  intro T11 A12
  refine own_stRv (q := 10) A12 V9 Y10 (Ins.self (Exa.ext A12.old.2 EcMET)) 0 (by decide) (by decide) (by decide) (Nat.le_of_ble_eq_true rfl) rfl rfl g6 (Or.inr (Or.inl rfl)) at_9 ?_
  intro T13 h14 sl15 A16 W17 V18
  have V19 : Arv Z h14 a3 k4 (.object "com/example/covenantry/covenantry/check/Outcome") 4 [(.ref cMET), .null, .null, .null] .null := V18
  refine own_dup (q := 11) A16 at_10 rfl ?_
  refine own_iconst (q := 12) A16 (1 : Int32) at_11 rfl ?_
  refine own_getS (q := 15) A16 (hw _ (List.mem_of_getElem? (i := 6) rfl)) Via.refl ScNOT_MET at_12 ?_
  intro T20 A21
  refine own_stRv (q := 16) A21 V19 Y10 (Ins.self (Exa.ext A21.old.2 EcNOT_MET)) 1 (by decide) (by decide) (by decide) (Nat.le_of_ble_eq_true rfl) rfl rfl g6 (Or.inr (Or.inl rfl)) at_15 ?_
  intro T22 h23 sl24 A25 W26 V27
  have V28 : Arv Z h23 a3 k4 (.object "com/example/covenantry/covenantry/check/Outcome") 4 [(.ref cMET), (.ref cNOT_MET), .null, .null] .null := V27
  refine own_dup (q := 17) A25 at_16 rfl ?_
  refine own_iconst (q := 18) A25 (2 : Int32) at_17 rfl ?_
  refine own_getS (q := 21) A25 (hw _ (List.mem_of_getElem? (i := 8) rfl)) Via.refl ScNOT_TESTED at_18 ?_
  intro T29 A30
  refine own_stRv (q := 22) A30 V28 Y10 (Ins.self (Exa.ext A30.old.2 EcNOT_TESTED)) 2 (by decide) (by decide) (by decide) (Nat.le_of_ble_eq_true rfl) rfl rfl g6 (Or.inr (Or.inl rfl)) at_21 ?_
  intro T31 h32 sl33 A34 W35 V36
  have V37 : Arv Z h32 a3 k4 (.object "com/example/covenantry/covenantry/check/Outcome") 4 [(.ref cMET), (.ref cNOT_MET), (.ref cNOT_TESTED), .null] .null := V36
  refine own_dup (q := 23) A34 at_22 rfl ?_
  refine own_iconst (q := 24) A34 (3 : Int32) at_23 rfl ?_
  refine own_getS (q := 27) A34 (hw _ (List.mem_of_getElem? (i := 10) rfl)) Via.refl ScNOT_ENOUGH_FIGURES at_24 ?_
  intro T38 A39
  refine own_stRv (q := 28) A39 V37 Y10 (Ins.self (Exa.ext A39.old.2 EcNOT_ENOUGH_FIGURES)) 3 (by decide) (by decide) (by decide) (Nat.le_of_ble_eq_true rfl) rfl rfl g6 (Or.inr (Or.inl rfl)) at_27 ?_
  intro T40 h41 sl42 A43 W44 V45
  have V46 : Arv Z h41 a3 k4 (.object "com/example/covenantry/covenantry/check/Outcome") 4 [(.ref cMET), (.ref cNOT_MET), (.ref cNOT_TESTED), (.ref cNOT_ENOUGH_FIGURES)] .null := V45
  refine own_astoreN (q := 29) (L' := #[.val (.int i0), .val (.ref a3), .unset, .unset]) A43 at_28 rfl rfl ?_
  refine own_iconst (q := 30) A43 (4 : Int32) at_29 rfl ?_
  refine own_newRv (q := 33) A43 (hw _ (List.mem_of_getElem? (i := 12) rfl)) (hw _ (List.mem_of_getElem? (i := 13) rfl)) at_30 4 (by decide) (by decide) (by decide) (by decide) (by decide) ?_
  intro T47 h48 a49 k50 g51 g52 A53 X54 V55 Y56
  have V57 := V46.ext X54
  refine own_dup (q := 34) A53 at_33 rfl ?_
  refine own_iconst (q := 35) A53 (0 : Int32) at_34 rfl ?_
  refine own_getS (q := 38) A53 (hw _ (List.mem_of_getElem? (i := 14) rfl)) Via.refl SoMET at_35 ?_
  intro T58 A59
  refine own_stRv (q := 39) A59 V55 Y56 (Ins.self (Exa.ext A59.old.2 EoMET)) 0 (by decide) (by decide) (by decide) (Nat.le_of_ble_eq_true rfl) rfl rfl g52 (Or.inr (Or.inl rfl)) at_38 ?_
  intro T60 h61 sl62 A63 W64 V65
  have V66 : Arv Z h61 a49 k50 (.object "com/example/covenantry/covenantry/Outcome") 4 [(.ref oMET), .null, .null, .null] .null := V65
  have V67 := V57.other W64 (Nat.ne_of_lt (Nat.lt_of_lt_of_le V46.lt (Nat.le_of_eq g51)))
  refine own_dup (q := 40) A63 at_39 rfl ?_
  refine own_iconst (q := 41) A63 (1 : Int32) at_40 rfl ?_
  refine own_getS (q := 44) A63 (hw _ (List.mem_of_getElem? (i := 18) rfl)) Via.refl SoNOT_MET at_41 ?_
  intro T68 A69
  refine own_stRv (q := 45) A69 V66 Y56 (Ins.self (Exa.ext A69.old.2 EoNOT_MET)) 1 (by decide) (by decide) (by decide) (Nat.le_of_ble_eq_true rfl) rfl rfl g52 (Or.inr (Or.inl rfl)) at_44 ?_
  intro T70 h71 sl72 A73 W74 V75
  have V76 : Arv Z h71 a49 k50 (.object "com/example/covenantry/covenantry/Outcome") 4 [(.ref oMET), (.ref oNOT_MET), .null, .null] .null := V75
  have V77 := V67.other W74 (Nat.ne_of_lt (Nat.lt_of_lt_of_le V46.lt (Nat.le_of_eq g51)))
  refine own_dup (q := 46) A73 at_45 rfl ?_
  refine own_iconst (q := 47) A73 (2 : Int32) at_46 rfl ?_
  refine own_getS (q := 50) A73 (hw _ (List.mem_of_getElem? (i := 20) rfl)) Via.refl SoNOT_TESTED at_47 ?_
  intro T78 A79
  refine own_stRv (q := 51) A79 V76 Y56 (Ins.self (Exa.ext A79.old.2 EoNOT_TESTED)) 2 (by decide) (by decide) (by decide) (Nat.le_of_ble_eq_true rfl) rfl rfl g52 (Or.inr (Or.inl rfl)) at_50 ?_
  intro T80 h81 sl82 A83 W84 V85
  have V86 : Arv Z h81 a49 k50 (.object "com/example/covenantry/covenantry/Outcome") 4 [(.ref oMET), (.ref oNOT_MET), (.ref oNOT_TESTED), .null] .null := V85
  have V87 := V77.other W84 (Nat.ne_of_lt (Nat.lt_of_lt_of_le V46.lt (Nat.le_of_eq g51)))
  refine own_dup (q := 52) A83 at_51 rfl ?_
  refine own_iconst (q := 53) A83 (3 : Int32) at_52 rfl ?_
  refine own_getS (q := 56) A83 (hw _ (List.mem_of_getElem? (i := 22) rfl)) Via.refl SoNOT_ENOUGH_FIGURES at_53 ?_
  intro T88 A89
  refine own_stRv (q := 57) A89 V86 Y56 (Ins.self (Exa.ext A89.old.2 EoNOT_ENOUGH_FIGURES)) 3 (by decide) (by decide) (by decide) (Nat.le_of_ble_eq_true rfl) rfl rfl g52 (Or.inr (Or.inl rfl)) at_56 ?_
  intro T90 h91 sl92 A93 W94 V95
  have V96 : Arv Z h91 a49 k50 (.object "com/example/covenantry/covenantry/Outcome") 4 [(.ref oMET), (.ref oNOT_MET), (.ref oNOT_TESTED), (.ref oNOT_ENOUGH_FIGURES)] .null := V95
  have V97 := V87.other W94 (Nat.ne_of_lt (Nat.lt_of_lt_of_le V46.lt (Nat.le_of_eq g51)))
  refine own_astoreN (q := 58) (L' := #[.val (.int i0), .val (.ref a3), .val (.ref a49), .unset]) A93 at_57 rfl rfl ?_
  refine own_iloadN (q := 59) (v := i0) A93 at_58 rfl ?_
  refine own_iconst (q := 60) A93 (3 : Int32) at_59 rfl ?_
  refine own_iand (q := 61) A93 at_60 ?_
  refine own_istoreN (q := 62) (L' := #[.val (.int i0), .val (.ref a3), .val (.ref a49), .val (.int (i0 &&& (3 : Int32)))]) A93 at_61 rfl ?_
  rcases own_and3 i0 with e3 | e3 | e3 | e3
  · rw [e3]
    refine own_aloadN (q := 63) (v := (.ref a3)) A93 at_62 rfl rfl ?_
    refine own_iloadN (q := 64) (v := (0 : Int32)) A93 at_63 rfl ?_
    refine own_aaloadv (q := 65) (v := (.ref cMET)) A93 V97 0 (by decide) (by decide) (by decide) rfl rfl at_64 ?_
    refine own_static (q := 68) (W := 0) (argsL := [(.ref cMET)]) (rest := []) A93 (hw _ (List.mem_of_getElem? (i := 24) rfl)) (hw _ (List.mem_of_getElem? (i := 25) rfl)) (hw _ (List.mem_of_getElem? (i := 15) rfl)) (hw _ (List.mem_of_getElem? (i := 26) rfl)) (by decide) (own_pay (rm_of l Z a0 hw oMET oNOT_MET oNOT_TESTED oNOT_ENOUGH_FIGURES sw cMET oMET cl 0 1 h91 n0 A93.old SoMET SoNOT_MET SoNOT_TESTED SoNOT_ENOUGH_FIGURES Ssw Ar (Exa.ext A93.old.2 EcMET) (Fld.ext A93.old.2 FcMET) hi0 ha0 (by simp)) (hw _ (List.mem_of_getElem? (i := 26) rfl)) (hw _ (List.mem_of_getElem? (i := 15) rfl)) (by decide) (by decide)) (fun _ z => nomatch z) (Nat.le_of_eq rfl) own_pd1 rfl rfl rfl at_65 (by decide) (by decide) ?_
    rintro v98 T99 h100 A101 ⟨rfl, rfl⟩
    show own_Run p e below Q m T99 68 #[.val (.int i0), .val (.ref a3), .val (.ref a49), .val (.int (0 : Int32))] [(.ref oMET)]
    refine own_aloadN (q := 69) (v := (.ref a49)) A101 at_68 rfl rfl ?_
    refine own_iloadN (q := 70) (v := (0 : Int32)) A101 at_69 rfl ?_
    refine own_aaloadv (q := 71) (v := (.ref oMET)) A101 V96 0 (by decide) (by decide) (by decide) rfl rfl at_70 ?_
    refine own_acmpF (q := 74) A101 at_71 rfl rfl (XT.aa_ne_f rfl) ?_
    refine own_iconst (q := 75) A101 (1 : Int32) at_74 rfl ?_
    refine own_goto (q := 79) A101 at_75 ?_
    exact own_retN A101 hQ (t := .boolean) (by simp) at_79 rfl
  · rw [e3]
    refine own_aloadN (q := 63) (v := (.ref a3)) A93 at_62 rfl rfl ?_
    refine own_iloadN (q := 64) (v := (1 : Int32)) A93 at_63 rfl ?_
    refine own_aaloadv (q := 65) (v := (.ref cNOT_MET)) A93 V97 1 (by decide) (by decide) (by decide) rfl rfl at_64 ?_
    refine own_static (q := 68) (W := 0) (argsL := [(.ref cNOT_MET)]) (rest := []) A93 (hw _ (List.mem_of_getElem? (i := 24) rfl)) (hw _ (List.mem_of_getElem? (i := 25) rfl)) (hw _ (List.mem_of_getElem? (i := 15) rfl)) (hw _ (List.mem_of_getElem? (i := 26) rfl)) (by decide) (own_pay (rm_of l Z a0 hw oMET oNOT_MET oNOT_TESTED oNOT_ENOUGH_FIGURES sw cNOT_MET oNOT_MET cl 1 2 h91 n0 A93.old SoMET SoNOT_MET SoNOT_TESTED SoNOT_ENOUGH_FIGURES Ssw Ar (Exa.ext A93.old.2 EcNOT_MET) (Fld.ext A93.old.2 FcNOT_MET) hi1 ha1 (by simp)) (hw _ (List.mem_of_getElem? (i := 26) rfl)) (hw _ (List.mem_of_getElem? (i := 15) rfl)) (by decide) (by decide)) (fun _ z => nomatch z) (Nat.le_of_eq rfl) own_pd1 rfl rfl rfl at_65 (by decide) (by decide) ?_
    rintro v102 T103 h104 A105 ⟨rfl, rfl⟩
    show own_Run p e below Q m T103 68 #[.val (.int i0), .val (.ref a3), .val (.ref a49), .val (.int (1 : Int32))] [(.ref oNOT_MET)]
    refine own_aloadN (q := 69) (v := (.ref a49)) A105 at_68 rfl rfl ?_
    refine own_iloadN (q := 70) (v := (1 : Int32)) A105 at_69 rfl ?_
    refine own_aaloadv (q := 71) (v := (.ref oNOT_MET)) A105 V96 1 (by decide) (by decide) (by decide) rfl rfl at_70 ?_
    refine own_acmpF (q := 74) A105 at_71 rfl rfl (XT.aa_ne_f rfl) ?_
    refine own_iconst (q := 75) A105 (1 : Int32) at_74 rfl ?_
    refine own_goto (q := 79) A105 at_75 ?_
    exact own_retN A105 hQ (t := .boolean) (by simp) at_79 rfl
  · rw [e3]
    refine own_aloadN (q := 63) (v := (.ref a3)) A93 at_62 rfl rfl ?_
    refine own_iloadN (q := 64) (v := (2 : Int32)) A93 at_63 rfl ?_
    refine own_aaloadv (q := 65) (v := (.ref cNOT_TESTED)) A93 V97 2 (by decide) (by decide) (by decide) rfl rfl at_64 ?_
    refine own_static (q := 68) (W := 0) (argsL := [(.ref cNOT_TESTED)]) (rest := []) A93 (hw _ (List.mem_of_getElem? (i := 24) rfl)) (hw _ (List.mem_of_getElem? (i := 25) rfl)) (hw _ (List.mem_of_getElem? (i := 15) rfl)) (hw _ (List.mem_of_getElem? (i := 26) rfl)) (by decide) (own_pay (rm_of l Z a0 hw oMET oNOT_MET oNOT_TESTED oNOT_ENOUGH_FIGURES sw cNOT_TESTED oNOT_TESTED cl 2 3 h91 n0 A93.old SoMET SoNOT_MET SoNOT_TESTED SoNOT_ENOUGH_FIGURES Ssw Ar (Exa.ext A93.old.2 EcNOT_TESTED) (Fld.ext A93.old.2 FcNOT_TESTED) hi2 ha2 (by simp)) (hw _ (List.mem_of_getElem? (i := 26) rfl)) (hw _ (List.mem_of_getElem? (i := 15) rfl)) (by decide) (by decide)) (fun _ z => nomatch z) (Nat.le_of_eq rfl) own_pd1 rfl rfl rfl at_65 (by decide) (by decide) ?_
    rintro v106 T107 h108 A109 ⟨rfl, rfl⟩
    show own_Run p e below Q m T107 68 #[.val (.int i0), .val (.ref a3), .val (.ref a49), .val (.int (2 : Int32))] [(.ref oNOT_TESTED)]
    refine own_aloadN (q := 69) (v := (.ref a49)) A109 at_68 rfl rfl ?_
    refine own_iloadN (q := 70) (v := (2 : Int32)) A109 at_69 rfl ?_
    refine own_aaloadv (q := 71) (v := (.ref oNOT_TESTED)) A109 V96 2 (by decide) (by decide) (by decide) rfl rfl at_70 ?_
    refine own_acmpF (q := 74) A109 at_71 rfl rfl (XT.aa_ne_f rfl) ?_
    refine own_iconst (q := 75) A109 (1 : Int32) at_74 rfl ?_
    refine own_goto (q := 79) A109 at_75 ?_
    exact own_retN A109 hQ (t := .boolean) (by simp) at_79 rfl
  · rw [e3]
    refine own_aloadN (q := 63) (v := (.ref a3)) A93 at_62 rfl rfl ?_
    refine own_iloadN (q := 64) (v := (3 : Int32)) A93 at_63 rfl ?_
    refine own_aaloadv (q := 65) (v := (.ref cNOT_ENOUGH_FIGURES)) A93 V97 3 (by decide) (by decide) (by decide) rfl rfl at_64 ?_
    refine own_static (q := 68) (W := 0) (argsL := [(.ref cNOT_ENOUGH_FIGURES)]) (rest := []) A93 (hw _ (List.mem_of_getElem? (i := 24) rfl)) (hw _ (List.mem_of_getElem? (i := 25) rfl)) (hw _ (List.mem_of_getElem? (i := 15) rfl)) (hw _ (List.mem_of_getElem? (i := 26) rfl)) (by decide) (own_pay (rm_of l Z a0 hw oMET oNOT_MET oNOT_TESTED oNOT_ENOUGH_FIGURES sw cNOT_ENOUGH_FIGURES oNOT_ENOUGH_FIGURES cl 3 4 h91 n0 A93.old SoMET SoNOT_MET SoNOT_TESTED SoNOT_ENOUGH_FIGURES Ssw Ar (Exa.ext A93.old.2 EcNOT_ENOUGH_FIGURES) (Fld.ext A93.old.2 FcNOT_ENOUGH_FIGURES) hi3 ha3 (by simp)) (hw _ (List.mem_of_getElem? (i := 26) rfl)) (hw _ (List.mem_of_getElem? (i := 15) rfl)) (by decide) (by decide)) (fun _ z => nomatch z) (Nat.le_of_eq rfl) own_pd1 rfl rfl rfl at_65 (by decide) (by decide) ?_
    rintro v110 T111 h112 A113 ⟨rfl, rfl⟩
    show own_Run p e below Q m T111 68 #[.val (.int i0), .val (.ref a3), .val (.ref a49), .val (.int (3 : Int32))] [(.ref oNOT_ENOUGH_FIGURES)]
    refine own_aloadN (q := 69) (v := (.ref a49)) A113 at_68 rfl rfl ?_
    refine own_iloadN (q := 70) (v := (3 : Int32)) A113 at_69 rfl ?_
    refine own_aaloadv (q := 71) (v := (.ref oNOT_ENOUGH_FIGURES)) A113 V96 3 (by decide) (by decide) (by decide) rfl rfl at_70 ?_
    refine own_acmpF (q := 74) A113 at_71 rfl rfl (XT.aa_ne_f rfl) ?_
    refine own_iconst (q := 75) A113 (1 : Int32) at_74 rfl ?_
    refine own_goto (q := 79) A113 at_75 ?_
    exact own_retN A113 hQ (t := .boolean) (by simp) at_79 rfl
set_option maxRecDepth 65536 in
set_option maxHeartbeats 40000000 in
theorem comes_1 {Post : Tables → Env → Array Value → State → Outcome → State → Prop} (hpost : ∀ tb e args s v u, (limb_1_1.after args s (.returned v) u = true ∧ limb_1_2.after args s (.returned v) u = true ∧ True) → FrameEnd s (.returned v) u (Jvm.fieldLocs frame_1_writes args s ++ Jvm.arrayLocs frame_1_arrays args s ++ Jvm.staticLocs frame_1_statics s) 16 128 → Post tb e args s (.returned v) u) :
    ArmFor flags0 classFile x code maxLocals ret World_1 tables_1 room_1 Calls_1 rest_1 Pre_1 Post := by
  intro l hfl _ _ p e ha hc hk s m args below hf hA hF happ hP
  obtain ⟨hcalls, hrest, hpre⟩ := hP
  obtain ⟨-, -, -, hnamed, -, -, -, hat⟩ := (Spec.applies_iff hf).mp happ
  obtain ⟨hg, hn⟩ := and_e (Cond.before_iff.mp (show (Jvm.Cond.and given_1 narrow_1).before args s = true from hpre))
  obtain ⟨g0, hg0⟩ := and_e hg
  have g1 := hg0
  obtain ⟨w0, rfl⟩ : ∃ w0 : Value, args = #[w0] := by
    have hs : args.size = 1 := by simpa [Cond.value, given_1] using g0
    obtain ⟨L⟩ := args
    match L, hs with
    | [w0], _ => exact ⟨w0, rfl⟩
  have hw := fun d (hd : d ∈ tables_1) => atoms_spec (ws := Jvm.Cond.code x code maxLocals ret :: tables_1) hat d (List.mem_cons_of_mem _ hd)
  have hfit : Fit s := fun {y c} hc i hi => by
    obtain ⟨ha, rfl⟩ := Array.getElem?_eq_some_iff.mp hc
    have q := List.all_eq_true.mp ((Array.all_eq_true_iff_forall_mem.mp hF) _ (Array.getElem_mem ha)) i (List.mem_range.mpr hi)
    simpa [Array.getElem?_eq_getElem hi] using q
  obtain ⟨i0, ei0⟩ := is_v g1
  obtain rfl : w0 = (.int i0) := Option.some.inj ei0
  obtain ⟨q0, r0⟩ := and_e hn
  obtain ⟨q1, r1⟩ := and_e r0
  obtain ⟨q2, r2⟩ := and_e r1
  obtain ⟨q3, r3⟩ := and_e r2
  obtain ⟨q4, r4⟩ := and_e r3
  obtain ⟨q5, r5⟩ := and_e r4
  obtain ⟨q6, r6⟩ := and_e r5
  obtain ⟨q7, r7⟩ := and_e r6
  obtain ⟨q8, r8⟩ := and_e r7
  obtain ⟨q9, r9⟩ := and_e r8
  obtain ⟨q10, r10⟩ := and_e r9
  obtain ⟨q11, r11⟩ := and_e r10
  obtain ⟨q12, r12⟩ := and_e r11
  obtain ⟨q13, r13⟩ := and_e r12
  obtain ⟨q14, r14⟩ := and_e r13
  obtain ⟨q15, r15⟩ := and_e r14
  obtain ⟨q16, r16⟩ := and_e r15
  have q17 := r16
  obtain ⟨cMET, ecMET⟩ := exa_v q0
  have EcMET := Exa.start ecMET q0
  have ScMET := Sta.start ecMET (Or.inr ⟨(hw _ (List.mem_of_getElem? (i := 3) rfl)), (hw _ (List.mem_of_getElem? (i := 4) rfl))⟩)
  obtain ⟨cNOT_MET, ecNOT_MET⟩ := exa_v q1
  have EcNOT_MET := Exa.start ecNOT_MET q1
  have ScNOT_MET := Sta.start ecNOT_MET (Or.inr ⟨(hw _ (List.mem_of_getElem? (i := 3) rfl)), (hw _ (List.mem_of_getElem? (i := 7) rfl))⟩)
  obtain ⟨cNOT_TESTED, ecNOT_TESTED⟩ := exa_v q2
  have EcNOT_TESTED := Exa.start ecNOT_TESTED q2
  have ScNOT_TESTED := Sta.start ecNOT_TESTED (Or.inr ⟨(hw _ (List.mem_of_getElem? (i := 3) rfl)), (hw _ (List.mem_of_getElem? (i := 9) rfl))⟩)
  obtain ⟨cNOT_ENOUGH_FIGURES, ecNOT_ENOUGH_FIGURES⟩ := exa_v q3
  have EcNOT_ENOUGH_FIGURES := Exa.start ecNOT_ENOUGH_FIGURES q3
  have ScNOT_ENOUGH_FIGURES := Sta.start ecNOT_ENOUGH_FIGURES (Or.inr ⟨(hw _ (List.mem_of_getElem? (i := 3) rfl)), (hw _ (List.mem_of_getElem? (i := 11) rfl))⟩)
  obtain ⟨oMET, eoMET⟩ := exa_v q4
  have EoMET := Exa.start eoMET q4
  have SoMET := Sta.start eoMET (Or.inr ⟨(hw _ (List.mem_of_getElem? (i := 15) rfl)), (hw _ (List.mem_of_getElem? (i := 16) rfl))⟩)
  obtain ⟨oNOT_MET, eoNOT_MET⟩ := exa_v q5
  have EoNOT_MET := Exa.start eoNOT_MET q5
  have SoNOT_MET := Sta.start eoNOT_MET (Or.inr ⟨(hw _ (List.mem_of_getElem? (i := 15) rfl)), (hw _ (List.mem_of_getElem? (i := 19) rfl))⟩)
  obtain ⟨oNOT_TESTED, eoNOT_TESTED⟩ := exa_v q6
  have EoNOT_TESTED := Exa.start eoNOT_TESTED q6
  have SoNOT_TESTED := Sta.start eoNOT_TESTED (Or.inr ⟨(hw _ (List.mem_of_getElem? (i := 15) rfl)), (hw _ (List.mem_of_getElem? (i := 21) rfl))⟩)
  obtain ⟨oNOT_ENOUGH_FIGURES, eoNOT_ENOUGH_FIGURES⟩ := exa_v q7
  have EoNOT_ENOUGH_FIGURES := Exa.start eoNOT_ENOUGH_FIGURES q7
  have SoNOT_ENOUGH_FIGURES := Sta.start eoNOT_ENOUGH_FIGURES (Or.inr ⟨(hw _ (List.mem_of_getElem? (i := 15) rfl)), (hw _ (List.mem_of_getElem? (i := 23) rfl))⟩)
  obtain ⟨sw, esw⟩ := arr_v q8
  obtain ⟨cl, Ar⟩ := Arr.start esw q8
  have Ssw := Sta.start esw (Or.inr ⟨(hw _ (List.mem_of_getElem? (i := 28) rfl)), (hw _ (List.mem_of_getElem? (i := 29) rfl))⟩)
  have FcMET := own_ord ecMET q10
  obtain ⟨hi0, ha0⟩ := own_elem esw Ar q11
  have FcNOT_ENOUGH_FIGURES := own_ord ecNOT_ENOUGH_FIGURES q12
  obtain ⟨hi3, ha3⟩ := own_elem esw Ar q13
  have FcNOT_TESTED := own_ord ecNOT_TESTED q14
  obtain ⟨hi2, ha2⟩ := own_elem esw Ar q15
  have FcNOT_MET := own_ord ecNOT_MET q16
  obtain ⟨hi1, ha1⟩ := own_elem esw Ar q17
  obtain ⟨n, o, h1, h2, h3, v, L, rfl, ⟨rfl, N, -, -⟩, -, hq⟩ := rm_law l s _ hw tables_1 oMET oNOT_MET oNOT_TESTED oNOT_ENOUGH_FIGURES cMET cNOT_MET cNOT_TESTED cNOT_ENOUGH_FIGURES sw cl i0 s.heap s.heap.size (Old.start s) SoMET SoNOT_MET SoNOT_TESTED SoNOT_ENOUGH_FIGURES ScMET EcMET EoMET FcMET ScNOT_MET EcNOT_MET EoNOT_MET FcNOT_MET ScNOT_TESTED EcNOT_TESTED EoNOT_TESTED FcNOT_TESTED ScNOT_ENOUGH_FIGURES EcNOT_ENOUGH_FIGURES EoNOT_ENOUGH_FIGURES FcNOT_ENOUGH_FIGURES Ssw Ar hi0 ha0 hi1 ha1 hi2 ha2 hi3 ha3 p e ha hc hk s m _ below hf ((Spec.applies_iff_loose hf).mp happ).1 ⟨rfl, State.Warmed39.refl s, rfl, (own_ch0 (vm := s.vm) (h := s.heap) (Nat.le_refl _)).1, fun _ z => nomatch z⟩ trivial
  have hq' : FrameEnd s _ _ L _ _ := hq
  refine ⟨n, _, h1, h2, h3, hpost _ _ _ _ _ _ ⟨Cond.after_iff.mpr rfl, Cond.after_iff.mpr (eq_i res_at (Term.int_eval (1)) rfl), trivial⟩ ⟨hq'.1, hq'.2.1, (hq'.2.2.sift fun y hy => Or.inr (N y hy)).mono (by decide) (by decide)⟩⟩
theorem main_1_1 : Claimed_1_1 := comes_1 fun _ _ _ _ _ _ h hF => ⟨h.1, hF⟩
theorem main_1_2 : Claimed_1_2 := comes_1 fun _ _ _ _ _ _ h hF => ⟨h.2.1, hF⟩
end Jvm.Pilot.@@N@@
namespace Jvm.Pilot.@@N@@
open Jvm Jvm.ClassFile Sem Op Lib Jvm.Free Jvm.Stand Jvm.Pilot.@@N@@.Jvm.D
/-! MADE BY PROGRAM (witnessworld.py) out of the Statement's table words and the real class files: 16 classes; the members and pool entries that the words name. The judged class is class 1, her method 1. -/
namespace start1
open Jvm.ClassFile
def u (s : String) : CpInfo := .utf8 (stringToUtf16 s)
/-- a pool by its gaps: so many unusable entries, then the entry; so many at the end -/
def gap : Nat → List CpInfo → List CpInfo
  | 0, r => r
  | n + 1, r => .unusable :: gap n r
def poolList (es : List (Nat × CpInfo)) (last : Nat) : List CpInfo := es.foldr (fun e r => gap e.1 (e.2 :: r)) (gap last [])
def pool (es : List (Nat × CpInfo)) (last : Nat) : Array CpInfo := ⟨poolList es last⟩
def fileOf (pool : Array CpInfo) (this : Nat) (attrs : Array Attribute := #[]) (ms : Array MethodInfo := #[]) (fl : Nat := 33) (sup : Nat := 0) (ifs : Array Nat := #[]) (fds : Array FieldInfo := #[]) : ClassFile where
  minorVersion := 0
  majorVersion := 65
  constantPool := pool
  accessFlags := fl
  thisClass := this
  superClass := sup
  interfaces := ifs
  fields := fds
  methods := ms
  attributes := attrs
def plain (name : String) (sup : Option ClassId) : Class where
  name := name
  kind := .ordinary
  loader := none
  accessFlags := 33
  super := sup
  interfaces := #[]
  cf := none
  fields := #[]
  methods := #[]
  instanceTypes := #[]
  staticTypes := #[]
  resolved := #[]
  callSites := []
  init := .initialized
  statics := none
  mirror := none

def pool0 : Array CpInfo := pool [(5, u "<init>"), (0, u "()V"), (1, .class_ 10), (1, u "java/lang/Object")] 113

def k0m0 : Method := { name := "<init>", desc := "()V", sig := { parameters := [], returnType := none }, accessFlags := 1, code := none }
/-- java/lang/Object -/
def k0 : Class := { plain "java/lang/Object" none with
  accessFlags := 33
  interfaces := #[]
  cf := some (fileOf pool0 8 #[] #[{ accessFlags := 1, nameIndex := 5, descriptorIndex := 6, attributes := #[] }] 33 0 #[] #[])
  fields := #[]
  methods := #[k0m0]
  instanceTypes := #[]
  staticTypes := #[]
  resolved := Array.replicate 124 none
  statics := none }

def pool1 : Array CpInfo := pool [(2, .class_ 4), (1, u "java/lang/Object"), (0, u "<init>"), (0, u "()V"), (0, .class_ 8), (0, u "com/example/covenantry/covenantry/check/Outcome"), (0, .fieldref 7 10), (0, .nameAndType 11 12), (0, u "MET"), (0, u "Lcom/example/covenantry/covenantry/check/Outcome;"), (0, .fieldref 7 14), (0, .nameAndType 15 12), (0, u "NOT_MET"), (0, .fieldref 7 17), (0, .nameAndType 18 12), (0, u "NOT_TESTED"), (0, .fieldref 7 20), (0, .nameAndType 21 12), (0, u "NOT_ENOUGH_FIGURES"), (0, .class_ 23), (0, u "com/example/covenantry/covenantry/Outcome"), (0, .fieldref 22 25), (0, .nameAndType 11 26), (0, u "Lcom/example/covenantry/covenantry/Outcome;"), (0, .fieldref 22 28), (0, .nameAndType 15 26), (0, .fieldref 22 30), (0, .nameAndType 18 26), (0, .fieldref 22 32), (0, .nameAndType 21 26), (0, .methodref 22 34), (0, .nameAndType 35 36), (0, u "of"), (0, u "(Lcom/example/covenantry/covenantry/check/Outcome;)Lcom/example/covenantry/covenantry/Outcome;"), (0, .class_ 38), (0, u "com/example/covenantry/covenantry/OutcomeOfPinLaw"), (2, u "law"), (0, u "(I)Z")] 7

def k1m0 : Method := { name := "<init>", desc := "()V", sig := { parameters := [], returnType := none }, accessFlags := 2, code := none }
def k1c1 : Code := { maxStack := 4, maxLocals := 4, code := code, exceptionTable := #[], attributes := #[] }
def k1m1 : Method := { name := "law", desc := "(I)Z", sig := { parameters := [.int], returnType := some .boolean }, accessFlags := 9, code := some k1c1 }
/-- com/example/covenantry/covenantry/OutcomeOfPinLaw -/
def k1 : Class := { plain "com/example/covenantry/covenantry/OutcomeOfPinLaw" (some 0) with
  accessFlags := 49
  interfaces := #[]
  cf := some (fileOf pool1 37 #[] #[{ accessFlags := 2, nameIndex := 5, descriptorIndex := 6, attributes := #[] }, { accessFlags := 9, nameIndex := 41, descriptorIndex := 42, attributes := #[] }] 49 2 #[] #[])
  fields := #[]
  methods := #[k1m0, k1m1]
  instanceTypes := #[]
  staticTypes := #[]
  resolved := Array.replicate 50 none
  statics := none }

def pool2 : Array CpInfo := pool [(1, .class_ 2), (0, u "java/lang/constant/Constable"), (0, .class_ 4), (0, u "java/lang/Object")] 6

/-- java/lang/constant/Constable -/
def k2 : Class := { plain "java/lang/constant/Constable" (some 0) with
  accessFlags := 1537
  interfaces := #[]
  cf := some (fileOf pool2 1 #[] #[] 1537 3 #[] #[])
  fields := #[]
  methods := #[]
  instanceTypes := #[]
  staticTypes := #[]
  resolved := Array.replicate 11 none
  statics := none }

def pool3 : Array CpInfo := pool [(1, .class_ 2), (0, u "java/lang/Comparable"), (0, .class_ 4), (0, u "java/lang/Object")] 7

/-- java/lang/Comparable -/
def k3 : Class := { plain "java/lang/Comparable" (some 0) with
  accessFlags := 1537
  interfaces := #[]
  cf := some (fileOf pool3 1 #[] #[] 1537 3 #[] #[])
  fields := #[]
  methods := #[]
  instanceTypes := #[]
  staticTypes := #[]
  resolved := Array.replicate 12 none
  statics := none }

def pool4 : Array CpInfo := pool [(1, .class_ 2), (0, u "java/io/Serializable"), (0, .class_ 4), (0, u "java/lang/Object")] 2

/-- java/io/Serializable -/
def k4 : Class := { plain "java/io/Serializable" (some 0) with
  accessFlags := 1537
  interfaces := #[]
  cf := some (fileOf pool4 1 #[] #[] 1537 3 #[] #[])
  fields := #[]
  methods := #[]
  instanceTypes := #[]
  staticTypes := #[]
  resolved := Array.replicate 7 none
  statics := none }

def pool5 : Array CpInfo := pool [(2, .class_ 4), (1, u "java/lang/Enum"), (0, u "name"), (0, u "Ljava/lang/String;"), (0, .fieldref 2 8), (0, .nameAndType 9 10), (0, u "ordinal"), (0, u "I"), (1, .class_ 14), (1, u "java/lang/Object"), (4, u "hash"), (86, .class_ 108), (1, u "java/lang/Enum$EnumDesc"), (2, .class_ 112), (0, u "java/lang/constant/Constable"), (0, .class_ 114), (0, u "java/lang/Comparable"), (0, .class_ 116), (0, u "java/io/Serializable"), (9, u "()I")] 77

def k5c0 : Code := { maxStack := 1, maxLocals := 1, code := jdk_37_method_2_code, exceptionTable := #[], attributes := #[] }
def k5m0 : Method := { name := "ordinal", desc := "()I", sig := { parameters := [], returnType := some .int }, accessFlags := 17, code := some k5c0 }
/-- java/lang/Enum -/
def k5 : Class := { plain "java/lang/Enum" (some 0) with
  accessFlags := 1057
  interfaces := #[2, 3, 4]
  cf := some (fileOf pool5 2 #[.nestMembers #[106]] #[{ accessFlags := 17, nameIndex := 9, descriptorIndex := 126, attributes := #[] }] 1057 12 #[111, 113, 115] #[{ accessFlags := 18, nameIndex := 5, descriptorIndex := 6, attributes := #[] }, { accessFlags := 18, nameIndex := 9, descriptorIndex := 10, attributes := #[] }, { accessFlags := 2, nameIndex := 19, descriptorIndex := 10, attributes := #[] }])
  fields := #[{ name := "name", type := (.object "java/lang/String"), accessFlags := 18, slot := 0, constantValue := 0 }, { name := "ordinal", type := .int, accessFlags := 18, slot := 1, constantValue := 0 }, { name := "hash", type := .int, accessFlags := 2, slot := 2, constantValue := 0 }]
  methods := #[k5m0]
  instanceTypes := #[(.object "java/lang/String"), .int, .int]
  staticTypes := #[]
  resolved := Array.replicate 204 none
  statics := none }

def pool6 : Array CpInfo := pool [(1, .class_ 2), (0, u "com/example/covenantry/covenantry/check/Outcome"), (2, u "MET"), (0, u "Lcom/example/covenantry/covenantry/check/Outcome;"), (2, u "NOT_MET"), (2, u "NOT_TESTED"), (2, u "NOT_ENOUGH_FIGURES"), (2, u "$VALUES"), (0, u "[Lcom/example/covenantry/covenantry/check/Outcome;"), (6, .class_ 28), (1, u "java/lang/Enum"), (8, u "wording"), (0, u "Ljava/lang/String;")] 34

/-- com/example/covenantry/covenantry/check/Outcome -/
def k6 : Class := { plain "com/example/covenantry/covenantry/check/Outcome" (some 5) with
  accessFlags := 16433
  interfaces := #[]
  cf := some (fileOf pool6 1 #[] #[] 16433 26 #[] #[{ accessFlags := 16409, nameIndex := 5, descriptorIndex := 6, attributes := #[] }, { accessFlags := 16409, nameIndex := 9, descriptorIndex := 6, attributes := #[] }, { accessFlags := 16409, nameIndex := 12, descriptorIndex := 6, attributes := #[] }, { accessFlags := 16409, nameIndex := 15, descriptorIndex := 6, attributes := #[] }, { accessFlags := 18, nameIndex := 37, descriptorIndex := 38, attributes := #[] }, { accessFlags := 4122, nameIndex := 18, descriptorIndex := 19, attributes := #[] }])
  fields := #[{ name := "MET", type := (.object "com/example/covenantry/covenantry/check/Outcome"), accessFlags := 16409, slot := 0, constantValue := 0 }, { name := "NOT_MET", type := (.object "com/example/covenantry/covenantry/check/Outcome"), accessFlags := 16409, slot := 1, constantValue := 0 }, { name := "NOT_TESTED", type := (.object "com/example/covenantry/covenantry/check/Outcome"), accessFlags := 16409, slot := 2, constantValue := 0 }, { name := "NOT_ENOUGH_FIGURES", type := (.object "com/example/covenantry/covenantry/check/Outcome"), accessFlags := 16409, slot := 3, constantValue := 0 }, { name := "wording", type := (.object "java/lang/String"), accessFlags := 18, slot := 3, constantValue := 0 }, { name := "$VALUES", type := (.array (.object "com/example/covenantry/covenantry/check/Outcome")), accessFlags := 4122, slot := 4, constantValue := 0 }]
  methods := #[]
  instanceTypes := #[(.object "java/lang/String"), .int, .int, (.object "java/lang/String")]
  staticTypes := #[(.object "com/example/covenantry/covenantry/check/Outcome"), (.object "com/example/covenantry/covenantry/check/Outcome"), (.object "com/example/covenantry/covenantry/check/Outcome"), (.object "com/example/covenantry/covenantry/check/Outcome"), (.array (.object "com/example/covenantry/covenantry/check/Outcome"))]
  resolved := Array.replicate 73 none
  statics := some 0 }

def pool7 : Array CpInfo := pool [(1, .class_ 2), (0, u "com/example/covenantry/covenantry/Outcome"), (0, .fieldref 1 4), (0, .nameAndType 5 6), (0, u "MET"), (0, u "Lcom/example/covenantry/covenantry/Outcome;"), (0, .fieldref 1 8), (0, .nameAndType 9 6), (0, u "NOT_MET"), (0, .fieldref 1 11), (0, .nameAndType 12 6), (0, u "NOT_TESTED"), (0, .fieldref 1 14), (0, .nameAndType 15 6), (0, u "NOT_ENOUGH_FIGURES"), (2, u "$VALUES"), (0, u "[Lcom/example/covenantry/covenantry/Outcome;"), (6, .class_ 28), (1, u "java/lang/Enum"), (6, .fieldref 36 37), (0, .class_ 38), (0, .nameAndType 39 40), (0, u "com/example/covenantry/covenantry/Outcome$1"), (0, u "$SwitchMap$com$example$covenantry$covenantry$check$Outcome"), (0, u "[I"), (0, .methodref 42 43), (0, .class_ 44), (0, .nameAndType 45 46), (0, u "com/example/covenantry/covenantry/check/Outcome"), (0, u "ordinal"), (0, u "()I"), (21, u "of"), (0, u "(Lcom/example/covenantry/covenantry/check/Outcome;)Lcom/example/covenantry/covenantry/Outcome;")] 7

def k7c0 : Code := { maxStack := 4, maxLocals := 1, code := prog_22_method_4_code, exceptionTable := #[], attributes := #[] }
def k7m0 : Method := { name := "of", desc := "(Lcom/example/covenantry/covenantry/check/Outcome;)Lcom/example/covenantry/covenantry/Outcome;", sig := { parameters := [(.object "com/example/covenantry/covenantry/check/Outcome")], returnType := some (.object "com/example/covenantry/covenantry/Outcome") }, accessFlags := 8, code := some k7c0 }
/-- com/example/covenantry/covenantry/Outcome -/
def k7 : Class := { plain "com/example/covenantry/covenantry/Outcome" (some 5) with
  accessFlags := 16433
  interfaces := #[]
  cf := some (fileOf pool7 1 #[.nestMembers #[36]] #[{ accessFlags := 8, nameIndex := 68, descriptorIndex := 69, attributes := #[] }] 16433 26 #[] #[{ accessFlags := 16409, nameIndex := 5, descriptorIndex := 6, attributes := #[] }, { accessFlags := 16409, nameIndex := 9, descriptorIndex := 6, attributes := #[] }, { accessFlags := 16409, nameIndex := 12, descriptorIndex := 6, attributes := #[] }, { accessFlags := 16409, nameIndex := 15, descriptorIndex := 6, attributes := #[] }, { accessFlags := 4122, nameIndex := 18, descriptorIndex := 19, attributes := #[] }])
  fields := #[{ name := "MET", type := (.object "com/example/covenantry/covenantry/Outcome"), accessFlags := 16409, slot := 0, constantValue := 0 }, { name := "NOT_MET", type := (.object "com/example/covenantry/covenantry/Outcome"), accessFlags := 16409, slot := 1, constantValue := 0 }, { name := "NOT_TESTED", type := (.object "com/example/covenantry/covenantry/Outcome"), accessFlags := 16409, slot := 2, constantValue := 0 }, { name := "NOT_ENOUGH_FIGURES", type := (.object "com/example/covenantry/covenantry/Outcome"), accessFlags := 16409, slot := 3, constantValue := 0 }, { name := "$VALUES", type := (.array (.object "com/example/covenantry/covenantry/Outcome")), accessFlags := 4122, slot := 4, constantValue := 0 }]
  methods := #[k7m0]
  instanceTypes := #[(.object "java/lang/String"), .int, .int]
  staticTypes := #[(.object "com/example/covenantry/covenantry/Outcome"), (.object "com/example/covenantry/covenantry/Outcome"), (.object "com/example/covenantry/covenantry/Outcome"), (.object "com/example/covenantry/covenantry/Outcome"), (.array (.object "com/example/covenantry/covenantry/Outcome"))]
  resolved := Array.replicate 77 none
  statics := some 1 }

def pool8 : Array CpInfo := pool [(8, .class_ 10), (1, u "com/example/covenantry/covenantry/Outcome$1"), (0, u "$SwitchMap$com$example$covenantry$covenantry$check$Outcome"), (0, u "[I"), (19, .class_ 33), (0, u "java/lang/Object"), (8, .class_ 43), (0, u "com/example/covenantry/covenantry/Outcome")] 2

/-- com/example/covenantry/covenantry/Outcome$1 -/
def k8 : Class := { plain "com/example/covenantry/covenantry/Outcome$1" (some 0) with
  accessFlags := 4128
  interfaces := #[]
  cf := some (fileOf pool8 8 #[.nestHost 42] #[] 4128 32 #[] #[{ accessFlags := 4120, nameIndex := 11, descriptorIndex := 12, attributes := #[] }])
  fields := #[{ name := "$SwitchMap$com$example$covenantry$covenantry$check$Outcome", type := (.array .int), accessFlags := 4120, slot := 0, constantValue := 0 }]
  methods := #[]
  instanceTypes := #[]
  staticTypes := #[(.array .int)]
  resolved := Array.replicate 46 none
  statics := some 2 }

def pool9 : Array CpInfo := pool [(1, u "java/lang/Cloneable"), (0, .class_ 1), (0, u "java/lang/Object"), (0, .class_ 3)] 3

/-- java/lang/Cloneable -/
def k9 : Class := { plain "java/lang/Cloneable" (some 0) with
  accessFlags := 1537
  interfaces := #[]
  cf := some (fileOf pool9 2 #[] #[] 1537 4 #[] #[])
  fields := #[]
  methods := #[]
  instanceTypes := #[]
  staticTypes := #[]
  resolved := Array.replicate 8 none
  statics := none }

/-- the primitive byte -/
def k10 : Class := { plain "byte" none with kind := .primitive 'B', accessFlags := 0x411 }
/-- [B -/
def k11 : Class := { plain "[B" (some 0) with kind := .array 10 .byte, interfaces := #[9, 4], accessFlags := 1041 }

/-- the primitive int -/
def k12 : Class := { plain "int" none with kind := .primitive 'I', accessFlags := 0x411 }
/-- [I -/
def k13 : Class := { plain "[I" (some 0) with kind := .array 12 .int, interfaces := #[9, 4], accessFlags := 1041 }

/-- [Lcom/example/covenantry/covenantry/Outcome; -/
def k14 : Class := { plain "[Lcom/example/covenantry/covenantry/Outcome;" (some 0) with kind := .array 7 (.object "com/example/covenantry/covenantry/Outcome"), interfaces := #[9, 4], accessFlags := 1041 }

/-- [Lcom/example/covenantry/covenantry/check/Outcome; -/
def k15 : Class := { plain "[Lcom/example/covenantry/covenantry/check/Outcome;" (some 0) with kind := .array 6 (.object "com/example/covenantry/covenantry/check/Outcome"), interfaces := #[9, 4], accessFlags := 1041 }

def heap : Heap := #[{ cls := 6, slots := #[.ref 3, .ref 4, .ref 5, .ref 6, .null], vm := .statics 6 },
  { cls := 7, slots := #[.ref 7, .ref 8, .ref 9, .ref 10, .null], vm := .statics 7 },
  { cls := 8, slots := #[.ref 11], vm := .statics 8 },
  { cls := 6, slots := #[.null, .int 0, .int 0, .null], vm := .none },
  { cls := 6, slots := #[.null, .int 1, .int 0, .null], vm := .none },
  { cls := 6, slots := #[.null, .int 2, .int 0, .null], vm := .none },
  { cls := 6, slots := #[.null, .int 3, .int 0, .null], vm := .none },
  { cls := 7, slots := #[.null, .int 0, .int 0], vm := .none },
  { cls := 7, slots := #[.null, .int 1, .int 0], vm := .none },
  { cls := 7, slots := #[.null, .int 2, .int 0], vm := .none },
  { cls := 7, slots := #[.null, .int 3, .int 0], vm := .none },
  { cls := 13, slots := #[.int 1, .int 2, .int 3, .int 4], vm := .none }]
def classes : Array Class := #[k0, k1, k2, k3, k4, k5, k6, k7, k8, k9, k10, k11, k12, k13, k14, k15]
def interned : List (Array UInt16 × Addr) := []
def slotsUsed : Nat := 43
def theMethod : MethodId := ⟨1, 1⟩
def args0 : Array Value := #[.int 5]
def aboutOver (below : List Frame) : State where
  vm := { classes := classes, interned := interned.toArray }
  heap := heap
  slotsUsed := slotsUsed
  threads := #[{ frames := .invoking theMethod args0 :: below }]
def below0 : List Frame := [.native { method := ⟨0, 0⟩, args := #[] }]
def about1 : State := aboutOver below0
def p0 : Program := .bare "" "" ""
def e0 : Env := launch0.env 0 0 0
theorem w_frames : about1.frames = Frame.invoking theMethod args0 :: below0 := rfl
set_option maxRecDepth 65536 in
theorem w_args : argsFit about1.vm theMethod args0 = true := by decide +kernel
set_option maxRecDepth 65536 in
theorem w_heap : heapFits about1 = true := by decide +kernel
set_option maxRecDepth 65536 in
theorem w_runnable : about1.curStatus? = some .runnable := by decide +kernel
set_option maxRecDepth 65536 in
theorem w_alone : about1.alone = true := by decide +kernel
set_option maxRecDepth 65536 in
theorem w_named : about1.methodNamed? x = some theMethod := by decide +kernel
set_option maxRecDepth 65536 in
theorem w_hears : about1.hears theMethod below0 = true := by decide +kernel
set_option maxRecDepth 65536 in
theorem w_ripe : about1.ripe theMethod args0 below0 = true := by decide +kernel
theorem w_running : about1.status = .running := rfl
set_option maxRecDepth 65536 in
theorem w_room : about1.hasRoom e0.platform room_1 = true :=
  launch0.hasRoom_least _ room_1 (by decide +kernel) (by decide +kernel) (by decide +kernel) (by decide +kernel) (by decide +kernel) (by decide +kernel)
theorem allAtoms_all (ts : List Jvm.Cond) (a : Array Jvm.Value) (st : Jvm.State) : (allAtoms ts).before a st = ts.all (fun c => c.before a st) := by
  induction ts with
  | nil => rfl
  | cons c t ih =>
    show (Jvm.Cond.and c (allAtoms t)).before a st = _
    rw [Jvm.Cond.before_and, ih, List.all_cons]
def words1 : List Jvm.Cond := Jvm.Cond.code x code maxLocals ret :: tables_1
/-- a 'code' word, met by the world's own term for the bytes: nothing is compared byte by byte -/
theorem code_word {y : MethodName} {bytes : ByteArray} {mx : Nat} {rt : Option FieldType} {a : Array Value} {s : State} {m : MethodId} {meth : Method} {c : Code} (h1 : s.methodNamed? y = some m) (h2 : s.vm.method? m = some meth) (h3 : meth.code = some c) (h4 : c.code = bytes)
    (h5 : (c.maxLocals == mx && c.exceptionTable.isEmpty && decide (c.maxStack ≤ mostOperands) && decide (meth.sig.returnType = rt) && !meth.locks && decide (parseMethodDescriptor y.desc = some meth.sig)) = true) : (Jvm.Cond.code y bytes mx rt).before a s = true := by
  simp only [Bool.and_eq_true, beq_iff_eq, Bool.not_eq_true', decide_eq_true_eq] at h5
  obtain ⟨⟨⟨⟨⟨g1, g2⟩, g3⟩, g4⟩, g5⟩, g6⟩ := h5
  simp [Cond.before, Cond.holds, Cond.value, h1, h2, h3, h4, g1, g2, g3, g4, g5, g6]
def isCode : Jvm.Cond → Bool
  | .code _ _ _ _ => true
  | _ => false
theorem all_split {L : List Jvm.Cond} {P : Jvm.Cond → Bool} (h1 : L.all (fun c => isCode c || P c) = true) (h2 : ∀ c ∈ L.filter isCode, P c = true) : L.all P = true := by
  refine List.all_eq_true.mpr fun c hc => ?_
  have h := List.all_eq_true.mp h1 c hc
  rcases Bool.eq_false_or_eq_true (isCode c) with hi | hi
  · exact h2 c (List.mem_filter.mpr ⟨hc, hi⟩)
  · simpa [hi] using h
set_option maxRecDepth 65536 in
theorem w_c0 : (Jvm.Cond.code x code maxLocals ret).before args0 about1 = true := code_word (m := ⟨1, 1⟩) (meth := k1m1) (c := k1c1) (by decide +kernel) rfl rfl rfl (by decide +kernel)
set_option maxRecDepth 65536 in
theorem w_c1 : (Jvm.Cond.code ({ cls := "com/example/covenantry/covenantry/Outcome", name := "of", desc := "(Lcom/example/covenantry/covenantry/check/Outcome;)Lcom/example/covenantry/covenantry/Outcome;" } : Jvm.MethodName) prog_22_method_4_code (1 : Nat) (Option.some (Jvm.ClassFile.FieldType.object "com/example/covenantry/covenantry/Outcome"))).before args0 about1 = true := code_word (m := ⟨7, 0⟩) (meth := k7m0) (c := k7c0) (by decide +kernel) rfl rfl rfl (by decide +kernel)
set_option maxRecDepth 65536 in
theorem w_c2 : (Jvm.Cond.code ({ cls := "java/lang/Enum", name := "ordinal", desc := "()I" } : Jvm.MethodName) jdk_37_method_2_code (1 : Nat) (Option.some Jvm.ClassFile.FieldType.int)).before args0 about1 = true := code_word (m := ⟨5, 0⟩) (meth := k5m0) (c := k5c0) (by decide +kernel) rfl rfl rfl (by decide +kernel)
def codes1 : List Jvm.Cond := [Jvm.Cond.code x code maxLocals ret, Jvm.Cond.code ({ cls := "com/example/covenantry/covenantry/Outcome", name := "of", desc := "(Lcom/example/covenantry/covenantry/check/Outcome;)Lcom/example/covenantry/covenantry/Outcome;" } : Jvm.MethodName) prog_22_method_4_code (1 : Nat) (Option.some (Jvm.ClassFile.FieldType.object "com/example/covenantry/covenantry/Outcome")), Jvm.Cond.code ({ cls := "java/lang/Enum", name := "ordinal", desc := "()I" } : Jvm.MethodName) jdk_37_method_2_code (1 : Nat) (Option.some Jvm.ClassFile.FieldType.int)]
set_option maxRecDepth 65536 in
theorem codes_eq : words1.filter isCode = codes1 := rfl
theorem w_codes : ∀ c ∈ words1.filter isCode, c.before args0 about1 = true := by
  rw [codes_eq]
  intro c hc
  simp only [codes1, List.mem_cons, List.not_mem_nil, or_false] at hc
  rcases hc with rfl | rfl | rfl
  · exact w_c0
  · exact w_c1
  · exact w_c2
set_option maxRecDepth 65536 in
theorem w_t1 : (words1.take 24).all (fun c => isCode c || c.before args0 about1) = true := by decide +kernel
set_option maxRecDepth 65536 in
theorem w_t2 : (words1.drop 24).all (fun c => isCode c || c.before args0 about1) = true := by decide +kernel
theorem w_tables : (allAtoms (Jvm.Cond.code x code maxLocals ret :: tables_1)).before args0 about1 = true := by
  rw [allAtoms_all]
  show words1.all (fun c => c.before args0 about1) = true
  refine all_split ?_ w_codes
  rw [← List.take_append_drop 24 words1, List.all_append, w_t1, w_t2]
  rfl
set_option maxRecDepth 65536 in
theorem w_case : (Jvm.Cond.and given_1 narrow_1).before args0 about1 = true := by decide +kernel
theorem w_applies : (headSpec (Jvm.Cond.code x code maxLocals ret :: tables_1) room_1).applies x e0.platform about1 = true :=
  (Spec.applies_iff w_frames).mpr ⟨w_running, w_runnable, w_alone, w_named, w_hears, w_ripe, w_room, w_tables⟩
theorem atStart : AtStart classFile x code maxLocals ret World_1 tables_1 room_1 Calls_1 rest_1 Pre_1 launch0 p0 e0 about1 theMethod args0 below0 :=
  ⟨lists_1, trivial, launch0.admits_env _ _ _, launch0.least_env, fairChoices_fair.cas, fairChoices_fair.clock, w_frames, w_args, w_heap, w_applies, trivial, trivial, w_case⟩
end start1
theorem witness_1 : WitnessClaimed_1 := ⟨start1.p0, start1.e0, start1.about1, start1.theMethod, start1.args0, start1.below0, start1.atStart⟩
end Jvm.Pilot.@@N@@
