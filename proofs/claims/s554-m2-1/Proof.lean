import JvmDerived
import JvmDerived.Pilot.@@N@@Statement
import JvmDerived.Pilot.@@N@@Code
set_option linter.unusedVariables false
set_option linter.unusedSimpArgs false
namespace Jvm.Pilot.@@N@@
open Jvm Jvm.ClassFile Sem Op Lib Jvm.Free Jvm.Stand Jvm.LawKit Jvm.RoadKit Bundle Jvm.Pilot.@@N@@.Jvm.D
section Own
variable {w : Bool} {p : Program} {l : Launch} {e : Env} {R : Room} {s : State} {m : MethodId} {args : Array Value} {below : List Frame} {meth : Method} {c : Code} {T : State} {cells slots n0 mx : Nat} {Z : State} {a0 : Array Value} {h : Heap} {bytes : ByteArray} {ret : Option FieldType} {own nm : String} {EL : List (String × Nat)} {sf : List Addr} {Q : Outcome → State → Prop} {pc q : Nat} {Ls : Array Slot} {st rest : List Value}
def own_Base (w : Bool) (s : State) (vm0 : Vm) (h : Heap) : Prop := (w = false ∧ vm0 = s.vm) ∨ (w = true ∧ ∃ k0, s.Since vm0 k0 ∧ k0 ≤ h.size)
/-- addresses that the walk has made and that are no literal's -/
def own_Sf (Z : State) (EL : List (String × Nat)) (vm : Vm) (h : Heap) (sf : List Addr) : Prop := ∀ x ∈ sf, Safe Z EL vm h x ∧ x < h.size
def own_At (w : Bool) (p : Program) (l : Launch) (e : Env) (R : Room) (s : State) (m : MethodId) (args : Array Value) (below : List Frame) (meth : Method) (c : Code) (bytes : ByteArray) (ret : Option FieldType) (own nm : String) (mx : Nat) (Z : State) (n0 : Nat) (a0 : Array Value) (EL : List (String × Nat)) (sf : List Addr) (T : State) (h : Heap) (cells slots : Nat) : Prop :=
  (p.tables.exec = Jvm.exec ∧ c.code = bytes ∧ meth.sig.returnType = ret ∧ meth.locks = false ∧ meth.name = nm ∧ c.maxLocals = mx) ∧
  ∃ (vm0 : Vm) (locs : List Loc), Stand p l e R (s.setVm vm0) m args below meth c T locs cells slots ∧ own_Base w s vm0 h ∧ Z.Warmed39 vm0 ∧ vm0.findClass own = some m.cls ∧ T.heap = h ∧ Fr n0 locs ∧ Old Z n0 h ∧ EW Z a0 EL ∧ CHr Z EL s.vm s.heap vm0 h ∧ own_Sf Z EL vm0 h sf
def own_Run (p : Program) (e : Env) (below : List Frame) (Q : Outcome → State → Prop) (m : MethodId) (T : State) (pc : Nat) (Ls : Array Slot) (st : List Value) : Prop :=
  ∃ s₂ o, Steps p.tables e below (T.setTop (mkF m pc Ls st)) s₂ ∧ s₂.status = .running ∧ Ended s₂ below o ∧ Q o s₂
def own_End : Bool → State → Outcome → State → List Loc → Nat → Nat → Prop
  | true, s, o, t, L, k, n => ReturnedEndW s o t L k n
  | false, s, o, t, L, k, n => FrameEnd s o t L k n
/-- what an invocation leaves: Qc of the value returned and the heap -/
def own_Q (w : Bool) (s : State) (rm : Room) (n0 : Nat) (Z : State) (EL : List (String × Nat)) (Qc : Option Value → Heap → Prop) (o : Outcome) (t : State) : Prop :=
  ∃ v L, o = .returned v ∧ (Qc v t.heap ∧ Fr n0 L ∧ Old Z n0 t.heap ∧ s.heap.size ≤ t.heap.size) ∧ CHr Z EL s.vm s.heap t.vm t.heap ∧ own_End w s o t L rm.cells rm.slots
def own_Met (w : Bool) (l : Launch) (Z : State) (n0 : Nat) (EL : List (String × Nat)) (sf : List Addr) (y : MethodName) (bytes : ByteArray) (mx : Nat) (ret : Option FieldType) (ws : List Jvm.Cond) (rm : Room) (as' : Array Value) (h : Heap) (Qc : Option Value → Heap → Prop) : Prop :=
  MetFree l y (head1 (Jvm.Cond.code y bytes mx ret :: ws) rm) (fun a U => a = as' ∧ Z.Warmed39 U.vm ∧ U.heap = h ∧ CHv Z EL U.vm h ∧ own_Sf Z EL U.vm h sf) (fun _ _ _ _ _ => True) (fun _ U o U' => own_Q w U rm n0 Z EL Qc o U')
theorem own_by {T' : State} {Ls' : Array Slot} {st' : List Value} (hs : ∀ t, Steps p.tables e below (T'.setTop (mkF m q Ls' st')) t → Steps p.tables e below (T.setTop (mkF m pc Ls st)) t) (k : own_Run p e below Q m T' q Ls' st') : own_Run p e below Q m T pc Ls st := by
  obtain ⟨a, o, h1, r⟩ := k
  exact ⟨a, o, hs _ h1, r⟩
theorem own_At.old (A : own_At w p l e R s m args below meth c bytes ret own nm mx Z n0 a0 EL sf T h cells slots) : Old Z n0 h := by obtain ⟨-, _, _, -, -, -, -, -, -, O, -⟩ := A; exact O
theorem own_At.fr (A : own_At w p l e R s m args below meth c bytes ret own nm mx Z n0 a0 EL sf T h cells slots) : n0 ≤ h.size := by have O := A.old; exact O.1 ▸ O.2.1
theorem own_Base.le {vm0 : Vm} {h h' : Heap} (B : own_Base w s vm0 h) (g : h.size ≤ h'.size) : own_Base w s vm0 h' := by
  rcases B with B | ⟨B, k0, B1, B2⟩
  · exact Or.inl B
  · exact Or.inr ⟨B, k0, B1, Nat.le_trans B2 g⟩
theorem own_ch0 {vm vm1 : Vm} {h h' : Heap} (g : h.size ≤ h'.size) : CHr Z [] vm h vm1 h' := by
  refine ⟨fun p hp => ?_, g, fun y B => ?_⟩
  · cases hp
  · obtain ⟨p, hp, -⟩ := B
    cases hp
theorem own_Sf.ext {vm : Vm} {h h' : Heap} (S : own_Sf Z EL vm h sf) (H : CHv Z EL vm h) (E : Ext h h') : own_Sf Z EL vm h' sf := fun x hx => ⟨(S x hx).1.ext E H, Nat.lt_of_lt_of_le (S x hx).2 E.1⟩
theorem own_Sf.new {vm : Vm} {h h' : Heap} (S : own_Sf Z EL vm h sf) (H : CHv Z EL vm h) (E : Ext h h') (g : h.size < h'.size) : own_Sf Z EL vm h' (h.size :: sf) := fun x hx => by
  rcases List.mem_cons.mp hx with rfl | hx
  · exact ⟨(Safe.new (Nat.le_refl _)).ext E H, g⟩
  · exact S.ext H E x hx
theorem own_Sf.wr {vm : Vm} {h h' : Heap} {a : Addr} {sl : Nat} {v : Value} (S : own_Sf Z EL vm h sf) (H : CHv Z EL vm h) (W : Wr h h' a sl v) (Sa : Safe Z EL vm h a) : own_Sf Z EL vm h' sf := fun x hx => ⟨Safe.wr W Sa H (S x hx).1, by rw [W.size]; exact (S x hx).2⟩
theorem own_Sf.ch {vm vm1 : Vm} {h h' : Heap} (S : own_Sf Z EL vm h sf) (C : CHr Z EL vm h vm1 h') : own_Sf Z EL vm1 h' sf := fun x hx => ⟨C.safe (S x hx).2 (S x hx).1, Nat.lt_of_lt_of_le (S x hx).2 C.2.1⟩
/-- what may be written: a made object, anything where there are no literals, no String and no byte[] -/
def own_Wok (Z : State) (EL : List (String × Nat)) (sf : List Addr) (h : Heap) (a : Addr) : Prop := a ∈ sf ∨ EL = [] ∨ (∃ C, Exa Z h a C ∧ C ≠ "java/lang/String" ∧ C ≠ "[B") ∨ ∃ cl ty, Arr Z h a cl ty ∧ ty ≠ .byte
theorem own_Wok.safe {vm : Vm} {a : Addr} (W : own_Wok Z EL sf h a) (hZ : Z.Warmed39 vm) (S : own_Sf Z EL vm h sf) : Safe Z EL vm h a := by
  rcases W with W | rfl | ⟨C, E, h1, h2⟩ | ⟨cl, ty, Ar, ht⟩
  · exact (S a W).1
  · exact fun B => by
      obtain ⟨p, hp, -⟩ := B
      cases hp
  · exact Safe.exa hZ.alike E h1 h2
  · exact Safe.arr hZ.alike Ar ht
/-- the entry -/
theorem own_enter {y : MethodName} {mx : Nat} {ws : List Jvm.Cond} {rm : Room} {as' : Array Value} {Qc : Option Value → Heap → Prop} (hpl : plainName own = true) (O : Old Z n0 h) (hEL : EW Z a0 EL) (hef : ∀ m, entryFrame m as' mx = mkF m 0 Ls [])
    (body : ∀ p e s m args below meth c T Q, Q = own_Q w s rm n0 Z EL Qc → own_At w p l e rm s m args below meth c bytes ret own nm mx Z n0 a0 EL sf T h 0 0 → own_Run p e below Q m T 0 Ls []) (ho : y.cls = own := by rfl) (hn : y.name = nm := by rfl) : own_Met w l Z n0 EL sf y bytes mx ret ws rm as' h Qc := by
  subst ho hn
  refine MetFree.of_bodySF (plainFor_of_name hpl) hisR ?_
  intro p e s m args below meth c s₁ Bd hml0 hP hK
  obtain ⟨rfl, hZ, hh, hCH, hSf⟩ := hP
  have X0 : Stand p l e rm s m args below meth c s₁ [] 0 0 := Stand.of_body Bd
  have e0 : s₁.heap = h := by rw [← hh, Bd.state]; rfl
  have hown : s.vm.findClass y.cls = some m.cls := findClass_of_methodNamed Bd.named
  have A : own_At w p l e rm s m args below meth c bytes ret y.cls y.name mx Z n0 a0 EL sf s₁ h 0 0 :=
    ⟨⟨Bd.exec, Bd.bytes, Bd.returns, Bd.notSynchronized, (name_of_methodNamed Bd.named Bd.method).1, hml0⟩, s.vm, [], X0, (by
      cases w
      · exact Or.inl ⟨rfl, rfl⟩
      · exact Or.inr ⟨rfl, 0, (State.WarmedH.refl s).since 0, Nat.zero_le _⟩), hZ, hown, e0, Fr.nil n0, O, hEL, (by rw [hh]; exact CHr.refl hCH), hSf⟩
  obtain ⟨s₂, o, h1, h2, h3, h4⟩ := body p e s m args below meth c s₁ _ rfl A
  exact ⟨s₂, o, castTop (hef m) h1, h2, h3, h4⟩
/-- the end of a walk, whatever the returning instruction -/
theorem own_end {rm : Room} {Qc : Option Value → Heap → Prop} (A : own_At w p l e R s m args below meth c bytes ret own nm mx Z n0 a0 EL sf T h cells slots) (hQ : Q = own_Q w s rm n0 Z EL Qc) (v : Option Value) (hv : ret = none → v = none) (hq : Qc v h) (hk : cells ≤ rm.cells) (hn : slots ≤ rm.slots)
    (hs : ∀ fs, (∀ (f : JFrame) (acts : List Action), f.method = m → f.locked = none → f.entered = [] → (doReturn e (T.setTop f) acts v).1 = T.setFrames fs) → Steps p.tables e below (T.setTop (mkF m pc Ls st)) (T.setFrames fs)) : own_Run p e below Q m T pc Ls st := by
  subst hQ
  obtain ⟨⟨hx, hby, hret, hlk, hnm, hml⟩, vm0, locs, X, B, hZ, hown, hT, N, O, hEL, Ch, Sf⟩ := A
  subst hT
  have Ch' := Ch.trans (CHv.at X hZ hEL Ch.1)
  rcases B with ⟨rfl, rfl⟩ | ⟨rfl, k0, B1, B2⟩
  · have X' : Stand p l e R s m args below meth c T locs cells slots := X
    obtain ⟨fs, hr, hrun, hended, hW, hsame⟩ := X'.leave (v := v) (fun z => hv (hret ▸ z)) hlk
    exact ⟨_, _, hs fs hr, hrun, hended, v, locs, rfl, ⟨hq, N, O, X'.same.2.1⟩, Ch', ⟨_, rfl⟩, hW, hsame.mono hk hn⟩
  · obtain ⟨fs, hr, hrun, hended, hW⟩ := X.leaveW B1 B2 (v := v) (fun z => hv (hret ▸ z)) hlk
    exact ⟨_, _, hs fs hr, hrun, hended, v, locs, rfl, ⟨hq, N, O, X.same.2.1⟩, Ch', hW.1, hW.2.1, hW.2.2.1, hW.2.2.2.mono hk hn⟩
theorem own_retN {z : Int32} {t : FieldType} {rm : Room} {Qc : Option Value → Heap → Prop} (A : own_At w p l e R s m args below meth c bytes (some t) own nm mx Z n0 a0 EL sf T h cells slots) (hQ : Q = own_Q w s rm n0 Z EL Qc) (ht : t = .boolean ∨ t = .byte ∨ t = .char ∨ t = .short) (hd : decode bytes pc = .ok (.ireturn, 1)) (hq : Qc (some (.int (nar t z))) h) (hk : cells ≤ rm.cells := by decide) (hn : slots ≤ rm.slots := by decide) : own_Run p e below Q m T pc Ls (.int z :: rest) := by
  obtain ⟨⟨hx, hby, hret, hlk, hnm, hml⟩, vm0, locs, X, r⟩ := id A
  subst hby
  exact own_end A hQ (some (.int (nar t z))) (fun z => by cases z) hq hk hn (fun fs hr => RoadKit.retN X hx hret ht hd hr)
theorem own_retI {z : Int32} {rm : Room} {Qc : Option Value → Heap → Prop} (A : own_At w p l e R s m args below meth c bytes (some .int) own nm mx Z n0 a0 EL sf T h cells slots) (hQ : Q = own_Q w s rm n0 Z EL Qc)  (hd : decode bytes pc = .ok (.ireturn, 1)) (hq : Qc (some (.int z)) h) (hk : cells ≤ rm.cells := by decide) (hn : slots ≤ rm.slots := by decide) : own_Run p e below Q m T pc Ls (.int z :: rest) := by
  obtain ⟨⟨hx, hby, hret, hlk, hnm, hml⟩, vm0, locs, X, r⟩ := id A
  subst hby
  exact own_end A hQ (some (.int z)) (fun z => by cases z) hq hk hn (fun fs hr => RoadKit.retOut X hx hret rfl (Or.inl ⟨rfl, Or.inl rfl, z, rfl⟩) hd hr)
theorem own_retJ {z : Int64} {rm : Room} {Qc : Option Value → Heap → Prop} (A : own_At w p l e R s m args below meth c bytes (some .long) own nm mx Z n0 a0 EL sf T h cells slots) (hQ : Q = own_Q w s rm n0 Z EL Qc)  (hd : decode bytes pc = .ok (.lreturn, 1)) (hq : Qc (some (.long z)) h) (hk : cells ≤ rm.cells := by decide) (hn : slots ≤ rm.slots := by decide) : own_Run p e below Q m T pc Ls (.long z :: rest) := by
  obtain ⟨⟨hx, hby, hret, hlk, hnm, hml⟩, vm0, locs, X, r⟩ := id A
  subst hby
  exact own_end A hQ (some (.long z)) (fun z => by cases z) hq hk hn (fun fs hr => RoadKit.retOut X hx hret rfl (Or.inr (Or.inl ⟨rfl, rfl, z, rfl⟩)) hd hr)
theorem own_retD {z : UInt64} {rm : Room} {Qc : Option Value → Heap → Prop} (A : own_At w p l e R s m args below meth c bytes (some .double) own nm mx Z n0 a0 EL sf T h cells slots) (hQ : Q = own_Q w s rm n0 Z EL Qc)  (hd : decode bytes pc = .ok (.dreturn, 1)) (hq : Qc (some (.double z)) h) (hk : cells ≤ rm.cells := by decide) (hn : slots ≤ rm.slots := by decide) : own_Run p e below Q m T pc Ls (.double z :: rest) := by
  obtain ⟨⟨hx, hby, hret, hlk, hnm, hml⟩, vm0, locs, X, r⟩ := id A
  subst hby
  exact own_end A hQ (some (.double z)) (fun z => by cases z) hq hk hn (fun fs hr => RoadKit.retOut X hx hret rfl (Or.inr (Or.inr (Or.inl ⟨rfl, rfl, z, rfl⟩))) hd hr)
theorem own_retA {z : Value} {t : FieldType} {rm : Room} {Qc : Option Value → Heap → Prop} (A : own_At w p l e R s m args below meth c bytes (some t) own nm mx Z n0 a0 EL sf T h cells slots) (hQ : Q = own_Q w s rm n0 Z EL Qc) (ht : t.isReference = true) (hz : z.isRef = true) (hnz : narrow t z = z) (hd : decode bytes pc = .ok (.areturn, 1)) (hq : Qc (some z) h) (hk : cells ≤ rm.cells := by decide) (hn : slots ≤ rm.slots := by decide) : own_Run p e below Q m T pc Ls (z :: rest) := by
  obtain ⟨⟨hx, hby, hret, hlk, hnm, hml⟩, vm0, locs, X, r⟩ := id A
  subst hby
  exact own_end A hQ (some z) (fun z => by cases z) hq hk hn (fun fs hr => RoadKit.retOut X hx hret hnz (Or.inr (Or.inr (Or.inr (Or.inr ⟨rfl, ht, hz⟩)))) hd hr)
theorem own_ret0 {rm : Room} {Qc : Option Value → Heap → Prop} (A : own_At w p l e R s m args below meth c bytes none own nm mx Z n0 a0 EL sf T h cells slots) (hQ : Q = own_Q w s rm n0 Z EL Qc) (hd : decode bytes pc = .ok (.return_, 1)) (hq : Qc none h) (hk : cells ≤ rm.cells := by decide) (hn : slots ≤ rm.slots := by decide) : own_Run p e below Q m T pc Ls [] := by
  obtain ⟨⟨hx, hby, hret, hlk, hnm, hml⟩, vm0, locs, X, r⟩ := id A
  subst hby
  exact own_end A hQ none (fun _ => rfl) hq hk hn (fun fs hr => X.returnOut hx hret hd hr)
theorem own_aloadN (A : own_At w p l e R s m args below meth c bytes ret own nm mx Z n0 a0 EL sf T h cells slots) {i : Fin 4} {v : Value} (hd : decode bytes pc = .ok (.aload_n i, 1)) (hl : Ls[i.val]? = some (.val v)) (hv : v.isRef = true) (k : own_Run p e below Q m T q Ls (v :: st)) (hq : pc + 1 = q := by rfl) : own_Run p e below Q m T pc Ls st := by
  obtain ⟨⟨hx, hby, -⟩, vm0, locs, X, -⟩ := A
  subst hby hq
  refine own_by (fun t z => ?_) k
  exact XS.aloadN X.here hx rfl hd hl hv z
theorem own_aload (A : own_At w p l e R s m args below meth c bytes ret own nm mx Z n0 a0 EL sf T h cells slots) {i : Nat} {v : Value} (hd : decode bytes pc = .ok (.aload i, 2)) (hl : Ls[i]? = some (.val v)) (hv : v.isRef = true) (k : own_Run p e below Q m T q Ls (v :: st)) (hq : pc + 2 = q := by rfl) : own_Run p e below Q m T pc Ls st := by
  obtain ⟨⟨hx, hby, -⟩, vm0, locs, X, -⟩ := A
  subst hby hq
  refine own_by (fun t z => ?_) k
  exact XS.aload X.here hx rfl hd hl hv z
theorem own_iloadN (A : own_At w p l e R s m args below meth c bytes ret own nm mx Z n0 a0 EL sf T h cells slots) {i : Fin 4} {v : Int32} (hd : decode bytes pc = .ok (.iload_n i, 1)) (hl : Ls[i.val]? = some (.val (.int v))) (k : own_Run p e below Q m T q Ls (.int v :: st)) (hq : pc + 1 = q := by rfl) : own_Run p e below Q m T pc Ls st := by
  obtain ⟨⟨hx, hby, -⟩, vm0, locs, X, -⟩ := A
  subst hby hq
  refine own_by (fun t z => ?_) k
  exact XS.iloadN X.here hx rfl hd hl z
theorem own_iload (A : own_At w p l e R s m args below meth c bytes ret own nm mx Z n0 a0 EL sf T h cells slots) {i : Nat} {v : Int32} (hd : decode bytes pc = .ok (.iload i, 2)) (hl : Ls[i]? = some (.val (.int v))) (k : own_Run p e below Q m T q Ls (.int v :: st)) (hq : pc + 2 = q := by rfl) : own_Run p e below Q m T pc Ls st := by
  obtain ⟨⟨hx, hby, -⟩, vm0, locs, X, -⟩ := A
  subst hby hq
  refine own_by (fun t z => ?_) k
  exact XS.iload X.here hx rfl hd hl z
theorem own_istoreN (A : own_At w p l e R s m args below meth c bytes ret own nm mx Z n0 a0 EL sf T h cells slots) {i : Fin 4} {v : Int32} {L' : Array Slot} (hd : decode bytes pc = .ok (.istore_n i, 1)) (hl : storeLocals Ls i.val (.int v) = some L') (k : own_Run p e below Q m T q L' rest) (hq : pc + 1 = q := by rfl) : own_Run p e below Q m T pc Ls (.int v :: rest) := by
  obtain ⟨⟨hx, hby, -⟩, vm0, locs, X, -⟩ := A
  subst hby hq
  refine own_by (fun t z => ?_) k
  exact XS.istoreN X.here hx rfl hd rfl hl z
theorem own_istore (A : own_At w p l e R s m args below meth c bytes ret own nm mx Z n0 a0 EL sf T h cells slots) {i : Nat} {v : Int32} {L' : Array Slot} (hd : decode bytes pc = .ok (.istore i, 2)) (hl : storeLocals Ls i (.int v) = some L') (k : own_Run p e below Q m T q L' rest) (hq : pc + 2 = q := by rfl) : own_Run p e below Q m T pc Ls (.int v :: rest) := by
  obtain ⟨⟨hx, hby, -⟩, vm0, locs, X, -⟩ := A
  subst hby hq
  refine own_by (fun t z => ?_) k
  exact XS.istore X.here hx rfl hd rfl hl z
theorem own_lloadN (A : own_At w p l e R s m args below meth c bytes ret own nm mx Z n0 a0 EL sf T h cells slots) {i : Fin 4} {v : Int64} (hd : decode bytes pc = .ok (.lload_n i, 1)) (hl : Ls[i.val]? = some (.val (.long v))) (k : own_Run p e below Q m T q Ls (.long v :: st)) (hq : pc + 1 = q := by rfl) : own_Run p e below Q m T pc Ls st := by
  obtain ⟨⟨hx, hby, -⟩, vm0, locs, X, -⟩ := A
  subst hby hq
  refine own_by (fun t z => ?_) k
  exact XS.lloadN X.here hx rfl hd hl z
theorem own_lload (A : own_At w p l e R s m args below meth c bytes ret own nm mx Z n0 a0 EL sf T h cells slots) {i : Nat} {v : Int64} (hd : decode bytes pc = .ok (.lload i, 2)) (hl : Ls[i]? = some (.val (.long v))) (k : own_Run p e below Q m T q Ls (.long v :: st)) (hq : pc + 2 = q := by rfl) : own_Run p e below Q m T pc Ls st := by
  obtain ⟨⟨hx, hby, -⟩, vm0, locs, X, -⟩ := A
  subst hby hq
  refine own_by (fun t z => ?_) k
  exact XS.lload X.here hx rfl hd hl z
theorem own_lstoreN (A : own_At w p l e R s m args below meth c bytes ret own nm mx Z n0 a0 EL sf T h cells slots) {i : Fin 4} {v : Int64} {L' : Array Slot} (hd : decode bytes pc = .ok (.lstore_n i, 1)) (hl : storeLocals Ls i.val (.long v) = some L') (k : own_Run p e below Q m T q L' rest) (hq : pc + 1 = q := by rfl) : own_Run p e below Q m T pc Ls (.long v :: rest) := by
  obtain ⟨⟨hx, hby, -⟩, vm0, locs, X, -⟩ := A
  subst hby hq
  refine own_by (fun t z => ?_) k
  exact XS.lstoreN X.here hx rfl hd rfl hl z
theorem own_lstore (A : own_At w p l e R s m args below meth c bytes ret own nm mx Z n0 a0 EL sf T h cells slots) {i : Nat} {v : Int64} {L' : Array Slot} (hd : decode bytes pc = .ok (.lstore i, 2)) (hl : storeLocals Ls i (.long v) = some L') (k : own_Run p e below Q m T q L' rest) (hq : pc + 2 = q := by rfl) : own_Run p e below Q m T pc Ls (.long v :: rest) := by
  obtain ⟨⟨hx, hby, -⟩, vm0, locs, X, -⟩ := A
  subst hby hq
  refine own_by (fun t z => ?_) k
  exact XS.lstore X.here hx rfl hd rfl hl z
theorem own_dloadN (A : own_At w p l e R s m args below meth c bytes ret own nm mx Z n0 a0 EL sf T h cells slots) {i : Fin 4} {v : UInt64} (hd : decode bytes pc = .ok (.dload_n i, 1)) (hl : Ls[i.val]? = some (.val (.double v))) (k : own_Run p e below Q m T q Ls (.double v :: st)) (hq : pc + 1 = q := by rfl) : own_Run p e below Q m T pc Ls st := by
  obtain ⟨⟨hx, hby, -⟩, vm0, locs, X, -⟩ := A
  subst hby hq
  refine own_by (fun t z => ?_) k
  exact XS.dloadN X.here hx rfl hd hl z
theorem own_dload (A : own_At w p l e R s m args below meth c bytes ret own nm mx Z n0 a0 EL sf T h cells slots) {i : Nat} {v : UInt64} (hd : decode bytes pc = .ok (.dload i, 2)) (hl : Ls[i]? = some (.val (.double v))) (k : own_Run p e below Q m T q Ls (.double v :: st)) (hq : pc + 2 = q := by rfl) : own_Run p e below Q m T pc Ls st := by
  obtain ⟨⟨hx, hby, -⟩, vm0, locs, X, -⟩ := A
  subst hby hq
  refine own_by (fun t z => ?_) k
  exact XS.dload X.here hx rfl hd hl z
theorem own_dstoreN (A : own_At w p l e R s m args below meth c bytes ret own nm mx Z n0 a0 EL sf T h cells slots) {i : Fin 4} {v : UInt64} {L' : Array Slot} (hd : decode bytes pc = .ok (.dstore_n i, 1)) (hl : storeLocals Ls i.val (.double v) = some L') (k : own_Run p e below Q m T q L' rest) (hq : pc + 1 = q := by rfl) : own_Run p e below Q m T pc Ls (.double v :: rest) := by
  obtain ⟨⟨hx, hby, -⟩, vm0, locs, X, -⟩ := A
  subst hby hq
  refine own_by (fun t z => ?_) k
  exact XS.dstoreN X.here hx rfl hd rfl hl z
theorem own_dstore (A : own_At w p l e R s m args below meth c bytes ret own nm mx Z n0 a0 EL sf T h cells slots) {i : Nat} {v : UInt64} {L' : Array Slot} (hd : decode bytes pc = .ok (.dstore i, 2)) (hl : storeLocals Ls i (.double v) = some L') (k : own_Run p e below Q m T q L' rest) (hq : pc + 2 = q := by rfl) : own_Run p e below Q m T pc Ls (.double v :: rest) := by
  obtain ⟨⟨hx, hby, -⟩, vm0, locs, X, -⟩ := A
  subst hby hq
  refine own_by (fun t z => ?_) k
  exact XS.dstore X.here hx rfl hd rfl hl z
theorem own_astoreN (A : own_At w p l e R s m args below meth c bytes ret own nm mx Z n0 a0 EL sf T h cells slots) {i : Fin 4} {v : Value} {L' : Array Slot} (hd : decode bytes pc = .ok (.astore_n i, 1)) (hv : v.isRef = true) (hl : storeLocals Ls i.val v = some L') (k : own_Run p e below Q m T q L' rest) (hq : pc + 1 = q := by rfl) : own_Run p e below Q m T pc Ls (v :: rest) := by
  obtain ⟨⟨hx, hby, -⟩, vm0, locs, X, -⟩ := A
  subst hby hq
  refine own_by (fun t z => ?_) k
  exact XS.astoreN X.here hx rfl hd rfl hv hl z
theorem own_astore (A : own_At w p l e R s m args below meth c bytes ret own nm mx Z n0 a0 EL sf T h cells slots) {i : Nat} {v : Value} {L' : Array Slot} (hd : decode bytes pc = .ok (.astore i, 2)) (hv : v.isRef = true) (hl : storeLocals Ls i v = some L') (k : own_Run p e below Q m T q L' rest) (hq : pc + 2 = q := by rfl) : own_Run p e below Q m T pc Ls (v :: rest) := by
  obtain ⟨⟨hx, hby, -⟩, vm0, locs, X, -⟩ := A
  subst hby hq
  refine own_by (fun t z => ?_) k
  exact XS.astore X.here hx rfl hd rfl hv hl z
theorem own_iconst (A : own_At w p l e R s m args below meth c bytes ret own nm mx Z n0 a0 EL sf T h cells slots) {i : Int} (v : Int32) (hd : decode bytes pc = .ok (.iconst i, 1)) (hv : Int32.ofInt i = v) (k : own_Run p e below Q m T q Ls (.int v :: st)) (hq : pc + 1 = q := by rfl) : own_Run p e below Q m T pc Ls st := by
  obtain ⟨⟨hx, hby, -⟩, vm0, locs, X, -⟩ := A
  subst hby hq hv
  refine own_by (fun t z => ?_) k
  exact XS.iconst X.here hx rfl hd z
theorem own_bipush (A : own_At w p l e R s m args below meth c bytes ret own nm mx Z n0 a0 EL sf T h cells slots) {i : Int} (v : Int32) (hd : decode bytes pc = .ok (.bipush i, 2)) (hv : (Int8.ofInt i).toInt32 = v) (k : own_Run p e below Q m T q Ls (.int v :: st)) (hq : pc + 2 = q := by rfl) : own_Run p e below Q m T pc Ls st := by
  obtain ⟨⟨hx, hby, -⟩, vm0, locs, X, -⟩ := A
  subst hby hq hv
  refine own_by (fun t z => ?_) k
  exact XS.bipush X.here hx rfl hd z
theorem own_sipush (A : own_At w p l e R s m args below meth c bytes ret own nm mx Z n0 a0 EL sf T h cells slots) {i : Int} (v : Int32) (hd : decode bytes pc = .ok (.sipush i, 3)) (hv : (Int16.ofInt i).toInt32 = v) (k : own_Run p e below Q m T q Ls (.int v :: st)) (hq : pc + 3 = q := by rfl) : own_Run p e below Q m T pc Ls st := by
  obtain ⟨⟨hx, hby, -⟩, vm0, locs, X, -⟩ := A
  subst hby hq hv
  refine own_by (fun t z => ?_) k
  exact XS.sipush X.here hx rfl hd z
theorem own_lconst (A : own_At w p l e R s m args below meth c bytes ret own nm mx Z n0 a0 EL sf T h cells slots) {i : Fin 2} (v : Int64) (hd : decode bytes pc = .ok (.lconst i, 1)) (hv : Int64.ofNat i = v) (k : own_Run p e below Q m T q Ls (.long v :: st)) (hq : pc + 1 = q := by rfl) : own_Run p e below Q m T pc Ls st := by
  obtain ⟨⟨hx, hby, -⟩, vm0, locs, X, -⟩ := A
  subst hby hq hv
  refine own_by (fun t z => ?_) k
  exact XS.lconst X.here hx rfl hd z
theorem own_aconstNull (A : own_At w p l e R s m args below meth c bytes ret own nm mx Z n0 a0 EL sf T h cells slots)  (hd : decode bytes pc = .ok (.aconst_null, 1))  (k : own_Run p e below Q m T q Ls (.null :: st)) (hq : pc + 1 = q := by rfl) : own_Run p e below Q m T pc Ls st := by
  obtain ⟨⟨hx, hby, -⟩, vm0, locs, X, -⟩ := A
  subst hby hq
  refine own_by (fun t z => ?_) k
  exact XS.aconstNull X.here hx rfl hd  z
theorem own_iadd (A : own_At w p l e R s m args below meth c bytes ret own nm mx Z n0 a0 EL sf T h cells slots) {x y : Int32} (hd : decode bytes pc = .ok (.iadd, 1))  (k : own_Run p e below Q m T q Ls (.int (x + y) :: rest)) (hq : pc + 1 = q := by rfl) : own_Run p e below Q m T pc Ls (.int y :: .int x :: rest) := by
  obtain ⟨⟨hx, hby, -⟩, vm0, locs, X, -⟩ := A
  subst hby hq
  refine own_by (fun t z => ?_) k
  exact XS.iadd X.here hx rfl hd rfl z
theorem own_ladd (A : own_At w p l e R s m args below meth c bytes ret own nm mx Z n0 a0 EL sf T h cells slots) {x y : Int64} (hd : decode bytes pc = .ok (.ladd, 1))  (k : own_Run p e below Q m T q Ls (.long (x + y) :: rest)) (hq : pc + 1 = q := by rfl) : own_Run p e below Q m T pc Ls (.long y :: .long x :: rest) := by
  obtain ⟨⟨hx, hby, -⟩, vm0, locs, X, -⟩ := A
  subst hby hq
  refine own_by (fun t z => ?_) k
  exact XS.ladd X.here hx rfl hd rfl z
theorem own_isub (A : own_At w p l e R s m args below meth c bytes ret own nm mx Z n0 a0 EL sf T h cells slots) {x y : Int32} (hd : decode bytes pc = .ok (.isub, 1))  (k : own_Run p e below Q m T q Ls (.int (x - y) :: rest)) (hq : pc + 1 = q := by rfl) : own_Run p e below Q m T pc Ls (.int y :: .int x :: rest) := by
  obtain ⟨⟨hx, hby, -⟩, vm0, locs, X, -⟩ := A
  subst hby hq
  refine own_by (fun t z => ?_) k
  exact XS.isub X.here hx rfl hd rfl z
theorem own_lsub (A : own_At w p l e R s m args below meth c bytes ret own nm mx Z n0 a0 EL sf T h cells slots) {x y : Int64} (hd : decode bytes pc = .ok (.lsub, 1))  (k : own_Run p e below Q m T q Ls (.long (x - y) :: rest)) (hq : pc + 1 = q := by rfl) : own_Run p e below Q m T pc Ls (.long y :: .long x :: rest) := by
  obtain ⟨⟨hx, hby, -⟩, vm0, locs, X, -⟩ := A
  subst hby hq
  refine own_by (fun t z => ?_) k
  exact XS.lsub X.here hx rfl hd rfl z
theorem own_imul (A : own_At w p l e R s m args below meth c bytes ret own nm mx Z n0 a0 EL sf T h cells slots) {x y : Int32} (hd : decode bytes pc = .ok (.imul, 1))  (k : own_Run p e below Q m T q Ls (.int (x * y) :: rest)) (hq : pc + 1 = q := by rfl) : own_Run p e below Q m T pc Ls (.int y :: .int x :: rest) := by
  obtain ⟨⟨hx, hby, -⟩, vm0, locs, X, -⟩ := A
  subst hby hq
  refine own_by (fun t z => ?_) k
  exact XS.imul X.here hx rfl hd rfl z
theorem own_lmul (A : own_At w p l e R s m args below meth c bytes ret own nm mx Z n0 a0 EL sf T h cells slots) {x y : Int64} (hd : decode bytes pc = .ok (.lmul, 1))  (k : own_Run p e below Q m T q Ls (.long (x * y) :: rest)) (hq : pc + 1 = q := by rfl) : own_Run p e below Q m T pc Ls (.long y :: .long x :: rest) := by
  obtain ⟨⟨hx, hby, -⟩, vm0, locs, X, -⟩ := A
  subst hby hq
  refine own_by (fun t z => ?_) k
  exact XS.lmul X.here hx rfl hd rfl z
theorem own_iand (A : own_At w p l e R s m args below meth c bytes ret own nm mx Z n0 a0 EL sf T h cells slots) {x y : Int32} (hd : decode bytes pc = .ok (.iand, 1))  (k : own_Run p e below Q m T q Ls (.int (x &&& y) :: rest)) (hq : pc + 1 = q := by rfl) : own_Run p e below Q m T pc Ls (.int y :: .int x :: rest) := by
  obtain ⟨⟨hx, hby, -⟩, vm0, locs, X, -⟩ := A
  subst hby hq
  refine own_by (fun t z => ?_) k
  exact XS.iand X.here hx rfl hd rfl z
theorem own_land (A : own_At w p l e R s m args below meth c bytes ret own nm mx Z n0 a0 EL sf T h cells slots) {x y : Int64} (hd : decode bytes pc = .ok (.land, 1))  (k : own_Run p e below Q m T q Ls (.long (x &&& y) :: rest)) (hq : pc + 1 = q := by rfl) : own_Run p e below Q m T pc Ls (.long y :: .long x :: rest) := by
  obtain ⟨⟨hx, hby, -⟩, vm0, locs, X, -⟩ := A
  subst hby hq
  refine own_by (fun t z => ?_) k
  exact XS.land X.here hx rfl hd rfl z
theorem own_ior (A : own_At w p l e R s m args below meth c bytes ret own nm mx Z n0 a0 EL sf T h cells slots) {x y : Int32} (hd : decode bytes pc = .ok (.ior, 1))  (k : own_Run p e below Q m T q Ls (.int (x ||| y) :: rest)) (hq : pc + 1 = q := by rfl) : own_Run p e below Q m T pc Ls (.int y :: .int x :: rest) := by
  obtain ⟨⟨hx, hby, -⟩, vm0, locs, X, -⟩ := A
  subst hby hq
  refine own_by (fun t z => ?_) k
  exact XS.ior X.here hx rfl hd rfl z
theorem own_lor (A : own_At w p l e R s m args below meth c bytes ret own nm mx Z n0 a0 EL sf T h cells slots) {x y : Int64} (hd : decode bytes pc = .ok (.lor, 1))  (k : own_Run p e below Q m T q Ls (.long (x ||| y) :: rest)) (hq : pc + 1 = q := by rfl) : own_Run p e below Q m T pc Ls (.long y :: .long x :: rest) := by
  obtain ⟨⟨hx, hby, -⟩, vm0, locs, X, -⟩ := A
  subst hby hq
  refine own_by (fun t z => ?_) k
  exact XS.lor X.here hx rfl hd rfl z
theorem own_ixor (A : own_At w p l e R s m args below meth c bytes ret own nm mx Z n0 a0 EL sf T h cells slots) {x y : Int32} (hd : decode bytes pc = .ok (.ixor, 1))  (k : own_Run p e below Q m T q Ls (.int (x ^^^ y) :: rest)) (hq : pc + 1 = q := by rfl) : own_Run p e below Q m T pc Ls (.int y :: .int x :: rest) := by
  obtain ⟨⟨hx, hby, -⟩, vm0, locs, X, -⟩ := A
  subst hby hq
  refine own_by (fun t z => ?_) k
  exact XS.ixor X.here hx rfl hd rfl z
theorem own_lxor (A : own_At w p l e R s m args below meth c bytes ret own nm mx Z n0 a0 EL sf T h cells slots) {x y : Int64} (hd : decode bytes pc = .ok (.lxor, 1))  (k : own_Run p e below Q m T q Ls (.long (x ^^^ y) :: rest)) (hq : pc + 1 = q := by rfl) : own_Run p e below Q m T pc Ls (.long y :: .long x :: rest) := by
  obtain ⟨⟨hx, hby, -⟩, vm0, locs, X, -⟩ := A
  subst hby hq
  refine own_by (fun t z => ?_) k
  exact XS.lxor X.here hx rfl hd rfl z
theorem own_ishl (A : own_At w p l e R s m args below meth c bytes ret own nm mx Z n0 a0 EL sf T h cells slots) {x y : Int32} (hd : decode bytes pc = .ok (.ishl, 1))  (k : own_Run p e below Q m T q Ls (.int (x <<< (y &&& 31)) :: rest)) (hq : pc + 1 = q := by rfl) : own_Run p e below Q m T pc Ls (.int y :: .int x :: rest) := by
  obtain ⟨⟨hx, hby, -⟩, vm0, locs, X, -⟩ := A
  subst hby hq
  refine own_by (fun t z => ?_) k
  exact XS.ishl X.here hx rfl hd rfl z
theorem own_ishr (A : own_At w p l e R s m args below meth c bytes ret own nm mx Z n0 a0 EL sf T h cells slots) {x y : Int32} (hd : decode bytes pc = .ok (.ishr, 1))  (k : own_Run p e below Q m T q Ls (.int (x >>> (y &&& 31)) :: rest)) (hq : pc + 1 = q := by rfl) : own_Run p e below Q m T pc Ls (.int y :: .int x :: rest) := by
  obtain ⟨⟨hx, hby, -⟩, vm0, locs, X, -⟩ := A
  subst hby hq
  refine own_by (fun t z => ?_) k
  exact XS.ishr X.here hx rfl hd rfl z
theorem own_iushr (A : own_At w p l e R s m args below meth c bytes ret own nm mx Z n0 a0 EL sf T h cells slots) {x y : Int32} (hd : decode bytes pc = .ok (.iushr, 1))  (k : own_Run p e below Q m T q Ls (.int ((x.toUInt32 >>> (y &&& 31).toUInt32).toInt32) :: rest)) (hq : pc + 1 = q := by rfl) : own_Run p e below Q m T pc Ls (.int y :: .int x :: rest) := by
  obtain ⟨⟨hx, hby, -⟩, vm0, locs, X, -⟩ := A
  subst hby hq
  refine own_by (fun t z => ?_) k
  exact XS.iushr X.here hx rfl hd rfl z
theorem own_idiv (A : own_At w p l e R s m args below meth c bytes ret own nm mx Z n0 a0 EL sf T h cells slots) {x y : Int32} (hd : decode bytes pc = .ok (.idiv, 1)) (hy : y ≠ 0) (k : own_Run p e below Q m T q Ls (.int (x / y) :: rest)) (hq : pc + 1 = q := by rfl) : own_Run p e below Q m T pc Ls (.int y :: .int x :: rest) := by
  obtain ⟨⟨hx, hby, -⟩, vm0, locs, X, -⟩ := A
  subst hby hq
  refine own_by (fun t z => ?_) k
  exact XS.idiv X.here hx rfl hd rfl hy z
theorem own_ldiv (A : own_At w p l e R s m args below meth c bytes ret own nm mx Z n0 a0 EL sf T h cells slots) {x y : Int64} (hd : decode bytes pc = .ok (.ldiv, 1)) (hy : y ≠ 0) (k : own_Run p e below Q m T q Ls (.long (x / y) :: rest)) (hq : pc + 1 = q := by rfl) : own_Run p e below Q m T pc Ls (.long y :: .long x :: rest) := by
  obtain ⟨⟨hx, hby, -⟩, vm0, locs, X, -⟩ := A
  subst hby hq
  refine own_by (fun t z => ?_) k
  exact XS.ldiv X.here hx rfl hd rfl hy z
theorem own_lrem (A : own_At w p l e R s m args below meth c bytes ret own nm mx Z n0 a0 EL sf T h cells slots) {x y : Int64} (hd : decode bytes pc = .ok (.lrem, 1)) (hy : y ≠ 0) (k : own_Run p e below Q m T q Ls (.long (x - (x / y) * y) :: rest)) (hq : pc + 1 = q := by rfl) : own_Run p e below Q m T pc Ls (.long y :: .long x :: rest) := by
  obtain ⟨⟨hx, hby, -⟩, vm0, locs, X, -⟩ := A
  subst hby hq
  refine own_by (fun t z => ?_) k
  exact XS.lrem X.here hx rfl hd rfl hy z
theorem own_irem (A : own_At w p l e R s m args below meth c bytes ret own nm mx Z n0 a0 EL sf T h cells slots) {x y : Int32} (hd : decode bytes pc = .ok (.irem, 1)) (hy : y ≠ 0) (k : own_Run p e below Q m T q Ls (.int (x % y) :: rest)) (hq : pc + 1 = q := by rfl) : own_Run p e below Q m T pc Ls (.int y :: .int x :: rest) := by
  obtain ⟨⟨hx, hby, -⟩, vm0, locs, X, -⟩ := A
  subst hby hq
  refine own_by (fun t z => ?_) k
  exact iremM X hx rfl hd rfl hy z
theorem own_ineg (A : own_At w p l e R s m args below meth c bytes ret own nm mx Z n0 a0 EL sf T h cells slots) {x : Int32} (hd : decode bytes pc = .ok (.ineg, 1))  (k : own_Run p e below Q m T q Ls (.int (-x) :: rest)) (hq : pc + 1 = q := by rfl) : own_Run p e below Q m T pc Ls (.int x :: rest) := by
  obtain ⟨⟨hx, hby, -⟩, vm0, locs, X, -⟩ := A
  subst hby hq
  refine own_by (fun t z => ?_) k
  exact XS.ineg X.here hx rfl hd rfl z
theorem own_lneg (A : own_At w p l e R s m args below meth c bytes ret own nm mx Z n0 a0 EL sf T h cells slots) {x : Int64} (hd : decode bytes pc = .ok (.lneg, 1))  (k : own_Run p e below Q m T q Ls (.long (-x) :: rest)) (hq : pc + 1 = q := by rfl) : own_Run p e below Q m T pc Ls (.long x :: rest) := by
  obtain ⟨⟨hx, hby, -⟩, vm0, locs, X, -⟩ := A
  subst hby hq
  refine own_by (fun t z => ?_) k
  exact XS.lneg X.here hx rfl hd rfl z
theorem own_i2b (A : own_At w p l e R s m args below meth c bytes ret own nm mx Z n0 a0 EL sf T h cells slots) {x : Int32} (hd : decode bytes pc = .ok (.i2b, 1))  (k : own_Run p e below Q m T q Ls (.int (x.toInt8.toInt32) :: rest)) (hq : pc + 1 = q := by rfl) : own_Run p e below Q m T pc Ls (.int x :: rest) := by
  obtain ⟨⟨hx, hby, -⟩, vm0, locs, X, -⟩ := A
  subst hby hq
  refine own_by (fun t z => ?_) k
  exact XS.i2b X.here hx rfl hd rfl z
theorem own_i2c (A : own_At w p l e R s m args below meth c bytes ret own nm mx Z n0 a0 EL sf T h cells slots) {x : Int32} (hd : decode bytes pc = .ok (.i2c, 1))  (k : own_Run p e below Q m T q Ls (.int (x.toUInt32.toUInt16.toUInt32.toInt32) :: rest)) (hq : pc + 1 = q := by rfl) : own_Run p e below Q m T pc Ls (.int x :: rest) := by
  obtain ⟨⟨hx, hby, -⟩, vm0, locs, X, -⟩ := A
  subst hby hq
  refine own_by (fun t z => ?_) k
  exact XS.i2c X.here hx rfl hd rfl z
theorem own_i2s (A : own_At w p l e R s m args below meth c bytes ret own nm mx Z n0 a0 EL sf T h cells slots) {x : Int32} (hd : decode bytes pc = .ok (.i2s, 1))  (k : own_Run p e below Q m T q Ls (.int (x.toInt16.toInt32) :: rest)) (hq : pc + 1 = q := by rfl) : own_Run p e below Q m T pc Ls (.int x :: rest) := by
  obtain ⟨⟨hx, hby, -⟩, vm0, locs, X, -⟩ := A
  subst hby hq
  refine own_by (fun t z => ?_) k
  exact XS.i2s X.here hx rfl hd rfl z
theorem own_i2l (A : own_At w p l e R s m args below meth c bytes ret own nm mx Z n0 a0 EL sf T h cells slots) {x : Int32} (hd : decode bytes pc = .ok (.i2l, 1))  (k : own_Run p e below Q m T q Ls (.long (x.toInt64) :: rest)) (hq : pc + 1 = q := by rfl) : own_Run p e below Q m T pc Ls (.int x :: rest) := by
  obtain ⟨⟨hx, hby, -⟩, vm0, locs, X, -⟩ := A
  subst hby hq
  refine own_by (fun t z => ?_) k
  exact XS.i2l X.here hx rfl hd rfl z
theorem own_l2i (A : own_At w p l e R s m args below meth c bytes ret own nm mx Z n0 a0 EL sf T h cells slots) {x : Int64} (hd : decode bytes pc = .ok (.l2i, 1))  (k : own_Run p e below Q m T q Ls (.int (x.toInt32) :: rest)) (hq : pc + 1 = q := by rfl) : own_Run p e below Q m T pc Ls (.long x :: rest) := by
  obtain ⟨⟨hx, hby, -⟩, vm0, locs, X, -⟩ := A
  subst hby hq
  refine own_by (fun t z => ?_) k
  exact XS.l2i X.here hx rfl hd rfl z
theorem own_lcmp (A : own_At w p l e R s m args below meth c bytes ret own nm mx Z n0 a0 EL sf T h cells slots) {x y : Int64} (hd : decode bytes pc = .ok (.lcmp, 1))  (k : own_Run p e below Q m T q Ls (.int (lcmpW x y) :: rest)) (hq : pc + 1 = q := by rfl) : own_Run p e below Q m T pc Ls (.long y :: .long x :: rest) := by
  obtain ⟨⟨hx, hby, -⟩, vm0, locs, X, -⟩ := A
  subst hby hq
  refine own_by (fun t z => ?_) k
  exact XS.lcmp X.here hx rfl hd rfl z
theorem own_dup (A : own_At w p l e R s m args below meth c bytes ret own nm mx Z n0 a0 EL sf T h cells slots) {x : Value} (hd : decode bytes pc = .ok (.dup, 1)) (hc : x.category = 1) (k : own_Run p e below Q m T q Ls (x :: x :: rest)) (hq : pc + 1 = q := by rfl) : own_Run p e below Q m T pc Ls (x :: rest) := by
  obtain ⟨⟨hx, hby, -⟩, vm0, locs, X, -⟩ := A
  subst hby hq
  refine own_by (fun t z => ?_) k
  exact XS.dup X.here hx rfl hd rfl hc z
theorem own_pop (A : own_At w p l e R s m args below meth c bytes ret own nm mx Z n0 a0 EL sf T h cells slots) {x : Value} (hd : decode bytes pc = .ok (.pop, 1)) (hc : x.category = 1) (k : own_Run p e below Q m T q Ls rest) (hq : pc + 1 = q := by rfl) : own_Run p e below Q m T pc Ls (x :: rest) := by
  obtain ⟨⟨hx, hby, -⟩, vm0, locs, X, -⟩ := A
  subst hby hq
  refine own_by (fun t z => ?_) k
  exact XS.pop X.here hx rfl hd rfl hc z
theorem own_dupX1 (A : own_At w p l e R s m args below meth c bytes ret own nm mx Z n0 a0 EL sf T h cells slots) {x y : Value} (hd : decode bytes pc = .ok (.dup_x1, 1)) (hc : x.category = 1) (hc2 : y.category = 1) (k : own_Run p e below Q m T q Ls (x :: y :: x :: rest)) (hq : pc + 1 = q := by rfl) : own_Run p e below Q m T pc Ls (x :: y :: rest) := by
  obtain ⟨⟨hx, hby, -⟩, vm0, locs, X, -⟩ := A
  subst hby hq
  refine own_by (fun t z => ?_) k
  exact XS.dupX1 X.here hx rfl hd rfl hc hc2 z
theorem own_iinc (A : own_At w p l e R s m args below meth c bytes ret own nm mx Z n0 a0 EL sf T h cells slots) {i : Nat} {cst : Int} {x v : Int32} {L' : Array Slot} (hd : decode bytes pc = .ok (.iinc i cst, 3)) (hl : Ls[i]? = some (.val (.int x))) (hv : Int32.ofInt cst = v) (hl' : storeLocals Ls i (.int (x + v)) = some L') (k : own_Run p e below Q m T q L' st) (hq : pc + 3 = q := by rfl) : own_Run p e below Q m T pc Ls st := by
  obtain ⟨⟨hx, hby, -⟩, vm0, locs, X, -⟩ := A
  subst hby hq hv
  refine own_by (fun t z => ?_) k
  exact XS.iinc X.here hx rfl hd hl hl' z
theorem own_dconst0 (A : own_At w p l e R s m args below meth c bytes ret own nm mx Z n0 a0 EL sf T h cells slots) (hd : decode bytes pc = .ok (.dconst 0, 1)) (k : own_Run p e below Q m T q Ls (.double FP.dconst0 :: st)) (hq : pc + 1 = q := by rfl) : own_Run p e below Q m T pc Ls st := by
  obtain ⟨⟨hx, hby, -⟩, vm0, locs, X, -⟩ := A
  subst hby hq
  refine own_by (fun t z => ?_) k
  exact XS.dconst0 X.here hx rfl hd rfl z
theorem own_dconst1 (A : own_At w p l e R s m args below meth c bytes ret own nm mx Z n0 a0 EL sf T h cells slots) (hd : decode bytes pc = .ok (.dconst 1, 1)) (k : own_Run p e below Q m T q Ls (.double FP.dconst1 :: st)) (hq : pc + 1 = q := by rfl) : own_Run p e below Q m T pc Ls st := by
  obtain ⟨⟨hx, hby, -⟩, vm0, locs, X, -⟩ := A
  subst hby hq
  refine own_by (fun t z => ?_) k
  exact XS.dconst1 X.here hx rfl hd rfl z
theorem own_i2d (A : own_At w p l e R s m args below meth c bytes ret own nm mx Z n0 a0 EL sf T h cells slots) {x : Int32} (hd : decode bytes pc = .ok (.i2d, 1))  (k : own_Run p e below Q m T q Ls (.double (FP.i2d x) :: rest)) (hq : pc + 1 = q := by rfl) : own_Run p e below Q m T pc Ls (.int x :: rest) := by
  obtain ⟨⟨hx, hby, -⟩, vm0, locs, X, -⟩ := A
  subst hby hq
  refine own_by (fun t z => ?_) k
  exact XS.i2dS X.here hx rfl hd rfl rfl z
theorem own_l2d (A : own_At w p l e R s m args below meth c bytes ret own nm mx Z n0 a0 EL sf T h cells slots) {x : Int64} (hd : decode bytes pc = .ok (.l2d, 1))  (k : own_Run p e below Q m T q Ls (.double (FP.l2d x) :: rest)) (hq : pc + 1 = q := by rfl) : own_Run p e below Q m T pc Ls (.long x :: rest) := by
  obtain ⟨⟨hx, hby, -⟩, vm0, locs, X, -⟩ := A
  subst hby hq
  refine own_by (fun t z => ?_) k
  exact XS.l2dS X.here hx rfl hd rfl rfl z
theorem own_dcmp (A : own_At w p l e R s m args below meth c bytes ret own nm mx Z n0 a0 EL sf T h cells slots) {o : CmpOp} {x y : UInt64} (hd : decode bytes pc = .ok (.dcmp o, 1))  (k : own_Run p e below Q m T q Ls (.int (cmpValue (FP.dcmp x y) o) :: rest)) (hq : pc + 1 = q := by rfl) : own_Run p e below Q m T pc Ls (.double y :: .double x :: rest) := by
  obtain ⟨⟨hx, hby, -⟩, vm0, locs, X, -⟩ := A
  subst hby hq
  refine own_by (fun t z => ?_) k
  exact XS.dcmpS X.here hx rfl hd rfl rfl z
theorem own_dadd (A : own_At w p l e R s m args below meth c bytes ret own nm mx Z n0 a0 EL sf T h cells slots) {x y : UInt64} (hd : decode bytes pc = .ok (.dadd, 1)) (hn : Jvm.Free.Fl.NoNaN64 (FP.dadd x y)) (k : own_Run p e below Q m T q Ls (.double (FP.dadd x y) :: rest)) (hq : pc + 1 = q := by rfl) : own_Run p e below Q m T pc Ls (.double y :: .double x :: rest) := by
  obtain ⟨⟨hx, hby, -⟩, vm0, locs, X, -⟩ := A
  subst hby hq
  refine own_by (fun t z => ?_) k
  exact XS.daddS X.here hx rfl hd rfl hn rfl z
theorem own_ddiv (A : own_At w p l e R s m args below meth c bytes ret own nm mx Z n0 a0 EL sf T h cells slots) {x y : UInt64} (hd : decode bytes pc = .ok (.ddiv, 1)) (hn : Jvm.Free.Fl.NoNaN64 (FP.ddiv x y)) (k : own_Run p e below Q m T q Ls (.double (FP.ddiv x y) :: rest)) (hq : pc + 1 = q := by rfl) : own_Run p e below Q m T pc Ls (.double y :: .double x :: rest) := by
  obtain ⟨⟨hx, hby, -⟩, vm0, locs, X, -⟩ := A
  subst hby hq
  refine own_by (fun t z => ?_) k
  exact XS.ddivS X.here hx rfl hd rfl hn rfl z
theorem own_goto (A : own_At w p l e R s m args below meth c bytes ret own nm mx Z n0 a0 EL sf T h cells slots) {o : Int} (hd : decode bytes pc = .ok (.goto o, 3)) (k : own_Run p e below Q m T q Ls st) (ho : 0 ≤ (pc : Int) + o := by decide) (hq : ((pc : Int) + o).toNat = q := by decide) : own_Run p e below Q m T pc Ls st := by
  obtain ⟨⟨hx, hby, -⟩, vm0, locs, X, -⟩ := A
  subst hby
  refine own_by (fun t z => ?_) k
  exact XS.goto X.here hx rfl (pc0 := pc) rfl hd ho hq z
def own_cp : ClassFile.Cond → Int32 → Int32 → Prop
  | .eq, x, y => x = y
  | .ne, x, y => ¬ x = y
  | .lt, x, y => x < y
  | .ge, x, y => ¬ x < y
  | .gt, x, y => y < x
  | .le, x, y => ¬ y < x
def own_cn : ClassFile.Cond → Int32 → Int32 → Prop
  | .eq, x, y => ¬ x = y
  | .ne, x, y => x = y
  | .lt, x, y => ¬ x < y
  | .ge, x, y => x < y
  | .gt, x, y => ¬ y < x
  | .le, x, y => y < x
theorem own_cpT {cd : ClassFile.Cond} {x y : Int32} (h : own_cp cd x y) : if_icmp.holds cd x y = true := by
  cases cd
  all_goals simp only [own_cp] at h
  · exact (teq h).1
  · exact (feq h).2
  · exact (tlt h).1
  · exact (flt h).2.1
  · exact (tlt h).2.2.1
  · exact (flt h).2.2.2
theorem own_cnF {cd : ClassFile.Cond} {x y : Int32} (h : own_cn cd x y) : if_icmp.holds cd x y = false := by
  cases cd
  all_goals simp only [own_cn] at h
  · exact (feq h).1
  · exact (teq h).2
  · exact (flt h).1
  · exact (tlt h).2.1
  · exact (flt h).2.2.1
  · exact (tlt h).2.2.2
theorem own_cpn (cd : ClassFile.Cond) (x y : Int32) : own_cp cd x y ∨ own_cn cd x y := by
  cases cd <;> simp only [own_cp, own_cn]
  · exact Classical.em _
  · exact (Classical.em _).symm
  · exact Classical.em _
  · exact (Classical.em _).symm
  · exact Classical.em _
  · exact (Classical.em _).symm
theorem own_ifcT (A : own_At w p l e R s m args below meth c bytes ret own nm mx Z n0 a0 EL sf T h cells slots) {cd : ClassFile.Cond} {x : Int32} {o : Int} (hd : decode bytes pc = .ok (.ifCond cd o, 3)) (hc : own_cp cd x (0 : Int32)) (k : own_Run p e below Q m T q Ls rest) (ho : 0 ≤ (pc : Int) + o := by decide) (hq : ((pc : Int) + o).toNat = q := by decide) : own_Run p e below Q m T pc Ls (.int x :: rest) := by
  obtain ⟨⟨hx, hby, -⟩, vm0, locs, X, -⟩ := A
  subst hby
  refine own_by (fun t z => ?_) k
  exact XS.ifYes X.here hx rfl (pc0 := pc) rfl hd rfl (by rw [if0]; exact own_cpT hc) ho hq z
theorem own_ifcF (A : own_At w p l e R s m args below meth c bytes ret own nm mx Z n0 a0 EL sf T h cells slots) {cd : ClassFile.Cond} {x : Int32} {o : Int} (hd : decode bytes pc = .ok (.ifCond cd o, 3)) (hc : own_cn cd x (0 : Int32)) (k : own_Run p e below Q m T q Ls rest) (hq : pc + 3 = q := by rfl) : own_Run p e below Q m T pc Ls (.int x :: rest) := by
  obtain ⟨⟨hx, hby, -⟩, vm0, locs, X, -⟩ := A
  subst hby hq
  refine own_by (fun t z => ?_) k
  exact XS.ifNo X.here hx rfl hd rfl (by rw [if0]; exact own_cnF hc) z
theorem own_ifc (A : own_At w p l e R s m args below meth c bytes ret own nm mx Z n0 a0 EL sf T h cells slots) {cd : ClassFile.Cond} {x : Int32} {o : Int} {q' : Nat} (hd : decode bytes pc = .ok (.ifCond cd o, 3)) (kt : own_cp cd x (0 : Int32) → own_Run p e below Q m T q Ls rest) (kf : own_cn cd x (0 : Int32) → own_Run p e below Q m T q' Ls rest) (ho : 0 ≤ (pc : Int) + o := by decide) (hq : ((pc : Int) + o).toNat = q := by decide) (hq' : pc + 3 = q' := by rfl) : own_Run p e below Q m T pc Ls (.int x :: rest) :=
  (own_cpn cd x (0 : Int32)).elim (fun z => own_ifcT A hd z (kt z) ho hq) (fun z => own_ifcF A hd z (kf z) hq')
theorem own_icmpT (A : own_At w p l e R s m args below meth c bytes ret own nm mx Z n0 a0 EL sf T h cells slots) {cd : ClassFile.Cond} {x y : Int32} {o : Int} (hd : decode bytes pc = .ok (.if_icmp cd o, 3)) (hc : own_cp cd x y) (k : own_Run p e below Q m T q Ls rest) (ho : 0 ≤ (pc : Int) + o := by decide) (hq : ((pc : Int) + o).toNat = q := by decide) : own_Run p e below Q m T pc Ls (.int y :: .int x :: rest) := by
  obtain ⟨⟨hx, hby, -⟩, vm0, locs, X, -⟩ := A
  subst hby
  refine own_by (fun t z => ?_) k
  exact XS.icmpYes X.here hx rfl (pc0 := pc) rfl hd rfl (own_cpT hc) ho hq z
theorem own_icmpF (A : own_At w p l e R s m args below meth c bytes ret own nm mx Z n0 a0 EL sf T h cells slots) {cd : ClassFile.Cond} {x y : Int32} {o : Int} (hd : decode bytes pc = .ok (.if_icmp cd o, 3)) (hc : own_cn cd x y) (k : own_Run p e below Q m T q Ls rest) (hq : pc + 3 = q := by rfl) : own_Run p e below Q m T pc Ls (.int y :: .int x :: rest) := by
  obtain ⟨⟨hx, hby, -⟩, vm0, locs, X, -⟩ := A
  subst hby hq
  refine own_by (fun t z => ?_) k
  exact XS.icmpNo X.here hx rfl hd rfl (own_cnF hc) z
theorem own_icmp (A : own_At w p l e R s m args below meth c bytes ret own nm mx Z n0 a0 EL sf T h cells slots) {cd : ClassFile.Cond} {x y : Int32} {o : Int} {q' : Nat} (hd : decode bytes pc = .ok (.if_icmp cd o, 3)) (kt : own_cp cd x y → own_Run p e below Q m T q Ls rest) (kf : own_cn cd x y → own_Run p e below Q m T q' Ls rest) (ho : 0 ≤ (pc : Int) + o := by decide) (hq : ((pc : Int) + o).toNat = q := by decide) (hq' : pc + 3 = q' := by rfl) : own_Run p e below Q m T pc Ls (.int y :: .int x :: rest) :=
  (own_cpn cd x y).elim (fun z => own_icmpT A hd z (kt z) ho hq) (fun z => own_icmpF A hd z (kf z) hq')
theorem own_acmpT (A : own_At w p l e R s m args below meth c bytes ret own nm mx Z n0 a0 EL sf T h cells slots) {cd : ClassFile.ACond} {x y : Value} {o : Int} (hd : decode bytes pc = .ok (.if_acmp cd o, 3)) (hx' : x.isRef = true) (hy' : y.isRef = true) (hc : XT.acmp cd x y = true) (k : own_Run p e below Q m T q Ls rest) (ho : 0 ≤ (pc : Int) + o := by decide) (hq : ((pc : Int) + o).toNat = q := by decide) : own_Run p e below Q m T pc Ls (y :: x :: rest) := by
  obtain ⟨⟨hx, hby, -⟩, vm0, locs, X, -⟩ := A
  subst hby
  refine own_by (fun t z => ?_) k
  exact XT.acmpYes X.here hx rfl (pc0 := pc) rfl hd rfl hx' hy' hc ho hq z
theorem own_acmpF (A : own_At w p l e R s m args below meth c bytes ret own nm mx Z n0 a0 EL sf T h cells slots) {cd : ClassFile.ACond} {x y : Value} {o : Int} (hd : decode bytes pc = .ok (.if_acmp cd o, 3)) (hx' : x.isRef = true) (hy' : y.isRef = true) (hc : XT.acmp cd x y = false) (k : own_Run p e below Q m T q Ls rest) (hq : pc + 3 = q := by rfl) : own_Run p e below Q m T pc Ls (y :: x :: rest) := by
  obtain ⟨⟨hx, hby, -⟩, vm0, locs, X, -⟩ := A
  subst hby hq
  refine own_by (fun t z => ?_) k
  exact XT.acmpNo X.here hx rfl hd rfl hx' hy' hc z
theorem own_ifnullT (A : own_At w p l e R s m args below meth c bytes ret own nm mx Z n0 a0 EL sf T h cells slots) {b : Addr} {o : Int} (hd : decode bytes pc = .ok (.ifnull o, 3)) (k : own_Run p e below Q m T q Ls rest) (ho : 0 ≤ (pc : Int) + o := by decide) (hq : ((pc : Int) + o).toNat = q := by decide) : own_Run p e below Q m T pc Ls (.null :: rest) := by
  obtain ⟨⟨hx, hby, -⟩, vm0, locs, X, -⟩ := A
  subst hby
  refine own_by (fun t z => ?_) k
  exact XS.ifnullYes X.here hx rfl (pc0 := pc) rfl hd rfl ho hq z
theorem own_ifnullF (A : own_At w p l e R s m args below meth c bytes ret own nm mx Z n0 a0 EL sf T h cells slots) {b : Addr} {o : Int} (hd : decode bytes pc = .ok (.ifnull o, 3)) (k : own_Run p e below Q m T q Ls rest) (hq : pc + 3 = q := by rfl) : own_Run p e below Q m T pc Ls (.ref b :: rest) := by
  obtain ⟨⟨hx, hby, -⟩, vm0, locs, X, -⟩ := A
  subst hby hq
  refine own_by (fun t z => ?_) k
  exact XS.ifnullNo X.here hx rfl hd rfl z
theorem own_ifnonnullT (A : own_At w p l e R s m args below meth c bytes ret own nm mx Z n0 a0 EL sf T h cells slots) {b : Addr} {o : Int} (hd : decode bytes pc = .ok (.ifnonnull o, 3)) (k : own_Run p e below Q m T q Ls rest) (ho : 0 ≤ (pc : Int) + o := by decide) (hq : ((pc : Int) + o).toNat = q := by decide) : own_Run p e below Q m T pc Ls (.ref b :: rest) := by
  obtain ⟨⟨hx, hby, -⟩, vm0, locs, X, -⟩ := A
  subst hby
  refine own_by (fun t z => ?_) k
  exact XS.ifnonnullYes X.here hx rfl (pc0 := pc) rfl hd rfl ho hq z
theorem own_ifnonnullF (A : own_At w p l e R s m args below meth c bytes ret own nm mx Z n0 a0 EL sf T h cells slots) {b : Addr} {o : Int} (hd : decode bytes pc = .ok (.ifnonnull o, 3)) (k : own_Run p e below Q m T q Ls rest) (hq : pc + 3 = q := by rfl) : own_Run p e below Q m T pc Ls (.null :: rest) := by
  obtain ⟨⟨hx, hby, -⟩, vm0, locs, X, -⟩ := A
  subst hby hq
  refine own_by (fun t z => ?_) k
  exact XS.ifnonnullNo X.here hx rfl hd rfl z
theorem own_tswIn (A : own_At w p l e R s m args below meth c bytes ret own nm mx Z n0 a0 EL sf T h cells slots) {dflt low high : Int} {offs : Array Int} {len : Nat} {i : Int32} {o : Int} (hd : decode bytes pc = .ok (.tableswitch dflt low high offs, len)) (hin : ¬ (i.toInt < low ∨ i.toInt > high)) (hoff : offs[(i.toInt - low).toNat]? = some o) (k : own_Run p e below Q m T q Ls rest) (ho : 0 ≤ (pc : Int) + o := by decide) (hq : ((pc : Int) + o).toNat = q := by decide) : own_Run p e below Q m T pc Ls (.int i :: rest) := by
  obtain ⟨⟨hx, hby, -⟩, vm0, locs, X, -⟩ := A
  subst hby
  refine own_by (fun t z => ?_) k
  exact XS.tswIn X.here hx rfl (pc0 := pc) rfl hd rfl hin hoff ho hq z
theorem own_tswOut (A : own_At w p l e R s m args below meth c bytes ret own nm mx Z n0 a0 EL sf T h cells slots) {o low high : Int} {offs : Array Int} {len : Nat} {i : Int32} (hd : decode bytes pc = .ok (.tableswitch o low high offs, len)) (hout : i.toInt < low ∨ i.toInt > high) (k : own_Run p e below Q m T q Ls rest) (ho : 0 ≤ (pc : Int) + o := by decide) (hq : ((pc : Int) + o).toNat = q := by decide) : own_Run p e below Q m T pc Ls (.int i :: rest) := by
  obtain ⟨⟨hx, hby, -⟩, vm0, locs, X, -⟩ := A
  subst hby
  refine own_by (fun t z => ?_) k
  exact XS.tswOut X.here hx rfl (pc0 := pc) rfl hd rfl hout ho hq z
theorem own_ldcI (A : own_At w p l e R s m args below meth c bytes ret own nm mx Z n0 a0 EL sf T h cells slots) {i : Nat} {v : Int32} (wc : (Jvm.Cond.constant own i v).before a0 Z = true) (hd : decode bytes pc = .ok (.ldc i, 2)) (k : own_Run p e below Q m T q Ls (.int v :: st)) (hq : pc + 2 = q := by rfl) : own_Run p e below Q m T pc Ls st := by
  obtain ⟨⟨hx, hby, -⟩, vm0, locs, X, B, hZ, hown, hT, N, Od, hEL, Ch, Sf⟩ := A
  subst hby hq
  refine own_by (fun t z => ?_) k
  exact X.ldcI hx (s := s.setVm vm0) hown (mv (s := s.setVm vm0) hZ wc) rfl hd z
theorem own_ldcWI (A : own_At w p l e R s m args below meth c bytes ret own nm mx Z n0 a0 EL sf T h cells slots) {i : Nat} {v : Int32} (wc : (Jvm.Cond.constant own i v).before a0 Z = true) (hd : decode bytes pc = .ok (.ldc_w i, 3)) (k : own_Run p e below Q m T q Ls (.int v :: st)) (hq : pc + 3 = q := by rfl) : own_Run p e below Q m T pc Ls st := by
  obtain ⟨⟨hx, hby, -⟩, vm0, locs, X, B, hZ, hown, hT, N, Od, hEL, Ch, Sf⟩ := A
  subst hby hq
  refine own_by (fun t z => ?_) k
  exact X.ldcWI hx (s := s.setVm vm0) hown (mv (s := s.setVm vm0) hZ wc) rfl hd z
theorem own_ldc2J (A : own_At w p l e R s m args below meth c bytes ret own nm mx Z n0 a0 EL sf T h cells slots) {i : Nat} {v : Int64} (wc : (Jvm.Cond.constantLong own i v).before a0 Z = true) (hd : decode bytes pc = .ok (.ldc2_w i, 3)) (k : own_Run p e below Q m T q Ls (.long v :: st)) (hq : pc + 3 = q := by rfl) : own_Run p e below Q m T pc Ls st := by
  obtain ⟨⟨hx, hby, -⟩, vm0, locs, X, B, hZ, hown, hT, N, Od, hEL, Ch, Sf⟩ := A
  subst hby hq
  refine own_by (fun t z => ?_) k
  exact X.ldc2J hx (s := s.setVm vm0) hown (mv (s := s.setVm vm0) hZ wc) rfl hd z
theorem own_getF (A : own_At w p l e R s m args below meth c bytes ret own nm mx Z n0 a0 EL sf T h cells slots) {i : Nat} {R0 O n d host : String} {a : Addr} {v : Value} (wl : (Jvm.Cond.fieldLink own i R0 n d).before a0 Z = true ∨ (Jvm.Cond.fieldLinkNest own i R0 n d host).before a0 Z = true) (via : Via Z R0 O n d) (F : Fld Z h a O n d v) (hd : decode bytes pc = .ok (.getfield i, 3))
    (k : ∀ T', own_At w p l e R s m args below meth c bytes ret own nm mx Z n0 a0 EL sf T' h cells slots → own_Run p e below Q m T' q Ls (v :: rest)) (hq : pc + 3 = q := by rfl) : own_Run p e below Q m T pc Ls (.ref a :: rest) := by
  obtain ⟨⟨hx, hby, r⟩, vm0, locs, X, B, hZ, hown, hT, N, Od, hEL, Ch, Sf⟩ := A
  subst hby hq
  obtain ⟨T', X', e', st'⟩ := getF X hx (s := s.setVm vm0) hZ hown wl via hT F (g := mkF m pc Ls (.ref a :: rest)) rfl rfl hd
  exact own_by st' (k T' ⟨⟨hx, rfl, r⟩, vm0, locs, X', B, hZ, hown, e', N, Od, hEL, Ch, Sf⟩)
theorem own_getS (A : own_At w p l e R s m args below meth c bytes ret own nm mx Z n0 a0 EL sf T h cells slots) {i : Nat} {R0 O n d : String} {v : Value} (wl : (Jvm.Cond.fieldLink own i R0 n d).before a0 Z = true) (via : Via Z R0 O n d) (F : Sta Z Z.heap O n d v) (hd : decode bytes pc = .ok (.getstatic i, 3))
    (k : ∀ T', own_At w p l e R s m args below meth c bytes ret own nm mx Z n0 a0 EL sf T' h cells slots → own_Run p e below Q m T' q Ls (v :: st)) (hq : pc + 3 = q := by rfl) : own_Run p e below Q m T pc Ls st := by
  obtain ⟨⟨hx, hby, r⟩, vm0, locs, X, B, hZ, hown, hT, N, Od, hEL, Ch, Sf⟩ := A
  subst hby hq
  obtain ⟨T', X', e', st'⟩ := getS X hx (s := s.setVm vm0) (host := "") hZ hown wl via hT (F.ext Od.2) (g := mkF m pc Ls st) rfl hd
  exact own_by st' (k T' ⟨⟨hx, rfl, r⟩, vm0, locs, X', B, hZ, hown, e', N, Od, hEL, Ch, Sf⟩)
theorem own_putF (A : own_At w p l e R s m args below meth c bytes ret own nm mx Z n0 a0 EL sf T h cells slots) {i kk : Nat} {R0 O n d host C : String} {ty : FieldType} {a : Addr} {v old : Value} (wl : (Jvm.Cond.fieldLink own i R0 n d).before a0 Z = true ∨ (Jvm.Cond.fieldLinkNest own i R0 n d host).before a0 Z = true) (via : Via Z R0 O n d) (F : Fld Z h a O n d old) (E : Exa Z h a C) (L : (Jvm.Cond.lays C O n d).before a0 Z = true ∨ ((Jvm.Cond.laysFinal C O n d).before a0 Z = true ∧ own = O ∧ nm = "<init>")) (wi : (Jvm.Cond.instantiable C kk).before a0 Z = true)
    (hty : parseFieldDescriptor d = some ty) (hn : narrow ty v = v) (hf : fits ty v = true) (ha : n0 ≤ a) (hwo : own_Wok Z EL sf h a) (hd : decode bytes pc = .ok (.putfield i, 3)) (k : ∀ T' h', own_At w p l e R s m args below meth c bytes ret own nm mx Z n0 a0 EL sf T' h' cells slots → Wr h h' a (RoadKit.slotOf Z O n d) v → own_Run p e below Q m T' q Ls rest) (hq : pc + 3 = q := by rfl) : own_Run p e below Q m T pc Ls (v :: .ref a :: rest) := by
  obtain ⟨⟨hx, hby, r1, r2, r3, r4⟩, vm0, locs, X, B, hZ, hown, hT, N, Od, hEL, Ch, Sf⟩ := A
  subst hby hq
  obtain ⟨T', h', X', e', W, st'⟩ := putF X hx (s := s.setVm vm0) hZ hown wl via hT F E (L.imp id fun z => ⟨z.1, z.2.1, r3.trans z.2.2⟩) wi hty hn hf (g := mkF m pc Ls (v :: .ref a :: rest)) rfl rfl hd
  exact own_by st' (k T' h' ⟨⟨hx, rfl, r1, r2, r3, r4⟩, vm0, _, X', B.le (Nat.le_of_eq W.size.symm), hZ, hown, e', Fr.snoc X' N ha, Od.wr W ha, hEL, Ch.trans (CHr.wr W (hwo.safe hZ Sf) Ch.1), Sf.wr Ch.1 W (hwo.safe hZ Sf)⟩ W)
theorem own_newO (A : own_At w p l e R s m args below meth c bytes ret own nm mx Z n0 a0 EL sf T h cells slots) {i n : Nat} {C : String} (w1 : (Jvm.Cond.classLink own i C).before a0 Z = true) (wi : (Jvm.Cond.instantiable C n).before a0 Z = true) (wz : (Jvm.Cond.initialized C).before a0 Z = true) (hd : decode bytes pc = .ok (.new i, 3)) (hc : cells + 1 ≤ R.cells) (hl : slots + n ≤ R.slots)
    (k : ∀ T' h' a, h.size = a → n0 ≤ a → own_At w p l e R s m args below meth c bytes ret own nm mx Z n0 a0 EL (a :: sf) T' h' (cells + 1) (slots + n) → Ext h h' → Exa Z h' a C → (∀ {O nm d : String} {ty : FieldType}, Laid Z a0 C O nm d → parseFieldDescriptor d = some ty → Fld Z h' a O nm d (defaultValue ty)) → own_Run p e below Q m T' q Ls (.ref a :: st)) (hq : pc + 3 = q := by rfl) : own_Run p e below Q m T pc Ls st := by
  have g0 := A.fr
  obtain ⟨⟨hx, hby, r⟩, vm0, locs, X, B, hZ, hown, hT, N, Od, hEL, Ch, Sf⟩ := A
  subst hby hq
  obtain ⟨T', h', X', e', E, Ex, D, -, st'⟩ := newO X hx (s := s.setVm vm0) hZ hown w1 wi wz hT (g := mkF m pc Ls st) rfl hd hc hl
  exact own_by st' (k T' h' h.size rfl g0 ⟨⟨hx, rfl, r⟩, vm0, _, X', B.le E.1, hZ, hown, e', N, Od.ext E, hEL, Ch.trans (CHr.ext E Ch.1), Sf.new Ch.1 E Ex.lt⟩ E Ex D)
theorem own_newP (A : own_At w p l e R s m args below meth c bytes ret own nm mx Z n0 a0 EL sf T h cells slots) {aty : ArrayType} (w1 : (Jvm.Cond.arrayClass (newarray.typeOf aty)).before a0 Z = true) (hd : decode bytes pc = .ok (.newarray aty, 2)) {n : Int32} (cap : Nat) (hn : ¬ n < 0) (hcap : n.toNatClampNeg ≤ cap) (hb : cap * 8 ≤ 536870912) (hc : cells + 1 ≤ R.cells) (hl : slots + cap ≤ R.slots)
    (k : ∀ T' h' a cA, h.size = a → n0 ≤ a → own_At w p l e R s m args below meth c bytes ret own nm mx Z n0 a0 EL (a :: sf) T' h' (cells + 1) (slots + cap) → Ext h h' → Arr Z h' a (newA cA (newarray.typeOf aty) n) (newarray.typeOf aty) → own_Run p e below Q m T' q Ls (.ref a :: rest)) (hq : pc + 2 = q := by rfl) : own_Run p e below Q m T pc Ls (.int n :: rest) := by
  have g0 := A.fr
  obtain ⟨⟨hx, hby, r⟩, vm0, locs, X, B, hZ, hown, hT, N, Od, hEL, Ch, Sf⟩ := A
  subst hby hq
  obtain ⟨T', h', cA, X', e', E, Ar, st'⟩ := newP X hx (s := s.setVm vm0) hZ w1 hT (g := mkF m pc Ls (.int n :: rest)) rfl hd rfl hn hcap hb hc hl
  exact own_by st' (k T' h' h.size cA rfl g0 ⟨⟨hx, rfl, r⟩, vm0, _, X', B.le E.1, hZ, hown, e', N, Od.ext E, hEL, Ch.trans (CHr.ext E Ch.1), Sf.new Ch.1 E Ar.lt⟩ E Ar)
theorem own_newR (A : own_At w p l e R s m args below meth c bytes ret own nm mx Z n0 a0 EL sf T h cells slots) {i : Nat} {C : String} (w1 : (Jvm.Cond.classLink own i C).before a0 Z = true) (w2 : (Jvm.Cond.arrayOver (.object C)).before a0 Z = true) (hd : decode bytes pc = .ok (.anewarray i, 3)) {n : Int32} (cap : Nat) (hn : ¬ n < 0) (hcap : n.toNatClampNeg ≤ cap) (hb : cap * 8 ≤ 536870912) (hc : cells + 1 ≤ R.cells) (hl : slots + cap ≤ R.slots)
    (k : ∀ T' h' a cA, h.size = a → n0 ≤ a → own_At w p l e R s m args below meth c bytes ret own nm mx Z n0 a0 EL (a :: sf) T' h' (cells + 1) (slots + cap) → Ext h h' → Arr Z h' a (newA cA (.object C) n) (.object C) → Ovr Z cA C → own_Run p e below Q m T' q Ls (.ref a :: rest)) (hq : pc + 3 = q := by rfl) : own_Run p e below Q m T pc Ls (.int n :: rest) := by
  have g0 := A.fr
  obtain ⟨⟨hx, hby, r⟩, vm0, locs, X, B, hZ, hown, hT, N, Od, hEL, Ch, Sf⟩ := A
  subst hby hq
  obtain ⟨T', h', cA, X', e', E, Ar, Ov, st'⟩ := newR X hx (s := s.setVm vm0) hZ hown w1 w2 hT (g := mkF m pc Ls (.int n :: rest)) rfl hd rfl hn hcap hb hc hl
  exact own_by st' (k T' h' h.size cA rfl g0 ⟨⟨hx, rfl, r⟩, vm0, _, X', B.le E.1, hZ, hown, e', N, Od.ext E, hEL, Ch.trans (CHr.ext E Ch.1), Sf.new Ch.1 E Ar.lt⟩ E Ar Ov)
theorem own_initO (A : own_At w p l e R s m args below meth c bytes ret own nm mx Z n0 a0 EL sf T h cells slots) {i : Nat} {a : Addr} (w1 : (Jvm.Cond.methodLink own i Lib.objectInit).before a0 Z = true) (w2 : (Jvm.Cond.instanceMethod Lib.objectInit).before a0 Z = true) (w3 : (Jvm.Cond.code Lib.objectInit ⟨#[0xb1]⟩ 1 none).before a0 Z = true) (hd : decode bytes pc = .ok (.invokespecial i, 3)) (hsz : Ls.size = mx) {W : Nat} (hf : 1 ≤ R.frames) (hW : (rest.map fun v => v.category).sum ≤ W) (hl : W + 12 ≤ R.locals)
    (k : ∀ T', own_At w p l e R s m args below meth c bytes ret own nm mx Z n0 a0 EL sf T' h cells slots → own_Run p e below Q m T' q Ls rest) (hq : pc + 3 = q := by rfl) : own_Run p e below Q m T pc Ls (.ref a :: rest) := by
  obtain ⟨⟨hx, hby, r1, r2, r3, r4⟩, vm0, locs, X, B, hZ, hown, hT, N, Od, hEL, Ch, Sf⟩ := A
  subst hby hq
  obtain ⟨T', X', e', st'⟩ := initO X hx (s := s.setVm vm0) hZ hown w1 w2 w3 hT (g := mkF m pc Ls (.ref a :: rest)) rfl (hsz.trans r4.symm) rfl hd hf (W := W) (by show 2 * 0 + _ ≤ _; rw [Nat.mul_zero, Nat.zero_add]; exact hW) hl
  exact own_by st' (k T' ⟨⟨hx, rfl, r1, r2, r3, r4⟩, vm0, _, X', B, hZ, hown, e', N, Od, hEL, Ch, Sf⟩)
theorem own_stI (A : own_At w p l e R s m args below meth c bytes ret own nm mx Z n0 a0 EL sf T h cells slots) {a : Addr} {cl : Cell} {j x : Int32} (Ar : Arr Z h a cl .int) (hj : ¬ (j < 0 ∨ cl.slots.size ≤ j.toNatClampNeg)) (ha : n0 ≤ a) (hwo : own_Wok Z EL sf h a) (hd : decode bytes pc = .ok (.iastore, 1)) (k : ∀ T' h', own_At w p l e R s m args below meth c bytes ret own nm mx Z n0 a0 EL sf T' h' cells slots → Wr h h' a j.toNatClampNeg (.int x) → own_Run p e below Q m T' q Ls rest) (hq : pc + 1 = q := by rfl) : own_Run p e below Q m T pc Ls (.int x :: .int j :: .ref a :: rest) := by
  obtain ⟨⟨hx, hby, r⟩, vm0, locs, X, B, hZ, hown, hT, N, Od, hEL, Ch, Sf⟩ := A
  subst hby hq
  obtain ⟨T', h', X', e', W, st'⟩ := RoadKit.stI X hx (s := s.setVm vm0) hZ hT Ar hj (g := mkF m pc Ls (.int x :: .int j :: .ref a :: rest)) rfl rfl hd
  exact own_by st' (k T' h' ⟨⟨hx, rfl, r⟩, vm0, _, X', B.le (Nat.le_of_eq W.size.symm), hZ, hown, e', Fr.snoc X' N ha, Od.wr W ha, hEL, Ch.trans (CHr.wr W (hwo.safe hZ Sf) Ch.1), Sf.wr Ch.1 W (hwo.safe hZ Sf)⟩ W)
theorem own_stC (A : own_At w p l e R s m args below meth c bytes ret own nm mx Z n0 a0 EL sf T h cells slots) {a : Addr} {cl : Cell} {j x : Int32} (Ar : Arr Z h a cl .char) (hj : ¬ (j < 0 ∨ cl.slots.size ≤ j.toNatClampNeg)) (ha : n0 ≤ a) (hwo : own_Wok Z EL sf h a) (hd : decode bytes pc = .ok (.castore, 1)) (k : ∀ T' h', own_At w p l e R s m args below meth c bytes ret own nm mx Z n0 a0 EL sf T' h' cells slots → Wr h h' a j.toNatClampNeg (.int (nar .char x)) → own_Run p e below Q m T' q Ls rest) (hq : pc + 1 = q := by rfl) : own_Run p e below Q m T pc Ls (.int x :: .int j :: .ref a :: rest) := by
  obtain ⟨⟨hx, hby, r⟩, vm0, locs, X, B, hZ, hown, hT, N, Od, hEL, Ch, Sf⟩ := A
  subst hby hq
  obtain ⟨T', h', X', e', W, st'⟩ := RoadKit.stC X hx (s := s.setVm vm0) hZ hT Ar hj (g := mkF m pc Ls (.int x :: .int j :: .ref a :: rest)) rfl rfl hd
  exact own_by st' (k T' h' ⟨⟨hx, rfl, r⟩, vm0, _, X', B.le (Nat.le_of_eq W.size.symm), hZ, hown, e', Fr.snoc X' N ha, Od.wr W ha, hEL, Ch.trans (CHr.wr W (hwo.safe hZ Sf) Ch.1), Sf.wr Ch.1 W (hwo.safe hZ Sf)⟩ W)
theorem own_stB (A : own_At w p l e R s m args below meth c bytes ret own nm mx Z n0 a0 EL sf T h cells slots) {a : Addr} {cl : Cell} {j x : Int32} (Ar : Arr Z h a cl .byte) (hj : ¬ (j < 0 ∨ cl.slots.size ≤ j.toNatClampNeg)) (ha : n0 ≤ a) (hwo : own_Wok Z EL sf h a) (hd : decode bytes pc = .ok (.bastore, 1)) (k : ∀ T' h', own_At w p l e R s m args below meth c bytes ret own nm mx Z n0 a0 EL sf T' h' cells slots → Wr h h' a j.toNatClampNeg (.int (nar .byte x)) → own_Run p e below Q m T' q Ls rest) (hq : pc + 1 = q := by rfl) : own_Run p e below Q m T pc Ls (.int x :: .int j :: .ref a :: rest) := by
  obtain ⟨⟨hx, hby, r⟩, vm0, locs, X, B, hZ, hown, hT, N, Od, hEL, Ch, Sf⟩ := A
  subst hby hq
  obtain ⟨T', h', X', e', W, st'⟩ := RoadKit.stB X hx (s := s.setVm vm0) hZ hT Ar hj (g := mkF m pc Ls (.int x :: .int j :: .ref a :: rest)) rfl rfl hd
  exact own_by st' (k T' h' ⟨⟨hx, rfl, r⟩, vm0, _, X', B.le (Nat.le_of_eq W.size.symm), hZ, hown, e', Fr.snoc X' N ha, Od.wr W ha, hEL, Ch.trans (CHr.wr W (hwo.safe hZ Sf) Ch.1), Sf.wr Ch.1 W (hwo.safe hZ Sf)⟩ W)
theorem own_stR (A : own_At w p l e R s m args below meth c bytes ret own nm mx Z n0 a0 EL sf T h cells slots) {a : Addr} {cl : Cell} {ty : FieldType} {j : Int32} {v : Value} (Ar : Arr Z h a cl ty) (hj : ¬ (j < 0 ∨ cl.slots.size ≤ j.toNatClampNeg)) (hty : ty.isReference = true) (F : Sto Z h a v) (ha : n0 ≤ a) (hwo : own_Wok Z EL sf h a) (hd : decode bytes pc = .ok (.aastore, 1)) (k : ∀ T' h', own_At w p l e R s m args below meth c bytes ret own nm mx Z n0 a0 EL sf T' h' cells slots → Wr h h' a j.toNatClampNeg v → own_Run p e below Q m T' q Ls rest) (hq : pc + 1 = q := by rfl) : own_Run p e below Q m T pc Ls (v :: .int j :: .ref a :: rest) := by
  obtain ⟨⟨hx, hby, r⟩, vm0, locs, X, B, hZ, hown, hT, N, Od, hEL, Ch, Sf⟩ := A
  subst hby hq
  obtain ⟨T', h', X', e', W, st'⟩ := stR X hx (s := s.setVm vm0) hZ hT Ar hj hty F (g := mkF m pc Ls (v :: .int j :: .ref a :: rest)) rfl rfl hd
  exact own_by st' (k T' h' ⟨⟨hx, rfl, r⟩, vm0, _, X', B.le (Nat.le_of_eq W.size.symm), hZ, hown, e', Fr.snoc X' N ha, Od.wr W ha, hEL, Ch.trans (CHr.wr W (hwo.safe hZ Sf) Ch.1), Sf.wr Ch.1 W (hwo.safe hZ Sf)⟩ W)
theorem own_arrlen (A : own_At w p l e R s m args below meth c bytes ret own nm mx Z n0 a0 EL sf T h cells slots) {a : Addr} {cl : Cell} {ty : FieldType} (Ar : Arr Z h a cl ty) (hd : decode bytes pc = .ok (.arraylength, 1)) (k : own_Run p e below Q m T q Ls (.int cl.slots.size.toInt32 :: rest)) (hq : pc + 1 = q := by rfl) : own_Run p e below Q m T pc Ls (.ref a :: rest) := by
  obtain ⟨⟨hx, hby, r⟩, vm0, locs, X, B, hZ, hown, hT, N, Od, hEL, Ch, Sf⟩ := A
  subst hby hq hT
  exact own_by (fun t z => X.arraylength hx Ar.1 (State.isArrayOf_alike (T := s.setVm vm0) hZ.alike Ar.2.1) (g := mkF m pc Ls (.ref a :: rest)) rfl rfl hd t z) k
theorem own_aaload (A : own_At w p l e R s m args below meth c bytes ret own nm mx Z n0 a0 EL sf T h cells slots) {a : Addr} {cl : Cell} {ty : FieldType} {j : Int32} {v : Value} (Ar : Arr Z h a cl ty) (hty : ty.isReference = true) (hj : ¬ (j < 0 ∨ cl.slots.size ≤ j.toNatClampNeg)) (hv : cl.slots[j.toNatClampNeg]? = some v) (hd : decode bytes pc = .ok (.aaload, 1)) (k : own_Run p e below Q m T q Ls (v :: rest)) (hq : pc + 1 = q := by rfl) : own_Run p e below Q m T pc Ls (.int j :: .ref a :: rest) := by
  obtain ⟨⟨hx, hby, r⟩, vm0, locs, X, B, hZ, hown, hT, N, Od, hEL, Ch, Sf⟩ := A
  subst hby hq hT
  exact own_by (fun t z => X.aaload hx Ar.1 (State.isArrayOf_alike (T := s.setVm vm0) hZ.alike Ar.2.1) hty Ar.2.2 hj hv (g := mkF m pc Ls (.int j :: .ref a :: rest)) rfl rfl hd t z) k
theorem own_iaload (A : own_At w p l e R s m args below meth c bytes ret own nm mx Z n0 a0 EL sf T h cells slots) {a : Addr} {cl : Cell} {j : Int32} {v : Value} (Ar : Arr Z h a cl .int) (hj : ¬ (j < 0 ∨ cl.slots.size ≤ j.toNatClampNeg)) (hv : cl.slots[j.toNatClampNeg]? = some v) (hd : decode bytes pc = .ok (.iaload, 1)) (k : own_Run p e below Q m T q Ls (v :: rest)) (hq : pc + 1 = q := by rfl) : own_Run p e below Q m T pc Ls (.int j :: .ref a :: rest) := by
  obtain ⟨⟨hx, hby, r⟩, vm0, locs, X, B, hZ, hown, hT, N, Od, hEL, Ch, Sf⟩ := A
  subst hby hq hT
  exact own_by (fun t z => X.iaload hx Ar.1 (State.isArrayOf_alike (T := s.setVm vm0) hZ.alike Ar.2.1) Ar.2.2 hj hv (g := mkF m pc Ls (.int j :: .ref a :: rest)) rfl rfl hd t z) k
theorem own_caload (A : own_At w p l e R s m args below meth c bytes ret own nm mx Z n0 a0 EL sf T h cells slots) {a : Addr} {cl : Cell} {j : Int32} {v : Value} (Ar : Arr Z h a cl .char) (hj : ¬ (j < 0 ∨ cl.slots.size ≤ j.toNatClampNeg)) (hv : cl.slots[j.toNatClampNeg]? = some v) (hd : decode bytes pc = .ok (.caload, 1)) (k : own_Run p e below Q m T q Ls (v :: rest)) (hq : pc + 1 = q := by rfl) : own_Run p e below Q m T pc Ls (.int j :: .ref a :: rest) := by
  obtain ⟨⟨hx, hby, r⟩, vm0, locs, X, B, hZ, hown, hT, N, Od, hEL, Ch, Sf⟩ := A
  subst hby hq hT
  exact own_by (fun t z => X.caload hx Ar.1 (State.isArrayOf_alike (T := s.setVm vm0) hZ.alike Ar.2.1) Ar.2.2 hj hv (g := mkF m pc Ls (.int j :: .ref a :: rest)) rfl rfl hd t z) k
theorem own_baload (A : own_At w p l e R s m args below meth c bytes ret own nm mx Z n0 a0 EL sf T h cells slots) {a : Addr} {cl : Cell} {j : Int32} {v : Value} (Ar : Arr Z h a cl .byte) (hj : ¬ (j < 0 ∨ cl.slots.size ≤ j.toNatClampNeg)) (hv : cl.slots[j.toNatClampNeg]? = some v) (hd : decode bytes pc = .ok (.baload, 1)) (k : own_Run p e below Q m T q Ls (v :: rest)) (hq : pc + 1 = q := by rfl) : own_Run p e below Q m T pc Ls (.int j :: .ref a :: rest) := by
  obtain ⟨⟨hx, hby, r⟩, vm0, locs, X, B, hZ, hown, hT, N, Od, hEL, Ch, Sf⟩ := A
  subst hby hq hT
  exact own_by (fun t z => X.baloadBytes hx Ar.1 (State.isArrayOf_alike (T := s.setVm vm0) hZ.alike Ar.2.1) Ar.2.2 hj hv (g := mkF m pc Ls (.int j :: .ref a :: rest)) rfl rfl hd t z) k
/-- a callee that a library or own law pays, narrow (it interns nothing; ws: what it may write) -/
def own_Pays (l : Launch) (R : Room) (p : Program) (e : Env) (below : List Frame) (s : State) (args : Array Value) (Z : State) (n0 : Nat) (EL : List (String × Nat)) (ws : List Addr) (y : MethodName) (len W k n : Nat) (as' : Array Value) (h : Heap) (Qc : Option Value → Heap → Prop) : Prop :=
  ∀ vm0, Z.Warmed39 vm0 → Back l R p e below (s.setVm vm0) args y len W (fun A a => a = as' ∧ A.U.heap = h ∧ A.cells + k ≤ R.cells ∧ A.slots + n ≤ R.slots)
    (fun A _ v B => ∃ L, (Qc v B.U.heap ∧ Fr n0 L ∧ Old Z n0 B.U.heap ∧ h.size ≤ B.U.heap.size ∧ (EL = [] ∨ Keep h B.U.heap ws)) ∧ B.locs = A.locs ++ L ∧ B.cells = A.cells + k ∧ B.slots = A.slots + n)
theorem own_pay {y : MethodName} {bytes : ByteArray} {mx len W : Nat} {ret : Option FieldType} {rm : Room} {as' : Array Value} {Qc : Option Value → Heap → Prop} (M : own_Met false l Z n0 [] [] y bytes mx ret [] rm as' h Qc) (wc : (Jvm.Cond.code y bytes mx ret).before a0 Z = true) (wz : (Jvm.Cond.initialized y.cls).before a0 Z = true) (hf : rm.frames + 1 ≤ R.frames) (hl : W + (mx + 11) + rm.locals ≤ R.locals) :
    own_Pays l R p e below s args Z n0 [] [] y len W rm.cells rm.slots as' h Qc := fun vm0 hZ => by
  have M' : MetFree l y (head1 [Jvm.Cond.code y bytes mx ret] rm) (fun a U => a = as' ∧ Z.Warmed39 U.vm ∧ U.heap = h) (fun _ _ _ _ _ => True) (fun _ U o U' => ∃ v L, o = .returned v ∧ (fun v h' L => Qc v h' ∧ Fr n0 L ∧ Old Z n0 h' ∧ h.size ≤ h'.size ∧ (([] : List (String × Nat)) = [] ∨ Keep h h' [])) v U'.heap L ∧ FrameEnd U o U' L rm.cells rm.slots) :=
    MetFree.mono M (fun _ U z => ⟨z.1, z.2.1, z.2.2, (own_ch0 (vm := U.vm) (h := h) (Nat.le_refl _)).1, fun x hx => nomatch hx⟩) (fun _ _ _ _ _ z => z) (fun a U o U' hp ⟨v, L, h1, ⟨h2, h3, h4, h5⟩, _, h6⟩ => ⟨v, L, h1, ⟨h2, h3, h4, hp.2.2 ▸ h5, Or.inl rfl⟩, h6⟩)
  exact backOf (s := s.setVm vm0) (Q := fun v h' L => Qc v h' ∧ Fr n0 L ∧ Old Z n0 h' ∧ h.size ≤ h'.size ∧ (([] : List (String × Nat)) = [] ∨ Keep h h' [])) M' hZ wc wz hf hl
/-- a callee that may intern; sf': what it asks to be made and no literal's -/
def own_PaysW (l : Launch) (R : Room) (p : Program) (e : Env) (below : List Frame) (s : State) (args : Array Value) (Z : State) (n0 : Nat) (a0 : Array Value) (EL : List (String × Nat)) (ws : List Addr) (y : MethodName) (len W k n : Nat) (as' : Array Value) (h : Heap) (Qc : Option Value → Heap → Prop) : Prop :=
  ∀ vm0, EW Z a0 EL → Z.Warmed39 vm0 → CHv Z EL vm0 h → own_Sf Z EL vm0 h ws → BackS l R p e below (s.setVm vm0) args y len W (fun A a => a = as' ∧ A.U.heap = h ∧ A.cells + k ≤ R.cells ∧ A.slots + n ≤ R.slots)
    (fun A _ v B => ∃ L, (Qc v B.U.heap ∧ Fr n0 L ∧ Old Z n0 B.U.heap ∧ CHr Z EL vm0 h B.U.vm B.U.heap) ∧ B.locs = A.locs ++ L ∧ B.cells = A.cells + k ∧ B.slots = A.slots + n)
theorem own_payW {ws : List Addr} {y : MethodName} {bytes : ByteArray} {mx len W : Nat} {ret : Option FieldType} {rm : Room} {as' : Array Value} {Qc : Option Value → Heap → Prop} (M : own_Met true l Z n0 EL ws y bytes mx ret [] rm as' h Qc) (wc : (Jvm.Cond.code y bytes mx ret).before a0 Z = true) (wz : (Jvm.Cond.initialized y.cls).before a0 Z = true) (hf : rm.frames + 1 ≤ R.frames) (hl : W + (mx + 11) + rm.locals ≤ R.locals) :
    own_PaysW l R p e below s args Z n0 a0 EL ws y len W rm.cells rm.slots as' h Qc := fun vm0 hEL hZ H S => by
  refine BackS.of_freeW (bytes := bytes) (maxL := mx) (ret := ret) (E := fun _ first o t L k n => k = rm.cells ∧ n = rm.slots ∧ (∃ v, o = .returned v ∧ Qc v t.heap ∧ Fr n0 L ∧ Old Z n0 t.heap) ∧ CHr Z EL first.vm first.heap t.vm t.heap) M hf hl ?_ ?_ (fun _ _ _ _ _ _ _ _ _ => trivial) ?_ ?_
  · intro m meth c A a Y hp
    have hU : Z.Warmed39 A.U.vm := wtrans (s := s.setVm vm0) hZ Y.warmed
    exact ⟨by show (Cond.and _ .tt).before a A.U = true; rw [Cond.before_and, mv hU wc]; rfl, mv hU wc, mv hU wz, hp.2.2.1, hp.2.2.2⟩
  · intro m meth c A a g mk Y hp
    have C := CHv.at Y hZ hEL H
    exact ⟨hp.1, wtrans (s := s.setVm vm0) hZ Y.warmed, hp.2.1, C.1, fun x hx => ⟨C.safe (S x hx).2 (S x hx).1, (S x hx).2⟩⟩
  · rintro a first o t ⟨v, L, h1, ⟨h2, h3, h4, h5⟩, h6, h7⟩
    exact ⟨L, _, _, h7, rfl, rfl, ⟨v, h1, h2, h3, h4⟩, h6⟩
  · rintro m meth c A a g mk v t L k n Y hp - - ⟨e1, e2, ⟨v', e3, e4, e5, e6⟩, e7⟩
    cases e3
    subst e1 e2
    refine ⟨L, ⟨e4, e5, e6, (CHv.at Y hZ hEL H).trans ?_⟩, rfl, rfl, rfl⟩
    rw [← hp.2.1]
    exact e7
theorem own_static (A : own_At w p l e R s m args below meth c bytes ret own nm mx Z n0 a0 EL sf T h cells slots) {i mxy : Nat} {y : MethodName} {by' : ByteArray} {rt : Option FieldType} {k n W : Nat} {argsL : List Value} {Qc : Option Value → Heap → Prop} (w1 : (Jvm.Cond.methodLink own i y).before a0 Z = true) (w2 : (Jvm.Cond.static y).before a0 Z = true) (w3 : (Jvm.Cond.initialized y.cls).before a0 Z = true) (w4 : (Jvm.Cond.code y by' mxy rt).before a0 Z = true) (hy : y.cls ≠ "java/lang/invoke/MethodHandle" ∧ y.cls ≠ "java/lang/invoke/VarHandle") {ws : List Addr} (M : own_Pays l R p e below s args Z n0 EL ws y 3 W k n argsL.toArray h Qc) (hws : ∀ x ∈ ws, x ∈ sf) (hW : (rest.map fun v => v.category).sum ≤ W)  {sig : MethodDescriptor} (hds : parseMethodDescriptor y.desc = some sig) (hlen : argsL.length = sig.parameters.length) (hst : st = argsL.reverse ++ rest) (hsz : Ls.size = mx) (hd : decode bytes pc = .ok (.invokestatic i, 3)) (hc : cells + k ≤ R.cells) (hs : slots + n ≤ R.slots)
    (kk : ∀ v T' h', own_At w p l e R s m args below meth c bytes ret own nm mx Z n0 a0 EL sf T' h' (cells + k) (slots + n) → Qc v h' → own_Run p e below Q m T' q Ls (v.toList ++ rest)) (hq : pc + 3 = q := by rfl) : own_Run p e below Q m T pc Ls st := by
  obtain ⟨⟨hx, hby, r1, r2, r3, r4⟩, vm0, locs, X, B, hZ, hown, hT, N, Od, hEL, Ch, Sf⟩ := A
  subst hby hq hst hT
  obtain ⟨v, vm1, ⟨T', L', k', n'⟩, -, X', ⟨L, ⟨hQ, N', O', gr, hK⟩, l1, l2, l3⟩, st'⟩ := Jvm.LawKit.callS X hx hown (mvT (s := s.setVm vm0) hZ w1) (mvT (s := s.setVm vm0) hZ w2) (mvT (s := s.setVm vm0) hZ w3) (mvT (s := s.setVm vm0) hZ w4) hy (M vm0 hZ) (g := mkF m pc Ls (argsL.reverse ++ rest)) rfl (hsz.trans r4.symm)  (argsL := argsL) (rest := rest) (lenOf (ps := sig.parameters) (r := sig.returnType) hds hlen) rfl (by show 2 * 0 + _ ≤ _; rw [Nat.mul_zero, Nat.zero_add]; exact hW) hd (fun _ _ => ⟨rfl, rfl, hc, hs⟩)
  dsimp only [Pt.U, Pt.locs, Pt.cells, Pt.slots] at X' l1 l2 l3 st' hQ O' gr hK
  subst l1 l2 l3
  have C : CHr Z EL vm0 T.heap vm0 T'.heap := by
    rcases hK with rfl | hK
    · exact own_ch0 gr
    · exact CHr.keep hK (fun x hx => (Sf x (hws x hx)).1) Ch.1
  exact own_by (st') (kk v T' T'.heap ⟨⟨hx, rfl, r1, r2, r3, r4⟩, vm0, _, X', B.le gr, hZ, hown, rfl, N.app N', O', hEL, Ch.trans C, Sf.ch C⟩ hQ)
theorem own_staticW (A : own_At true p l e R s m args below meth c bytes ret own nm mx Z n0 a0 EL sf T h cells slots) {i mxy : Nat} {y : MethodName} {by' : ByteArray} {rt : Option FieldType} {k n W : Nat} {argsL : List Value} {Qc : Option Value → Heap → Prop} (w1 : (Jvm.Cond.methodLink own i y).before a0 Z = true) (w2 : (Jvm.Cond.static y).before a0 Z = true) (w3 : (Jvm.Cond.initialized y.cls).before a0 Z = true) (w4 : (Jvm.Cond.code y by' mxy rt).before a0 Z = true) (hy : y.cls ≠ "java/lang/invoke/MethodHandle" ∧ y.cls ≠ "java/lang/invoke/VarHandle") {ws : List Addr} (M : own_PaysW l R p e below s args Z n0 a0 EL ws y 3 W k n argsL.toArray h Qc) (hws : ∀ x ∈ ws, x ∈ sf) (hW : (rest.map fun v => v.category).sum ≤ W)  {sig : MethodDescriptor} (hds : parseMethodDescriptor y.desc = some sig) (hlen : argsL.length = sig.parameters.length) (hst : st = argsL.reverse ++ rest) (hsz : Ls.size = mx) (hd : decode bytes pc = .ok (.invokestatic i, 3)) (hc : cells + k ≤ R.cells) (hs : slots + n ≤ R.slots)
    (kk : ∀ v T' h', own_At true p l e R s m args below meth c bytes ret own nm mx Z n0 a0 EL sf T' h' (cells + k) (slots + n) → Qc v h' → own_Run p e below Q m T' q Ls (v.toList ++ rest)) (hq : pc + 3 = q := by rfl) : own_Run p e below Q m T pc Ls st := by
  obtain ⟨⟨hx, hby, r1, r2, r3, r4⟩, vm0, locs, X, B, hZ, hown, hT, N, Od, hEL, Ch, Sf⟩ := A
  subst hby hq hst hT
  obtain ⟨v, vm1, ⟨T', L', k', n'⟩, -, X', hS, gr, ⟨L, ⟨hQ, N', O', C⟩, l1, l2, l3⟩, st'⟩ := callSS X hx hown (mvT (s := s.setVm vm0) hZ w1) (mvT (s := s.setVm vm0) hZ w2) (mvT (s := s.setVm vm0) hZ w3) (mvT (s := s.setVm vm0) hZ w4) hy (M vm0 hEL hZ Ch.1 (fun x hx => Sf x (hws x hx))) (g := mkF m pc Ls (argsL.reverse ++ rest)) rfl (hsz.trans r4.symm)  (argsL := argsL) (rest := rest) (lenOf (ps := sig.parameters) (r := sig.returnType) hds hlen) rfl (by show 2 * 0 + _ ≤ _; rw [Nat.mul_zero, Nat.zero_add]; exact hW) hd (fun _ _ => ⟨rfl, rfl, hc, hs⟩)
  dsimp only [Pt.U, Pt.locs, Pt.cells, Pt.slots] at X' l1 l2 l3 st' hQ O' hS gr C
  subst l1 l2 l3
  have hZ' : Z.Warmed39 T'.vm := State.Warmed39.trans (t := s.setVm vm0) hZ hS.1
  have hown' : T'.vm.findClass own = some m.cls := by rw [hS.1.alike.findClass]; exact hown
  obtain ⟨k0, B1, B2⟩ : ∃ k0, s.Since vm0 k0 ∧ k0 ≤ T.heap.size := by
    rcases B with ⟨B, -⟩ | ⟨-, B⟩
    · cases B
    · exact B
  exact own_by (fun _ z => st'.trans z) (kk v T' T'.heap ⟨⟨hx, rfl, r1, r2, r3, r4⟩, T'.vm, _, X', Or.inr ⟨rfl, _, B1.trans hS (Nat.le_trans B2 gr), Nat.le_refl _⟩, hZ', hown', rfl, N.app N', O', hEL, Ch.trans C, Sf.ch C⟩ hQ)
theorem own_special (A : own_At w p l e R s m args below meth c bytes ret own nm mx Z n0 a0 EL sf T h cells slots) {i mxy : Nat} {y : MethodName} {by' : ByteArray} {a : Addr} {k n W : Nat} {argsL : List Value} {Qc : Option Value → Heap → Prop} (hy1 : y.name = "<init>") (w1 : (Jvm.Cond.methodLink own i y).before a0 Z = true) (w2 : (Jvm.Cond.instanceMethod y).before a0 Z = true) (w3 : (Jvm.Cond.code y by' mxy none).before a0 Z = true) (hy : y.cls ≠ "java/lang/invoke/MethodHandle" ∧ y.cls ≠ "java/lang/invoke/VarHandle") {ws : List Addr} (M : own_Pays l R p e below s args Z n0 EL ws y 3 W k n (.ref a :: argsL).toArray h Qc) (hws : ∀ x ∈ ws, x ∈ sf) (hW : (rest.map fun v => v.category).sum ≤ W)  {sig : MethodDescriptor} (hds : parseMethodDescriptor y.desc = some sig) (hlen : argsL.length = sig.parameters.length) (hst : st = argsL.reverse ++ .ref a :: rest) (hsz : Ls.size = mx) (hd : decode bytes pc = .ok (.invokespecial i, 3)) (hc : cells + k ≤ R.cells) (hs : slots + n ≤ R.slots)
    (kk : ∀ v T' h', own_At w p l e R s m args below meth c bytes ret own nm mx Z n0 a0 EL sf T' h' (cells + k) (slots + n) → Qc v h' → own_Run p e below Q m T' q Ls (v.toList ++ rest)) (hq : pc + 3 = q := by rfl) : own_Run p e below Q m T pc Ls st := by
  obtain ⟨⟨hx, hby, r1, r2, r3, r4⟩, vm0, locs, X, B, hZ, hown, hT, N, Od, hEL, Ch, Sf⟩ := A
  subst hby hq hst hT
  obtain ⟨v, vm1, ⟨T', L', k', n'⟩, -, X', ⟨L, ⟨hQ, N', O', gr, hK⟩, l1, l2, l3⟩, st'⟩ := X.specialBack hx hy1 hown (mvT (s := s.setVm vm0) hZ w1) (mvT (s := s.setVm vm0) hZ w2) (mvT (s := s.setVm vm0) hZ w3) hy (M vm0 hZ) (g := mkF m pc Ls (argsL.reverse ++ .ref a :: rest)) rfl (hsz.trans r4.symm) (Steps.refl _) (a := a) (argsL := argsL) (rest := rest) (lenOf (ps := sig.parameters) (r := sig.returnType) hds hlen) rfl (by show 2 * 0 + _ ≤ _; rw [Nat.mul_zero, Nat.zero_add]; exact hW) hd (fun _ _ => ⟨rfl, rfl, hc, hs⟩)
  dsimp only [Pt.U, Pt.locs, Pt.cells, Pt.slots] at X' l1 l2 l3 st' hQ O' gr hK
  subst l1 l2 l3
  have C : CHr Z EL vm0 T.heap vm0 T'.heap := by
    rcases hK with rfl | hK
    · exact own_ch0 gr
    · exact CHr.keep hK (fun x hx => (Sf x (hws x hx)).1) Ch.1
  exact own_by (fun _ z => st'.trans z) (kk v T' T'.heap ⟨⟨hx, rfl, r1, r2, r3, r4⟩, vm0, _, X', B.le gr, hZ, hown, rfl, N.app N', O', hEL, Ch.trans C, Sf.ch C⟩ hQ)
theorem own_specialW (A : own_At true p l e R s m args below meth c bytes ret own nm mx Z n0 a0 EL sf T h cells slots) {i mxy : Nat} {y : MethodName} {by' : ByteArray} {a : Addr} {k n W : Nat} {argsL : List Value} {Qc : Option Value → Heap → Prop} (hy1 : y.name = "<init>") (w1 : (Jvm.Cond.methodLink own i y).before a0 Z = true) (w2 : (Jvm.Cond.instanceMethod y).before a0 Z = true) (w3 : (Jvm.Cond.code y by' mxy none).before a0 Z = true) (hy : y.cls ≠ "java/lang/invoke/MethodHandle" ∧ y.cls ≠ "java/lang/invoke/VarHandle") {ws : List Addr} (M : own_PaysW l R p e below s args Z n0 a0 EL ws y 3 W k n (.ref a :: argsL).toArray h Qc) (hws : ∀ x ∈ ws, x ∈ sf) (hW : (rest.map fun v => v.category).sum ≤ W)  {sig : MethodDescriptor} (hds : parseMethodDescriptor y.desc = some sig) (hlen : argsL.length = sig.parameters.length) (hst : st = argsL.reverse ++ .ref a :: rest) (hsz : Ls.size = mx) (hd : decode bytes pc = .ok (.invokespecial i, 3)) (hc : cells + k ≤ R.cells) (hs : slots + n ≤ R.slots)
    (kk : ∀ v T' h', own_At true p l e R s m args below meth c bytes ret own nm mx Z n0 a0 EL sf T' h' (cells + k) (slots + n) → Qc v h' → own_Run p e below Q m T' q Ls (v.toList ++ rest)) (hq : pc + 3 = q := by rfl) : own_Run p e below Q m T pc Ls st := by
  obtain ⟨⟨hx, hby, r1, r2, r3, r4⟩, vm0, locs, X, B, hZ, hown, hT, N, Od, hEL, Ch, Sf⟩ := A
  subst hby hq hst hT
  obtain ⟨v, vm1, ⟨T', L', k', n'⟩, -, X', hS, gr, ⟨L, ⟨hQ, N', O', C⟩, l1, l2, l3⟩, st'⟩ := X.specialBackS hx hy1 hown (mvT (s := s.setVm vm0) hZ w1) (mvT (s := s.setVm vm0) hZ w2) (mvT (s := s.setVm vm0) hZ w3) hy (M vm0 hEL hZ Ch.1 (fun x hx => Sf x (hws x hx))) (g := mkF m pc Ls (argsL.reverse ++ .ref a :: rest)) rfl (hsz.trans r4.symm) (Steps.refl _) (a := a) (argsL := argsL) (rest := rest) (lenOf (ps := sig.parameters) (r := sig.returnType) hds hlen) rfl (by show 2 * 0 + _ ≤ _; rw [Nat.mul_zero, Nat.zero_add]; exact hW) hd (fun _ _ => ⟨rfl, rfl, hc, hs⟩)
  dsimp only [Pt.U, Pt.locs, Pt.cells, Pt.slots] at X' l1 l2 l3 st' hQ O' hS gr C
  subst l1 l2 l3
  have hZ' : Z.Warmed39 T'.vm := State.Warmed39.trans (t := s.setVm vm0) hZ hS.1
  have hown' : T'.vm.findClass own = some m.cls := by rw [hS.1.alike.findClass]; exact hown
  obtain ⟨k0, B1, B2⟩ : ∃ k0, s.Since vm0 k0 ∧ k0 ≤ T.heap.size := by
    rcases B with ⟨B, -⟩ | ⟨-, B⟩
    · cases B
    · exact B
  exact own_by (fun _ z => st'.trans z) (kk v T' T'.heap ⟨⟨hx, rfl, r1, r2, r3, r4⟩, T'.vm, _, X', Or.inr ⟨rfl, _, B1.trans hS (Nat.le_trans B2 gr), Nat.le_refl _⟩, hZ', hown', rfl, N.app N', O', hEL, Ch.trans C, Sf.ch C⟩ hQ)
theorem own_virtual (A : own_At w p l e R s m args below meth c bytes ret own nm mx Z n0 a0 EL sf T h cells slots) {i : Nat} {y : MethodName} {C : String} {a : Addr} {k n W : Nat} {argsL : List Value} {Qc : Option Value → Heap → Prop} (w1 : (Jvm.Cond.methodLink own i y).before a0 Z = true) (w2 : (Jvm.Cond.declares y).before a0 Z = true) (w3 : (Jvm.Cond.selects C y y).before a0 Z = true) (w4 : (Jvm.Cond.instanceMethod y).before a0 Z = true) (hy : y.cls ≠ "java/lang/invoke/MethodHandle" ∧ y.cls ≠ "java/lang/invoke/VarHandle") {ws : List Addr} (M : own_Pays l R p e below s args Z n0 EL ws y 3 W k n (.ref a :: argsL).toArray h Qc) (hws : ∀ x ∈ ws, x ∈ sf) (hW : (rest.map fun v => v.category).sum ≤ W) (E : Exa Z h a C) {sig : MethodDescriptor} (hds : parseMethodDescriptor y.desc = some sig) (hlen : argsL.length = sig.parameters.length) (hst : st = argsL.reverse ++ .ref a :: rest) (hsz : Ls.size = mx) (hd : decode bytes pc = .ok (.invokevirtual i, 3)) (hc : cells + k ≤ R.cells) (hs : slots + n ≤ R.slots)
    (kk : ∀ v T' h', own_At w p l e R s m args below meth c bytes ret own nm mx Z n0 a0 EL sf T' h' (cells + k) (slots + n) → Qc v h' → own_Run p e below Q m T' q Ls (v.toList ++ rest)) (hq : pc + 3 = q := by rfl) : own_Run p e below Q m T pc Ls st := by
  obtain ⟨⟨hx, hby, r1, r2, r3, r4⟩, vm0, locs, X, B, hZ, hown, hT, N, Od, hEL, Ch, Sf⟩ := A
  subst hby hq hst hT
  obtain ⟨cq, kq, qa, qb, qc⟩ := isOf (s := s.setVm vm0) (T := T) hZ rfl E
  obtain ⟨v, vm1, ⟨T', L', k', n'⟩, -, X', ⟨L, ⟨hQ, N', O', gr, hK⟩, l1, l2, l3⟩, st'⟩ := X.virtualBack hx hown (mvT (s := s.setVm vm0) hZ w1) (mvT (s := s.setVm vm0) hZ w2) (notFace_of_selects (args := #[]) (mvT (s := s.setVm vm0) hZ w3)) (mvT (s := s.setVm vm0) hZ w3) (mvT (s := s.setVm vm0) hZ w4) hy (M vm0 hZ) qa qc (g := mkF m pc Ls (argsL.reverse ++ .ref a :: rest)) rfl (hsz.trans r4.symm) (Steps.refl _) (argsL := argsL) (rest := rest) (lenOf (ps := sig.parameters) (r := sig.returnType) hds hlen) rfl (by show 2 * 0 + _ ≤ _; rw [Nat.mul_zero, Nat.zero_add]; exact hW) hd (fun _ _ => ⟨rfl, rfl, hc, hs⟩)
  dsimp only [Pt.U, Pt.locs, Pt.cells, Pt.slots] at X' l1 l2 l3 st' hQ O' gr hK
  subst l1 l2 l3
  have C : CHr Z EL vm0 T.heap vm0 T'.heap := by
    rcases hK with rfl | hK
    · exact own_ch0 gr
    · exact CHr.keep hK (fun x hx => (Sf x (hws x hx)).1) Ch.1
  exact own_by (fun _ z => st'.trans z) (kk v T' T'.heap ⟨⟨hx, rfl, r1, r2, r3, r4⟩, vm0, _, X', B.le gr, hZ, hown, rfl, N.app N', O', hEL, Ch.trans C, Sf.ch C⟩ hQ)
theorem own_virtualW (A : own_At true p l e R s m args below meth c bytes ret own nm mx Z n0 a0 EL sf T h cells slots) {i : Nat} {y : MethodName} {C : String} {a : Addr} {k n W : Nat} {argsL : List Value} {Qc : Option Value → Heap → Prop} (w1 : (Jvm.Cond.methodLink own i y).before a0 Z = true) (w2 : (Jvm.Cond.declares y).before a0 Z = true) (w3 : (Jvm.Cond.selects C y y).before a0 Z = true) (w4 : (Jvm.Cond.instanceMethod y).before a0 Z = true) (hy : y.cls ≠ "java/lang/invoke/MethodHandle" ∧ y.cls ≠ "java/lang/invoke/VarHandle") {ws : List Addr} (M : own_PaysW l R p e below s args Z n0 a0 EL ws y 3 W k n (.ref a :: argsL).toArray h Qc) (hws : ∀ x ∈ ws, x ∈ sf) (hW : (rest.map fun v => v.category).sum ≤ W) (E : Exa Z h a C) {sig : MethodDescriptor} (hds : parseMethodDescriptor y.desc = some sig) (hlen : argsL.length = sig.parameters.length) (hst : st = argsL.reverse ++ .ref a :: rest) (hsz : Ls.size = mx) (hd : decode bytes pc = .ok (.invokevirtual i, 3)) (hc : cells + k ≤ R.cells) (hs : slots + n ≤ R.slots)
    (kk : ∀ v T' h', own_At true p l e R s m args below meth c bytes ret own nm mx Z n0 a0 EL sf T' h' (cells + k) (slots + n) → Qc v h' → own_Run p e below Q m T' q Ls (v.toList ++ rest)) (hq : pc + 3 = q := by rfl) : own_Run p e below Q m T pc Ls st := by
  obtain ⟨⟨hx, hby, r1, r2, r3, r4⟩, vm0, locs, X, B, hZ, hown, hT, N, Od, hEL, Ch, Sf⟩ := A
  subst hby hq hst hT
  obtain ⟨cq, kq, qa, qb, qc⟩ := isOf (s := s.setVm vm0) (T := T) hZ rfl E
  obtain ⟨v, vm1, ⟨T', L', k', n'⟩, -, X', hS, gr, ⟨L, ⟨hQ, N', O', C⟩, l1, l2, l3⟩, st'⟩ := X.virtualBackS hx hown (mvT (s := s.setVm vm0) hZ w1) (mvT (s := s.setVm vm0) hZ w2) (notFace_of_selects (args := #[]) (mvT (s := s.setVm vm0) hZ w3)) (mvT (s := s.setVm vm0) hZ w3) (mvT (s := s.setVm vm0) hZ w4) hy (M vm0 hEL hZ Ch.1 (fun x hx => Sf x (hws x hx))) qa qc (g := mkF m pc Ls (argsL.reverse ++ .ref a :: rest)) rfl (hsz.trans r4.symm) (Steps.refl _) (argsL := argsL) (rest := rest) (lenOf (ps := sig.parameters) (r := sig.returnType) hds hlen) rfl (by show 2 * 0 + _ ≤ _; rw [Nat.mul_zero, Nat.zero_add]; exact hW) hd (fun _ _ => ⟨rfl, rfl, hc, hs⟩)
  dsimp only [Pt.U, Pt.locs, Pt.cells, Pt.slots] at X' l1 l2 l3 st' hQ O' hS gr C
  subst l1 l2 l3
  have hZ' : Z.Warmed39 T'.vm := State.Warmed39.trans (t := s.setVm vm0) hZ hS.1
  have hown' : T'.vm.findClass own = some m.cls := by rw [hS.1.alike.findClass]; exact hown
  obtain ⟨k0, B1, B2⟩ : ∃ k0, s.Since vm0 k0 ∧ k0 ≤ T.heap.size := by
    rcases B with ⟨B, -⟩ | ⟨-, B⟩
    · cases B
    · exact B
  exact own_by (fun _ z => st'.trans z) (kk v T' T'.heap ⟨⟨hx, rfl, r1, r2, r3, r4⟩, T'.vm, _, X', Or.inr ⟨rfl, _, B1.trans hS (Nat.le_trans B2 gr), Nat.le_refl _⟩, hZ', hown', rfl, N.app N', O', hEL, Ch.trans C, Sf.ch C⟩ hQ)
theorem own_virtualUp (A : own_At w p l e R s m args below meth c bytes ret own nm mx Z n0 a0 EL sf T h cells slots) {i : Nat} {x y : MethodName} {C owner : String} {a : Addr} {k n W : Nat} {argsL : List Value} {Qc : Option Value → Heap → Prop} (w1 : (Jvm.Cond.methodLink own i x).before a0 Z = true) (w2 : (Jvm.Cond.sameMethod x.cls owner x.name x.desc).before a0 Z = true) (w3 : (Jvm.Cond.declares ⟨owner, x.name, x.desc⟩).before a0 Z = true) (hy : owner ≠ "java/lang/invoke/MethodHandle" ∧ owner ≠ "java/lang/invoke/VarHandle") (w4 : (Jvm.Cond.selects C x y).before a0 Z = true) (w5 : (Jvm.Cond.instanceMethod y).before a0 Z = true) {ws : List Addr} (M : own_Pays l R p e below s args Z n0 EL ws y 3 W k n (.ref a :: argsL).toArray h Qc) (hws : ∀ x ∈ ws, x ∈ sf) (hW : (rest.map fun v => v.category).sum ≤ W) (E : Exa Z h a C) {sig : MethodDescriptor} (hds : parseMethodDescriptor x.desc = some sig) (hlen : argsL.length = sig.parameters.length) (hst : st = argsL.reverse ++ .ref a :: rest) (hsz : Ls.size = mx) (hd : decode bytes pc = .ok (.invokevirtual i, 3)) (hc : cells + k ≤ R.cells) (hs : slots + n ≤ R.slots)
    (kk : ∀ v T' h', own_At w p l e R s m args below meth c bytes ret own nm mx Z n0 a0 EL sf T' h' (cells + k) (slots + n) → Qc v h' → own_Run p e below Q m T' q Ls (v.toList ++ rest)) (hq : pc + 3 = q := by rfl) : own_Run p e below Q m T pc Ls st := by
  obtain ⟨⟨hx, hby, r1, r2, r3, r4⟩, vm0, locs, X, B, hZ, hown, hT, N, Od, hEL, Ch, Sf⟩ := A
  subst hby hq hst hT
  obtain ⟨cq, kq, qa, qb, qc⟩ := isOf (s := s.setVm vm0) (T := T) hZ rfl E
  obtain ⟨v, vm1, ⟨T', L', k', n'⟩, -, X', ⟨L, ⟨hQ, N', O', gr, hK⟩, l1, l2, l3⟩, st'⟩ := X.virtualBackUp hx hown (mvT (s := s.setVm vm0) hZ w1) (mvT (s := s.setVm vm0) hZ w2) (mvT (s := s.setVm vm0) hZ w3) hy (mvT (s := s.setVm vm0) hZ w4) (mvT (s := s.setVm vm0) hZ w5) (M vm0 hZ) qa qc (g := mkF m pc Ls (argsL.reverse ++ .ref a :: rest)) rfl (hsz.trans r4.symm) (Steps.refl _) (argsL := argsL) (rest := rest) (lenOf (ps := sig.parameters) (r := sig.returnType) hds hlen) rfl (by show 2 * 0 + _ ≤ _; rw [Nat.mul_zero, Nat.zero_add]; exact hW) hd (fun _ _ => ⟨rfl, rfl, hc, hs⟩)
  dsimp only [Pt.U, Pt.locs, Pt.cells, Pt.slots] at X' l1 l2 l3 st' hQ O' gr hK
  subst l1 l2 l3
  have C : CHr Z EL vm0 T.heap vm0 T'.heap := by
    rcases hK with rfl | hK
    · exact own_ch0 gr
    · exact CHr.keep hK (fun x hx => (Sf x (hws x hx)).1) Ch.1
  exact own_by (fun _ z => st'.trans z) (kk v T' T'.heap ⟨⟨hx, rfl, r1, r2, r3, r4⟩, vm0, _, X', B.le gr, hZ, hown, rfl, N.app N', O', hEL, Ch.trans C, Sf.ch C⟩ hQ)
theorem own_virtualUpW (A : own_At true p l e R s m args below meth c bytes ret own nm mx Z n0 a0 EL sf T h cells slots) {i : Nat} {x y : MethodName} {C owner : String} {a : Addr} {k n W : Nat} {argsL : List Value} {Qc : Option Value → Heap → Prop} (w1 : (Jvm.Cond.methodLink own i x).before a0 Z = true) (w2 : (Jvm.Cond.sameMethod x.cls owner x.name x.desc).before a0 Z = true) (w3 : (Jvm.Cond.declares ⟨owner, x.name, x.desc⟩).before a0 Z = true) (hy : owner ≠ "java/lang/invoke/MethodHandle" ∧ owner ≠ "java/lang/invoke/VarHandle") (w4 : (Jvm.Cond.selects C x y).before a0 Z = true) (w5 : (Jvm.Cond.instanceMethod y).before a0 Z = true) {ws : List Addr} (M : own_PaysW l R p e below s args Z n0 a0 EL ws y 3 W k n (.ref a :: argsL).toArray h Qc) (hws : ∀ x ∈ ws, x ∈ sf) (hW : (rest.map fun v => v.category).sum ≤ W) (E : Exa Z h a C) {sig : MethodDescriptor} (hds : parseMethodDescriptor x.desc = some sig) (hlen : argsL.length = sig.parameters.length) (hst : st = argsL.reverse ++ .ref a :: rest) (hsz : Ls.size = mx) (hd : decode bytes pc = .ok (.invokevirtual i, 3)) (hc : cells + k ≤ R.cells) (hs : slots + n ≤ R.slots)
    (kk : ∀ v T' h', own_At true p l e R s m args below meth c bytes ret own nm mx Z n0 a0 EL sf T' h' (cells + k) (slots + n) → Qc v h' → own_Run p e below Q m T' q Ls (v.toList ++ rest)) (hq : pc + 3 = q := by rfl) : own_Run p e below Q m T pc Ls st := by
  obtain ⟨⟨hx, hby, r1, r2, r3, r4⟩, vm0, locs, X, B, hZ, hown, hT, N, Od, hEL, Ch, Sf⟩ := A
  subst hby hq hst hT
  obtain ⟨cq, kq, qa, qb, qc⟩ := isOf (s := s.setVm vm0) (T := T) hZ rfl E
  obtain ⟨v, vm1, ⟨T', L', k', n'⟩, -, X', hS, gr, ⟨L, ⟨hQ, N', O', C⟩, l1, l2, l3⟩, st'⟩ := X.virtualBackUpS hx hown (mvT (s := s.setVm vm0) hZ w1) (mvT (s := s.setVm vm0) hZ w2) (mvT (s := s.setVm vm0) hZ w3) hy (mvT (s := s.setVm vm0) hZ w4) (mvT (s := s.setVm vm0) hZ w5) (M vm0 hEL hZ Ch.1 (fun x hx => Sf x (hws x hx))) qa qc (g := mkF m pc Ls (argsL.reverse ++ .ref a :: rest)) rfl (hsz.trans r4.symm) (Steps.refl _) (argsL := argsL) (rest := rest) (lenOf (ps := sig.parameters) (r := sig.returnType) hds hlen) rfl (by show 2 * 0 + _ ≤ _; rw [Nat.mul_zero, Nat.zero_add]; exact hW) hd (fun _ _ => ⟨rfl, rfl, hc, hs⟩)
  dsimp only [Pt.U, Pt.locs, Pt.cells, Pt.slots] at X' l1 l2 l3 st' hQ O' hS gr C
  subst l1 l2 l3
  have hZ' : Z.Warmed39 T'.vm := State.Warmed39.trans (t := s.setVm vm0) hZ hS.1
  have hown' : T'.vm.findClass own = some m.cls := by rw [hS.1.alike.findClass]; exact hown
  obtain ⟨k0, B1, B2⟩ : ∃ k0, s.Since vm0 k0 ∧ k0 ≤ T.heap.size := by
    rcases B with ⟨B, -⟩ | ⟨-, B⟩
    · cases B
    · exact B
  exact own_by (fun _ z => st'.trans z) (kk v T' T'.heap ⟨⟨hx, rfl, r1, r2, r3, r4⟩, T'.vm, _, X', Or.inr ⟨rfl, _, B1.trans hS (Nat.le_trans B2 gr), Nat.le_refl _⟩, hZ', hown', rfl, N.app N', O', hEL, Ch.trans C, Sf.ch C⟩ hQ)
/-- ldc of a String constant, opaque -/
theorem own_ldcO (A : own_At true p l e R s m args below meth c bytes ret own nm mx Z n0 a0 EL sf T h cells slots) {i n : Nat} {text : String} (wl : (Jvm.Cond.stringLink own i text).before a0 Z = true) (wS : ∀ a ∈ Bundle.stringAtoms, a.before a0 Z = true) (hd : decode bytes pc = .ok (.ldc i, 2)) (hn : 4 * text.toList.length ≤ n) (hbig : n ≤ 536870912) (hc : cells + 2 ≤ R.cells) (hl : slots + (n + 4) ≤ R.slots)
    (k : ∀ a T' h', own_At true p l e R s m args below meth c bytes ret own nm mx Z n0 a0 EL sf T' h' (cells + 2) (slots + (n + 4)) → Ext h h' → own_Run p e below Q m T' q Ls (.ref a :: st)) (hq : pc + 2 = q := by rfl) : own_Run p e below Q m T pc Ls st := by
  obtain ⟨⟨hx, hby, r⟩, vm0, locs, X, B, hZ, hown, hT, N, Od, hEL, Ch, Sf⟩ := A
  subst hby hq
  obtain ⟨k0, B1, B2⟩ : ∃ k0, s.Since vm0 k0 ∧ k0 ≤ h.size := by
    rcases B with ⟨B, -⟩ | ⟨-, B⟩
    · cases B
    · exact B
  obtain ⟨a, T', h', k1, X', e', E, hS, hk, hZ', hown', C, -, st'⟩ := ldcOH X hx hZ hown wl wS hT B1 B2 hEL Ch.1 (g := mkF m pc Ls st) rfl hd hn hbig hc hl
  exact own_by st' (k a T' h' ⟨⟨hx, rfl, r⟩, T'.vm, _, X', Or.inr ⟨rfl, k1, hS, hk⟩, hZ', hown', e', N, Od.ext E, hEL, Ch.trans C, Sf.ch C⟩ E)
/-- ldc of a String constant that is said to be held, read -/
theorem own_ldcR (A : own_At true p l e R s m args below meth c bytes ret own nm mx Z n0 a0 EL sf T h cells slots) {i n : Nat} {text : String} (wl : (Jvm.Cond.stringLink own i text).before a0 Z = true) (wS : ∀ a ∈ Bundle.stringAtoms, a.before a0 Z = true) (hmem : (own, i) ∈ EL) {vs : List Value} {z : Int32} (ht : (∀ c ∈ text.toList, c.toNat < 256) ∧ text.toList.map (fun c => Value.int (Jvm.Lit.byteI c.toNat.toUInt16)) = vs) (hz : ¬ z < 0) (hlz : z.toNatClampNeg = vs.length) (hd : decode bytes pc = .ok (.ldc i, 2)) (hn : 4 * text.toList.length ≤ n) (hbig : n ≤ 536870912) (hc : cells + 2 ≤ R.cells) (hl : slots + (n + 4) ≤ R.slots)
    (k : ∀ a b cb T' h', own_At true p l e R s m args below meth c bytes ret own nm mx Z n0 a0 EL sf T' h' (cells + 2) (slots + (n + 4)) → Ext h h' → Exa Z h' a "java/lang/String" → Fld Z h' a "java/lang/String" "coder" "B" (.int 0) → Fld Z h' a "java/lang/String" "value" "[B" (.ref b) → Arv Z h' b cb .byte z vs (.int 0) → (∀ x ∈ sf, x ≠ a ∧ x ≠ b) → own_Run p e below Q m T' q Ls (.ref a :: st)) (hq : pc + 2 = q := by rfl) : own_Run p e below Q m T pc Ls st := by
  obtain ⟨⟨hx, hby, r⟩, vm0, locs, X, B, hZ, hown, hT, N, Od, hEL, Ch, Sf⟩ := A
  subst hby hq
  obtain ⟨k0, B1, B2⟩ : ∃ k0, s.Since vm0 k0 ∧ k0 ≤ h.size := by
    rcases B with ⟨B, -⟩ | ⟨-, B⟩
    · cases B
    · exact B
  obtain ⟨a, T', h', k1, b, cb, X', e', E, hS, hk, hZ', hown', f1, f2, f3, f4, -, -, C, -, f5, st'⟩ := ldcCH X hx hZ hown wl wS hT B1 B2 hEL hmem Ch.1 ht hz hlz (g := mkF m pc Ls st) rfl hd hn hbig hc hl
  exact own_by st' (k a b cb T' h' ⟨⟨hx, rfl, r⟩, T'.vm, _, X', Or.inr ⟨rfl, k1, hS, hk⟩, hZ', hown', e', N, Od.ext E, hEL, Ch.trans C, Sf.ch C⟩ E f1 f2 f3 f4 (fun x hx => f5 x (Sf.ch C x hx).1))
end Own
section OwnArr
variable {w : Bool} {p : Program} {l : Launch} {e : Env} {R : Room} {s : State} {m : MethodId} {args : Array Value} {below : List Frame} {meth : Method} {c : Code} {T : State} {cells slots n0 mx : Nat} {Z : State} {a0 : Array Value} {h : Heap} {bytes : ByteArray} {ret : Option FieldType} {own nm : String} {EL : List (String × Nat)} {sf : List Addr} {Q : Outcome → State → Prop} {pc q : Nat} {Ls : Array Slot} {st rest : List Value}
theorem own_inb {c : Cell} {z j : Int32} {i : Nat} (S : c.slots.size = z.toNatClampNeg) (h0 : ¬ j < 0) (hj : j.toNatClampNeg = i) (hi : i < z.toNatClampNeg) : ¬ (j < 0 ∨ c.slots.size ≤ j.toNatClampNeg) := by
  rw [S, hj]
  exact fun y => y.elim h0 fun y => absurd hi (Nat.not_lt.mpr y)
theorem own_newRv (A : own_At w p l e R s m args below meth c bytes ret own nm mx Z n0 a0 EL sf T h cells slots) {i : Nat} {C : String} (w1 : (Jvm.Cond.classLink own i C).before a0 Z = true) (w2 : (Jvm.Cond.arrayOver (.object C)).before a0 Z = true) (hd : decode bytes pc = .ok (.anewarray i, 3)) {n : Int32} (cap : Nat) (hn : ¬ n < 0) (hcap : n.toNatClampNeg = cap) (hb : cap * 8 ≤ 536870912) (hc : cells + 1 ≤ R.cells) (hl : slots + cap ≤ R.slots)
    (k : ∀ T' h' a cA, h.size = a → n0 ≤ a → own_At w p l e R s m args below meth c bytes ret own nm mx Z n0 a0 EL (a :: sf) T' h' (cells + 1) (slots + cap) → Ext h h' → Arv Z h' a cA (.object C) n (List.replicate cap .null) .null → Ovr Z cA C → own_Run p e below Q m T' q Ls (.ref a :: rest)) (hq : pc + 3 = q := by rfl) : own_Run p e below Q m T pc Ls (.int n :: rest) :=
  own_newR A w1 w2 hd cap hn (Nat.le_of_eq hcap) hb hc hl (fun T' h' a cA g1 g2 A' E Ar Ov => k T' h' a cA g1 g2 A' E ((Arv.new Ar hn).pad (pad_rep [] .null cap)) Ov) hq
theorem own_newPv (A : own_At w p l e R s m args below meth c bytes ret own nm mx Z n0 a0 EL sf T h cells slots) {aty : ArrayType} {ty : FieldType} {dv : Value} (hty : newarray.typeOf aty = ty) (hdv : defaultValue ty = dv) (w1 : (Jvm.Cond.arrayClass ty).before a0 Z = true) (hd : decode bytes pc = .ok (.newarray aty, 2)) {n : Int32} (cap : Nat) (hn : ¬ n < 0) (hcap : n.toNatClampNeg = cap) (hb : cap * 8 ≤ 536870912) (hc : cells + 1 ≤ R.cells) (hl : slots + cap ≤ R.slots)
    (k : ∀ T' h' a cA, h.size = a → n0 ≤ a → own_At w p l e R s m args below meth c bytes ret own nm mx Z n0 a0 EL (a :: sf) T' h' (cells + 1) (slots + cap) → Ext h h' → Arv Z h' a cA ty n (List.replicate cap dv) dv → own_Run p e below Q m T' q Ls (.ref a :: rest)) (hq : pc + 2 = q := by rfl) : own_Run p e below Q m T pc Ls (.int n :: rest) := by
  subst hty hdv
  exact own_newP A w1 hd cap hn (Nat.le_of_eq hcap) hb hc hl (fun T' h' a cA g1 g2 A' E Ar => k T' h' a cA g1 g2 A' E ((Arv.new Ar hn).pad (pad_rep [] _ cap))) hq
theorem own_stRv (A : own_At w p l e R s m args below meth c bytes ret own nm mx Z n0 a0 EL sf T h cells slots) {a y : Addr} {cA : ClassId} {ty : FieldType} {C : String} {z j : Int32} {vs : List Value} {dv : Value} (V : Arv Z h a cA ty z vs dv) (Ov : Ovr Z cA C) (I : Ins Z h y C true) (i : Nat) (h0 : ¬ j < 0) (hj : j.toNatClampNeg = i) (hi : i < z.toNatClampNeg) (hi' : i < vs.length) (hty : ty.isReference = true) (hf : fits ty (.ref y) = true) (ha : n0 ≤ a) (hwo : own_Wok Z EL sf h a) (hd : decode bytes pc = .ok (.aastore, 1))
    (k : ∀ T' h' sl, own_At w p l e R s m args below meth c bytes ret own nm mx Z n0 a0 EL sf T' h' cells slots → Wr h h' a sl (.ref y) → Arv Z h' a cA ty z (vs.set i (.ref y)) dv → own_Run p e below Q m T' q Ls rest) (hq : pc + 1 = q := by rfl) : own_Run p e below Q m T pc Ls (.ref y :: .int j :: .ref a :: rest) := by
  obtain ⟨c, Ar, q1, S, q3, H, G⟩ := V
  exact own_stR A Ar (own_inb S h0 hj hi) hty (Sto.ofV Ar q1 Ov I) ha hwo hd (fun T' h' A' W => k T' h' _ A' W (Arv.set Ar q1 S q3 H G hf W i hj hi')) hq
theorem own_aaloadv (A : own_At w p l e R s m args below meth c bytes ret own nm mx Z n0 a0 EL sf T h cells slots) {a : Addr} {cA : ClassId} {ty : FieldType} {z j : Int32} {vs : List Value} {dv v : Value} (V : Arv Z h a cA ty z vs dv) (i : Nat) (h0 : ¬ j < 0) (hj : j.toNatClampNeg = i) (hi : i < z.toNatClampNeg) (hty : ty.isReference = true) (hv : vs.getD i dv = v) (hd : decode bytes pc = .ok (.aaload, 1)) (k : own_Run p e below Q m T q Ls (v :: rest)) (hq : pc + 1 = q := by rfl) : own_Run p e below Q m T pc Ls (.int j :: .ref a :: rest) := by
  obtain ⟨c, Ar, q1, S, q3, H, G⟩ := V
  have b := own_inb S h0 hj hi
  subst hj
  exact own_aaload A Ar hty b (H.at b hv) hd k hq
theorem own_arrlenv (A : own_At w p l e R s m args below meth c bytes ret own nm mx Z n0 a0 EL sf T h cells slots) {a : Addr} {cA : ClassId} {ty : FieldType} {z : Int32} {vs : List Value} {dv : Value} (V : Arv Z h a cA ty z vs dv) (hd : decode bytes pc = .ok (.arraylength, 1)) (k : own_Run p e below Q m T q Ls (.int z :: rest)) (hq : pc + 1 = q := by rfl) : own_Run p e below Q m T pc Ls (.ref a :: rest) := by
  obtain ⟨c, Ar, q1, S, q3, H, G⟩ := V
  refine own_arrlen A Ar hd ?_ hq
  rw [len_of S q3]
  exact k
theorem own_stCv (A : own_At w p l e R s m args below meth c bytes ret own nm mx Z n0 a0 EL sf T h cells slots) {a : Addr} {cA : ClassId} {z j x : Int32} {vs : List Value} {dv : Value} (V : Arv Z h a cA .char z vs dv) (i : Nat) (h0 : ¬ j < 0) (hj : j.toNatClampNeg = i) (hi : i < z.toNatClampNeg) (hi' : i < vs.length) (ha : n0 ≤ a) (hwo : own_Wok Z EL sf h a) (hd : decode bytes pc = .ok (.castore, 1))
    (k : ∀ T' h' sl, own_At w p l e R s m args below meth c bytes ret own nm mx Z n0 a0 EL sf T' h' cells slots → Wr h h' a sl (.int (nar .char x)) → Arv Z h' a cA .char z (vs.set i (.int (nar .char x))) dv → own_Run p e below Q m T' q Ls rest) (hq : pc + 1 = q := by rfl) : own_Run p e below Q m T pc Ls (.int x :: .int j :: .ref a :: rest) := by
  obtain ⟨c, Ar, q1, S, q3, H, G⟩ := V
  exact own_stC A Ar (own_inb S h0 hj hi) ha hwo hd (fun T' h' A' W => k T' h' _ A' W (Arv.set Ar q1 S q3 H G (fits_nar_char x) W i hj hi')) hq
theorem own_stIv (A : own_At w p l e R s m args below meth c bytes ret own nm mx Z n0 a0 EL sf T h cells slots) {a : Addr} {cA : ClassId} {z j x : Int32} {vs : List Value} {dv : Value} (V : Arv Z h a cA .int z vs dv) (i : Nat) (h0 : ¬ j < 0) (hj : j.toNatClampNeg = i) (hi : i < z.toNatClampNeg) (hi' : i < vs.length) (ha : n0 ≤ a) (hwo : own_Wok Z EL sf h a) (hd : decode bytes pc = .ok (.iastore, 1))
    (k : ∀ T' h' sl, own_At w p l e R s m args below meth c bytes ret own nm mx Z n0 a0 EL sf T' h' cells slots → Wr h h' a sl (.int x) → Arv Z h' a cA .int z (vs.set i (.int x)) dv → own_Run p e below Q m T' q Ls rest) (hq : pc + 1 = q := by rfl) : own_Run p e below Q m T pc Ls (.int x :: .int j :: .ref a :: rest) := by
  obtain ⟨c, Ar, q1, S, q3, H, G⟩ := V
  exact own_stI A Ar (own_inb S h0 hj hi) ha hwo hd (fun T' h' A' W => k T' h' _ A' W (Arv.set Ar q1 S q3 H G (rfl) W i hj hi')) hq
theorem own_stBv (A : own_At w p l e R s m args below meth c bytes ret own nm mx Z n0 a0 EL sf T h cells slots) {a : Addr} {cA : ClassId} {z j x : Int32} {vs : List Value} {dv : Value} (V : Arv Z h a cA .byte z vs dv) (i : Nat) (h0 : ¬ j < 0) (hj : j.toNatClampNeg = i) (hi : i < z.toNatClampNeg) (hi' : i < vs.length) (ha : n0 ≤ a) (hwo : own_Wok Z EL sf h a) (hd : decode bytes pc = .ok (.bastore, 1))
    (k : ∀ T' h' sl, own_At w p l e R s m args below meth c bytes ret own nm mx Z n0 a0 EL sf T' h' cells slots → Wr h h' a sl (.int (nar .byte x)) → Arv Z h' a cA .byte z (vs.set i (.int (nar .byte x))) dv → own_Run p e below Q m T' q Ls rest) (hq : pc + 1 = q := by rfl) : own_Run p e below Q m T pc Ls (.int x :: .int j :: .ref a :: rest) := by
  obtain ⟨c, Ar, q1, S, q3, H, G⟩ := V
  exact own_stB A Ar (own_inb S h0 hj hi) ha hwo hd (fun T' h' A' W => k T' h' _ A' W (Arv.set Ar q1 S q3 H G (fits_nar_byte x) W i hj hi')) hq
theorem own_ialoadv (A : own_At w p l e R s m args below meth c bytes ret own nm mx Z n0 a0 EL sf T h cells slots) {a : Addr} {cA : ClassId} {z j : Int32} {vs : List Value} {dv v : Value} (V : Arv Z h a cA .int z vs dv) (i : Nat) (h0 : ¬ j < 0) (hj : j.toNatClampNeg = i) (hi : i < z.toNatClampNeg) (hv : vs.getD i dv = v) (hd : decode bytes pc = .ok (.iaload, 1)) (k : own_Run p e below Q m T q Ls (v :: rest)) (hq : pc + 1 = q := by rfl) : own_Run p e below Q m T pc Ls (.int j :: .ref a :: rest) := by
  obtain ⟨c, Ar, q1, S, q3, H, G⟩ := V
  have b := own_inb S h0 hj hi
  subst hj
  exact own_iaload A Ar b (H.at b hv) hd k hq
theorem own_caloadv (A : own_At w p l e R s m args below meth c bytes ret own nm mx Z n0 a0 EL sf T h cells slots) {a : Addr} {cA : ClassId} {z j : Int32} {vs : List Value} {dv v : Value} (V : Arv Z h a cA .char z vs dv) (i : Nat) (h0 : ¬ j < 0) (hj : j.toNatClampNeg = i) (hi : i < z.toNatClampNeg) (hv : vs.getD i dv = v) (hd : decode bytes pc = .ok (.caload, 1)) (k : own_Run p e below Q m T q Ls (v :: rest)) (hq : pc + 1 = q := by rfl) : own_Run p e below Q m T pc Ls (.int j :: .ref a :: rest) := by
  obtain ⟨c, Ar, q1, S, q3, H, G⟩ := V
  have b := own_inb S h0 hj hi
  subst hj
  exact own_caload A Ar b (H.at b hv) hd k hq
theorem own_baloadv (A : own_At w p l e R s m args below meth c bytes ret own nm mx Z n0 a0 EL sf T h cells slots) {a : Addr} {cA : ClassId} {z j : Int32} {vs : List Value} {dv v : Value} (V : Arv Z h a cA .byte z vs dv) (i : Nat) (h0 : ¬ j < 0) (hj : j.toNatClampNeg = i) (hi : i < z.toNatClampNeg) (hv : vs.getD i dv = v) (hd : decode bytes pc = .ok (.baload, 1)) (k : own_Run p e below Q m T q Ls (v :: rest)) (hq : pc + 1 = q := by rfl) : own_Run p e below Q m T pc Ls (.int j :: .ref a :: rest) := by
  obtain ⟨c, Ar, q1, S, q3, H, G⟩ := V
  have b := own_inb S h0 hj hi
  subst hj
  exact own_baload A Ar b (H.at b hv) hd k hq
theorem own_and3 (x : Int32) : x &&& 3 = 0 ∨ x &&& 3 = 1 ∨ x &&& 3 = 2 ∨ x &&& 3 = 3 := by
  have e := c_mask x 3 2 (by decide) (by decide)
  have e4 : ((2 ^ 2 : Nat) : Int) = 4 := rfl
  rw [e4] at e
  have e0 : (0 : Int32).toInt = 0 := rfl
  have e1 : (1 : Int32).toInt = 1 := rfl
  have e2 : (2 : Int32).toInt = 2 := rfl
  have e3 : (3 : Int32).toInt = 3 := rfl
  simp only [← Int32.toInt_inj]
  omega
end OwnArr
section OwnCase
variable {args : Array Value} {s : State} {t : Term}
theorem own_ord {C n d : String} {k : Int32} {a : Addr} (ev : t.eval args s none [] s = some (.ref a)) (q : (Jvm.Cond.eq (Term.field t C n d) (Term.int k)).value args s none s [] = some true) : Fld s s.heap a C n d (.int k) := by
  obtain ⟨x, y, e1, e2, k1, k2⟩ := cmp_v (Or.inl q)
  obtain rfl : y = .int k := Option.some.inj (e2.symm.trans (Term.int_eval k))
  obtain ⟨z, rfl⟩ : ∃ z, x = .int z := k2
  obtain rfl : z = k := gotT (Cond.eq_ints e1 (Term.int_eval k)) q
  exact Fld.start ((fld_at ev).symm.trans e1)
theorem own_elem {ty : FieldType} {i k : Int32} {a : Addr} {c : Cell} (ev : t.eval args s none [] s = some (.ref a)) (Ar : Arr s s.heap a c ty) (q : (Jvm.Cond.eq (Term.elem t (Term.int i)) (Term.int k)).value args s none s [] = some true) : ¬ (i < 0 ∨ c.slots.size ≤ i.toNatClampNeg) ∧ c.slots[i.toNatClampNeg]? = some (.int k) := by
  obtain ⟨x, y, e1, e2, k1, k2⟩ := cmp_v (Or.inl q)
  obtain rfl : y = .int k := Option.some.inj (e2.symm.trans (Term.int_eval k))
  obtain ⟨z, rfl⟩ : ∃ z, x = .int z := k2
  obtain rfl : z = k := gotT (Cond.eq_ints e1 (Term.int_eval k)) q
  exact elem_in e1 ev (Term.int_eval i) Ar.1
theorem own_staI {C n d : String} {k : Int32} (q : (Jvm.Cond.eq (Term.static C n d) (Term.int k)).value args s none s [] = some true) : (Term.static C n d).eval args s none [] s = some (.int k) := by
  obtain ⟨x, y, e1, e2, k1, k2⟩ := cmp_v (Or.inl q)
  obtain rfl : y = .int k := Option.some.inj (e2.symm.trans (Term.int_eval k))
  obtain ⟨z, rfl⟩ : ∃ z, x = .int z := k2
  obtain rfl : z = k := gotT (Cond.eq_ints e1 (Term.int_eval k)) q
  exact e1
end OwnCase
def own_share (x y : Int64) : UInt64 := if y = 0 then FP.dconst0 else FP.ddiv (FP.l2d x) (FP.l2d y)
def own_sm (x : Int64) : Prop := x = 0 ∨ x = 1 ∨ x = 2 ∨ x = 3
theorem own_nnd {x y : Int64} (hx : own_sm x) (hy : own_sm y) (h : ¬ y = 0) : Jvm.Free.Fl.NoNaN64 (FP.ddiv (FP.l2d x) (FP.l2d y)) := by
  rcases hx with rfl | rfl | rfl | rfl <;> rcases hy with rfl | rfl | rfl | rfl
  all_goals first | exact absurd rfl h | decide +kernel
theorem own_nna {x y u v : Int64} (hx : own_sm x) (hy : own_sm y) (hu : own_sm u) (hv : own_sm v) : Jvm.Free.Fl.NoNaN64 (FP.dadd (own_share x y) (own_share u v)) := by
  rcases hx with rfl | rfl | rfl | rfl <;> rcases hy with rfl | rfl | rfl | rfl <;> rcases hu with rfl | rfl | rfl | rfl <;> rcases hv with rfl | rfl | rfl | rfl <;> decide +kernel
theorem own_satoms {Z : State} {a0 : Array Value} (hw : ∀ d ∈ tables_1, d.before a0 Z = true) : ∀ d ∈ Bundle.stringAtoms, d.before a0 Z = true := by
  intro d hd
  simp only [Bundle.stringAtoms, List.mem_cons, List.not_mem_nil, or_false] at hd
  rcases hd with rfl | rfl | rfl | rfl | rfl | rfl | rfl
  all_goals exact hw _ (by decide +kernel)
theorem own_cnt {mm r0 r1 r2 x0 x1 x2 : Int32} {y1 y2 z1 z2 u1 u2 : Int64} (hm : mm = 0 ∨ mm = 1 ∨ mm = 2 ∨ mm = 3) (h0 : r0 = 0 ∨ r0 = 1) (h1 : r1 = 0 ∨ r1 = 1) (h2 : r2 = 0 ∨ r2 = 1)
    (a1 : ¬ (0 : Int32) < mm → y1 = 0 ∧ y2 = 0) (a2 : (0 : Int32) < mm → y1 = 0 + 1 ∧ y2 = 0 + (if r0 = 0 then 0 else 1)) (b1 : ¬ (1 : Int32) < mm → z1 = y1 ∧ z2 = y2) (b2 : (1 : Int32) < mm → z1 = y1 + 1 ∧ z2 = y2 + (if r1 = 0 then 0 else 1)) (c1 : ¬ (2 : Int32) < mm → u1 = z1 ∧ u2 = z2) (c2 : (2 : Int32) < mm → u1 = z1 + 1 ∧ u2 = z2 + (if r2 = 0 then 0 else 1))
    (s1 : ¬ (0 : Int32) < mm → x0 = 0) (s2 : (0 : Int32) < mm → r0 = 0 → x0 = 0) (s3 : (0 : Int32) < mm → ¬ r0 = 0 → x0 = 1) (t1 : ¬ (1 : Int32) < mm → x1 = 0) (t2 : (1 : Int32) < mm → r1 = 0 → x1 = 0) (t3 : (1 : Int32) < mm → ¬ r1 = 0 → x1 = 1) (v1 : ¬ (2 : Int32) < mm → x2 = 0) (v2 : (2 : Int32) < mm → r2 = 0 → x2 = 0) (v3 : (2 : Int32) < mm → ¬ r2 = 0 → x2 = 1) :
    u1 = mm.toInt64 ∧ u2 = (x0 + x1 + x2).toInt64 ∧ own_sm u1 ∧ own_sm u2 := by
  rcases hm with rfl | rfl | rfl | rfl <;> rcases h0 with rfl | rfl <;> rcases h1 with rfl | rfl <;> rcases h2 with rfl | rfl <;> simp_all +decide [own_sm]
theorem own_z64 {x : Int32} (h : x.toInt64 = 0) : x = 0 := by
  have e := congrArg Int64.toInt h
  rw [Int32.toInt_toInt64] at e
  exact Int32.toInt_inj.mp e
theorem own_lw0 (x : Int64) : lcmpW x 0 = 0 ↔ x = 0 := lw_eq x 0
theorem own_pd0 : parseMethodDescriptor "(Ljava/lang/String;Z)V" = some ⟨[(.object "java/lang/String"), .boolean], none⟩ := by decide +kernel
theorem own_pd1 : parseMethodDescriptor "(Lcom/example/planshift/planshift/campaign/Bandit$Pick;ZJI)V" = some ⟨[(.object "com/example/planshift/planshift/campaign/Bandit$Pick"), .boolean, .long, .int], none⟩ := by decide +kernel
theorem own_pd2 : parseMethodDescriptor "(ZI)V" = some ⟨[.boolean, .int], none⟩ := by decide +kernel
theorem own_pd3 : parseMethodDescriptor "()D" = some ⟨[], some .double⟩ := by decide +kernel
theorem own_pd4 : parseMethodDescriptor "(JJ)D" = some ⟨[.long, .long], some .double⟩ := by decide +kernel
theorem own_pd5 : parseMethodDescriptor "(Z)V" = some ⟨[.boolean], none⟩ := by decide +kernel
theorem own_pd6 : parseMethodDescriptor "()V" = some ⟨[], none⟩ := by decide +kernel
theorem d1_0 : decode prog_2_method_1_code 0 = .ok (.aload_n 0, 1) := by decide +kernel
theorem d1_1 : decode prog_2_method_1_code 1 = .ok (.invokespecial 1, 3) := by decide +kernel
theorem d1_4 : decode prog_2_method_1_code 4 = .ok (.aload_n 0, 1) := by decide +kernel
theorem d1_5 : decode prog_2_method_1_code 5 = .ok (.aload_n 1, 1) := by decide +kernel
theorem d1_6 : decode prog_2_method_1_code 6 = .ok (.putfield 7, 3) := by decide +kernel
theorem d1_9 : decode prog_2_method_1_code 9 = .ok (.aload_n 0, 1) := by decide +kernel
theorem d1_10 : decode prog_2_method_1_code 10 = .ok (.iload_n 2, 1) := by decide +kernel
theorem d1_11 : decode prog_2_method_1_code 11 = .ok (.putfield 13, 3) := by decide +kernel
theorem d1_14 : decode prog_2_method_1_code 14 = .ok (.return_, 1) := by decide +kernel
theorem own_pn0 : plainName "com/example/planshift/planshift/campaign/Bandit$Pick" = true := by first | (simp [plainName, overriddenIn]; done) | decide +kernel
set_option maxRecDepth 65536 in
set_option maxHeartbeats 40000000 in
theorem rm_pk (l : Launch) (Z : State) (a0 : Array Value) (hw : ∀ d ∈ tables_1, d.before a0 Z = true) (a s1 : Addr) (b : Int32) (h0 : Heap) (n0 : Nat) (O0 : Old Z n0 h0) (E : Exa Z h0 a "com/example/planshift/planshift/campaign/Bandit$Pick") (F1 : Fld Z h0 a "com/example/planshift/planshift/campaign/Bandit$Pick" "kind" "Ljava/lang/String;" .null) (F2 : Fld Z h0 a "com/example/planshift/planshift/campaign/Bandit$Pick" "best" "Z" (.int 0)) (hb : b = 0 ∨ b = 1) (g0 : n0 ≤ a) :
    own_Met true l Z n0 [] [a] (⟨"com/example/planshift/planshift/campaign/Bandit$Pick", "<init>", "(Ljava/lang/String;Z)V"⟩ : MethodName) prog_2_method_1_code 3 none [] ({ frames := 1, cells := 0, slots := 0, locals := 12 } : Room) #[(.ref a), (.ref s1), (.int b)] h0 (fun v h => v = none ∧ Keep h0 h [a]) := by
  refine own_enter (a0 := a0) (own := "com/example/planshift/planshift/campaign/Bandit$Pick") (nm := "<init>") (Ls := #[.val (.ref a), .val (.ref s1), .val (.int b)]) own_pn0 O0 EW.nil (fun m => by first | (simp [entryFrame, mkF, argsToLocals, Value.category, maxLocals]; done) | rfl) ?_
  intro p e s m args below meth cde T0 Q hQ A0
  show own_Run p e below Q m T0 0 #[.val (.ref a), .val (.ref s1), .val (.int b)] []
  refine own_aloadN (q := 1) (v := (.ref a)) A0 d1_0 rfl rfl ?_
  refine own_initO (q := 4) (W := 0) A0 (hw _ (List.mem_of_getElem? (i := 14) rfl)) (hw _ (List.mem_of_getElem? (i := 15) rfl)) (hw _ (List.mem_of_getElem? (i := 16) rfl)) d1_1 rfl (by decide) (Nat.le_of_eq rfl) (by decide) ?_
  intro T1 A2
  refine own_aloadN (q := 5) (v := (.ref a)) A2 d1_4 rfl rfl ?_
  refine own_aloadN (q := 6) (v := (.ref s1)) A2 d1_5 rfl rfl ?_
  refine own_putF (host := "") (q := 9) A2 (Or.inl (hw _ (List.mem_of_getElem? (i := 17) rfl))) Via.refl F1 E (Or.inr ⟨(hw _ (List.mem_of_getElem? (i := 18) rfl)), rfl, rfl⟩) (hw _ (List.mem_of_getElem? (i := 1) rfl)) (ty := (.object "java/lang/String")) (by decide) rfl rfl g0 (Or.inl (by simp)) d1_6 ?_
  intro T3 h4 A5 W6
  have K7 : Keep h0 h4 [a] := (Keep.refl h0 [a]).wr W6 (Or.inl (by simp))
  have f8 : Exa Z h4 a "com/example/planshift/planshift/campaign/Bandit$Pick" := E.wr W6
  have f9 : Fld Z h4 a "com/example/planshift/planshift/campaign/Bandit$Pick" "kind" "Ljava/lang/String;" (.ref s1) := F1.same W6
  have f10 : Fld Z h4 a "com/example/planshift/planshift/campaign/Bandit$Pick" "best" "Z" (.int (0 : Int32)) := F2.other W6 (Or.inr (slot_ne (Or.inr (hw _ (List.mem_of_getElem? (i := 20) rfl))) (Or.inr (hw _ (List.mem_of_getElem? (i := 18) rfl))) (by decide) (by decide : parseFieldDescriptor "Z" = some .boolean) (by decide : parseFieldDescriptor "Ljava/lang/String;" = some (.object "java/lang/String"))))
  refine own_aloadN (q := 10) (v := (.ref a)) A5 d1_9 rfl rfl ?_
  refine own_iloadN (q := 11) (v := b) A5 d1_10 rfl ?_
  refine own_putF (host := "") (q := 14) A5 (Or.inl (hw _ (List.mem_of_getElem? (i := 19) rfl))) Via.refl f10 f8 (Or.inr ⟨(hw _ (List.mem_of_getElem? (i := 20) rfl)), rfl, rfl⟩) (hw _ (List.mem_of_getElem? (i := 1) rfl)) (ty := .boolean) (by decide) (by rcases hb with rfl | rfl <;> rfl) (by rcases hb with rfl | rfl <;> rfl) g0 (Or.inl (by simp)) d1_11 ?_
  intro T11 h12 A13 W14
  have K15 : Keep h0 h12 [a] := K7.wr W14 (Or.inl (by simp))
  have f16 : Exa Z h12 a "com/example/planshift/planshift/campaign/Bandit$Pick" := f8.wr W14
  have f17 : Fld Z h12 a "com/example/planshift/planshift/campaign/Bandit$Pick" "kind" "Ljava/lang/String;" (.ref s1) := f9.other W14 (Or.inr (slot_ne (Or.inr (hw _ (List.mem_of_getElem? (i := 18) rfl))) (Or.inr (hw _ (List.mem_of_getElem? (i := 20) rfl))) (by decide) (by decide : parseFieldDescriptor "Ljava/lang/String;" = some (.object "java/lang/String")) (by decide : parseFieldDescriptor "Z" = some .boolean)))
  have f18 : Fld Z h12 a "com/example/planshift/planshift/campaign/Bandit$Pick" "best" "Z" (.int b) := f10.same W14
  exact own_ret0 A13 hQ d1_14 ⟨rfl, K15⟩
theorem d3_0 : decode prog_11_method_1_code 0 = .ok (.aload_n 0, 1) := by decide +kernel
theorem d3_1 : decode prog_11_method_1_code 1 = .ok (.invokespecial 1, 3) := by decide +kernel
theorem d3_4 : decode prog_11_method_1_code 4 = .ok (.aload_n 0, 1) := by decide +kernel
theorem d3_5 : decode prog_11_method_1_code 5 = .ok (.aload_n 1, 1) := by decide +kernel
theorem d3_6 : decode prog_11_method_1_code 6 = .ok (.putfield 7, 3) := by decide +kernel
theorem d3_9 : decode prog_11_method_1_code 9 = .ok (.aload_n 0, 1) := by decide +kernel
theorem d3_10 : decode prog_11_method_1_code 10 = .ok (.iload_n 2, 1) := by decide +kernel
theorem d3_11 : decode prog_11_method_1_code 11 = .ok (.putfield 13, 3) := by decide +kernel
theorem d3_14 : decode prog_11_method_1_code 14 = .ok (.aload_n 0, 1) := by decide +kernel
theorem d3_15 : decode prog_11_method_1_code 15 = .ok (.lload_n 3, 1) := by decide +kernel
theorem d3_16 : decode prog_11_method_1_code 16 = .ok (.putfield 17, 3) := by decide +kernel
theorem d3_19 : decode prog_11_method_1_code 19 = .ok (.aload_n 0, 1) := by decide +kernel
theorem d3_20 : decode prog_11_method_1_code 20 = .ok (.iload 5, 2) := by decide +kernel
theorem d3_22 : decode prog_11_method_1_code 22 = .ok (.putfield 21, 3) := by decide +kernel
theorem d3_25 : decode prog_11_method_1_code 25 = .ok (.return_, 1) := by decide +kernel
theorem own_pn1 : plainName "com/example/planshift/planshift/campaign/Mutation" = true := by first | (simp [plainName, overriddenIn]; done) | decide +kernel
set_option maxRecDepth 65536 in
set_option maxHeartbeats 40000000 in
theorem rm_mu (l : Launch) (Z : State) (a0 : Array Value) (hw : ∀ d ∈ tables_1, d.before a0 Z = true) (a pk : Addr) (b x : Int32) (qb : Int64) (h0 : Heap) (n0 : Nat) (O0 : Old Z n0 h0) (E : Exa Z h0 a "com/example/planshift/planshift/campaign/Mutation") (FpoolRerun : Fld Z h0 a "com/example/planshift/planshift/campaign/Mutation" "poolRerun" "J" (.long 0)) (FpoolNew : Fld Z h0 a "com/example/planshift/planshift/campaign/Mutation" "poolNew" "J" (.long 0)) (FlaterRun : Fld Z h0 a "com/example/planshift/planshift/campaign/Mutation" "laterRun" "J" (.long 0)) (FlaterNew : Fld Z h0 a "com/example/planshift/planshift/campaign/Mutation" "laterNew" "J" (.long 0)) (Fpool : Fld Z h0 a "com/example/planshift/planshift/campaign/Mutation" "pool" "I" (.int 0)) (g0 : n0 ≤ a) (F1 : Fld Z h0 a "com/example/planshift/planshift/campaign/Mutation" "pick" "Lcom/example/planshift/planshift/campaign/Bandit$Pick;" .null) (F2 : Fld Z h0 a "com/example/planshift/planshift/campaign/Mutation" "accepted" "Z" (.int 0)) (F3 : Fld Z h0 a "com/example/planshift/planshift/campaign/Mutation" "queriesBefore" "J" (.long 0)) (hb : b = 0 ∨ b = 1) :
    own_Met true l Z n0 [] [a] (⟨"com/example/planshift/planshift/campaign/Mutation", "<init>", "(Lcom/example/planshift/planshift/campaign/Bandit$Pick;ZJI)V"⟩ : MethodName) prog_11_method_1_code 6 none [] ({ frames := 1, cells := 0, slots := 0, locals := 12 } : Room) #[(.ref a), (.ref pk), (.int b), (.long qb), (.int x)] h0 (fun v h => v = none ∧ Keep h0 h [a] ∧ Exa Z h a "com/example/planshift/planshift/campaign/Mutation" ∧ Fld Z h a "com/example/planshift/planshift/campaign/Mutation" "poolRerun" "J" (.long 0) ∧ Fld Z h a "com/example/planshift/planshift/campaign/Mutation" "poolNew" "J" (.long 0) ∧ Fld Z h a "com/example/planshift/planshift/campaign/Mutation" "laterRun" "J" (.long 0) ∧ Fld Z h a "com/example/planshift/planshift/campaign/Mutation" "laterNew" "J" (.long 0) ∧ Fld Z h a "com/example/planshift/planshift/campaign/Mutation" "pool" "I" (.int x)) := by
  refine own_enter (a0 := a0) (own := "com/example/planshift/planshift/campaign/Mutation") (nm := "<init>") (Ls := #[.val (.ref a), .val (.ref pk), .val (.int b), .val (.long qb), .second, .val (.int x)]) own_pn1 O0 EW.nil (fun m => by first | (simp [entryFrame, mkF, argsToLocals, Value.category, maxLocals]; done) | rfl) ?_
  intro p e s m args below meth cde T0 Q hQ A0
  show own_Run p e below Q m T0 0 #[.val (.ref a), .val (.ref pk), .val (.int b), .val (.long qb), .second, .val (.int x)] []
  refine own_aloadN (q := 1) (v := (.ref a)) A0 d3_0 rfl rfl ?_
  refine own_initO (q := 4) (W := 0) A0 (hw _ (List.mem_of_getElem? (i := 27) rfl)) (hw _ (List.mem_of_getElem? (i := 15) rfl)) (hw _ (List.mem_of_getElem? (i := 16) rfl)) d3_1 rfl (by decide) (Nat.le_of_eq rfl) (by decide) ?_
  intro T1 A2
  refine own_aloadN (q := 5) (v := (.ref a)) A2 d3_4 rfl rfl ?_
  refine own_aloadN (q := 6) (v := (.ref pk)) A2 d3_5 rfl rfl ?_
  refine own_putF (host := "") (q := 9) A2 (Or.inl (hw _ (List.mem_of_getElem? (i := 28) rfl))) Via.refl F1 E (Or.inr ⟨(hw _ (List.mem_of_getElem? (i := 29) rfl)), rfl, rfl⟩) (hw _ (List.mem_of_getElem? (i := 22) rfl)) (ty := (.object "com/example/planshift/planshift/campaign/Bandit$Pick")) (by decide) rfl rfl g0 (Or.inl (by simp)) d3_6 ?_
  intro T3 h4 A5 W6
  have K7 : Keep h0 h4 [a] := (Keep.refl h0 [a]).wr W6 (Or.inl (by simp))
  have f8 : Exa Z h4 a "com/example/planshift/planshift/campaign/Mutation" := E.wr W6
  have f9 : Fld Z h4 a "com/example/planshift/planshift/campaign/Mutation" "poolRerun" "J" (.long (0 : Int64)) := FpoolRerun.other W6 (Or.inr (slot_ne (Or.inl (hw _ (List.mem_of_getElem? (i := 42) rfl))) (Or.inr (hw _ (List.mem_of_getElem? (i := 29) rfl))) (by decide) (by decide : parseFieldDescriptor "J" = some .long) (by decide : parseFieldDescriptor "Lcom/example/planshift/planshift/campaign/Bandit$Pick;" = some (.object "com/example/planshift/planshift/campaign/Bandit$Pick"))))
  have f10 : Fld Z h4 a "com/example/planshift/planshift/campaign/Mutation" "poolNew" "J" (.long (0 : Int64)) := FpoolNew.other W6 (Or.inr (slot_ne (Or.inl (hw _ (List.mem_of_getElem? (i := 44) rfl))) (Or.inr (hw _ (List.mem_of_getElem? (i := 29) rfl))) (by decide) (by decide : parseFieldDescriptor "J" = some .long) (by decide : parseFieldDescriptor "Lcom/example/planshift/planshift/campaign/Bandit$Pick;" = some (.object "com/example/planshift/planshift/campaign/Bandit$Pick"))))
  have f11 : Fld Z h4 a "com/example/planshift/planshift/campaign/Mutation" "laterRun" "J" (.long (0 : Int64)) := FlaterRun.other W6 (Or.inr (slot_ne (Or.inl (hw _ (List.mem_of_getElem? (i := 56) rfl))) (Or.inr (hw _ (List.mem_of_getElem? (i := 29) rfl))) (by decide) (by decide : parseFieldDescriptor "J" = some .long) (by decide : parseFieldDescriptor "Lcom/example/planshift/planshift/campaign/Bandit$Pick;" = some (.object "com/example/planshift/planshift/campaign/Bandit$Pick"))))
  have f12 : Fld Z h4 a "com/example/planshift/planshift/campaign/Mutation" "laterNew" "J" (.long (0 : Int64)) := FlaterNew.other W6 (Or.inr (slot_ne (Or.inl (hw _ (List.mem_of_getElem? (i := 54) rfl))) (Or.inr (hw _ (List.mem_of_getElem? (i := 29) rfl))) (by decide) (by decide : parseFieldDescriptor "J" = some .long) (by decide : parseFieldDescriptor "Lcom/example/planshift/planshift/campaign/Bandit$Pick;" = some (.object "com/example/planshift/planshift/campaign/Bandit$Pick"))))
  have f13 : Fld Z h4 a "com/example/planshift/planshift/campaign/Mutation" "pool" "I" (.int (0 : Int32)) := Fpool.other W6 (Or.inr (slot_ne (Or.inl (hw _ (List.mem_of_getElem? (i := 35) rfl))) (Or.inr (hw _ (List.mem_of_getElem? (i := 29) rfl))) (by decide) (by decide : parseFieldDescriptor "I" = some .int) (by decide : parseFieldDescriptor "Lcom/example/planshift/planshift/campaign/Bandit$Pick;" = some (.object "com/example/planshift/planshift/campaign/Bandit$Pick"))))
  have f14 : Fld Z h4 a "com/example/planshift/planshift/campaign/Mutation" "pick" "Lcom/example/planshift/planshift/campaign/Bandit$Pick;" (.ref pk) := F1.same W6
  have f15 : Fld Z h4 a "com/example/planshift/planshift/campaign/Mutation" "accepted" "Z" (.int (0 : Int32)) := F2.other W6 (Or.inr (slot_ne (Or.inr (hw _ (List.mem_of_getElem? (i := 31) rfl))) (Or.inr (hw _ (List.mem_of_getElem? (i := 29) rfl))) (by decide) (by decide : parseFieldDescriptor "Z" = some .boolean) (by decide : parseFieldDescriptor "Lcom/example/planshift/planshift/campaign/Bandit$Pick;" = some (.object "com/example/planshift/planshift/campaign/Bandit$Pick"))))
  have f16 : Fld Z h4 a "com/example/planshift/planshift/campaign/Mutation" "queriesBefore" "J" (.long (0 : Int64)) := F3.other W6 (Or.inr (slot_ne (Or.inr (hw _ (List.mem_of_getElem? (i := 33) rfl))) (Or.inr (hw _ (List.mem_of_getElem? (i := 29) rfl))) (by decide) (by decide : parseFieldDescriptor "J" = some .long) (by decide : parseFieldDescriptor "Lcom/example/planshift/planshift/campaign/Bandit$Pick;" = some (.object "com/example/planshift/planshift/campaign/Bandit$Pick"))))
  refine own_aloadN (q := 10) (v := (.ref a)) A5 d3_9 rfl rfl ?_
  refine own_iloadN (q := 11) (v := b) A5 d3_10 rfl ?_
  refine own_putF (host := "") (q := 14) A5 (Or.inl (hw _ (List.mem_of_getElem? (i := 30) rfl))) Via.refl f15 f8 (Or.inr ⟨(hw _ (List.mem_of_getElem? (i := 31) rfl)), rfl, rfl⟩) (hw _ (List.mem_of_getElem? (i := 22) rfl)) (ty := .boolean) (by decide) (by rcases hb with rfl | rfl <;> rfl) (by rcases hb with rfl | rfl <;> rfl) g0 (Or.inl (by simp)) d3_11 ?_
  intro T17 h18 A19 W20
  have K21 : Keep h0 h18 [a] := K7.wr W20 (Or.inl (by simp))
  have f22 : Exa Z h18 a "com/example/planshift/planshift/campaign/Mutation" := f8.wr W20
  have f23 : Fld Z h18 a "com/example/planshift/planshift/campaign/Mutation" "poolRerun" "J" (.long (0 : Int64)) := f9.other W20 (Or.inr (slot_ne (Or.inl (hw _ (List.mem_of_getElem? (i := 42) rfl))) (Or.inr (hw _ (List.mem_of_getElem? (i := 31) rfl))) (by decide) (by decide : parseFieldDescriptor "J" = some .long) (by decide : parseFieldDescriptor "Z" = some .boolean)))
  have f24 : Fld Z h18 a "com/example/planshift/planshift/campaign/Mutation" "poolNew" "J" (.long (0 : Int64)) := f10.other W20 (Or.inr (slot_ne (Or.inl (hw _ (List.mem_of_getElem? (i := 44) rfl))) (Or.inr (hw _ (List.mem_of_getElem? (i := 31) rfl))) (by decide) (by decide : parseFieldDescriptor "J" = some .long) (by decide : parseFieldDescriptor "Z" = some .boolean)))
  have f25 : Fld Z h18 a "com/example/planshift/planshift/campaign/Mutation" "laterRun" "J" (.long (0 : Int64)) := f11.other W20 (Or.inr (slot_ne (Or.inl (hw _ (List.mem_of_getElem? (i := 56) rfl))) (Or.inr (hw _ (List.mem_of_getElem? (i := 31) rfl))) (by decide) (by decide : parseFieldDescriptor "J" = some .long) (by decide : parseFieldDescriptor "Z" = some .boolean)))
  have f26 : Fld Z h18 a "com/example/planshift/planshift/campaign/Mutation" "laterNew" "J" (.long (0 : Int64)) := f12.other W20 (Or.inr (slot_ne (Or.inl (hw _ (List.mem_of_getElem? (i := 54) rfl))) (Or.inr (hw _ (List.mem_of_getElem? (i := 31) rfl))) (by decide) (by decide : parseFieldDescriptor "J" = some .long) (by decide : parseFieldDescriptor "Z" = some .boolean)))
  have f27 : Fld Z h18 a "com/example/planshift/planshift/campaign/Mutation" "pool" "I" (.int (0 : Int32)) := f13.other W20 (Or.inr (slot_ne (Or.inl (hw _ (List.mem_of_getElem? (i := 35) rfl))) (Or.inr (hw _ (List.mem_of_getElem? (i := 31) rfl))) (by decide) (by decide : parseFieldDescriptor "I" = some .int) (by decide : parseFieldDescriptor "Z" = some .boolean)))
  have f28 : Fld Z h18 a "com/example/planshift/planshift/campaign/Mutation" "pick" "Lcom/example/planshift/planshift/campaign/Bandit$Pick;" (.ref pk) := f14.other W20 (Or.inr (slot_ne (Or.inr (hw _ (List.mem_of_getElem? (i := 29) rfl))) (Or.inr (hw _ (List.mem_of_getElem? (i := 31) rfl))) (by decide) (by decide : parseFieldDescriptor "Lcom/example/planshift/planshift/campaign/Bandit$Pick;" = some (.object "com/example/planshift/planshift/campaign/Bandit$Pick")) (by decide : parseFieldDescriptor "Z" = some .boolean)))
  have f29 : Fld Z h18 a "com/example/planshift/planshift/campaign/Mutation" "accepted" "Z" (.int b) := f15.same W20
  have f30 : Fld Z h18 a "com/example/planshift/planshift/campaign/Mutation" "queriesBefore" "J" (.long (0 : Int64)) := f16.other W20 (Or.inr (slot_ne (Or.inr (hw _ (List.mem_of_getElem? (i := 33) rfl))) (Or.inr (hw _ (List.mem_of_getElem? (i := 31) rfl))) (by decide) (by decide : parseFieldDescriptor "J" = some .long) (by decide : parseFieldDescriptor "Z" = some .boolean)))
  refine own_aloadN (q := 15) (v := (.ref a)) A19 d3_14 rfl rfl ?_
  refine own_lloadN (q := 16) (v := qb) A19 d3_15 rfl ?_
  refine own_putF (host := "") (q := 19) A19 (Or.inl (hw _ (List.mem_of_getElem? (i := 32) rfl))) Via.refl f30 f22 (Or.inr ⟨(hw _ (List.mem_of_getElem? (i := 33) rfl)), rfl, rfl⟩) (hw _ (List.mem_of_getElem? (i := 22) rfl)) (ty := .long) (by decide) rfl rfl g0 (Or.inl (by simp)) d3_16 ?_
  intro T31 h32 A33 W34
  have K35 : Keep h0 h32 [a] := K21.wr W34 (Or.inl (by simp))
  have f36 : Exa Z h32 a "com/example/planshift/planshift/campaign/Mutation" := f22.wr W34
  have f37 : Fld Z h32 a "com/example/planshift/planshift/campaign/Mutation" "poolRerun" "J" (.long (0 : Int64)) := f23.other W34 (Or.inr (slot_ne (Or.inl (hw _ (List.mem_of_getElem? (i := 42) rfl))) (Or.inr (hw _ (List.mem_of_getElem? (i := 33) rfl))) (by decide) (by decide : parseFieldDescriptor "J" = some .long) (by decide : parseFieldDescriptor "J" = some .long)))
  have f38 : Fld Z h32 a "com/example/planshift/planshift/campaign/Mutation" "poolNew" "J" (.long (0 : Int64)) := f24.other W34 (Or.inr (slot_ne (Or.inl (hw _ (List.mem_of_getElem? (i := 44) rfl))) (Or.inr (hw _ (List.mem_of_getElem? (i := 33) rfl))) (by decide) (by decide : parseFieldDescriptor "J" = some .long) (by decide : parseFieldDescriptor "J" = some .long)))
  have f39 : Fld Z h32 a "com/example/planshift/planshift/campaign/Mutation" "laterRun" "J" (.long (0 : Int64)) := f25.other W34 (Or.inr (slot_ne (Or.inl (hw _ (List.mem_of_getElem? (i := 56) rfl))) (Or.inr (hw _ (List.mem_of_getElem? (i := 33) rfl))) (by decide) (by decide : parseFieldDescriptor "J" = some .long) (by decide : parseFieldDescriptor "J" = some .long)))
  have f40 : Fld Z h32 a "com/example/planshift/planshift/campaign/Mutation" "laterNew" "J" (.long (0 : Int64)) := f26.other W34 (Or.inr (slot_ne (Or.inl (hw _ (List.mem_of_getElem? (i := 54) rfl))) (Or.inr (hw _ (List.mem_of_getElem? (i := 33) rfl))) (by decide) (by decide : parseFieldDescriptor "J" = some .long) (by decide : parseFieldDescriptor "J" = some .long)))
  have f41 : Fld Z h32 a "com/example/planshift/planshift/campaign/Mutation" "pool" "I" (.int (0 : Int32)) := f27.other W34 (Or.inr (slot_ne (Or.inl (hw _ (List.mem_of_getElem? (i := 35) rfl))) (Or.inr (hw _ (List.mem_of_getElem? (i := 33) rfl))) (by decide) (by decide : parseFieldDescriptor "I" = some .int) (by decide : parseFieldDescriptor "J" = some .long)))
  have f42 : Fld Z h32 a "com/example/planshift/planshift/campaign/Mutation" "pick" "Lcom/example/planshift/planshift/campaign/Bandit$Pick;" (.ref pk) := f28.other W34 (Or.inr (slot_ne (Or.inr (hw _ (List.mem_of_getElem? (i := 29) rfl))) (Or.inr (hw _ (List.mem_of_getElem? (i := 33) rfl))) (by decide) (by decide : parseFieldDescriptor "Lcom/example/planshift/planshift/campaign/Bandit$Pick;" = some (.object "com/example/planshift/planshift/campaign/Bandit$Pick")) (by decide : parseFieldDescriptor "J" = some .long)))
  have f43 : Fld Z h32 a "com/example/planshift/planshift/campaign/Mutation" "accepted" "Z" (.int b) := f29.other W34 (Or.inr (slot_ne (Or.inr (hw _ (List.mem_of_getElem? (i := 31) rfl))) (Or.inr (hw _ (List.mem_of_getElem? (i := 33) rfl))) (by decide) (by decide : parseFieldDescriptor "Z" = some .boolean) (by decide : parseFieldDescriptor "J" = some .long)))
  have f44 : Fld Z h32 a "com/example/planshift/planshift/campaign/Mutation" "queriesBefore" "J" (.long qb) := f30.same W34
  refine own_aloadN (q := 20) (v := (.ref a)) A33 d3_19 rfl rfl ?_
  refine own_iload (q := 22) (v := x) A33 d3_20 rfl ?_
  refine own_putF (host := "") (q := 25) A33 (Or.inl (hw _ (List.mem_of_getElem? (i := 34) rfl))) Via.refl f41 f36 (Or.inl (hw _ (List.mem_of_getElem? (i := 35) rfl))) (hw _ (List.mem_of_getElem? (i := 22) rfl)) (ty := .int) (by decide) rfl rfl g0 (Or.inl (by simp)) d3_22 ?_
  intro T45 h46 A47 W48
  have K49 : Keep h0 h46 [a] := K35.wr W48 (Or.inl (by simp))
  have f50 : Exa Z h46 a "com/example/planshift/planshift/campaign/Mutation" := f36.wr W48
  have f51 : Fld Z h46 a "com/example/planshift/planshift/campaign/Mutation" "poolRerun" "J" (.long (0 : Int64)) := f37.other W48 (Or.inr (slot_ne (Or.inl (hw _ (List.mem_of_getElem? (i := 42) rfl))) (Or.inl (hw _ (List.mem_of_getElem? (i := 35) rfl))) (by decide) (by decide : parseFieldDescriptor "J" = some .long) (by decide : parseFieldDescriptor "I" = some .int)))
  have f52 : Fld Z h46 a "com/example/planshift/planshift/campaign/Mutation" "poolNew" "J" (.long (0 : Int64)) := f38.other W48 (Or.inr (slot_ne (Or.inl (hw _ (List.mem_of_getElem? (i := 44) rfl))) (Or.inl (hw _ (List.mem_of_getElem? (i := 35) rfl))) (by decide) (by decide : parseFieldDescriptor "J" = some .long) (by decide : parseFieldDescriptor "I" = some .int)))
  have f53 : Fld Z h46 a "com/example/planshift/planshift/campaign/Mutation" "laterRun" "J" (.long (0 : Int64)) := f39.other W48 (Or.inr (slot_ne (Or.inl (hw _ (List.mem_of_getElem? (i := 56) rfl))) (Or.inl (hw _ (List.mem_of_getElem? (i := 35) rfl))) (by decide) (by decide : parseFieldDescriptor "J" = some .long) (by decide : parseFieldDescriptor "I" = some .int)))
  have f54 : Fld Z h46 a "com/example/planshift/planshift/campaign/Mutation" "laterNew" "J" (.long (0 : Int64)) := f40.other W48 (Or.inr (slot_ne (Or.inl (hw _ (List.mem_of_getElem? (i := 54) rfl))) (Or.inl (hw _ (List.mem_of_getElem? (i := 35) rfl))) (by decide) (by decide : parseFieldDescriptor "J" = some .long) (by decide : parseFieldDescriptor "I" = some .int)))
  have f55 : Fld Z h46 a "com/example/planshift/planshift/campaign/Mutation" "pool" "I" (.int x) := f41.same W48
  have f56 : Fld Z h46 a "com/example/planshift/planshift/campaign/Mutation" "pick" "Lcom/example/planshift/planshift/campaign/Bandit$Pick;" (.ref pk) := f42.other W48 (Or.inr (slot_ne (Or.inr (hw _ (List.mem_of_getElem? (i := 29) rfl))) (Or.inl (hw _ (List.mem_of_getElem? (i := 35) rfl))) (by decide) (by decide : parseFieldDescriptor "Lcom/example/planshift/planshift/campaign/Bandit$Pick;" = some (.object "com/example/planshift/planshift/campaign/Bandit$Pick")) (by decide : parseFieldDescriptor "I" = some .int)))
  have f57 : Fld Z h46 a "com/example/planshift/planshift/campaign/Mutation" "accepted" "Z" (.int b) := f43.other W48 (Or.inr (slot_ne (Or.inr (hw _ (List.mem_of_getElem? (i := 31) rfl))) (Or.inl (hw _ (List.mem_of_getElem? (i := 35) rfl))) (by decide) (by decide : parseFieldDescriptor "Z" = some .boolean) (by decide : parseFieldDescriptor "I" = some .int)))
  have f58 : Fld Z h46 a "com/example/planshift/planshift/campaign/Mutation" "queriesBefore" "J" (.long qb) := f44.other W48 (Or.inr (slot_ne (Or.inr (hw _ (List.mem_of_getElem? (i := 33) rfl))) (Or.inl (hw _ (List.mem_of_getElem? (i := 35) rfl))) (by decide) (by decide : parseFieldDescriptor "J" = some .long) (by decide : parseFieldDescriptor "I" = some .int)))
  exact own_ret0 A47 hQ d3_25 ⟨rfl, K49, f50, f51, f52, f53, f54, f55⟩
theorem d4_0 : decode prog_11_method_4_code 0 = .ok (.aload_n 0, 1) := by decide +kernel
theorem d4_1 : decode prog_11_method_4_code 1 = .ok (.dup, 1) := by decide +kernel
theorem d4_2 : decode prog_11_method_4_code 2 = .ok (.getfield 31, 3) := by decide +kernel
theorem d4_5 : decode prog_11_method_4_code 5 = .ok (.lconst 1, 1) := by decide +kernel
theorem d4_6 : decode prog_11_method_4_code 6 = .ok (.ladd, 1) := by decide +kernel
theorem d4_7 : decode prog_11_method_4_code 7 = .ok (.putfield 31, 3) := by decide +kernel
theorem d4_10 : decode prog_11_method_4_code 10 = .ok (.aload_n 0, 1) := by decide +kernel
theorem d4_11 : decode prog_11_method_4_code 11 = .ok (.dup, 1) := by decide +kernel
theorem d4_12 : decode prog_11_method_4_code 12 = .ok (.getfield 34, 3) := by decide +kernel
theorem d4_15 : decode prog_11_method_4_code 15 = .ok (.iload_n 1, 1) := by decide +kernel
theorem d4_16 : decode prog_11_method_4_code 16 = .ok (.ifCond .eq 7, 3) := by decide +kernel
theorem d4_19 : decode prog_11_method_4_code 19 = .ok (.lconst 1, 1) := by decide +kernel
theorem d4_20 : decode prog_11_method_4_code 20 = .ok (.goto 4, 3) := by decide +kernel
theorem d4_23 : decode prog_11_method_4_code 23 = .ok (.lconst 0, 1) := by decide +kernel
theorem d4_24 : decode prog_11_method_4_code 24 = .ok (.ladd, 1) := by decide +kernel
theorem d4_25 : decode prog_11_method_4_code 25 = .ok (.putfield 34, 3) := by decide +kernel
theorem d4_28 : decode prog_11_method_4_code 28 = .ok (.aload_n 0, 1) := by decide +kernel
theorem d4_29 : decode prog_11_method_4_code 29 = .ok (.iload_n 2, 1) := by decide +kernel
theorem d4_30 : decode prog_11_method_4_code 30 = .ok (.putfield 21, 3) := by decide +kernel
theorem d4_33 : decode prog_11_method_4_code 33 = .ok (.return_, 1) := by decide +kernel
set_option maxRecDepth 65536 in
set_option maxHeartbeats 40000000 in
theorem rm_reran (l : Launch) (Z : State) (a0 : Array Value) (hw : ∀ d ∈ tables_1, d.before a0 Z = true) (a : Addr) (b x y : Int32) (pr pn lr ln : Int64) (h0 : Heap) (n0 : Nat) (O0 : Old Z n0 h0) (E : Exa Z h0 a "com/example/planshift/planshift/campaign/Mutation") (FpoolRerun : Fld Z h0 a "com/example/planshift/planshift/campaign/Mutation" "poolRerun" "J" (.long pr)) (FpoolNew : Fld Z h0 a "com/example/planshift/planshift/campaign/Mutation" "poolNew" "J" (.long pn)) (FlaterRun : Fld Z h0 a "com/example/planshift/planshift/campaign/Mutation" "laterRun" "J" (.long lr)) (FlaterNew : Fld Z h0 a "com/example/planshift/planshift/campaign/Mutation" "laterNew" "J" (.long ln)) (Fpool : Fld Z h0 a "com/example/planshift/planshift/campaign/Mutation" "pool" "I" (.int y)) (g0 : n0 ≤ a) :
    own_Met true l Z n0 [] [a] (⟨"com/example/planshift/planshift/campaign/Mutation", "reran", "(ZI)V"⟩ : MethodName) prog_11_method_4_code 3 none [] ({ frames := 0, cells := 0, slots := 0, locals := 0 } : Room) #[(.ref a), (.int b), (.int x)] h0 (fun v h => v = none ∧ Keep h0 h [a] ∧ Exa Z h a "com/example/planshift/planshift/campaign/Mutation" ∧ Fld Z h a "com/example/planshift/planshift/campaign/Mutation" "poolRerun" "J" (.long (pr + 1)) ∧ Fld Z h a "com/example/planshift/planshift/campaign/Mutation" "poolNew" "J" (.long (pn + (if b = 0 then 0 else 1))) ∧ Fld Z h a "com/example/planshift/planshift/campaign/Mutation" "laterRun" "J" (.long lr) ∧ Fld Z h a "com/example/planshift/planshift/campaign/Mutation" "laterNew" "J" (.long ln) ∧ Fld Z h a "com/example/planshift/planshift/campaign/Mutation" "pool" "I" (.int x)) := by
  refine own_enter (a0 := a0) (own := "com/example/planshift/planshift/campaign/Mutation") (nm := "reran") (Ls := #[.val (.ref a), .val (.int b), .val (.int x)]) own_pn1 O0 EW.nil (fun m => by first | (simp [entryFrame, mkF, argsToLocals, Value.category, maxLocals]; done) | rfl) ?_
  intro p e s m args below meth cde T0 Q hQ A0
  show own_Run p e below Q m T0 0 #[.val (.ref a), .val (.int b), .val (.int x)] []
  refine own_aloadN (q := 1) (v := (.ref a)) A0 d4_0 rfl rfl ?_
  refine own_dup (q := 2) A0 d4_1 rfl ?_
  refine own_getF (host := "") (q := 5) A0 (Or.inl (hw _ (List.mem_of_getElem? (i := 41) rfl))) Via.refl FpoolRerun d4_2 ?_
  intro T1 A2
  refine own_lconst (q := 6) A2 (1 : Int64) d4_5 rfl ?_
  refine own_ladd (q := 7) A2 d4_6 ?_
  refine own_putF (host := "") (q := 10) A2 (Or.inl (hw _ (List.mem_of_getElem? (i := 41) rfl))) Via.refl FpoolRerun E (Or.inl (hw _ (List.mem_of_getElem? (i := 42) rfl))) (hw _ (List.mem_of_getElem? (i := 22) rfl)) (ty := .long) (by decide) rfl rfl g0 (Or.inl (by simp)) d4_7 ?_
  intro T3 h4 A5 W6
  have K7 : Keep h0 h4 [a] := (Keep.refl h0 [a]).wr W6 (Or.inl (by simp))
  have f8 : Exa Z h4 a "com/example/planshift/planshift/campaign/Mutation" := E.wr W6
  have f9 : Fld Z h4 a "com/example/planshift/planshift/campaign/Mutation" "poolRerun" "J" (.long (pr + (1 : Int64))) := FpoolRerun.same W6
  have f10 : Fld Z h4 a "com/example/planshift/planshift/campaign/Mutation" "poolNew" "J" (.long pn) := FpoolNew.other W6 (Or.inr (slot_ne (Or.inl (hw _ (List.mem_of_getElem? (i := 44) rfl))) (Or.inl (hw _ (List.mem_of_getElem? (i := 42) rfl))) (by decide) (by decide : parseFieldDescriptor "J" = some .long) (by decide : parseFieldDescriptor "J" = some .long)))
  have f11 : Fld Z h4 a "com/example/planshift/planshift/campaign/Mutation" "laterRun" "J" (.long lr) := FlaterRun.other W6 (Or.inr (slot_ne (Or.inl (hw _ (List.mem_of_getElem? (i := 56) rfl))) (Or.inl (hw _ (List.mem_of_getElem? (i := 42) rfl))) (by decide) (by decide : parseFieldDescriptor "J" = some .long) (by decide : parseFieldDescriptor "J" = some .long)))
  have f12 : Fld Z h4 a "com/example/planshift/planshift/campaign/Mutation" "laterNew" "J" (.long ln) := FlaterNew.other W6 (Or.inr (slot_ne (Or.inl (hw _ (List.mem_of_getElem? (i := 54) rfl))) (Or.inl (hw _ (List.mem_of_getElem? (i := 42) rfl))) (by decide) (by decide : parseFieldDescriptor "J" = some .long) (by decide : parseFieldDescriptor "J" = some .long)))
  have f13 : Fld Z h4 a "com/example/planshift/planshift/campaign/Mutation" "pool" "I" (.int y) := Fpool.other W6 (Or.inr (slot_ne (Or.inl (hw _ (List.mem_of_getElem? (i := 35) rfl))) (Or.inl (hw _ (List.mem_of_getElem? (i := 42) rfl))) (by decide) (by decide : parseFieldDescriptor "I" = some .int) (by decide : parseFieldDescriptor "J" = some .long)))
  refine own_aloadN (q := 11) (v := (.ref a)) A5 d4_10 rfl rfl ?_
  refine own_dup (q := 12) A5 d4_11 rfl ?_
  refine own_getF (host := "") (q := 15) A5 (Or.inl (hw _ (List.mem_of_getElem? (i := 43) rfl))) Via.refl f10 d4_12 ?_
  intro T14 A15
  refine own_iloadN (q := 16) (v := b) A15 d4_15 rfl ?_
  refine own_ifc (q := 23) (q' := 19) A15 d4_16 ?_ ?_
  · rintro (c16 : b = (0 : Int32))
    refine own_lconst (q := 24) A15 (0 : Int64) d4_23 rfl ?_
    refine own_ladd (q := 25) A15 d4_24 ?_
    refine own_putF (host := "") (q := 28) A15 (Or.inl (hw _ (List.mem_of_getElem? (i := 43) rfl))) Via.refl f10 f8 (Or.inl (hw _ (List.mem_of_getElem? (i := 44) rfl))) (hw _ (List.mem_of_getElem? (i := 22) rfl)) (ty := .long) (by decide) rfl rfl g0 (Or.inl (by simp)) d4_25 ?_
    intro T17 h18 A19 W20
    have K21 : Keep h0 h18 [a] := K7.wr W20 (Or.inl (by simp))
    have f22 : Exa Z h18 a "com/example/planshift/planshift/campaign/Mutation" := f8.wr W20
    have f23 : Fld Z h18 a "com/example/planshift/planshift/campaign/Mutation" "poolRerun" "J" (.long (pr + (1 : Int64))) := f9.other W20 (Or.inr (slot_ne (Or.inl (hw _ (List.mem_of_getElem? (i := 42) rfl))) (Or.inl (hw _ (List.mem_of_getElem? (i := 44) rfl))) (by decide) (by decide : parseFieldDescriptor "J" = some .long) (by decide : parseFieldDescriptor "J" = some .long)))
    have f24 : Fld Z h18 a "com/example/planshift/planshift/campaign/Mutation" "poolNew" "J" (.long (pn + (0 : Int64))) := f10.same W20
    have f25 : Fld Z h18 a "com/example/planshift/planshift/campaign/Mutation" "laterRun" "J" (.long lr) := f11.other W20 (Or.inr (slot_ne (Or.inl (hw _ (List.mem_of_getElem? (i := 56) rfl))) (Or.inl (hw _ (List.mem_of_getElem? (i := 44) rfl))) (by decide) (by decide : parseFieldDescriptor "J" = some .long) (by decide : parseFieldDescriptor "J" = some .long)))
    have f26 : Fld Z h18 a "com/example/planshift/planshift/campaign/Mutation" "laterNew" "J" (.long ln) := f12.other W20 (Or.inr (slot_ne (Or.inl (hw _ (List.mem_of_getElem? (i := 54) rfl))) (Or.inl (hw _ (List.mem_of_getElem? (i := 44) rfl))) (by decide) (by decide : parseFieldDescriptor "J" = some .long) (by decide : parseFieldDescriptor "J" = some .long)))
    have f27 : Fld Z h18 a "com/example/planshift/planshift/campaign/Mutation" "pool" "I" (.int y) := f13.other W20 (Or.inr (slot_ne (Or.inl (hw _ (List.mem_of_getElem? (i := 35) rfl))) (Or.inl (hw _ (List.mem_of_getElem? (i := 44) rfl))) (by decide) (by decide : parseFieldDescriptor "I" = some .int) (by decide : parseFieldDescriptor "J" = some .long)))
    refine own_aloadN (q := 29) (v := (.ref a)) A19 d4_28 rfl rfl ?_
    refine own_iloadN (q := 30) (v := x) A19 d4_29 rfl ?_
    refine own_putF (host := "") (q := 33) A19 (Or.inl (hw _ (List.mem_of_getElem? (i := 34) rfl))) Via.refl f27 f22 (Or.inl (hw _ (List.mem_of_getElem? (i := 35) rfl))) (hw _ (List.mem_of_getElem? (i := 22) rfl)) (ty := .int) (by decide) rfl rfl g0 (Or.inl (by simp)) d4_30 ?_
    intro T28 h29 A30 W31
    have K32 : Keep h0 h29 [a] := K21.wr W31 (Or.inl (by simp))
    have f33 : Exa Z h29 a "com/example/planshift/planshift/campaign/Mutation" := f22.wr W31
    have f34 : Fld Z h29 a "com/example/planshift/planshift/campaign/Mutation" "poolRerun" "J" (.long (pr + (1 : Int64))) := f23.other W31 (Or.inr (slot_ne (Or.inl (hw _ (List.mem_of_getElem? (i := 42) rfl))) (Or.inl (hw _ (List.mem_of_getElem? (i := 35) rfl))) (by decide) (by decide : parseFieldDescriptor "J" = some .long) (by decide : parseFieldDescriptor "I" = some .int)))
    have f35 : Fld Z h29 a "com/example/planshift/planshift/campaign/Mutation" "poolNew" "J" (.long (pn + (0 : Int64))) := f24.other W31 (Or.inr (slot_ne (Or.inl (hw _ (List.mem_of_getElem? (i := 44) rfl))) (Or.inl (hw _ (List.mem_of_getElem? (i := 35) rfl))) (by decide) (by decide : parseFieldDescriptor "J" = some .long) (by decide : parseFieldDescriptor "I" = some .int)))
    have f36 : Fld Z h29 a "com/example/planshift/planshift/campaign/Mutation" "laterRun" "J" (.long lr) := f25.other W31 (Or.inr (slot_ne (Or.inl (hw _ (List.mem_of_getElem? (i := 56) rfl))) (Or.inl (hw _ (List.mem_of_getElem? (i := 35) rfl))) (by decide) (by decide : parseFieldDescriptor "J" = some .long) (by decide : parseFieldDescriptor "I" = some .int)))
    have f37 : Fld Z h29 a "com/example/planshift/planshift/campaign/Mutation" "laterNew" "J" (.long ln) := f26.other W31 (Or.inr (slot_ne (Or.inl (hw _ (List.mem_of_getElem? (i := 54) rfl))) (Or.inl (hw _ (List.mem_of_getElem? (i := 35) rfl))) (by decide) (by decide : parseFieldDescriptor "J" = some .long) (by decide : parseFieldDescriptor "I" = some .int)))
    have f38 : Fld Z h29 a "com/example/planshift/planshift/campaign/Mutation" "pool" "I" (.int x) := f27.same W31
    exact own_ret0 A30 hQ d4_33 ⟨rfl, K32, f33, f34, (by rw [if_pos c16]; exact f35), f36, f37, f38⟩
  · rintro (c16 : ¬ b = (0 : Int32))
    refine own_lconst (q := 20) A15 (1 : Int64) d4_19 rfl ?_
    refine own_goto (q := 24) A15 d4_20 ?_
    refine own_ladd (q := 25) A15 d4_24 ?_
    refine own_putF (host := "") (q := 28) A15 (Or.inl (hw _ (List.mem_of_getElem? (i := 43) rfl))) Via.refl f10 f8 (Or.inl (hw _ (List.mem_of_getElem? (i := 44) rfl))) (hw _ (List.mem_of_getElem? (i := 22) rfl)) (ty := .long) (by decide) rfl rfl g0 (Or.inl (by simp)) d4_25 ?_
    intro T39 h40 A41 W42
    have K43 : Keep h0 h40 [a] := K7.wr W42 (Or.inl (by simp))
    have f44 : Exa Z h40 a "com/example/planshift/planshift/campaign/Mutation" := f8.wr W42
    have f45 : Fld Z h40 a "com/example/planshift/planshift/campaign/Mutation" "poolRerun" "J" (.long (pr + (1 : Int64))) := f9.other W42 (Or.inr (slot_ne (Or.inl (hw _ (List.mem_of_getElem? (i := 42) rfl))) (Or.inl (hw _ (List.mem_of_getElem? (i := 44) rfl))) (by decide) (by decide : parseFieldDescriptor "J" = some .long) (by decide : parseFieldDescriptor "J" = some .long)))
    have f46 : Fld Z h40 a "com/example/planshift/planshift/campaign/Mutation" "poolNew" "J" (.long (pn + (1 : Int64))) := f10.same W42
    have f47 : Fld Z h40 a "com/example/planshift/planshift/campaign/Mutation" "laterRun" "J" (.long lr) := f11.other W42 (Or.inr (slot_ne (Or.inl (hw _ (List.mem_of_getElem? (i := 56) rfl))) (Or.inl (hw _ (List.mem_of_getElem? (i := 44) rfl))) (by decide) (by decide : parseFieldDescriptor "J" = some .long) (by decide : parseFieldDescriptor "J" = some .long)))
    have f48 : Fld Z h40 a "com/example/planshift/planshift/campaign/Mutation" "laterNew" "J" (.long ln) := f12.other W42 (Or.inr (slot_ne (Or.inl (hw _ (List.mem_of_getElem? (i := 54) rfl))) (Or.inl (hw _ (List.mem_of_getElem? (i := 44) rfl))) (by decide) (by decide : parseFieldDescriptor "J" = some .long) (by decide : parseFieldDescriptor "J" = some .long)))
    have f49 : Fld Z h40 a "com/example/planshift/planshift/campaign/Mutation" "pool" "I" (.int y) := f13.other W42 (Or.inr (slot_ne (Or.inl (hw _ (List.mem_of_getElem? (i := 35) rfl))) (Or.inl (hw _ (List.mem_of_getElem? (i := 44) rfl))) (by decide) (by decide : parseFieldDescriptor "I" = some .int) (by decide : parseFieldDescriptor "J" = some .long)))
    refine own_aloadN (q := 29) (v := (.ref a)) A41 d4_28 rfl rfl ?_
    refine own_iloadN (q := 30) (v := x) A41 d4_29 rfl ?_
    refine own_putF (host := "") (q := 33) A41 (Or.inl (hw _ (List.mem_of_getElem? (i := 34) rfl))) Via.refl f49 f44 (Or.inl (hw _ (List.mem_of_getElem? (i := 35) rfl))) (hw _ (List.mem_of_getElem? (i := 22) rfl)) (ty := .int) (by decide) rfl rfl g0 (Or.inl (by simp)) d4_30 ?_
    intro T50 h51 A52 W53
    have K54 : Keep h0 h51 [a] := K43.wr W53 (Or.inl (by simp))
    have f55 : Exa Z h51 a "com/example/planshift/planshift/campaign/Mutation" := f44.wr W53
    have f56 : Fld Z h51 a "com/example/planshift/planshift/campaign/Mutation" "poolRerun" "J" (.long (pr + (1 : Int64))) := f45.other W53 (Or.inr (slot_ne (Or.inl (hw _ (List.mem_of_getElem? (i := 42) rfl))) (Or.inl (hw _ (List.mem_of_getElem? (i := 35) rfl))) (by decide) (by decide : parseFieldDescriptor "J" = some .long) (by decide : parseFieldDescriptor "I" = some .int)))
    have f57 : Fld Z h51 a "com/example/planshift/planshift/campaign/Mutation" "poolNew" "J" (.long (pn + (1 : Int64))) := f46.other W53 (Or.inr (slot_ne (Or.inl (hw _ (List.mem_of_getElem? (i := 44) rfl))) (Or.inl (hw _ (List.mem_of_getElem? (i := 35) rfl))) (by decide) (by decide : parseFieldDescriptor "J" = some .long) (by decide : parseFieldDescriptor "I" = some .int)))
    have f58 : Fld Z h51 a "com/example/planshift/planshift/campaign/Mutation" "laterRun" "J" (.long lr) := f47.other W53 (Or.inr (slot_ne (Or.inl (hw _ (List.mem_of_getElem? (i := 56) rfl))) (Or.inl (hw _ (List.mem_of_getElem? (i := 35) rfl))) (by decide) (by decide : parseFieldDescriptor "J" = some .long) (by decide : parseFieldDescriptor "I" = some .int)))
    have f59 : Fld Z h51 a "com/example/planshift/planshift/campaign/Mutation" "laterNew" "J" (.long ln) := f48.other W53 (Or.inr (slot_ne (Or.inl (hw _ (List.mem_of_getElem? (i := 54) rfl))) (Or.inl (hw _ (List.mem_of_getElem? (i := 35) rfl))) (by decide) (by decide : parseFieldDescriptor "J" = some .long) (by decide : parseFieldDescriptor "I" = some .int)))
    have f60 : Fld Z h51 a "com/example/planshift/planshift/campaign/Mutation" "pool" "I" (.int x) := f49.same W53
    exact own_ret0 A52 hQ d4_33 ⟨rfl, K54, f55, f56, (by rw [if_neg c16]; exact f57), f58, f59, f60⟩
theorem d7_0 : decode prog_11_method_5_code 0 = .ok (.aload_n 0, 1) := by decide +kernel
theorem d7_1 : decode prog_11_method_5_code 1 = .ok (.dup, 1) := by decide +kernel
theorem d7_2 : decode prog_11_method_5_code 2 = .ok (.getfield 37, 3) := by decide +kernel
theorem d7_5 : decode prog_11_method_5_code 5 = .ok (.lconst 1, 1) := by decide +kernel
theorem d7_6 : decode prog_11_method_5_code 6 = .ok (.ladd, 1) := by decide +kernel
theorem d7_7 : decode prog_11_method_5_code 7 = .ok (.putfield 37, 3) := by decide +kernel
theorem d7_10 : decode prog_11_method_5_code 10 = .ok (.aload_n 0, 1) := by decide +kernel
theorem d7_11 : decode prog_11_method_5_code 11 = .ok (.dup, 1) := by decide +kernel
theorem d7_12 : decode prog_11_method_5_code 12 = .ok (.getfield 40, 3) := by decide +kernel
theorem d7_15 : decode prog_11_method_5_code 15 = .ok (.iload_n 1, 1) := by decide +kernel
theorem d7_16 : decode prog_11_method_5_code 16 = .ok (.ifCond .eq 7, 3) := by decide +kernel
theorem d7_19 : decode prog_11_method_5_code 19 = .ok (.lconst 1, 1) := by decide +kernel
theorem d7_20 : decode prog_11_method_5_code 20 = .ok (.goto 4, 3) := by decide +kernel
theorem d7_23 : decode prog_11_method_5_code 23 = .ok (.lconst 0, 1) := by decide +kernel
theorem d7_24 : decode prog_11_method_5_code 24 = .ok (.ladd, 1) := by decide +kernel
theorem d7_25 : decode prog_11_method_5_code 25 = .ok (.putfield 40, 3) := by decide +kernel
theorem d7_28 : decode prog_11_method_5_code 28 = .ok (.return_, 1) := by decide +kernel
set_option maxRecDepth 65536 in
set_option maxHeartbeats 40000000 in
theorem rm_judged (l : Launch) (Z : State) (a0 : Array Value) (hw : ∀ d ∈ tables_1, d.before a0 Z = true) (a : Addr) (b y : Int32) (pr pn lr ln : Int64) (h0 : Heap) (n0 : Nat) (O0 : Old Z n0 h0) (E : Exa Z h0 a "com/example/planshift/planshift/campaign/Mutation") (FpoolRerun : Fld Z h0 a "com/example/planshift/planshift/campaign/Mutation" "poolRerun" "J" (.long pr)) (FpoolNew : Fld Z h0 a "com/example/planshift/planshift/campaign/Mutation" "poolNew" "J" (.long pn)) (FlaterRun : Fld Z h0 a "com/example/planshift/planshift/campaign/Mutation" "laterRun" "J" (.long lr)) (FlaterNew : Fld Z h0 a "com/example/planshift/planshift/campaign/Mutation" "laterNew" "J" (.long ln)) (Fpool : Fld Z h0 a "com/example/planshift/planshift/campaign/Mutation" "pool" "I" (.int y)) (g0 : n0 ≤ a) :
    own_Met true l Z n0 [] [a] (⟨"com/example/planshift/planshift/campaign/Mutation", "judgedAfter", "(Z)V"⟩ : MethodName) prog_11_method_5_code 2 none [] ({ frames := 0, cells := 0, slots := 0, locals := 0 } : Room) #[(.ref a), (.int b)] h0 (fun v h => v = none ∧ Keep h0 h [a] ∧ Exa Z h a "com/example/planshift/planshift/campaign/Mutation" ∧ Fld Z h a "com/example/planshift/planshift/campaign/Mutation" "poolRerun" "J" (.long pr) ∧ Fld Z h a "com/example/planshift/planshift/campaign/Mutation" "poolNew" "J" (.long pn) ∧ Fld Z h a "com/example/planshift/planshift/campaign/Mutation" "laterRun" "J" (.long (lr + 1)) ∧ Fld Z h a "com/example/planshift/planshift/campaign/Mutation" "laterNew" "J" (.long (ln + (if b = 0 then 0 else 1))) ∧ Fld Z h a "com/example/planshift/planshift/campaign/Mutation" "pool" "I" (.int y)) := by
  refine own_enter (a0 := a0) (own := "com/example/planshift/planshift/campaign/Mutation") (nm := "judgedAfter") (Ls := #[.val (.ref a), .val (.int b)]) own_pn1 O0 EW.nil (fun m => by first | (simp [entryFrame, mkF, argsToLocals, Value.category, maxLocals]; done) | rfl) ?_
  intro p e s m args below meth cde T0 Q hQ A0
  show own_Run p e below Q m T0 0 #[.val (.ref a), .val (.int b)] []
  refine own_aloadN (q := 1) (v := (.ref a)) A0 d7_0 rfl rfl ?_
  refine own_dup (q := 2) A0 d7_1 rfl ?_
  refine own_getF (host := "") (q := 5) A0 (Or.inl (hw _ (List.mem_of_getElem? (i := 55) rfl))) Via.refl FlaterRun d7_2 ?_
  intro T1 A2
  refine own_lconst (q := 6) A2 (1 : Int64) d7_5 rfl ?_
  refine own_ladd (q := 7) A2 d7_6 ?_
  refine own_putF (host := "") (q := 10) A2 (Or.inl (hw _ (List.mem_of_getElem? (i := 55) rfl))) Via.refl FlaterRun E (Or.inl (hw _ (List.mem_of_getElem? (i := 56) rfl))) (hw _ (List.mem_of_getElem? (i := 22) rfl)) (ty := .long) (by decide) rfl rfl g0 (Or.inl (by simp)) d7_7 ?_
  intro T3 h4 A5 W6
  have K7 : Keep h0 h4 [a] := (Keep.refl h0 [a]).wr W6 (Or.inl (by simp))
  have f8 : Exa Z h4 a "com/example/planshift/planshift/campaign/Mutation" := E.wr W6
  have f9 : Fld Z h4 a "com/example/planshift/planshift/campaign/Mutation" "poolRerun" "J" (.long pr) := FpoolRerun.other W6 (Or.inr (slot_ne (Or.inl (hw _ (List.mem_of_getElem? (i := 42) rfl))) (Or.inl (hw _ (List.mem_of_getElem? (i := 56) rfl))) (by decide) (by decide : parseFieldDescriptor "J" = some .long) (by decide : parseFieldDescriptor "J" = some .long)))
  have f10 : Fld Z h4 a "com/example/planshift/planshift/campaign/Mutation" "poolNew" "J" (.long pn) := FpoolNew.other W6 (Or.inr (slot_ne (Or.inl (hw _ (List.mem_of_getElem? (i := 44) rfl))) (Or.inl (hw _ (List.mem_of_getElem? (i := 56) rfl))) (by decide) (by decide : parseFieldDescriptor "J" = some .long) (by decide : parseFieldDescriptor "J" = some .long)))
  have f11 : Fld Z h4 a "com/example/planshift/planshift/campaign/Mutation" "laterRun" "J" (.long (lr + (1 : Int64))) := FlaterRun.same W6
  have f12 : Fld Z h4 a "com/example/planshift/planshift/campaign/Mutation" "laterNew" "J" (.long ln) := FlaterNew.other W6 (Or.inr (slot_ne (Or.inl (hw _ (List.mem_of_getElem? (i := 54) rfl))) (Or.inl (hw _ (List.mem_of_getElem? (i := 56) rfl))) (by decide) (by decide : parseFieldDescriptor "J" = some .long) (by decide : parseFieldDescriptor "J" = some .long)))
  have f13 : Fld Z h4 a "com/example/planshift/planshift/campaign/Mutation" "pool" "I" (.int y) := Fpool.other W6 (Or.inr (slot_ne (Or.inl (hw _ (List.mem_of_getElem? (i := 35) rfl))) (Or.inl (hw _ (List.mem_of_getElem? (i := 56) rfl))) (by decide) (by decide : parseFieldDescriptor "I" = some .int) (by decide : parseFieldDescriptor "J" = some .long)))
  refine own_aloadN (q := 11) (v := (.ref a)) A5 d7_10 rfl rfl ?_
  refine own_dup (q := 12) A5 d7_11 rfl ?_
  refine own_getF (host := "") (q := 15) A5 (Or.inl (hw _ (List.mem_of_getElem? (i := 53) rfl))) Via.refl f12 d7_12 ?_
  intro T14 A15
  refine own_iloadN (q := 16) (v := b) A15 d7_15 rfl ?_
  refine own_ifc (q := 23) (q' := 19) A15 d7_16 ?_ ?_
  · rintro (c16 : b = (0 : Int32))
    refine own_lconst (q := 24) A15 (0 : Int64) d7_23 rfl ?_
    refine own_ladd (q := 25) A15 d7_24 ?_
    refine own_putF (host := "") (q := 28) A15 (Or.inl (hw _ (List.mem_of_getElem? (i := 53) rfl))) Via.refl f12 f8 (Or.inl (hw _ (List.mem_of_getElem? (i := 54) rfl))) (hw _ (List.mem_of_getElem? (i := 22) rfl)) (ty := .long) (by decide) rfl rfl g0 (Or.inl (by simp)) d7_25 ?_
    intro T17 h18 A19 W20
    have K21 : Keep h0 h18 [a] := K7.wr W20 (Or.inl (by simp))
    have f22 : Exa Z h18 a "com/example/planshift/planshift/campaign/Mutation" := f8.wr W20
    have f23 : Fld Z h18 a "com/example/planshift/planshift/campaign/Mutation" "poolRerun" "J" (.long pr) := f9.other W20 (Or.inr (slot_ne (Or.inl (hw _ (List.mem_of_getElem? (i := 42) rfl))) (Or.inl (hw _ (List.mem_of_getElem? (i := 54) rfl))) (by decide) (by decide : parseFieldDescriptor "J" = some .long) (by decide : parseFieldDescriptor "J" = some .long)))
    have f24 : Fld Z h18 a "com/example/planshift/planshift/campaign/Mutation" "poolNew" "J" (.long pn) := f10.other W20 (Or.inr (slot_ne (Or.inl (hw _ (List.mem_of_getElem? (i := 44) rfl))) (Or.inl (hw _ (List.mem_of_getElem? (i := 54) rfl))) (by decide) (by decide : parseFieldDescriptor "J" = some .long) (by decide : parseFieldDescriptor "J" = some .long)))
    have f25 : Fld Z h18 a "com/example/planshift/planshift/campaign/Mutation" "laterRun" "J" (.long (lr + (1 : Int64))) := f11.other W20 (Or.inr (slot_ne (Or.inl (hw _ (List.mem_of_getElem? (i := 56) rfl))) (Or.inl (hw _ (List.mem_of_getElem? (i := 54) rfl))) (by decide) (by decide : parseFieldDescriptor "J" = some .long) (by decide : parseFieldDescriptor "J" = some .long)))
    have f26 : Fld Z h18 a "com/example/planshift/planshift/campaign/Mutation" "laterNew" "J" (.long (ln + (0 : Int64))) := f12.same W20
    have f27 : Fld Z h18 a "com/example/planshift/planshift/campaign/Mutation" "pool" "I" (.int y) := f13.other W20 (Or.inr (slot_ne (Or.inl (hw _ (List.mem_of_getElem? (i := 35) rfl))) (Or.inl (hw _ (List.mem_of_getElem? (i := 54) rfl))) (by decide) (by decide : parseFieldDescriptor "I" = some .int) (by decide : parseFieldDescriptor "J" = some .long)))
    exact own_ret0 A19 hQ d7_28 ⟨rfl, K21, f22, f23, f24, f25, (by rw [if_pos c16]; exact f26), f27⟩
  · rintro (c16 : ¬ b = (0 : Int32))
    refine own_lconst (q := 20) A15 (1 : Int64) d7_19 rfl ?_
    refine own_goto (q := 24) A15 d7_20 ?_
    refine own_ladd (q := 25) A15 d7_24 ?_
    refine own_putF (host := "") (q := 28) A15 (Or.inl (hw _ (List.mem_of_getElem? (i := 53) rfl))) Via.refl f12 f8 (Or.inl (hw _ (List.mem_of_getElem? (i := 54) rfl))) (hw _ (List.mem_of_getElem? (i := 22) rfl)) (ty := .long) (by decide) rfl rfl g0 (Or.inl (by simp)) d7_25 ?_
    intro T28 h29 A30 W31
    have K32 : Keep h0 h29 [a] := K7.wr W31 (Or.inl (by simp))
    have f33 : Exa Z h29 a "com/example/planshift/planshift/campaign/Mutation" := f8.wr W31
    have f34 : Fld Z h29 a "com/example/planshift/planshift/campaign/Mutation" "poolRerun" "J" (.long pr) := f9.other W31 (Or.inr (slot_ne (Or.inl (hw _ (List.mem_of_getElem? (i := 42) rfl))) (Or.inl (hw _ (List.mem_of_getElem? (i := 54) rfl))) (by decide) (by decide : parseFieldDescriptor "J" = some .long) (by decide : parseFieldDescriptor "J" = some .long)))
    have f35 : Fld Z h29 a "com/example/planshift/planshift/campaign/Mutation" "poolNew" "J" (.long pn) := f10.other W31 (Or.inr (slot_ne (Or.inl (hw _ (List.mem_of_getElem? (i := 44) rfl))) (Or.inl (hw _ (List.mem_of_getElem? (i := 54) rfl))) (by decide) (by decide : parseFieldDescriptor "J" = some .long) (by decide : parseFieldDescriptor "J" = some .long)))
    have f36 : Fld Z h29 a "com/example/planshift/planshift/campaign/Mutation" "laterRun" "J" (.long (lr + (1 : Int64))) := f11.other W31 (Or.inr (slot_ne (Or.inl (hw _ (List.mem_of_getElem? (i := 56) rfl))) (Or.inl (hw _ (List.mem_of_getElem? (i := 54) rfl))) (by decide) (by decide : parseFieldDescriptor "J" = some .long) (by decide : parseFieldDescriptor "J" = some .long)))
    have f37 : Fld Z h29 a "com/example/planshift/planshift/campaign/Mutation" "laterNew" "J" (.long (ln + (1 : Int64))) := f12.same W31
    have f38 : Fld Z h29 a "com/example/planshift/planshift/campaign/Mutation" "pool" "I" (.int y) := f13.other W31 (Or.inr (slot_ne (Or.inl (hw _ (List.mem_of_getElem? (i := 35) rfl))) (Or.inl (hw _ (List.mem_of_getElem? (i := 54) rfl))) (by decide) (by decide : parseFieldDescriptor "I" = some .int) (by decide : parseFieldDescriptor "J" = some .long)))
    exact own_ret0 A30 hQ d7_28 ⟨rfl, K32, f33, f34, f35, f36, (by rw [if_neg c16]; exact f37), f38⟩
theorem d6_0 : decode prog_11_method_8_code 0 = .ok (.lload_n 2, 1) := by decide +kernel
theorem d6_1 : decode prog_11_method_8_code 1 = .ok (.lconst 0, 1) := by decide +kernel
theorem d6_2 : decode prog_11_method_8_code 2 = .ok (.lcmp, 1) := by decide +kernel
theorem d6_3 : decode prog_11_method_8_code 3 = .ok (.ifCond .ne 7, 3) := by decide +kernel
theorem d6_6 : decode prog_11_method_8_code 6 = .ok (.dconst 0, 1) := by decide +kernel
theorem d6_7 : decode prog_11_method_8_code 7 = .ok (.goto 8, 3) := by decide +kernel
theorem d6_10 : decode prog_11_method_8_code 10 = .ok (.lload_n 0, 1) := by decide +kernel
theorem d6_11 : decode prog_11_method_8_code 11 = .ok (.l2d, 1) := by decide +kernel
theorem d6_12 : decode prog_11_method_8_code 12 = .ok (.lload_n 2, 1) := by decide +kernel
theorem d6_13 : decode prog_11_method_8_code 13 = .ok (.l2d, 1) := by decide +kernel
theorem d6_14 : decode prog_11_method_8_code 14 = .ok (.ddiv, 1) := by decide +kernel
theorem d6_15 : decode prog_11_method_8_code 15 = .ok (.dreturn, 1) := by decide +kernel
set_option maxRecDepth 65536 in
set_option maxHeartbeats 40000000 in
theorem rm_share (l : Launch) (Z : State) (a0 : Array Value) (hw : ∀ d ∈ tables_1, d.before a0 Z = true) (x y : Int64) (h0 : Heap) (n0 : Nat) (O0 : Old Z n0 h0) (hx : own_sm x) (hy : own_sm y) :
    own_Met true l Z n0 [] [] (⟨"com/example/planshift/planshift/campaign/Mutation", "share", "(JJ)D"⟩ : MethodName) prog_11_method_8_code 4 (some .double) [] ({ frames := 0, cells := 0, slots := 0, locals := 0 } : Room) #[(.long x), (.long y)] h0 (fun v h => v = some (.double (own_share x y)) ∧ h0 = h) := by
  refine own_enter (a0 := a0) (own := "com/example/planshift/planshift/campaign/Mutation") (nm := "share") (Ls := #[.val (.long x), .second, .val (.long y), .second]) own_pn1 O0 EW.nil (fun m => by first | (simp [entryFrame, mkF, argsToLocals, Value.category, maxLocals]; done) | rfl) ?_
  intro p e s m args below meth cde T0 Q hQ A0
  show own_Run p e below Q m T0 0 #[.val (.long x), .second, .val (.long y), .second] []
  refine own_lloadN (q := 1) (v := y) A0 d6_0 rfl ?_
  refine own_lconst (q := 2) A0 (0 : Int64) d6_1 rfl ?_
  refine own_lcmp (q := 3) A0 d6_2 ?_
  refine own_ifc (q := 10) (q' := 6) A0 d6_3 ?_ ?_
  · rintro (c1 : ¬ (lcmpW y (0 : Int64)) = (0 : Int32))
    refine own_lloadN (q := 11) (v := x) A0 d6_10 rfl ?_
    refine own_l2d (q := 12) A0 d6_11 ?_
    refine own_lloadN (q := 13) (v := y) A0 d6_12 rfl ?_
    refine own_l2d (q := 14) A0 d6_13 ?_
    refine own_ddiv (q := 15) A0 d6_14 (own_nnd hx hy (fun q => c1 ((own_lw0 y).mpr q))) ?_
    exact own_retD A0 hQ d6_15 ⟨by rw [own_share, if_neg (fun q => c1 ((own_lw0 y).mpr q))], rfl⟩
  · rintro (c1 : (lcmpW y (0 : Int64)) = (0 : Int32))
    refine own_dconst0 (q := 7) A0 d6_6 ?_
    refine own_goto (q := 15) A0 d6_7 ?_
    exact own_retD A0 hQ d6_15 ⟨by rw [own_share, if_pos ((own_lw0 y).mp c1)], rfl⟩
theorem d5_0 : decode prog_11_method_6_code 0 = .ok (.aload_n 0, 1) := by decide +kernel
theorem d5_1 : decode prog_11_method_6_code 1 = .ok (.getfield 34, 3) := by decide +kernel
theorem d5_4 : decode prog_11_method_6_code 4 = .ok (.aload_n 0, 1) := by decide +kernel
theorem d5_5 : decode prog_11_method_6_code 5 = .ok (.getfield 31, 3) := by decide +kernel
theorem d5_8 : decode prog_11_method_6_code 8 = .ok (.invokestatic 43, 3) := by decide +kernel
theorem d5_11 : decode prog_11_method_6_code 11 = .ok (.aload_n 0, 1) := by decide +kernel
theorem d5_12 : decode prog_11_method_6_code 12 = .ok (.getfield 40, 3) := by decide +kernel
theorem d5_15 : decode prog_11_method_6_code 15 = .ok (.aload_n 0, 1) := by decide +kernel
theorem d5_16 : decode prog_11_method_6_code 16 = .ok (.getfield 37, 3) := by decide +kernel
theorem d5_19 : decode prog_11_method_6_code 19 = .ok (.invokestatic 43, 3) := by decide +kernel
theorem d5_22 : decode prog_11_method_6_code 22 = .ok (.dadd, 1) := by decide +kernel
theorem d5_23 : decode prog_11_method_6_code 23 = .ok (.dreturn, 1) := by decide +kernel
set_option maxRecDepth 65536 in
set_option maxHeartbeats 40000000 in
theorem rm_gain (l : Launch) (Z : State) (a0 : Array Value) (hw : ∀ d ∈ tables_1, d.before a0 Z = true) (a : Addr) (y : Int32) (pr pn lr ln : Int64) (h0 : Heap) (n0 : Nat) (O0 : Old Z n0 h0) (E : Exa Z h0 a "com/example/planshift/planshift/campaign/Mutation") (FpoolRerun : Fld Z h0 a "com/example/planshift/planshift/campaign/Mutation" "poolRerun" "J" (.long pr)) (FpoolNew : Fld Z h0 a "com/example/planshift/planshift/campaign/Mutation" "poolNew" "J" (.long pn)) (FlaterRun : Fld Z h0 a "com/example/planshift/planshift/campaign/Mutation" "laterRun" "J" (.long lr)) (FlaterNew : Fld Z h0 a "com/example/planshift/planshift/campaign/Mutation" "laterNew" "J" (.long ln)) (Fpool : Fld Z h0 a "com/example/planshift/planshift/campaign/Mutation" "pool" "I" (.int y)) (g0 : n0 ≤ a) (h1 : own_sm pr) (h2 : own_sm pn) (h3 : own_sm lr) (h4 : own_sm ln) :
    own_Met true l Z n0 [] [] (⟨"com/example/planshift/planshift/campaign/Mutation", "gain", "()D"⟩ : MethodName) prog_11_method_6_code 1 (some .double) [] ({ frames := 1, cells := 0, slots := 0, locals := 18 } : Room) #[(.ref a)] h0 (fun v h => v = some (.double (FP.dadd (own_share pn pr) (own_share ln lr))) ∧ h0 = h) := by
  refine own_enter (a0 := a0) (own := "com/example/planshift/planshift/campaign/Mutation") (nm := "gain") (Ls := #[.val (.ref a)]) own_pn1 O0 EW.nil (fun m => by first | (simp [entryFrame, mkF, argsToLocals, Value.category, maxLocals]; done) | rfl) ?_
  intro p e s m args below meth cde T0 Q hQ A0
  show own_Run p e below Q m T0 0 #[.val (.ref a)] []
  refine own_aloadN (q := 1) (v := (.ref a)) A0 d5_0 rfl rfl ?_
  refine own_getF (host := "") (q := 4) A0 (Or.inl (hw _ (List.mem_of_getElem? (i := 43) rfl))) Via.refl FpoolNew d5_1 ?_
  intro T1 A2
  refine own_aloadN (q := 5) (v := (.ref a)) A2 d5_4 rfl rfl ?_
  refine own_getF (host := "") (q := 8) A2 (Or.inl (hw _ (List.mem_of_getElem? (i := 41) rfl))) Via.refl FpoolRerun d5_5 ?_
  intro T3 A4
  refine own_staticW (q := 11) (W := 0) (argsL := [(.long pn), (.long pr)]) (rest := []) A4 (hw _ (List.mem_of_getElem? (i := 50) rfl)) (hw _ (List.mem_of_getElem? (i := 51) rfl)) (hw _ (List.mem_of_getElem? (i := 23) rfl)) (hw _ (List.mem_of_getElem? (i := 52) rfl)) (by decide) (own_payW (rm_share l Z a0 hw pn pr h0 n0 A4.old h2 h1) (hw _ (List.mem_of_getElem? (i := 52) rfl)) (hw _ (List.mem_of_getElem? (i := 23) rfl)) (by decide) (by decide)) (fun _ z => nomatch z) (Nat.le_of_eq rfl) own_pd4 rfl rfl rfl d5_8 (by decide) (by decide) ?_
  rintro v5 T6 h7 A8 ⟨rfl, rfl⟩
  show own_Run p e below Q m T6 11 #[.val (.ref a)] [(.double (own_share pn pr))]
  refine own_aloadN (q := 12) (v := (.ref a)) A8 d5_11 rfl rfl ?_
  refine own_getF (host := "") (q := 15) A8 (Or.inl (hw _ (List.mem_of_getElem? (i := 53) rfl))) Via.refl FlaterNew d5_12 ?_
  intro T9 A10
  refine own_aloadN (q := 16) (v := (.ref a)) A10 d5_15 rfl rfl ?_
  refine own_getF (host := "") (q := 19) A10 (Or.inl (hw _ (List.mem_of_getElem? (i := 55) rfl))) Via.refl FlaterRun d5_16 ?_
  intro T11 A12
  refine own_staticW (q := 22) (W := 2) (argsL := [(.long ln), (.long lr)]) (rest := [(.double (own_share pn pr))]) A12 (hw _ (List.mem_of_getElem? (i := 50) rfl)) (hw _ (List.mem_of_getElem? (i := 51) rfl)) (hw _ (List.mem_of_getElem? (i := 23) rfl)) (hw _ (List.mem_of_getElem? (i := 52) rfl)) (by decide) (own_payW (rm_share l Z a0 hw ln lr h0 n0 A12.old h4 h3) (hw _ (List.mem_of_getElem? (i := 52) rfl)) (hw _ (List.mem_of_getElem? (i := 23) rfl)) (by decide) (by decide)) (fun _ z => nomatch z) (Nat.le_of_eq rfl) own_pd4 rfl rfl rfl d5_19 (by decide) (by decide) ?_
  rintro v13 T14 h15 A16 ⟨rfl, rfl⟩
  show own_Run p e below Q m T14 22 #[.val (.ref a)] [(.double (own_share ln lr)), (.double (own_share pn pr))]
  refine own_dadd (q := 23) A16 d5_22 (own_nna h2 h1 h4 h3) ?_
  exact own_retD A16 hQ d5_23 ⟨rfl, rfl⟩
theorem own_pn2 : plainName "com/example/planshift/planshift/campaign/MutationJudgedAfterPinLaw" = true := by first | (simp [plainName, overriddenIn]; done) | decide +kernel
set_option maxRecDepth 65536 in
set_option maxHeartbeats 40000000 in
theorem rm_law (l : Launch) (Z : State) (a0 : Array Value) (hw : ∀ d ∈ tables_1, d.before a0 Z = true) (ws : List Jvm.Cond) (q0 : Int64) (i1 i2 i3 : Int32) (h0 : Heap) (n0 : Nat) (O0 : Old Z n0 h0)  :
    own_Met true l Z n0 [] [] x code maxLocals ret ws room_1 #[(.long q0), (.int i1), (.int i2), (.int i3)] h0 (fun v _ => v = some (.int 1)) := by
  refine own_enter (a0 := a0) (own := "com/example/planshift/planshift/campaign/MutationJudgedAfterPinLaw") (nm := "law") (Ls := #[.val (.long q0), .second, .val (.int i1), .val (.int i2), .val (.int i3), .unset, .unset, .unset, .unset, .unset, .unset, .unset, .unset, .unset, .unset, .unset, .unset, .unset, .unset, .unset, .unset, .unset, .unset]) own_pn2 O0 EW.nil (fun m => by first | (simp [entryFrame, mkF, argsToLocals, Value.category, maxLocals]; done) | rfl) ?_
  intro p e s m args below meth cde T0 Q hQ A0
  show own_Run p e below Q m T0 0 #[.val (.long q0), .second, .val (.int i1), .val (.int i2), .val (.int i3), .unset, .unset, .unset, .unset, .unset, .unset, .unset, .unset, .unset, .unset, .unset, .unset, .unset, .unset, .unset, .unset, .unset, .unset] []
  refine own_iloadN (q := 1) (v := i2) A0 at_0 rfl ?_
  refine own_iconst (q := 2) A0 (3 : Int32) at_1 rfl ?_
  refine own_iand (q := 3) A0 at_2 ?_
  refine own_istore (q := 5) (L' := #[.val (.long q0), .second, .val (.int i1), .val (.int i2), .val (.int i3), .val (.int (i2 &&& (3 : Int32))), .unset, .unset, .unset, .unset, .unset, .unset, .unset, .unset, .unset, .unset, .unset, .unset, .unset, .unset, .unset, .unset, .unset]) A0 at_3 rfl ?_
  obtain ⟨mm, emm⟩ : ∃ mm, mm = (i2 &&& (3 : Int32)) := ⟨_, rfl⟩
  rw [← emm]
  refine own_iloadN (q := 6) (v := i2) A0 at_5 rfl ?_
  refine own_iconst (q := 7) A0 (2 : Int32) at_6 rfl ?_
  refine own_iushr (q := 8) A0 at_7 ?_
  refine own_iconst (q := 9) A0 (3 : Int32) at_8 rfl ?_
  refine own_iand (q := 10) A0 at_9 ?_
  refine own_istore (q := 12) (L' := #[.val (.long q0), .second, .val (.int i1), .val (.int i2), .val (.int i3), .val (.int mm), .val (.int ((((i2).toUInt32 >>> ((2 : Int32) &&& 31).toUInt32).toInt32) &&& (3 : Int32))), .unset, .unset, .unset, .unset, .unset, .unset, .unset, .unset, .unset, .unset, .unset, .unset, .unset, .unset, .unset, .unset]) A0 at_10 rfl ?_
  obtain ⟨nn, enn⟩ : ∃ nn, nn = ((((i2).toUInt32 >>> ((2 : Int32) &&& 31).toUInt32).toInt32) &&& (3 : Int32)) := ⟨_, rfl⟩
  rw [← enn]
  refine own_iload (q := 14) (v := i3) A0 at_12 rfl ?_
  refine own_iconst (q := 15) A0 (1 : Int32) at_14 rfl ?_
  refine own_iushr (q := 16) A0 at_15 ?_
  refine own_iconst (q := 17) A0 (1 : Int32) at_16 rfl ?_
  refine own_iand (q := 18) A0 at_17 ?_
  suffices kj2 : ∀ (x1 : Int32), (((((i3).toUInt32 >>> ((1 : Int32) &&& 31).toUInt32).toInt32) &&& (1 : Int32)) = (0 : Int32) → x1 = (0 : Int32)) → (¬ ((((i3).toUInt32 >>> ((1 : Int32) &&& 31).toUInt32).toInt32) &&& (1 : Int32)) = (0 : Int32) → x1 = (1 : Int32)) → own_Run p e below Q m T0 26 #[.val (.long q0), .second, .val (.int i1), .val (.int i2), .val (.int i3), .val (.int mm), .val (.int nn), .unset, .unset, .unset, .unset, .unset, .unset, .unset, .unset, .unset, .unset, .unset, .unset, .unset, .unset, .unset, .unset] [(.int x1)] by
    refine own_ifc (q := 25) (q' := 21) A0 at_18 ?_ ?_
    · rintro (c3 : ((((i3).toUInt32 >>> ((1 : Int32) &&& 31).toUInt32).toInt32) &&& (1 : Int32)) = (0 : Int32))
      refine own_iconst (q := 26) A0 (0 : Int32) at_25 rfl ?_
      exact kj2 _ (by intros; first | rfl | contradiction) (by intros; first | rfl | contradiction)
    · rintro (c3 : ¬ ((((i3).toUInt32 >>> ((1 : Int32) &&& 31).toUInt32).toInt32) &&& (1 : Int32)) = (0 : Int32))
      refine own_iconst (q := 22) A0 (1 : Int32) at_21 rfl ?_
      refine own_goto (q := 26) A0 at_22 ?_
      exact kj2 _ (by intros; first | rfl | contradiction) (by intros; first | rfl | contradiction)
  intro x1 j4 j5
  have hbx1 : x1 = 0 ∨ x1 = 1 := (Classical.em _).elim (fun q => Or.inl (j4 q)) (fun q => Or.inr (j5 q))
  refine own_istore (q := 28) (L' := #[.val (.long q0), .second, .val (.int i1), .val (.int i2), .val (.int i3), .val (.int mm), .val (.int nn), .val (.int x1), .unset, .unset, .unset, .unset, .unset, .unset, .unset, .unset, .unset, .unset, .unset, .unset, .unset, .unset, .unset]) A0 at_26 rfl ?_
  refine own_iload (q := 30) (v := i3) A0 at_28 rfl ?_
  refine own_iconst (q := 31) A0 (2 : Int32) at_30 rfl ?_
  refine own_iushr (q := 32) A0 at_31 ?_
  refine own_iconst (q := 33) A0 (1 : Int32) at_32 rfl ?_
  refine own_iand (q := 34) A0 at_33 ?_
  suffices kj7 : ∀ (x6 : Int32), (((((i3).toUInt32 >>> ((2 : Int32) &&& 31).toUInt32).toInt32) &&& (1 : Int32)) = (0 : Int32) → x6 = (0 : Int32)) → (¬ ((((i3).toUInt32 >>> ((2 : Int32) &&& 31).toUInt32).toInt32) &&& (1 : Int32)) = (0 : Int32) → x6 = (1 : Int32)) → own_Run p e below Q m T0 42 #[.val (.long q0), .second, .val (.int i1), .val (.int i2), .val (.int i3), .val (.int mm), .val (.int nn), .val (.int x1), .unset, .unset, .unset, .unset, .unset, .unset, .unset, .unset, .unset, .unset, .unset, .unset, .unset, .unset, .unset] [(.int x6)] by
    refine own_ifc (q := 41) (q' := 37) A0 at_34 ?_ ?_
    · rintro (c8 : ((((i3).toUInt32 >>> ((2 : Int32) &&& 31).toUInt32).toInt32) &&& (1 : Int32)) = (0 : Int32))
      refine own_iconst (q := 42) A0 (0 : Int32) at_41 rfl ?_
      exact kj7 _ (by intros; first | rfl | contradiction) (by intros; first | rfl | contradiction)
    · rintro (c8 : ¬ ((((i3).toUInt32 >>> ((2 : Int32) &&& 31).toUInt32).toInt32) &&& (1 : Int32)) = (0 : Int32))
      refine own_iconst (q := 38) A0 (1 : Int32) at_37 rfl ?_
      refine own_goto (q := 42) A0 at_38 ?_
      exact kj7 _ (by intros; first | rfl | contradiction) (by intros; first | rfl | contradiction)
  intro x6 j9 j10
  have hbx6 : x6 = 0 ∨ x6 = 1 := (Classical.em _).elim (fun q => Or.inl (j9 q)) (fun q => Or.inr (j10 q))
  refine own_istore (q := 44) (L' := #[.val (.long q0), .second, .val (.int i1), .val (.int i2), .val (.int i3), .val (.int mm), .val (.int nn), .val (.int x1), .val (.int x6), .unset, .unset, .unset, .unset, .unset, .unset, .unset, .unset, .unset, .unset, .unset, .unset, .unset, .unset]) A0 at_42 rfl ?_
  refine own_iload (q := 46) (v := i3) A0 at_44 rfl ?_
  refine own_iconst (q := 47) A0 (3 : Int32) at_46 rfl ?_
  refine own_iushr (q := 48) A0 at_47 ?_
  refine own_iconst (q := 49) A0 (1 : Int32) at_48 rfl ?_
  refine own_iand (q := 50) A0 at_49 ?_
  suffices kj12 : ∀ (x11 : Int32), (((((i3).toUInt32 >>> ((3 : Int32) &&& 31).toUInt32).toInt32) &&& (1 : Int32)) = (0 : Int32) → x11 = (0 : Int32)) → (¬ ((((i3).toUInt32 >>> ((3 : Int32) &&& 31).toUInt32).toInt32) &&& (1 : Int32)) = (0 : Int32) → x11 = (1 : Int32)) → own_Run p e below Q m T0 58 #[.val (.long q0), .second, .val (.int i1), .val (.int i2), .val (.int i3), .val (.int mm), .val (.int nn), .val (.int x1), .val (.int x6), .unset, .unset, .unset, .unset, .unset, .unset, .unset, .unset, .unset, .unset, .unset, .unset, .unset, .unset] [(.int x11)] by
    refine own_ifc (q := 57) (q' := 53) A0 at_50 ?_ ?_
    · rintro (c13 : ((((i3).toUInt32 >>> ((3 : Int32) &&& 31).toUInt32).toInt32) &&& (1 : Int32)) = (0 : Int32))
      refine own_iconst (q := 58) A0 (0 : Int32) at_57 rfl ?_
      exact kj12 _ (by intros; first | rfl | contradiction) (by intros; first | rfl | contradiction)
    · rintro (c13 : ¬ ((((i3).toUInt32 >>> ((3 : Int32) &&& 31).toUInt32).toInt32) &&& (1 : Int32)) = (0 : Int32))
      refine own_iconst (q := 54) A0 (1 : Int32) at_53 rfl ?_
      refine own_goto (q := 58) A0 at_54 ?_
      exact kj12 _ (by intros; first | rfl | contradiction) (by intros; first | rfl | contradiction)
  intro x11 j14 j15
  have hbx11 : x11 = 0 ∨ x11 = 1 := (Classical.em _).elim (fun q => Or.inl (j14 q)) (fun q => Or.inr (j15 q))
  refine own_istore (q := 60) (L' := #[.val (.long q0), .second, .val (.int i1), .val (.int i2), .val (.int i3), .val (.int mm), .val (.int nn), .val (.int x1), .val (.int x6), .val (.int x11), .unset, .unset, .unset, .unset, .unset, .unset, .unset, .unset, .unset, .unset, .unset, .unset, .unset]) A0 at_58 rfl ?_
  refine own_iload (q := 62) (v := i3) A0 at_60 rfl ?_
  refine own_iconst (q := 63) A0 (4 : Int32) at_62 rfl ?_
  refine own_iushr (q := 64) A0 at_63 ?_
  refine own_iconst (q := 65) A0 (1 : Int32) at_64 rfl ?_
  refine own_iand (q := 66) A0 at_65 ?_
  suffices kj17 : ∀ (x16 : Int32), (((((i3).toUInt32 >>> ((4 : Int32) &&& 31).toUInt32).toInt32) &&& (1 : Int32)) = (0 : Int32) → x16 = (0 : Int32)) → (¬ ((((i3).toUInt32 >>> ((4 : Int32) &&& 31).toUInt32).toInt32) &&& (1 : Int32)) = (0 : Int32) → x16 = (1 : Int32)) → own_Run p e below Q m T0 74 #[.val (.long q0), .second, .val (.int i1), .val (.int i2), .val (.int i3), .val (.int mm), .val (.int nn), .val (.int x1), .val (.int x6), .val (.int x11), .unset, .unset, .unset, .unset, .unset, .unset, .unset, .unset, .unset, .unset, .unset, .unset, .unset] [(.int x16)] by
    refine own_ifc (q := 73) (q' := 69) A0 at_66 ?_ ?_
    · rintro (c18 : ((((i3).toUInt32 >>> ((4 : Int32) &&& 31).toUInt32).toInt32) &&& (1 : Int32)) = (0 : Int32))
      refine own_iconst (q := 74) A0 (0 : Int32) at_73 rfl ?_
      exact kj17 _ (by intros; first | rfl | contradiction) (by intros; first | rfl | contradiction)
    · rintro (c18 : ¬ ((((i3).toUInt32 >>> ((4 : Int32) &&& 31).toUInt32).toInt32) &&& (1 : Int32)) = (0 : Int32))
      refine own_iconst (q := 70) A0 (1 : Int32) at_69 rfl ?_
      refine own_goto (q := 74) A0 at_70 ?_
      exact kj17 _ (by intros; first | rfl | contradiction) (by intros; first | rfl | contradiction)
  intro x16 j19 j20
  have hbx16 : x16 = 0 ∨ x16 = 1 := (Classical.em _).elim (fun q => Or.inl (j19 q)) (fun q => Or.inr (j20 q))
  refine own_istore (q := 76) (L' := #[.val (.long q0), .second, .val (.int i1), .val (.int i2), .val (.int i3), .val (.int mm), .val (.int nn), .val (.int x1), .val (.int x6), .val (.int x11), .val (.int x16), .unset, .unset, .unset, .unset, .unset, .unset, .unset, .unset, .unset, .unset, .unset, .unset]) A0 at_74 rfl ?_
  refine own_iload (q := 78) (v := i3) A0 at_76 rfl ?_
  refine own_iconst (q := 79) A0 (5 : Int32) at_78 rfl ?_
  refine own_iushr (q := 80) A0 at_79 ?_
  refine own_iconst (q := 81) A0 (1 : Int32) at_80 rfl ?_
  refine own_iand (q := 82) A0 at_81 ?_
  suffices kj22 : ∀ (x21 : Int32), (((((i3).toUInt32 >>> ((5 : Int32) &&& 31).toUInt32).toInt32) &&& (1 : Int32)) = (0 : Int32) → x21 = (0 : Int32)) → (¬ ((((i3).toUInt32 >>> ((5 : Int32) &&& 31).toUInt32).toInt32) &&& (1 : Int32)) = (0 : Int32) → x21 = (1 : Int32)) → own_Run p e below Q m T0 90 #[.val (.long q0), .second, .val (.int i1), .val (.int i2), .val (.int i3), .val (.int mm), .val (.int nn), .val (.int x1), .val (.int x6), .val (.int x11), .val (.int x16), .unset, .unset, .unset, .unset, .unset, .unset, .unset, .unset, .unset, .unset, .unset, .unset] [(.int x21)] by
    refine own_ifc (q := 89) (q' := 85) A0 at_82 ?_ ?_
    · rintro (c23 : ((((i3).toUInt32 >>> ((5 : Int32) &&& 31).toUInt32).toInt32) &&& (1 : Int32)) = (0 : Int32))
      refine own_iconst (q := 90) A0 (0 : Int32) at_89 rfl ?_
      exact kj22 _ (by intros; first | rfl | contradiction) (by intros; first | rfl | contradiction)
    · rintro (c23 : ¬ ((((i3).toUInt32 >>> ((5 : Int32) &&& 31).toUInt32).toInt32) &&& (1 : Int32)) = (0 : Int32))
      refine own_iconst (q := 86) A0 (1 : Int32) at_85 rfl ?_
      refine own_goto (q := 90) A0 at_86 ?_
      exact kj22 _ (by intros; first | rfl | contradiction) (by intros; first | rfl | contradiction)
  intro x21 j24 j25
  have hbx21 : x21 = 0 ∨ x21 = 1 := (Classical.em _).elim (fun q => Or.inl (j24 q)) (fun q => Or.inr (j25 q))
  refine own_istore (q := 92) (L' := #[.val (.long q0), .second, .val (.int i1), .val (.int i2), .val (.int i3), .val (.int mm), .val (.int nn), .val (.int x1), .val (.int x6), .val (.int x11), .val (.int x16), .val (.int x21), .unset, .unset, .unset, .unset, .unset, .unset, .unset, .unset, .unset, .unset, .unset]) A0 at_90 rfl ?_
  refine own_iload (q := 94) (v := i3) A0 at_92 rfl ?_
  refine own_bipush (q := 96) A0 (6 : Int32) at_94 rfl ?_
  refine own_iushr (q := 97) A0 at_96 ?_
  refine own_iconst (q := 98) A0 (1 : Int32) at_97 rfl ?_
  refine own_iand (q := 99) A0 at_98 ?_
  suffices kj27 : ∀ (x26 : Int32), (((((i3).toUInt32 >>> ((6 : Int32) &&& 31).toUInt32).toInt32) &&& (1 : Int32)) = (0 : Int32) → x26 = (0 : Int32)) → (¬ ((((i3).toUInt32 >>> ((6 : Int32) &&& 31).toUInt32).toInt32) &&& (1 : Int32)) = (0 : Int32) → x26 = (1 : Int32)) → own_Run p e below Q m T0 107 #[.val (.long q0), .second, .val (.int i1), .val (.int i2), .val (.int i3), .val (.int mm), .val (.int nn), .val (.int x1), .val (.int x6), .val (.int x11), .val (.int x16), .val (.int x21), .unset, .unset, .unset, .unset, .unset, .unset, .unset, .unset, .unset, .unset, .unset] [(.int x26)] by
    refine own_ifc (q := 106) (q' := 102) A0 at_99 ?_ ?_
    · rintro (c28 : ((((i3).toUInt32 >>> ((6 : Int32) &&& 31).toUInt32).toInt32) &&& (1 : Int32)) = (0 : Int32))
      refine own_iconst (q := 107) A0 (0 : Int32) at_106 rfl ?_
      exact kj27 _ (by intros; first | rfl | contradiction) (by intros; first | rfl | contradiction)
    · rintro (c28 : ¬ ((((i3).toUInt32 >>> ((6 : Int32) &&& 31).toUInt32).toInt32) &&& (1 : Int32)) = (0 : Int32))
      refine own_iconst (q := 103) A0 (1 : Int32) at_102 rfl ?_
      refine own_goto (q := 107) A0 at_103 ?_
      exact kj27 _ (by intros; first | rfl | contradiction) (by intros; first | rfl | contradiction)
  intro x26 j29 j30
  have hbx26 : x26 = 0 ∨ x26 = 1 := (Classical.em _).elim (fun q => Or.inl (j29 q)) (fun q => Or.inr (j30 q))
  refine own_istore (q := 109) (L' := #[.val (.long q0), .second, .val (.int i1), .val (.int i2), .val (.int i3), .val (.int mm), .val (.int nn), .val (.int x1), .val (.int x6), .val (.int x11), .val (.int x16), .val (.int x21), .val (.int x26), .unset, .unset, .unset, .unset, .unset, .unset, .unset, .unset, .unset, .unset]) A0 at_107 rfl ?_
  refine own_newO (q := 112) A0 (hw _ (List.mem_of_getElem? (i := 0) rfl)) (hw _ (List.mem_of_getElem? (i := 1) rfl)) (hw _ (List.mem_of_getElem? (i := 2) rfl)) at_109 (by decide) (by decide) ?_
  intro T31 h32 a33 g34 g35 A36 E37 X38 D39
  have f40 : Fld Z h32 a33 "com/example/planshift/planshift/campaign/Bandit$Pick" "kind" "Ljava/lang/String;" .null := D39 (Or.inr (hw _ (List.mem_of_getElem? (i := 18) rfl))) (ty := (.object "java/lang/String")) (by decide)
  have f41 : Fld Z h32 a33 "com/example/planshift/planshift/campaign/Bandit$Pick" "best" "Z" (.int (0 : Int32)) := D39 (Or.inr (hw _ (List.mem_of_getElem? (i := 20) rfl))) (ty := .boolean) (by decide)
  refine own_dup (q := 113) A36 at_112 rfl ?_
  refine own_ldcO (q := 115) (n := 16) A36 (hw _ (List.mem_of_getElem? (i := 3) rfl)) (own_satoms hw) at_113 (by decide) (by decide) (by decide) (by decide) ?_
  intro a42 T43 h44 A45 E46
  have f47 : Exa Z h44 a33 "com/example/planshift/planshift/campaign/Bandit$Pick" := X38.ext E46
  have f48 : Fld Z h44 a33 "com/example/planshift/planshift/campaign/Bandit$Pick" "kind" "Ljava/lang/String;" .null := f40.ext E46
  have f49 : Fld Z h44 a33 "com/example/planshift/planshift/campaign/Bandit$Pick" "best" "Z" (.int (0 : Int32)) := f41.ext E46
  refine own_iload (q := 117) (v := i3) A45 at_115 rfl ?_
  refine own_bipush (q := 119) A45 (7 : Int32) at_117 rfl ?_
  refine own_iushr (q := 120) A45 at_119 ?_
  refine own_iconst (q := 121) A45 (1 : Int32) at_120 rfl ?_
  refine own_iand (q := 122) A45 at_121 ?_
  suffices kj51 : ∀ (x50 : Int32), (((((i3).toUInt32 >>> ((7 : Int32) &&& 31).toUInt32).toInt32) &&& (1 : Int32)) = (0 : Int32) → x50 = (0 : Int32)) → (¬ ((((i3).toUInt32 >>> ((7 : Int32) &&& 31).toUInt32).toInt32) &&& (1 : Int32)) = (0 : Int32) → x50 = (1 : Int32)) → own_Run p e below Q m T43 130 #[.val (.long q0), .second, .val (.int i1), .val (.int i2), .val (.int i3), .val (.int mm), .val (.int nn), .val (.int x1), .val (.int x6), .val (.int x11), .val (.int x16), .val (.int x21), .val (.int x26), .unset, .unset, .unset, .unset, .unset, .unset, .unset, .unset, .unset, .unset] [(.int x50), (.ref a42), (.ref a33), (.ref a33)] by
    refine own_ifc (q := 129) (q' := 125) A45 at_122 ?_ ?_
    · rintro (c52 : ((((i3).toUInt32 >>> ((7 : Int32) &&& 31).toUInt32).toInt32) &&& (1 : Int32)) = (0 : Int32))
      refine own_iconst (q := 130) A45 (0 : Int32) at_129 rfl ?_
      exact kj51 _ (by intros; first | rfl | contradiction) (by intros; first | rfl | contradiction)
    · rintro (c52 : ¬ ((((i3).toUInt32 >>> ((7 : Int32) &&& 31).toUInt32).toInt32) &&& (1 : Int32)) = (0 : Int32))
      refine own_iconst (q := 126) A45 (1 : Int32) at_125 rfl ?_
      refine own_goto (q := 130) A45 at_126 ?_
      exact kj51 _ (by intros; first | rfl | contradiction) (by intros; first | rfl | contradiction)
  intro x50 j53 j54
  have hbx50 : x50 = 0 ∨ x50 = 1 := (Classical.em _).elim (fun q => Or.inl (j53 q)) (fun q => Or.inr (j54 q))
  refine own_specialW (q := 133) (W := 1) (argsL := [(.ref a42), (.int x50)]) (rest := [(.ref a33)]) A45 rfl (hw _ (List.mem_of_getElem? (i := 11) rfl)) (hw _ (List.mem_of_getElem? (i := 12) rfl)) (hw _ (List.mem_of_getElem? (i := 13) rfl)) (by decide) (own_payW (rm_pk l Z a0 hw a33 a42 x50 h44 n0 A45.old f47 f48 f49 hbx50 g35) (hw _ (List.mem_of_getElem? (i := 13) rfl)) (hw _ (List.mem_of_getElem? (i := 2) rfl)) (by decide) (by decide)) (by simp) (Nat.le_of_eq rfl) own_pd0 rfl rfl rfl at_130 (by decide) (by decide) ?_
  rintro v56 T57 h58 A59 ⟨rfl, K55⟩
  show own_Run p e below Q m T57 133 #[.val (.long q0), .second, .val (.int i1), .val (.int i2), .val (.int i3), .val (.int mm), .val (.int nn), .val (.int x1), .val (.int x6), .val (.int x11), .val (.int x16), .val (.int x21), .val (.int x26), .unset, .unset, .unset, .unset, .unset, .unset, .unset, .unset, .unset, .unset] [(.ref a33)]
  have f60 : Exa Z h58 a33 "com/example/planshift/planshift/campaign/Bandit$Pick" := f47.keep K55
  refine own_astore (q := 135) (L' := #[.val (.long q0), .second, .val (.int i1), .val (.int i2), .val (.int i3), .val (.int mm), .val (.int nn), .val (.int x1), .val (.int x6), .val (.int x11), .val (.int x16), .val (.int x21), .val (.int x26), .val (.ref a33), .unset, .unset, .unset, .unset, .unset, .unset, .unset, .unset, .unset]) A59 at_133 rfl rfl ?_
  refine own_newO (q := 138) A59 (hw _ (List.mem_of_getElem? (i := 21) rfl)) (hw _ (List.mem_of_getElem? (i := 22) rfl)) (hw _ (List.mem_of_getElem? (i := 23) rfl)) at_135 (by decide) (by decide) ?_
  intro T61 h62 a63 g64 g65 A66 E67 X68 D69
  have z70 : a33 ≠ a63 := Nat.ne_of_lt (Nat.lt_of_lt_of_le f60.lt (Nat.le_of_eq g64))
  have f71 : Exa Z h62 a33 "com/example/planshift/planshift/campaign/Bandit$Pick" := f60.ext E67
  have f72 : Fld Z h62 a63 "com/example/planshift/planshift/campaign/Mutation" "poolRerun" "J" (.long (0 : Int64)) := D69 (Or.inl (hw _ (List.mem_of_getElem? (i := 42) rfl))) (ty := .long) (by decide)
  have f73 : Fld Z h62 a63 "com/example/planshift/planshift/campaign/Mutation" "poolNew" "J" (.long (0 : Int64)) := D69 (Or.inl (hw _ (List.mem_of_getElem? (i := 44) rfl))) (ty := .long) (by decide)
  have f74 : Fld Z h62 a63 "com/example/planshift/planshift/campaign/Mutation" "laterRun" "J" (.long (0 : Int64)) := D69 (Or.inl (hw _ (List.mem_of_getElem? (i := 56) rfl))) (ty := .long) (by decide)
  have f75 : Fld Z h62 a63 "com/example/planshift/planshift/campaign/Mutation" "laterNew" "J" (.long (0 : Int64)) := D69 (Or.inl (hw _ (List.mem_of_getElem? (i := 54) rfl))) (ty := .long) (by decide)
  have f76 : Fld Z h62 a63 "com/example/planshift/planshift/campaign/Mutation" "pool" "I" (.int (0 : Int32)) := D69 (Or.inl (hw _ (List.mem_of_getElem? (i := 35) rfl))) (ty := .int) (by decide)
  have f77 : Fld Z h62 a63 "com/example/planshift/planshift/campaign/Mutation" "pick" "Lcom/example/planshift/planshift/campaign/Bandit$Pick;" .null := D69 (Or.inr (hw _ (List.mem_of_getElem? (i := 29) rfl))) (ty := (.object "com/example/planshift/planshift/campaign/Bandit$Pick")) (by decide)
  have f78 : Fld Z h62 a63 "com/example/planshift/planshift/campaign/Mutation" "accepted" "Z" (.int (0 : Int32)) := D69 (Or.inr (hw _ (List.mem_of_getElem? (i := 31) rfl))) (ty := .boolean) (by decide)
  have f79 : Fld Z h62 a63 "com/example/planshift/planshift/campaign/Mutation" "queriesBefore" "J" (.long (0 : Int64)) := D69 (Or.inr (hw _ (List.mem_of_getElem? (i := 33) rfl))) (ty := .long) (by decide)
  refine own_dup (q := 139) A66 at_138 rfl ?_
  refine own_aload (q := 141) (v := (.ref a33)) A66 at_139 rfl rfl ?_
  refine own_iload (q := 143) (v := i3) A66 at_141 rfl ?_
  refine own_iconst (q := 144) A66 (1 : Int32) at_143 rfl ?_
  refine own_iand (q := 145) A66 at_144 ?_
  suffices kj81 : ∀ (x80 : Int32), ((i3 &&& (1 : Int32)) = (0 : Int32) → x80 = (0 : Int32)) → (¬ (i3 &&& (1 : Int32)) = (0 : Int32) → x80 = (1 : Int32)) → own_Run p e below Q m T61 153 #[.val (.long q0), .second, .val (.int i1), .val (.int i2), .val (.int i3), .val (.int mm), .val (.int nn), .val (.int x1), .val (.int x6), .val (.int x11), .val (.int x16), .val (.int x21), .val (.int x26), .val (.ref a33), .unset, .unset, .unset, .unset, .unset, .unset, .unset, .unset, .unset] [(.int x80), (.ref a33), (.ref a63), (.ref a63)] by
    refine own_ifc (q := 152) (q' := 148) A66 at_145 ?_ ?_
    · rintro (c82 : (i3 &&& (1 : Int32)) = (0 : Int32))
      refine own_iconst (q := 153) A66 (0 : Int32) at_152 rfl ?_
      exact kj81 _ (by intros; first | rfl | contradiction) (by intros; first | rfl | contradiction)
    · rintro (c82 : ¬ (i3 &&& (1 : Int32)) = (0 : Int32))
      refine own_iconst (q := 149) A66 (1 : Int32) at_148 rfl ?_
      refine own_goto (q := 153) A66 at_149 ?_
      exact kj81 _ (by intros; first | rfl | contradiction) (by intros; first | rfl | contradiction)
  intro x80 j83 j84
  have hbx80 : x80 = 0 ∨ x80 = 1 := (Classical.em _).elim (fun q => Or.inl (j83 q)) (fun q => Or.inr (j84 q))
  refine own_lloadN (q := 154) (v := q0) A66 at_153 rfl ?_
  refine own_iloadN (q := 155) (v := i1) A66 at_154 rfl ?_
  refine own_specialW (q := 158) (W := 1) (argsL := [(.ref a33), (.int x80), (.long q0), (.int i1)]) (rest := [(.ref a63)]) A66 rfl (hw _ (List.mem_of_getElem? (i := 24) rfl)) (hw _ (List.mem_of_getElem? (i := 25) rfl)) (hw _ (List.mem_of_getElem? (i := 26) rfl)) (by decide) (own_payW (rm_mu l Z a0 hw a63 a33 x80 i1 q0 h62 n0 A66.old X68 f72 f73 f74 f75 f76 g65 f77 f78 f79 hbx80) (hw _ (List.mem_of_getElem? (i := 26) rfl)) (hw _ (List.mem_of_getElem? (i := 23) rfl)) (by decide) (by decide)) (by simp) (Nat.le_of_eq rfl) own_pd1 rfl rfl rfl at_155 (by decide) (by decide) ?_
  rintro v92 T93 h94 A95 ⟨rfl, K85, E86, F87, F88, F89, F90, F91⟩
  show own_Run p e below Q m T93 158 #[.val (.long q0), .second, .val (.int i1), .val (.int i2), .val (.int i3), .val (.int mm), .val (.int nn), .val (.int x1), .val (.int x6), .val (.int x11), .val (.int x16), .val (.int x21), .val (.int x26), .val (.ref a33), .unset, .unset, .unset, .unset, .unset, .unset, .unset, .unset, .unset] [(.ref a63)]
  refine own_astore (q := 160) (L' := #[.val (.long q0), .second, .val (.int i1), .val (.int i2), .val (.int i3), .val (.int mm), .val (.int nn), .val (.int x1), .val (.int x6), .val (.int x11), .val (.int x16), .val (.int x21), .val (.int x26), .val (.ref a33), .val (.ref a63), .unset, .unset, .unset, .unset, .unset, .unset, .unset, .unset]) A95 at_158 rfl rfl ?_
  refine own_iload (q := 162) (v := mm) A95 at_160 rfl ?_
  suffices kj98 : ∀ (T96 : State) (h97 : Heap) (y99 y100 : Int64) (y101 : Int32), own_At true p l e room_1 s m args below meth cde code ret "com/example/planshift/planshift/campaign/MutationJudgedAfterPinLaw" "law" maxLocals Z n0 a0 [] [a63, a33] T96 h97 4 30 → Exa Z h97 a63 "com/example/planshift/planshift/campaign/Mutation" → Fld Z h97 a63 "com/example/planshift/planshift/campaign/Mutation" "poolRerun" "J" (.long y99) → Fld Z h97 a63 "com/example/planshift/planshift/campaign/Mutation" "poolNew" "J" (.long y100) → Fld Z h97 a63 "com/example/planshift/planshift/campaign/Mutation" "laterRun" "J" (.long (0 : Int64)) → Fld Z h97 a63 "com/example/planshift/planshift/campaign/Mutation" "laterNew" "J" (.long (0 : Int64)) → Fld Z h97 a63 "com/example/planshift/planshift/campaign/Mutation" "pool" "I" (.int y101) → (¬ (0 : Int32) < mm → y99 = (0 : Int64) ∧ y100 = (0 : Int64)) → ((0 : Int32) < mm → y99 = (0 : Int64) + 1 ∧ y100 = (0 : Int64) + (if x1 = 0 then 0 else 1)) → own_Run p e below Q m T96 173 #[.val (.long q0), .second, .val (.int i1), .val (.int i2), .val (.int i3), .val (.int mm), .val (.int nn), .val (.int x1), .val (.int x6), .val (.int x11), .val (.int x16), .val (.int x21), .val (.int x26), .val (.ref a33), .val (.ref a63), .unset, .unset, .unset, .unset, .unset, .unset, .unset, .unset] [] by
    refine own_ifc (q := 173) (q' := 165) A95 at_162 ?_ ?_
    · rintro (c102 : ¬ (0 : Int32) < mm)
      exact kj98 _ _ _ _ _ A95 E86 F87 F88 F89 F90 F91 (fun q => ⟨rfl, rfl⟩) (fun q => absurd q (by first | exact c102 | exact not_not_intro c102))
    · rintro (c102 : (0 : Int32) < mm)
      refine own_aload (q := 167) (v := (.ref a63)) A95 at_165 rfl rfl ?_
      refine own_iload (q := 169) (v := x1) A95 at_167 rfl ?_
      refine own_iloadN (q := 170) (v := i1) A95 at_169 rfl ?_
      refine own_virtualW (q := 173) (W := 0) (argsL := [(.int x1), (.int i1)]) (rest := []) A95 (hw _ (List.mem_of_getElem? (i := 36) rfl)) (hw _ (List.mem_of_getElem? (i := 37) rfl)) (hw _ (List.mem_of_getElem? (i := 39) rfl)) (hw _ (List.mem_of_getElem? (i := 38) rfl)) (by decide) (own_payW (rm_reran l Z a0 hw a63 x1 i1 i1 ((0 : Int64)) ((0 : Int64)) ((0 : Int64)) ((0 : Int64)) h94 n0 A95.old E86 F87 F88 F89 F90 F91 g65) (hw _ (List.mem_of_getElem? (i := 40) rfl)) (hw _ (List.mem_of_getElem? (i := 23) rfl)) (by decide) (by decide)) (by simp) (Nat.le_of_eq rfl) E86 own_pd2 rfl rfl rfl at_170 (by decide) (by decide) ?_
      rintro v110 T111 h112 A113 ⟨rfl, K103, E104, F105, F106, F107, F108, F109⟩
      show own_Run p e below Q m T111 173 #[.val (.long q0), .second, .val (.int i1), .val (.int i2), .val (.int i3), .val (.int mm), .val (.int nn), .val (.int x1), .val (.int x6), .val (.int x11), .val (.int x16), .val (.int x21), .val (.int x26), .val (.ref a33), .val (.ref a63), .unset, .unset, .unset, .unset, .unset, .unset, .unset, .unset] []
      exact kj98 _ _ _ _ _ A113 E104 F105 F106 F107 F108 F109 (fun q => absurd q (by first | exact c102 | exact not_not_intro c102)) (fun q => ⟨rfl, rfl⟩)
  intro T96 h97 y99 y100 y101 A114 E115 F118 F119 F120 F121 F122 j116 j117
  refine own_iload (q := 175) (v := mm) A114 at_173 rfl ?_
  refine own_iconst (q := 176) A114 (1 : Int32) at_175 rfl ?_
  suffices kj125 : ∀ (T123 : State) (h124 : Heap) (y126 y127 : Int64) (y128 : Int32), own_At true p l e room_1 s m args below meth cde code ret "com/example/planshift/planshift/campaign/MutationJudgedAfterPinLaw" "law" maxLocals Z n0 a0 [] [a63, a33] T123 h124 4 30 → Exa Z h124 a63 "com/example/planshift/planshift/campaign/Mutation" → Fld Z h124 a63 "com/example/planshift/planshift/campaign/Mutation" "poolRerun" "J" (.long y126) → Fld Z h124 a63 "com/example/planshift/planshift/campaign/Mutation" "poolNew" "J" (.long y127) → Fld Z h124 a63 "com/example/planshift/planshift/campaign/Mutation" "laterRun" "J" (.long (0 : Int64)) → Fld Z h124 a63 "com/example/planshift/planshift/campaign/Mutation" "laterNew" "J" (.long (0 : Int64)) → Fld Z h124 a63 "com/example/planshift/planshift/campaign/Mutation" "pool" "I" (.int y128) → (¬ (1 : Int32) < mm → y126 = y99 ∧ y127 = y100) → ((1 : Int32) < mm → y126 = y99 + 1 ∧ y127 = y100 + (if x6 = 0 then 0 else 1)) → own_Run p e below Q m T123 187 #[.val (.long q0), .second, .val (.int i1), .val (.int i2), .val (.int i3), .val (.int mm), .val (.int nn), .val (.int x1), .val (.int x6), .val (.int x11), .val (.int x16), .val (.int x21), .val (.int x26), .val (.ref a33), .val (.ref a63), .unset, .unset, .unset, .unset, .unset, .unset, .unset, .unset] [] by
    refine own_icmp (q := 187) (q' := 179) A114 at_176 ?_ ?_
    · rintro (c129 : ¬ (1 : Int32) < mm)
      exact kj125 _ _ _ _ _ A114 E115 F118 F119 F120 F121 F122 (fun q => ⟨rfl, rfl⟩) (fun q => absurd q (by first | exact c129 | exact not_not_intro c129))
    · rintro (c129 : (1 : Int32) < mm)
      refine own_aload (q := 181) (v := (.ref a63)) A114 at_179 rfl rfl ?_
      refine own_iload (q := 183) (v := x6) A114 at_181 rfl ?_
      refine own_iloadN (q := 184) (v := i1) A114 at_183 rfl ?_
      refine own_virtualW (q := 187) (W := 0) (argsL := [(.int x6), (.int i1)]) (rest := []) A114 (hw _ (List.mem_of_getElem? (i := 36) rfl)) (hw _ (List.mem_of_getElem? (i := 37) rfl)) (hw _ (List.mem_of_getElem? (i := 39) rfl)) (hw _ (List.mem_of_getElem? (i := 38) rfl)) (by decide) (own_payW (rm_reran l Z a0 hw a63 x6 i1 y101 (y99) (y100) ((0 : Int64)) ((0 : Int64)) h97 n0 A114.old E115 F118 F119 F120 F121 F122 g65) (hw _ (List.mem_of_getElem? (i := 40) rfl)) (hw _ (List.mem_of_getElem? (i := 23) rfl)) (by decide) (by decide)) (by simp) (Nat.le_of_eq rfl) E115 own_pd2 rfl rfl rfl at_184 (by decide) (by decide) ?_
      rintro v137 T138 h139 A140 ⟨rfl, K130, E131, F132, F133, F134, F135, F136⟩
      show own_Run p e below Q m T138 187 #[.val (.long q0), .second, .val (.int i1), .val (.int i2), .val (.int i3), .val (.int mm), .val (.int nn), .val (.int x1), .val (.int x6), .val (.int x11), .val (.int x16), .val (.int x21), .val (.int x26), .val (.ref a33), .val (.ref a63), .unset, .unset, .unset, .unset, .unset, .unset, .unset, .unset] []
      exact kj125 _ _ _ _ _ A140 E131 F132 F133 F134 F135 F136 (fun q => absurd q (by first | exact c129 | exact not_not_intro c129)) (fun q => ⟨rfl, rfl⟩)
  intro T123 h124 y126 y127 y128 A141 E142 F145 F146 F147 F148 F149 j143 j144
  refine own_iload (q := 189) (v := mm) A141 at_187 rfl ?_
  refine own_iconst (q := 190) A141 (2 : Int32) at_189 rfl ?_
  suffices kj152 : ∀ (T150 : State) (h151 : Heap) (y153 y154 : Int64) (y155 : Int32), own_At true p l e room_1 s m args below meth cde code ret "com/example/planshift/planshift/campaign/MutationJudgedAfterPinLaw" "law" maxLocals Z n0 a0 [] [a63, a33] T150 h151 4 30 → Exa Z h151 a63 "com/example/planshift/planshift/campaign/Mutation" → Fld Z h151 a63 "com/example/planshift/planshift/campaign/Mutation" "poolRerun" "J" (.long y153) → Fld Z h151 a63 "com/example/planshift/planshift/campaign/Mutation" "poolNew" "J" (.long y154) → Fld Z h151 a63 "com/example/planshift/planshift/campaign/Mutation" "laterRun" "J" (.long (0 : Int64)) → Fld Z h151 a63 "com/example/planshift/planshift/campaign/Mutation" "laterNew" "J" (.long (0 : Int64)) → Fld Z h151 a63 "com/example/planshift/planshift/campaign/Mutation" "pool" "I" (.int y155) → (¬ (2 : Int32) < mm → y153 = y126 ∧ y154 = y127) → ((2 : Int32) < mm → y153 = y126 + 1 ∧ y154 = y127 + (if x11 = 0 then 0 else 1)) → own_Run p e below Q m T150 201 #[.val (.long q0), .second, .val (.int i1), .val (.int i2), .val (.int i3), .val (.int mm), .val (.int nn), .val (.int x1), .val (.int x6), .val (.int x11), .val (.int x16), .val (.int x21), .val (.int x26), .val (.ref a33), .val (.ref a63), .unset, .unset, .unset, .unset, .unset, .unset, .unset, .unset] [] by
    refine own_icmp (q := 201) (q' := 193) A141 at_190 ?_ ?_
    · rintro (c156 : ¬ (2 : Int32) < mm)
      exact kj152 _ _ _ _ _ A141 E142 F145 F146 F147 F148 F149 (fun q => ⟨rfl, rfl⟩) (fun q => absurd q (by first | exact c156 | exact not_not_intro c156))
    · rintro (c156 : (2 : Int32) < mm)
      refine own_aload (q := 195) (v := (.ref a63)) A141 at_193 rfl rfl ?_
      refine own_iload (q := 197) (v := x11) A141 at_195 rfl ?_
      refine own_iloadN (q := 198) (v := i1) A141 at_197 rfl ?_
      refine own_virtualW (q := 201) (W := 0) (argsL := [(.int x11), (.int i1)]) (rest := []) A141 (hw _ (List.mem_of_getElem? (i := 36) rfl)) (hw _ (List.mem_of_getElem? (i := 37) rfl)) (hw _ (List.mem_of_getElem? (i := 39) rfl)) (hw _ (List.mem_of_getElem? (i := 38) rfl)) (by decide) (own_payW (rm_reran l Z a0 hw a63 x11 i1 y128 (y126) (y127) ((0 : Int64)) ((0 : Int64)) h124 n0 A141.old E142 F145 F146 F147 F148 F149 g65) (hw _ (List.mem_of_getElem? (i := 40) rfl)) (hw _ (List.mem_of_getElem? (i := 23) rfl)) (by decide) (by decide)) (by simp) (Nat.le_of_eq rfl) E142 own_pd2 rfl rfl rfl at_198 (by decide) (by decide) ?_
      rintro v164 T165 h166 A167 ⟨rfl, K157, E158, F159, F160, F161, F162, F163⟩
      show own_Run p e below Q m T165 201 #[.val (.long q0), .second, .val (.int i1), .val (.int i2), .val (.int i3), .val (.int mm), .val (.int nn), .val (.int x1), .val (.int x6), .val (.int x11), .val (.int x16), .val (.int x21), .val (.int x26), .val (.ref a33), .val (.ref a63), .unset, .unset, .unset, .unset, .unset, .unset, .unset, .unset] []
      exact kj152 _ _ _ _ _ A167 E158 F159 F160 F161 F162 F163 (fun q => absurd q (by first | exact c156 | exact not_not_intro c156)) (fun q => ⟨rfl, rfl⟩)
  intro T150 h151 y153 y154 y155 A168 E169 F172 F173 F174 F175 F176 j170 j171
  refine own_iload (q := 203) (v := nn) A168 at_201 rfl ?_
  suffices kj179 : ∀ (T177 : State) (h178 : Heap) (y180 y181 : Int64) (y182 : Int32), own_At true p l e room_1 s m args below meth cde code ret "com/example/planshift/planshift/campaign/MutationJudgedAfterPinLaw" "law" maxLocals Z n0 a0 [] [a63, a33] T177 h178 4 30 → Exa Z h178 a63 "com/example/planshift/planshift/campaign/Mutation" → Fld Z h178 a63 "com/example/planshift/planshift/campaign/Mutation" "poolRerun" "J" (.long y153) → Fld Z h178 a63 "com/example/planshift/planshift/campaign/Mutation" "poolNew" "J" (.long y154) → Fld Z h178 a63 "com/example/planshift/planshift/campaign/Mutation" "laterRun" "J" (.long y180) → Fld Z h178 a63 "com/example/planshift/planshift/campaign/Mutation" "laterNew" "J" (.long y181) → Fld Z h178 a63 "com/example/planshift/planshift/campaign/Mutation" "pool" "I" (.int y182) → (¬ (0 : Int32) < nn → y180 = (0 : Int64) ∧ y181 = (0 : Int64)) → ((0 : Int32) < nn → y180 = (0 : Int64) + 1 ∧ y181 = (0 : Int64) + (if x16 = 0 then 0 else 1)) → own_Run p e below Q m T177 213 #[.val (.long q0), .second, .val (.int i1), .val (.int i2), .val (.int i3), .val (.int mm), .val (.int nn), .val (.int x1), .val (.int x6), .val (.int x11), .val (.int x16), .val (.int x21), .val (.int x26), .val (.ref a33), .val (.ref a63), .unset, .unset, .unset, .unset, .unset, .unset, .unset, .unset] [] by
    refine own_ifc (q := 213) (q' := 206) A168 at_203 ?_ ?_
    · rintro (c183 : ¬ (0 : Int32) < nn)
      exact kj179 _ _ _ _ _ A168 E169 F172 F173 F174 F175 F176 (fun q => ⟨rfl, rfl⟩) (fun q => absurd q (by first | exact c183 | exact not_not_intro c183))
    · rintro (c183 : (0 : Int32) < nn)
      refine own_aload (q := 208) (v := (.ref a63)) A168 at_206 rfl rfl ?_
      refine own_iload (q := 210) (v := x16) A168 at_208 rfl ?_
      refine own_virtualW (q := 213) (W := 0) (argsL := [(.int x16)]) (rest := []) A168 (hw _ (List.mem_of_getElem? (i := 57) rfl)) (hw _ (List.mem_of_getElem? (i := 58) rfl)) (hw _ (List.mem_of_getElem? (i := 60) rfl)) (hw _ (List.mem_of_getElem? (i := 59) rfl)) (by decide) (own_payW (rm_judged l Z a0 hw a63 x16 y155 (y153) (y154) ((0 : Int64)) ((0 : Int64)) h151 n0 A168.old E169 F172 F173 F174 F175 F176 g65) (hw _ (List.mem_of_getElem? (i := 61) rfl)) (hw _ (List.mem_of_getElem? (i := 23) rfl)) (by decide) (by decide)) (by simp) (Nat.le_of_eq rfl) E169 own_pd5 rfl rfl rfl at_210 (by decide) (by decide) ?_
      rintro v191 T192 h193 A194 ⟨rfl, K184, E185, F186, F187, F188, F189, F190⟩
      show own_Run p e below Q m T192 213 #[.val (.long q0), .second, .val (.int i1), .val (.int i2), .val (.int i3), .val (.int mm), .val (.int nn), .val (.int x1), .val (.int x6), .val (.int x11), .val (.int x16), .val (.int x21), .val (.int x26), .val (.ref a33), .val (.ref a63), .unset, .unset, .unset, .unset, .unset, .unset, .unset, .unset] []
      exact kj179 _ _ _ _ _ A194 E185 F186 F187 F188 F189 F190 (fun q => absurd q (by first | exact c183 | exact not_not_intro c183)) (fun q => ⟨rfl, rfl⟩)
  intro T177 h178 y180 y181 y182 A195 E196 F199 F200 F201 F202 F203 j197 j198
  refine own_iload (q := 215) (v := nn) A195 at_213 rfl ?_
  refine own_iconst (q := 216) A195 (1 : Int32) at_215 rfl ?_
  suffices kj206 : ∀ (T204 : State) (h205 : Heap) (y207 y208 : Int64) (y209 : Int32), own_At true p l e room_1 s m args below meth cde code ret "com/example/planshift/planshift/campaign/MutationJudgedAfterPinLaw" "law" maxLocals Z n0 a0 [] [a63, a33] T204 h205 4 30 → Exa Z h205 a63 "com/example/planshift/planshift/campaign/Mutation" → Fld Z h205 a63 "com/example/planshift/planshift/campaign/Mutation" "poolRerun" "J" (.long y153) → Fld Z h205 a63 "com/example/planshift/planshift/campaign/Mutation" "poolNew" "J" (.long y154) → Fld Z h205 a63 "com/example/planshift/planshift/campaign/Mutation" "laterRun" "J" (.long y207) → Fld Z h205 a63 "com/example/planshift/planshift/campaign/Mutation" "laterNew" "J" (.long y208) → Fld Z h205 a63 "com/example/planshift/planshift/campaign/Mutation" "pool" "I" (.int y209) → (¬ (1 : Int32) < nn → y207 = y180 ∧ y208 = y181) → ((1 : Int32) < nn → y207 = y180 + 1 ∧ y208 = y181 + (if x21 = 0 then 0 else 1)) → own_Run p e below Q m T204 226 #[.val (.long q0), .second, .val (.int i1), .val (.int i2), .val (.int i3), .val (.int mm), .val (.int nn), .val (.int x1), .val (.int x6), .val (.int x11), .val (.int x16), .val (.int x21), .val (.int x26), .val (.ref a33), .val (.ref a63), .unset, .unset, .unset, .unset, .unset, .unset, .unset, .unset] [] by
    refine own_icmp (q := 226) (q' := 219) A195 at_216 ?_ ?_
    · rintro (c210 : ¬ (1 : Int32) < nn)
      exact kj206 _ _ _ _ _ A195 E196 F199 F200 F201 F202 F203 (fun q => ⟨rfl, rfl⟩) (fun q => absurd q (by first | exact c210 | exact not_not_intro c210))
    · rintro (c210 : (1 : Int32) < nn)
      refine own_aload (q := 221) (v := (.ref a63)) A195 at_219 rfl rfl ?_
      refine own_iload (q := 223) (v := x21) A195 at_221 rfl ?_
      refine own_virtualW (q := 226) (W := 0) (argsL := [(.int x21)]) (rest := []) A195 (hw _ (List.mem_of_getElem? (i := 57) rfl)) (hw _ (List.mem_of_getElem? (i := 58) rfl)) (hw _ (List.mem_of_getElem? (i := 60) rfl)) (hw _ (List.mem_of_getElem? (i := 59) rfl)) (by decide) (own_payW (rm_judged l Z a0 hw a63 x21 y182 (y153) (y154) (y180) (y181) h178 n0 A195.old E196 F199 F200 F201 F202 F203 g65) (hw _ (List.mem_of_getElem? (i := 61) rfl)) (hw _ (List.mem_of_getElem? (i := 23) rfl)) (by decide) (by decide)) (by simp) (Nat.le_of_eq rfl) E196 own_pd5 rfl rfl rfl at_223 (by decide) (by decide) ?_
      rintro v218 T219 h220 A221 ⟨rfl, K211, E212, F213, F214, F215, F216, F217⟩
      show own_Run p e below Q m T219 226 #[.val (.long q0), .second, .val (.int i1), .val (.int i2), .val (.int i3), .val (.int mm), .val (.int nn), .val (.int x1), .val (.int x6), .val (.int x11), .val (.int x16), .val (.int x21), .val (.int x26), .val (.ref a33), .val (.ref a63), .unset, .unset, .unset, .unset, .unset, .unset, .unset, .unset] []
      exact kj206 _ _ _ _ _ A221 E212 F213 F214 F215 F216 F217 (fun q => absurd q (by first | exact c210 | exact not_not_intro c210)) (fun q => ⟨rfl, rfl⟩)
  intro T204 h205 y207 y208 y209 A222 E223 F226 F227 F228 F229 F230 j224 j225
  refine own_iload (q := 228) (v := nn) A222 at_226 rfl ?_
  refine own_iconst (q := 229) A222 (2 : Int32) at_228 rfl ?_
  suffices kj233 : ∀ (T231 : State) (h232 : Heap) (y234 y235 : Int64) (y236 : Int32), own_At true p l e room_1 s m args below meth cde code ret "com/example/planshift/planshift/campaign/MutationJudgedAfterPinLaw" "law" maxLocals Z n0 a0 [] [a63, a33] T231 h232 4 30 → Exa Z h232 a63 "com/example/planshift/planshift/campaign/Mutation" → Fld Z h232 a63 "com/example/planshift/planshift/campaign/Mutation" "poolRerun" "J" (.long y153) → Fld Z h232 a63 "com/example/planshift/planshift/campaign/Mutation" "poolNew" "J" (.long y154) → Fld Z h232 a63 "com/example/planshift/planshift/campaign/Mutation" "laterRun" "J" (.long y234) → Fld Z h232 a63 "com/example/planshift/planshift/campaign/Mutation" "laterNew" "J" (.long y235) → Fld Z h232 a63 "com/example/planshift/planshift/campaign/Mutation" "pool" "I" (.int y236) → (¬ (2 : Int32) < nn → y234 = y207 ∧ y235 = y208) → ((2 : Int32) < nn → y234 = y207 + 1 ∧ y235 = y208 + (if x26 = 0 then 0 else 1)) → own_Run p e below Q m T231 239 #[.val (.long q0), .second, .val (.int i1), .val (.int i2), .val (.int i3), .val (.int mm), .val (.int nn), .val (.int x1), .val (.int x6), .val (.int x11), .val (.int x16), .val (.int x21), .val (.int x26), .val (.ref a33), .val (.ref a63), .unset, .unset, .unset, .unset, .unset, .unset, .unset, .unset] [] by
    refine own_icmp (q := 239) (q' := 232) A222 at_229 ?_ ?_
    · rintro (c237 : ¬ (2 : Int32) < nn)
      exact kj233 _ _ _ _ _ A222 E223 F226 F227 F228 F229 F230 (fun q => ⟨rfl, rfl⟩) (fun q => absurd q (by first | exact c237 | exact not_not_intro c237))
    · rintro (c237 : (2 : Int32) < nn)
      refine own_aload (q := 234) (v := (.ref a63)) A222 at_232 rfl rfl ?_
      refine own_iload (q := 236) (v := x26) A222 at_234 rfl ?_
      refine own_virtualW (q := 239) (W := 0) (argsL := [(.int x26)]) (rest := []) A222 (hw _ (List.mem_of_getElem? (i := 57) rfl)) (hw _ (List.mem_of_getElem? (i := 58) rfl)) (hw _ (List.mem_of_getElem? (i := 60) rfl)) (hw _ (List.mem_of_getElem? (i := 59) rfl)) (by decide) (own_payW (rm_judged l Z a0 hw a63 x26 y209 (y153) (y154) (y207) (y208) h205 n0 A222.old E223 F226 F227 F228 F229 F230 g65) (hw _ (List.mem_of_getElem? (i := 61) rfl)) (hw _ (List.mem_of_getElem? (i := 23) rfl)) (by decide) (by decide)) (by simp) (Nat.le_of_eq rfl) E223 own_pd5 rfl rfl rfl at_236 (by decide) (by decide) ?_
      rintro v245 T246 h247 A248 ⟨rfl, K238, E239, F240, F241, F242, F243, F244⟩
      show own_Run p e below Q m T246 239 #[.val (.long q0), .second, .val (.int i1), .val (.int i2), .val (.int i3), .val (.int mm), .val (.int nn), .val (.int x1), .val (.int x6), .val (.int x11), .val (.int x16), .val (.int x21), .val (.int x26), .val (.ref a33), .val (.ref a63), .unset, .unset, .unset, .unset, .unset, .unset, .unset, .unset] []
      exact kj233 _ _ _ _ _ A248 E239 F240 F241 F242 F243 F244 (fun q => absurd q (by first | exact c237 | exact not_not_intro c237)) (fun q => ⟨rfl, rfl⟩)
  intro T231 h232 y234 y235 y236 A249 E250 F253 F254 F255 F256 F257 j251 j252
  refine own_iload (q := 241) (v := mm) A249 at_239 rfl ?_
  suffices kj259 : ∀ (x258 : Int32), (¬ (0 : Int32) < mm → x258 = (0 : Int32)) → ((0 : Int32) < mm → x1 = (0 : Int32) → x258 = (0 : Int32)) → ((0 : Int32) < mm → ¬ x1 = (0 : Int32) → x258 = (1 : Int32)) → own_Run p e below Q m T231 254 #[.val (.long q0), .second, .val (.int i1), .val (.int i2), .val (.int i3), .val (.int mm), .val (.int nn), .val (.int x1), .val (.int x6), .val (.int x11), .val (.int x16), .val (.int x21), .val (.int x26), .val (.ref a33), .val (.ref a63), .unset, .unset, .unset, .unset, .unset, .unset, .unset, .unset] [(.int x258)] by
    refine own_ifc (q := 253) (q' := 244) A249 at_241 ?_ ?_
    · rintro (c260 : ¬ (0 : Int32) < mm)
      refine own_iconst (q := 254) A249 (0 : Int32) at_253 rfl ?_
      exact kj259 _ (by intros; first | rfl | contradiction) (by intros; first | rfl | contradiction) (by intros; first | rfl | contradiction)
    · rintro (c260 : (0 : Int32) < mm)
      refine own_iload (q := 246) (v := x1) A249 at_244 rfl ?_
      refine own_ifc (q := 253) (q' := 249) A249 at_246 ?_ ?_
      · rintro (c261 : x1 = (0 : Int32))
        refine own_iconst (q := 254) A249 (0 : Int32) at_253 rfl ?_
        exact kj259 _ (by intros; first | rfl | contradiction) (by intros; first | rfl | contradiction) (by intros; first | rfl | contradiction)
      · rintro (c261 : ¬ x1 = (0 : Int32))
        refine own_iconst (q := 250) A249 (1 : Int32) at_249 rfl ?_
        refine own_goto (q := 254) A249 at_250 ?_
        exact kj259 _ (by intros; first | rfl | contradiction) (by intros; first | rfl | contradiction) (by intros; first | rfl | contradiction)
  intro x258 j262 j263 j264
  refine own_iload (q := 256) (v := mm) A249 at_254 rfl ?_
  refine own_iconst (q := 257) A249 (1 : Int32) at_256 rfl ?_
  suffices kj266 : ∀ (x265 : Int32), (¬ (1 : Int32) < mm → x265 = (0 : Int32)) → ((1 : Int32) < mm → x6 = (0 : Int32) → x265 = (0 : Int32)) → ((1 : Int32) < mm → ¬ x6 = (0 : Int32) → x265 = (1 : Int32)) → own_Run p e below Q m T231 270 #[.val (.long q0), .second, .val (.int i1), .val (.int i2), .val (.int i3), .val (.int mm), .val (.int nn), .val (.int x1), .val (.int x6), .val (.int x11), .val (.int x16), .val (.int x21), .val (.int x26), .val (.ref a33), .val (.ref a63), .unset, .unset, .unset, .unset, .unset, .unset, .unset, .unset] [(.int x265), (.int x258)] by
    refine own_icmp (q := 269) (q' := 260) A249 at_257 ?_ ?_
    · rintro (c267 : ¬ (1 : Int32) < mm)
      refine own_iconst (q := 270) A249 (0 : Int32) at_269 rfl ?_
      exact kj266 _ (by intros; first | rfl | contradiction) (by intros; first | rfl | contradiction) (by intros; first | rfl | contradiction)
    · rintro (c267 : (1 : Int32) < mm)
      refine own_iload (q := 262) (v := x6) A249 at_260 rfl ?_
      refine own_ifc (q := 269) (q' := 265) A249 at_262 ?_ ?_
      · rintro (c268 : x6 = (0 : Int32))
        refine own_iconst (q := 270) A249 (0 : Int32) at_269 rfl ?_
        exact kj266 _ (by intros; first | rfl | contradiction) (by intros; first | rfl | contradiction) (by intros; first | rfl | contradiction)
      · rintro (c268 : ¬ x6 = (0 : Int32))
        refine own_iconst (q := 266) A249 (1 : Int32) at_265 rfl ?_
        refine own_goto (q := 270) A249 at_266 ?_
        exact kj266 _ (by intros; first | rfl | contradiction) (by intros; first | rfl | contradiction) (by intros; first | rfl | contradiction)
  intro x265 j269 j270 j271
  refine own_iadd (q := 271) A249 at_270 ?_
  refine own_iload (q := 273) (v := mm) A249 at_271 rfl ?_
  refine own_iconst (q := 274) A249 (2 : Int32) at_273 rfl ?_
  suffices kj273 : ∀ (x272 : Int32), (¬ (2 : Int32) < mm → x272 = (0 : Int32)) → ((2 : Int32) < mm → x11 = (0 : Int32) → x272 = (0 : Int32)) → ((2 : Int32) < mm → ¬ x11 = (0 : Int32) → x272 = (1 : Int32)) → own_Run p e below Q m T231 287 #[.val (.long q0), .second, .val (.int i1), .val (.int i2), .val (.int i3), .val (.int mm), .val (.int nn), .val (.int x1), .val (.int x6), .val (.int x11), .val (.int x16), .val (.int x21), .val (.int x26), .val (.ref a33), .val (.ref a63), .unset, .unset, .unset, .unset, .unset, .unset, .unset, .unset] [(.int x272), (.int (x258 + x265))] by
    refine own_icmp (q := 286) (q' := 277) A249 at_274 ?_ ?_
    · rintro (c274 : ¬ (2 : Int32) < mm)
      refine own_iconst (q := 287) A249 (0 : Int32) at_286 rfl ?_
      exact kj273 _ (by intros; first | rfl | contradiction) (by intros; first | rfl | contradiction) (by intros; first | rfl | contradiction)
    · rintro (c274 : (2 : Int32) < mm)
      refine own_iload (q := 279) (v := x11) A249 at_277 rfl ?_
      refine own_ifc (q := 286) (q' := 282) A249 at_279 ?_ ?_
      · rintro (c275 : x11 = (0 : Int32))
        refine own_iconst (q := 287) A249 (0 : Int32) at_286 rfl ?_
        exact kj273 _ (by intros; first | rfl | contradiction) (by intros; first | rfl | contradiction) (by intros; first | rfl | contradiction)
      · rintro (c275 : ¬ x11 = (0 : Int32))
        refine own_iconst (q := 283) A249 (1 : Int32) at_282 rfl ?_
        refine own_goto (q := 287) A249 at_283 ?_
        exact kj273 _ (by intros; first | rfl | contradiction) (by intros; first | rfl | contradiction) (by intros; first | rfl | contradiction)
  intro x272 j276 j277 j278
  refine own_iadd (q := 288) A249 at_287 ?_
  refine own_istore (q := 290) (L' := #[.val (.long q0), .second, .val (.int i1), .val (.int i2), .val (.int i3), .val (.int mm), .val (.int nn), .val (.int x1), .val (.int x6), .val (.int x11), .val (.int x16), .val (.int x21), .val (.int x26), .val (.ref a33), .val (.ref a63), .val (.int ((x258 + x265) + x272)), .unset, .unset, .unset, .unset, .unset, .unset, .unset]) A249 at_288 rfl ?_
  refine own_iload (q := 292) (v := nn) A249 at_290 rfl ?_
  suffices kj280 : ∀ (x279 : Int32), (¬ (0 : Int32) < nn → x279 = (0 : Int32)) → ((0 : Int32) < nn → x16 = (0 : Int32) → x279 = (0 : Int32)) → ((0 : Int32) < nn → ¬ x16 = (0 : Int32) → x279 = (1 : Int32)) → own_Run p e below Q m T231 305 #[.val (.long q0), .second, .val (.int i1), .val (.int i2), .val (.int i3), .val (.int mm), .val (.int nn), .val (.int x1), .val (.int x6), .val (.int x11), .val (.int x16), .val (.int x21), .val (.int x26), .val (.ref a33), .val (.ref a63), .val (.int ((x258 + x265) + x272)), .unset, .unset, .unset, .unset, .unset, .unset, .unset] [(.int x279)] by
    refine own_ifc (q := 304) (q' := 295) A249 at_292 ?_ ?_
    · rintro (c281 : ¬ (0 : Int32) < nn)
      refine own_iconst (q := 305) A249 (0 : Int32) at_304 rfl ?_
      exact kj280 _ (by intros; first | rfl | contradiction) (by intros; first | rfl | contradiction) (by intros; first | rfl | contradiction)
    · rintro (c281 : (0 : Int32) < nn)
      refine own_iload (q := 297) (v := x16) A249 at_295 rfl ?_
      refine own_ifc (q := 304) (q' := 300) A249 at_297 ?_ ?_
      · rintro (c282 : x16 = (0 : Int32))
        refine own_iconst (q := 305) A249 (0 : Int32) at_304 rfl ?_
        exact kj280 _ (by intros; first | rfl | contradiction) (by intros; first | rfl | contradiction) (by intros; first | rfl | contradiction)
      · rintro (c282 : ¬ x16 = (0 : Int32))
        refine own_iconst (q := 301) A249 (1 : Int32) at_300 rfl ?_
        refine own_goto (q := 305) A249 at_301 ?_
        exact kj280 _ (by intros; first | rfl | contradiction) (by intros; first | rfl | contradiction) (by intros; first | rfl | contradiction)
  intro x279 j283 j284 j285
  refine own_iload (q := 307) (v := nn) A249 at_305 rfl ?_
  refine own_iconst (q := 308) A249 (1 : Int32) at_307 rfl ?_
  suffices kj287 : ∀ (x286 : Int32), (¬ (1 : Int32) < nn → x286 = (0 : Int32)) → ((1 : Int32) < nn → x21 = (0 : Int32) → x286 = (0 : Int32)) → ((1 : Int32) < nn → ¬ x21 = (0 : Int32) → x286 = (1 : Int32)) → own_Run p e below Q m T231 321 #[.val (.long q0), .second, .val (.int i1), .val (.int i2), .val (.int i3), .val (.int mm), .val (.int nn), .val (.int x1), .val (.int x6), .val (.int x11), .val (.int x16), .val (.int x21), .val (.int x26), .val (.ref a33), .val (.ref a63), .val (.int ((x258 + x265) + x272)), .unset, .unset, .unset, .unset, .unset, .unset, .unset] [(.int x286), (.int x279)] by
    refine own_icmp (q := 320) (q' := 311) A249 at_308 ?_ ?_
    · rintro (c288 : ¬ (1 : Int32) < nn)
      refine own_iconst (q := 321) A249 (0 : Int32) at_320 rfl ?_
      exact kj287 _ (by intros; first | rfl | contradiction) (by intros; first | rfl | contradiction) (by intros; first | rfl | contradiction)
    · rintro (c288 : (1 : Int32) < nn)
      refine own_iload (q := 313) (v := x21) A249 at_311 rfl ?_
      refine own_ifc (q := 320) (q' := 316) A249 at_313 ?_ ?_
      · rintro (c289 : x21 = (0 : Int32))
        refine own_iconst (q := 321) A249 (0 : Int32) at_320 rfl ?_
        exact kj287 _ (by intros; first | rfl | contradiction) (by intros; first | rfl | contradiction) (by intros; first | rfl | contradiction)
      · rintro (c289 : ¬ x21 = (0 : Int32))
        refine own_iconst (q := 317) A249 (1 : Int32) at_316 rfl ?_
        refine own_goto (q := 321) A249 at_317 ?_
        exact kj287 _ (by intros; first | rfl | contradiction) (by intros; first | rfl | contradiction) (by intros; first | rfl | contradiction)
  intro x286 j290 j291 j292
  refine own_iadd (q := 322) A249 at_321 ?_
  refine own_iload (q := 324) (v := nn) A249 at_322 rfl ?_
  refine own_iconst (q := 325) A249 (2 : Int32) at_324 rfl ?_
  suffices kj294 : ∀ (x293 : Int32), (¬ (2 : Int32) < nn → x293 = (0 : Int32)) → ((2 : Int32) < nn → x26 = (0 : Int32) → x293 = (0 : Int32)) → ((2 : Int32) < nn → ¬ x26 = (0 : Int32) → x293 = (1 : Int32)) → own_Run p e below Q m T231 338 #[.val (.long q0), .second, .val (.int i1), .val (.int i2), .val (.int i3), .val (.int mm), .val (.int nn), .val (.int x1), .val (.int x6), .val (.int x11), .val (.int x16), .val (.int x21), .val (.int x26), .val (.ref a33), .val (.ref a63), .val (.int ((x258 + x265) + x272)), .unset, .unset, .unset, .unset, .unset, .unset, .unset] [(.int x293), (.int (x279 + x286))] by
    refine own_icmp (q := 337) (q' := 328) A249 at_325 ?_ ?_
    · rintro (c295 : ¬ (2 : Int32) < nn)
      refine own_iconst (q := 338) A249 (0 : Int32) at_337 rfl ?_
      exact kj294 _ (by intros; first | rfl | contradiction) (by intros; first | rfl | contradiction) (by intros; first | rfl | contradiction)
    · rintro (c295 : (2 : Int32) < nn)
      refine own_iload (q := 330) (v := x26) A249 at_328 rfl ?_
      refine own_ifc (q := 337) (q' := 333) A249 at_330 ?_ ?_
      · rintro (c296 : x26 = (0 : Int32))
        refine own_iconst (q := 338) A249 (0 : Int32) at_337 rfl ?_
        exact kj294 _ (by intros; first | rfl | contradiction) (by intros; first | rfl | contradiction) (by intros; first | rfl | contradiction)
      · rintro (c296 : ¬ x26 = (0 : Int32))
        refine own_iconst (q := 334) A249 (1 : Int32) at_333 rfl ?_
        refine own_goto (q := 338) A249 at_334 ?_
        exact kj294 _ (by intros; first | rfl | contradiction) (by intros; first | rfl | contradiction) (by intros; first | rfl | contradiction)
  intro x293 j297 j298 j299
  refine own_iadd (q := 339) A249 at_338 ?_
  refine own_istore (q := 341) (L' := #[.val (.long q0), .second, .val (.int i1), .val (.int i2), .val (.int i3), .val (.int mm), .val (.int nn), .val (.int x1), .val (.int x6), .val (.int x11), .val (.int x16), .val (.int x21), .val (.int x26), .val (.ref a33), .val (.ref a63), .val (.int ((x258 + x265) + x272)), .val (.int ((x279 + x286) + x293)), .unset, .unset, .unset, .unset, .unset, .unset]) A249 at_339 rfl ?_
  have hm := own_and3 i2
  rw [← emm] at hm
  have hn := own_and3 ((i2.toUInt32 >>> ((2 : Int32) &&& 31).toUInt32).toInt32)
  rw [← enn] at hn
  obtain ⟨tmm, umm, kmm, lmm⟩ := own_cnt hm hbx1 hbx6 hbx11 j116 j117 j143 j144 j170 j171 j262 j263 j264 j269 j270 j271 j276 j277 j278
  obtain ⟨tnn, unn, knn, lnn⟩ := own_cnt hn hbx16 hbx21 hbx26 j197 j198 j224 j225 j251 j252 j283 j284 j285 j290 j291 j292 j297 j298 j299
  refine own_iload (q := 343) (v := mm) A249 at_341 rfl ?_
  suffices kj301 : ∀ (x300 : UInt64), (¬ mm = (0 : Int32) → x300 = (FP.ddiv ((FP.i2d ((x258 + x265) + x272))) ((FP.i2d mm)))) → (mm = (0 : Int32) → x300 = FP.dconst0) → own_Run p e below Q m T231 357 #[.val (.long q0), .second, .val (.int i1), .val (.int i2), .val (.int i3), .val (.int mm), .val (.int nn), .val (.int x1), .val (.int x6), .val (.int x11), .val (.int x16), .val (.int x21), .val (.int x26), .val (.ref a33), .val (.ref a63), .val (.int ((x258 + x265) + x272)), .val (.int ((x279 + x286) + x293)), .unset, .unset, .unset, .unset, .unset, .unset] [(.double x300)] by
    refine own_ifc (q := 350) (q' := 346) A249 at_343 ?_ ?_
    · rintro (c302 : ¬ mm = (0 : Int32))
      refine own_iload (q := 352) (v := ((x258 + x265) + x272)) A249 at_350 rfl ?_
      refine own_i2d (q := 353) A249 at_352 ?_
      refine own_iload (q := 355) (v := mm) A249 at_353 rfl ?_
      refine own_i2d (q := 356) A249 at_355 ?_
      refine own_ddiv (q := 357) A249 at_356 (by rw [i2d_w, i2d_w, ← umm, ← tmm]; exact own_nnd lmm kmm (fun q => c302 (own_z64 (tmm.symm.trans q)))) ?_
      exact kj301 _ (by intros; first | rfl | contradiction) (by intros; first | rfl | contradiction)
    · rintro (c302 : mm = (0 : Int32))
      refine own_dconst0 (q := 347) A249 at_346 ?_
      refine own_goto (q := 357) A249 at_347 ?_
      exact kj301 _ (by intros; first | rfl | contradiction) (by intros; first | rfl | contradiction)
  intro x300 j303 j304
  obtain rfl : x300 = own_share y154 y153 := by
    unfold own_share
    by_cases q : mm = 0
    · rw [if_pos (by rw [tmm, q]; rfl), j304 q]
    · rw [if_neg (fun q' => q (own_z64 (tmm.symm.trans q'))), j303 q, i2d_w, i2d_w, umm, tmm]
  refine own_dstore (q := 359) (L' := #[.val (.long q0), .second, .val (.int i1), .val (.int i2), .val (.int i3), .val (.int mm), .val (.int nn), .val (.int x1), .val (.int x6), .val (.int x11), .val (.int x16), .val (.int x21), .val (.int x26), .val (.ref a33), .val (.ref a63), .val (.int ((x258 + x265) + x272)), .val (.int ((x279 + x286) + x293)), .val (.double (own_share y154 y153)), .second, .unset, .unset, .unset, .unset]) A249 at_357 rfl ?_
  refine own_iload (q := 361) (v := nn) A249 at_359 rfl ?_
  suffices kj307 : ∀ (x306 : UInt64), (¬ nn = (0 : Int32) → x306 = (FP.ddiv ((FP.i2d ((x279 + x286) + x293))) ((FP.i2d nn)))) → (nn = (0 : Int32) → x306 = FP.dconst0) → own_Run p e below Q m T231 375 #[.val (.long q0), .second, .val (.int i1), .val (.int i2), .val (.int i3), .val (.int mm), .val (.int nn), .val (.int x1), .val (.int x6), .val (.int x11), .val (.int x16), .val (.int x21), .val (.int x26), .val (.ref a33), .val (.ref a63), .val (.int ((x258 + x265) + x272)), .val (.int ((x279 + x286) + x293)), .val (.double (own_share y154 y153)), .second, .unset, .unset, .unset, .unset] [(.double x306)] by
    refine own_ifc (q := 368) (q' := 364) A249 at_361 ?_ ?_
    · rintro (c308 : ¬ nn = (0 : Int32))
      refine own_iload (q := 370) (v := ((x279 + x286) + x293)) A249 at_368 rfl ?_
      refine own_i2d (q := 371) A249 at_370 ?_
      refine own_iload (q := 373) (v := nn) A249 at_371 rfl ?_
      refine own_i2d (q := 374) A249 at_373 ?_
      refine own_ddiv (q := 375) A249 at_374 (by rw [i2d_w, i2d_w, ← unn, ← tnn]; exact own_nnd lnn knn (fun q => c308 (own_z64 (tnn.symm.trans q)))) ?_
      exact kj307 _ (by intros; first | rfl | contradiction) (by intros; first | rfl | contradiction)
    · rintro (c308 : nn = (0 : Int32))
      refine own_dconst0 (q := 365) A249 at_364 ?_
      refine own_goto (q := 375) A249 at_365 ?_
      exact kj307 _ (by intros; first | rfl | contradiction) (by intros; first | rfl | contradiction)
  intro x306 j309 j310
  obtain rfl : x306 = own_share y235 y234 := by
    unfold own_share
    by_cases q : nn = 0
    · rw [if_pos (by rw [tnn, q]; rfl), j310 q]
    · rw [if_neg (fun q' => q (own_z64 (tnn.symm.trans q'))), j309 q, i2d_w, i2d_w, unn, tnn]
  refine own_dstore (q := 377) (L' := #[.val (.long q0), .second, .val (.int i1), .val (.int i2), .val (.int i3), .val (.int mm), .val (.int nn), .val (.int x1), .val (.int x6), .val (.int x11), .val (.int x16), .val (.int x21), .val (.int x26), .val (.ref a33), .val (.ref a63), .val (.int ((x258 + x265) + x272)), .val (.int ((x279 + x286) + x293)), .val (.double (own_share y154 y153)), .second, .val (.double (own_share y235 y234)), .second, .unset, .unset]) A249 at_375 rfl ?_
  refine own_dload (q := 379) (v := (own_share y154 y153)) A249 at_377 rfl ?_
  refine own_dload (q := 381) (v := (own_share y235 y234)) A249 at_379 rfl ?_
  refine own_dadd (q := 382) A249 at_381 (own_nna lmm kmm lnn knn) ?_
  refine own_dstore (q := 384) (L' := #[.val (.long q0), .second, .val (.int i1), .val (.int i2), .val (.int i3), .val (.int mm), .val (.int nn), .val (.int x1), .val (.int x6), .val (.int x11), .val (.int x16), .val (.int x21), .val (.int x26), .val (.ref a33), .val (.ref a63), .val (.int ((x258 + x265) + x272)), .val (.int ((x279 + x286) + x293)), .val (.double (own_share y154 y153)), .second, .val (.double (own_share y235 y234)), .second, .val (.double (FP.dadd (own_share y154 y153) (own_share y235 y234))), .second]) A249 at_382 rfl ?_
  refine own_aload (q := 386) (v := (.ref a63)) A249 at_384 rfl rfl ?_
  refine own_virtualW (q := 389) (W := 0) (argsL := []) (rest := []) A249 (hw _ (List.mem_of_getElem? (i := 45) rfl)) (hw _ (List.mem_of_getElem? (i := 46) rfl)) (hw _ (List.mem_of_getElem? (i := 48) rfl)) (hw _ (List.mem_of_getElem? (i := 47) rfl)) (by decide) (own_payW (rm_gain l Z a0 hw a63 y236 y153 y154 y234 y235 h232 n0 A249.old E250 F253 F254 F255 F256 F257 g65 kmm lmm knn lnn) (hw _ (List.mem_of_getElem? (i := 49) rfl)) (hw _ (List.mem_of_getElem? (i := 23) rfl)) (by decide) (by decide)) (fun _ z => nomatch z) (Nat.le_of_eq rfl) E250 own_pd3 rfl rfl rfl at_386 (by decide) (by decide) ?_
  rintro v312 T313 h314 A315 ⟨rfl, rfl⟩
  show own_Run p e below Q m T313 389 #[.val (.long q0), .second, .val (.int i1), .val (.int i2), .val (.int i3), .val (.int mm), .val (.int nn), .val (.int x1), .val (.int x6), .val (.int x11), .val (.int x16), .val (.int x21), .val (.int x26), .val (.ref a33), .val (.ref a63), .val (.int ((x258 + x265) + x272)), .val (.int ((x279 + x286) + x293)), .val (.double (own_share y154 y153)), .second, .val (.double (own_share y235 y234)), .second, .val (.double (FP.dadd (own_share y154 y153) (own_share y235 y234))), .second] [(.double (FP.dadd (own_share y154 y153) (own_share y235 y234)))]
  refine own_dload (q := 391) (v := (FP.dadd (own_share y154 y153) (own_share y235 y234))) A315 at_389 rfl ?_
  refine own_dcmp (q := 392) A315 at_391 ?_
  refine own_ifcF (q := 395) A315 at_392 (show (cmpValue (FP.dcmp (FP.dadd (own_share y154 y153) (own_share y235 y234)) (FP.dadd (own_share y154 y153) (own_share y235 y234))) .l) = (0 : Int32) from dcmpV_self (own_nna lmm kmm lnn knn) _) ?_
  refine own_iconst (q := 396) A315 (1 : Int32) at_395 rfl ?_
  refine own_goto (q := 400) A315 at_396 ?_
  exact own_retN A315 hQ (t := .boolean) (by simp) at_400 rfl
set_option maxRecDepth 65536 in
set_option maxHeartbeats 40000000 in
theorem comes_1 {Post : Tables → Env → Array Value → State → Outcome → State → Prop} (hpost : ∀ tb e args s v u, (limb_1_1.after args s (.returned v) u = true ∧ limb_1_2.after args s (.returned v) u = true ∧ True) → ReturnedEndW s (.returned v) u (Jvm.fieldLocs frame_1_writes args s ++ Jvm.arrayLocs frame_1_arrays args s ++ Jvm.staticLocs frame_1_statics s) 16 1152 → Post tb e args s (.returned v) u) :
    ArmFor flags0 classFile x code maxLocals ret World_1 tables_1 room_1 Calls_1 rest_1 Pre_1 Post := by
  intro l hfl _ _ p e ha hc hk s m args below hf hA hF happ hP
  obtain ⟨hcalls, hrest, hpre⟩ := hP
  obtain ⟨-, -, -, hnamed, -, -, -, hat⟩ := (Spec.applies_iff hf).mp happ
  obtain ⟨hg, hn⟩ := and_e (Cond.before_iff.mp (show (Jvm.Cond.and given_1 narrow_1).before args s = true from hpre))
  obtain ⟨g0, hg0⟩ := and_e hg
  obtain ⟨g1, hg1⟩ := and_e hg0
  obtain ⟨g2, hg2⟩ := and_e hg1
  obtain ⟨g3, hg3⟩ := and_e hg2
  have g4 := hg3
  obtain ⟨w0, w1, w2, w3, rfl⟩ : ∃ w0 w1 w2 w3 : Value, args = #[w0, w1, w2, w3] := by
    have hs : args.size = 4 := by simpa [Cond.value, given_1] using g0
    obtain ⟨L⟩ := args
    match L, hs with
    | [w0, w1, w2, w3], _ => exact ⟨w0, w1, w2, w3, rfl⟩
  have hw := fun d (hd : d ∈ tables_1) => atoms_spec (ws := Jvm.Cond.code x code maxLocals ret :: tables_1) hat d (List.mem_cons_of_mem _ hd)
  have hfit : Fit s := fun {y c} hc i hi => by
    obtain ⟨ha, rfl⟩ := Array.getElem?_eq_some_iff.mp hc
    have q := List.all_eq_true.mp ((Array.all_eq_true_iff_forall_mem.mp hF) _ (Array.getElem_mem ha)) i (List.mem_range.mpr hi)
    simpa [Array.getElem?_eq_getElem hi] using q
  obtain ⟨i0, ei0⟩ := isL_v g1
  obtain rfl : w0 = (.long i0) := Option.some.inj ei0
  obtain ⟨i1, ei1⟩ := is_v g2
  obtain rfl : w1 = (.int i1) := Option.some.inj ei1
  obtain ⟨i2, ei2⟩ := is_v g3
  obtain rfl : w2 = (.int i2) := Option.some.inj ei2
  obtain ⟨i3, ei3⟩ := is_v g4
  obtain rfl : w3 = (.int i3) := Option.some.inj ei3
  have q0 := hn
  obtain ⟨n, o, h1, h2, h3, v, L, rfl, ⟨rfl, N, -, -⟩, -, hq⟩ := rm_law l s _ hw tables_1 i0 i1 i2 i3 s.heap s.heap.size (Old.start s)  p e ha hc hk s m _ below hf ((Spec.applies_iff_loose hf).mp happ).1 ⟨rfl, State.Warmed39.refl s, rfl, (own_ch0 (vm := s.vm) (h := s.heap) (Nat.le_refl _)).1, fun _ z => nomatch z⟩ trivial
  have hq' : ReturnedEndW s _ _ L _ _ := hq
  refine ⟨n, _, h1, h2, h3, hpost _ _ _ _ _ _ ⟨Cond.after_iff.mpr rfl, Cond.after_iff.mpr (eq_i res_at (Term.int_eval (1)) rfl), trivial⟩ ⟨hq'.1, hq'.2.1, hq'.2.2.1, (hq'.2.2.2.sift fun y hy => Or.inr (N y hy)).mono (by decide) (by decide)⟩⟩
theorem main_1_1 : Claimed_1_1 := comes_1 fun _ _ _ _ _ _ h hF => ⟨h.1, hF⟩
theorem main_1_2 : Claimed_1_2 := comes_1 fun _ _ _ _ _ _ h hF => ⟨h.2.1, hF⟩
end Jvm.Pilot.@@N@@
namespace Jvm.Pilot.@@N@@
open Jvm Jvm.ClassFile Sem Op Lib Jvm.Free Jvm.Stand Jvm.Pilot.@@N@@.Jvm.D
/-! MADE BY PROGRAM (witnessworld.py) out of the Statement's table words and the real class files: 15 classes; the members and pool entries that the words name. The judged class is class 1, her method 1. -/
namespace start1
open Jvm.ClassFile
def u (s : String) : CpInfo := .utf8 (stringToUtf16 s)
/-- a pool by its gaps: so many unusable entries, then the entry; so many at the end -/
def gap : Nat → List CpInfo → List CpInfo
  | 0, r => r
  | n + 1, r => .unusable :: gap n r
def poolList (es : List (Nat × CpInfo)) (last : Nat) : List CpInfo := es.foldr (fun e r => gap e.1 (e.2 :: r)) (gap last [])
def pool (es : List (Nat × CpInfo)) (last : Nat) : Array CpInfo := ⟨poolList es last⟩
def fileOf (pool : Array CpInfo) (this : Nat) (attrs : Array Attribute := #[]) (ms : Array MethodInfo := #[]) (fl : Nat := 33) (sup : Nat := 0) (ifs : Array Nat := #[]) (fds : Array FieldInfo := #[]) : ClassFile where
  minorVersion := 0
  majorVersion := 65
  constantPool := pool
  accessFlags := fl
  thisClass := this
  superClass := sup
  interfaces := ifs
  fields := fds
  methods := ms
  attributes := attrs
def plain (name : String) (sup : Option ClassId) : Class where
  name := name
  kind := .ordinary
  loader := none
  accessFlags := 33
  super := sup
  interfaces := #[]
  cf := none
  fields := #[]
  methods := #[]
  instanceTypes := #[]
  staticTypes := #[]
  resolved := #[]
  callSites := []
  init := .initialized
  statics := none
  mirror := none

def pool0 : Array CpInfo := pool [(5, u "<init>"), (0, u "()V"), (1, .class_ 10), (1, u "java/lang/Object")] 113

def k0c0 : Code := { maxStack := 0, maxLocals := 1, code := object_method_1_code, exceptionTable := #[], attributes := #[] }
def k0m0 : Method := { name := "<init>", desc := "()V", sig := { parameters := [], returnType := none }, accessFlags := 1, code := some k0c0 }
/-- java/lang/Object -/
def k0 : Class := { plain "java/lang/Object" none with
  accessFlags := 33
  interfaces := #[]
  cf := some (fileOf pool0 8 #[] #[{ accessFlags := 1, nameIndex := 5, descriptorIndex := 6, attributes := #[] }] 33 0 #[] #[])
  fields := #[]
  methods := #[k0m0]
  instanceTypes := #[]
  staticTypes := #[]
  resolved := Array.replicate 124 none
  statics := none }

def pool1 : Array CpInfo := pool [(2, .class_ 4), (1, u "java/lang/Object"), (0, u "<init>"), (0, u "()V"), (0, .class_ 8), (0, u "com/example/planshift/planshift/campaign/Bandit$Pick"), (0, .string 10), (0, u "kind"), (0, .methodref 7 12), (0, .nameAndType 5 13), (0, u "(Ljava/lang/String;Z)V"), (0, .class_ 15), (0, u "com/example/planshift/planshift/campaign/Mutation"), (0, .methodref 14 17), (0, .nameAndType 5 18), (0, u "(Lcom/example/planshift/planshift/campaign/Bandit$Pick;ZJI)V"), (0, .methodref 14 20), (0, .nameAndType 21 22), (0, u "reran"), (0, u "(ZI)V"), (0, .methodref 14 24), (0, .nameAndType 25 26), (0, u "judgedAfter"), (0, u "(Z)V"), (0, .methodref 14 28), (0, .nameAndType 29 30), (0, u "gain"), (0, u "()D"), (0, .class_ 32), (0, u "com/example/planshift/planshift/campaign/MutationJudgedAfterPinLaw"), (2, u "law"), (0, u "(JIII)Z")] 9

def k1m0 : Method := { name := "<init>", desc := "()V", sig := { parameters := [], returnType := none }, accessFlags := 1, code := none }
def k1c1 : Code := { maxStack := 7, maxLocals := 23, code := code, exceptionTable := #[], attributes := #[] }
def k1m1 : Method := { name := "law", desc := "(JIII)Z", sig := { parameters := [.long, .int, .int, .int], returnType := some .boolean }, accessFlags := 9, code := some k1c1 }
/-- com/example/planshift/planshift/campaign/MutationJudgedAfterPinLaw -/
def k1 : Class := { plain "com/example/planshift/planshift/campaign/MutationJudgedAfterPinLaw" (some 0) with
  accessFlags := 49
  interfaces := #[]
  cf := some (fileOf pool1 31 #[] #[{ accessFlags := 1, nameIndex := 5, descriptorIndex := 6, attributes := #[] }, { accessFlags := 9, nameIndex := 35, descriptorIndex := 36, attributes := #[] }] 49 2 #[] #[])
  fields := #[]
  methods := #[k1m0, k1m1]
  instanceTypes := #[]
  staticTypes := #[]
  resolved := Array.replicate 46 none
  statics := none }

def pool2 : Array CpInfo := pool [(1, .methodref 2 3), (0, .class_ 4), (0, .nameAndType 5 6), (0, u "java/lang/Object"), (0, u "<init>"), (0, u "()V"), (0, .fieldref 8 9), (0, .class_ 10), (0, .nameAndType 11 12), (0, u "com/example/planshift/planshift/campaign/Bandit$Pick"), (0, u "kind"), (0, u "Ljava/lang/String;"), (0, .fieldref 8 14), (0, .nameAndType 15 16), (0, u "best"), (0, u "Z"), (3, u "(Ljava/lang/String;Z)V"), (10, .class_ 32), (0, u "com/example/planshift/planshift/campaign/Bandit")] 2

def k2c0 : Code := { maxStack := 2, maxLocals := 3, code := prog_2_method_1_code, exceptionTable := #[], attributes := #[] }
def k2m0 : Method := { name := "<init>", desc := "(Ljava/lang/String;Z)V", sig := { parameters := [(.object "java/lang/String"), .boolean], returnType := none }, accessFlags := 0, code := some k2c0 }
/-- com/example/planshift/planshift/campaign/Bandit$Pick -/
def k2 : Class := { plain "com/example/planshift/planshift/campaign/Bandit$Pick" (some 0) with
  accessFlags := 48
  interfaces := #[]
  cf := some (fileOf pool2 8 #[.nestHost 31] #[{ accessFlags := 0, nameIndex := 5, descriptorIndex := 20, attributes := #[] }] 48 2 #[] #[{ accessFlags := 18, nameIndex := 11, descriptorIndex := 12, attributes := #[] }, { accessFlags := 18, nameIndex := 15, descriptorIndex := 16, attributes := #[] }])
  fields := #[{ name := "kind", type := (.object "java/lang/String"), accessFlags := 18, slot := 0, constantValue := 0 }, { name := "best", type := .boolean, accessFlags := 18, slot := 1, constantValue := 0 }]
  methods := #[k2m0]
  instanceTypes := #[(.object "java/lang/String"), .boolean]
  staticTypes := #[]
  resolved := Array.replicate 35 none
  statics := none }

def pool3 : Array CpInfo := pool [(1, .class_ 2), (0, u "java/io/Serializable"), (0, .class_ 4), (0, u "java/lang/Object")] 2

/-- java/io/Serializable -/
def k3 : Class := { plain "java/io/Serializable" (some 0) with
  accessFlags := 1537
  interfaces := #[]
  cf := some (fileOf pool3 1 #[] #[] 1537 3 #[] #[])
  fields := #[]
  methods := #[]
  instanceTypes := #[]
  staticTypes := #[]
  resolved := Array.replicate 7 none
  statics := none }

def pool4 : Array CpInfo := pool [(1, .class_ 2), (0, u "java/lang/Comparable"), (0, .class_ 4), (0, u "java/lang/Object")] 7

/-- java/lang/Comparable -/
def k4 : Class := { plain "java/lang/Comparable" (some 0) with
  accessFlags := 1537
  interfaces := #[]
  cf := some (fileOf pool4 1 #[] #[] 1537 3 #[] #[])
  fields := #[]
  methods := #[]
  instanceTypes := #[]
  staticTypes := #[]
  resolved := Array.replicate 12 none
  statics := none }

def pool5 : Array CpInfo := pool [(2, .class_ 4), (1, u "java/lang/CharSequence"), (42, .class_ 48), (0, u "java/lang/CharSequence$1CodePointIterator"), (10, .class_ 60), (0, u "java/lang/CharSequence$1CharIterator"), (5, .class_ 67), (0, u "java/lang/Object")] 63

/-- java/lang/CharSequence -/
def k5 : Class := { plain "java/lang/CharSequence" (some 0) with
  accessFlags := 1537
  interfaces := #[]
  cf := some (fileOf pool5 2 #[.nestMembers #[47, 59]] #[] 1537 66 #[] #[])
  fields := #[]
  methods := #[]
  instanceTypes := #[]
  staticTypes := #[]
  resolved := Array.replicate 131 none
  statics := none }

def pool6 : Array CpInfo := pool [(1, .class_ 2), (0, u "java/lang/constant/Constable"), (0, .class_ 4), (0, u "java/lang/Object")] 6

/-- java/lang/constant/Constable -/
def k6 : Class := { plain "java/lang/constant/Constable" (some 0) with
  accessFlags := 1537
  interfaces := #[]
  cf := some (fileOf pool6 1 #[] #[] 1537 3 #[] #[])
  fields := #[]
  methods := #[]
  instanceTypes := #[]
  staticTypes := #[]
  resolved := Array.replicate 11 none
  statics := none }

def pool7 : Array CpInfo := pool [(1, .class_ 2), (0, u "java/lang/constant/ConstantDesc"), (0, .class_ 4), (0, u "java/lang/Object")] 32

/-- java/lang/constant/ConstantDesc -/
def k7 : Class := { plain "java/lang/constant/ConstantDesc" (some 0) with
  accessFlags := 1537
  interfaces := #[]
  cf := some (fileOf pool7 1 #[] #[] 1537 3 #[] #[])
  fields := #[]
  methods := #[]
  instanceTypes := #[]
  staticTypes := #[]
  resolved := Array.replicate 37 none
  statics := none }

def pool8 : Array CpInfo := pool [(2, .class_ 4), (1, u "java/lang/Object"), (0, u "<init>"), (0, u "()V"), (3, .class_ 12), (1, u "java/lang/String"), (0, u "value"), (0, u "[B"), (2, u "coder"), (0, u "B"), (2, u "hash"), (0, u "I"), (2, u "hashIsZero"), (0, u "Z"), (13, u "COMPACT_STRINGS"), (534, .class_ 576), (0, u "java/lang/CharSequence"), (22, u "CASE_INSENSITIVE_ORDER"), (0, u "Ljava/util/Comparator;"), (500, u "serialPersistentFields"), (0, u "[Ljava/io/ObjectStreamField;"), (0, .class_ 1104), (0, u "java/lang/String$CaseInsensitiveComparator"), (1, .class_ 1107), (0, u "java/io/Serializable"), (0, .class_ 1109), (0, u "java/lang/Comparable"), (0, .class_ 1111), (0, u "java/lang/constant/Constable"), (0, .class_ 1113), (0, u "java/lang/constant/ConstantDesc"), (2, u "serialVersionUID"), (0, u "J"), (3, u "REPL"), (0, u "C"), (2, u "LATIN1"), (1, u "UTF16")] 323

def k8m0 : Method := { name := "<init>", desc := "()V", sig := { parameters := [], returnType := none }, accessFlags := 1, code := none }
/-- java/lang/String -/
def k8 : Class := { plain "java/lang/String" (some 0) with
  accessFlags := 49
  interfaces := #[3, 4, 5, 6, 7]
  cf := some (fileOf pool8 10 #[.nestMembers #[1103]] #[{ accessFlags := 1, nameIndex := 5, descriptorIndex := 6, attributes := #[] }] 49 2 #[1106, 1108, 575, 1110, 1112] #[{ accessFlags := 18, nameIndex := 13, descriptorIndex := 14, attributes := #[] }, { accessFlags := 18, nameIndex := 17, descriptorIndex := 18, attributes := #[] }, { accessFlags := 2, nameIndex := 21, descriptorIndex := 22, attributes := #[] }, { accessFlags := 2, nameIndex := 25, descriptorIndex := 26, attributes := #[] }, { accessFlags := 26, nameIndex := 1116, descriptorIndex := 1117, attributes := #[] }, { accessFlags := 24, nameIndex := 40, descriptorIndex := 26, attributes := #[] }, { accessFlags := 26, nameIndex := 1101, descriptorIndex := 1102, attributes := #[] }, { accessFlags := 26, nameIndex := 1121, descriptorIndex := 1122, attributes := #[] }, { accessFlags := 25, nameIndex := 599, descriptorIndex := 600, attributes := #[] }, { accessFlags := 24, nameIndex := 1125, descriptorIndex := 18, attributes := #[] }, { accessFlags := 24, nameIndex := 1127, descriptorIndex := 18, attributes := #[] }])
  fields := #[{ name := "value", type := (.array .byte), accessFlags := 18, slot := 0, constantValue := 0 }, { name := "coder", type := .byte, accessFlags := 18, slot := 1, constantValue := 0 }, { name := "hash", type := .int, accessFlags := 2, slot := 2, constantValue := 0 }, { name := "hashIsZero", type := .boolean, accessFlags := 2, slot := 3, constantValue := 0 }, { name := "serialVersionUID", type := .long, accessFlags := 26, slot := 0, constantValue := 0 }, { name := "COMPACT_STRINGS", type := .boolean, accessFlags := 24, slot := 1, constantValue := 0 }, { name := "serialPersistentFields", type := (.array (.object "java/io/ObjectStreamField")), accessFlags := 26, slot := 2, constantValue := 0 }, { name := "REPL", type := .char, accessFlags := 26, slot := 3, constantValue := 0 }, { name := "CASE_INSENSITIVE_ORDER", type := (.object "java/util/Comparator"), accessFlags := 25, slot := 4, constantValue := 0 }, { name := "LATIN1", type := .byte, accessFlags := 24, slot := 5, constantValue := 0 }, { name := "UTF16", type := .byte, accessFlags := 24, slot := 6, constantValue := 0 }]
  methods := #[k8m0]
  instanceTypes := #[(.array .byte), .byte, .int, .boolean]
  staticTypes := #[.long, .boolean, (.array (.object "java/io/ObjectStreamField")), .char, (.object "java/util/Comparator"), .byte, .byte]
  resolved := Array.replicate 1451 none
  statics := none }

def pool9 : Array CpInfo := pool [(1, .methodref 2 3), (0, .class_ 4), (0, .nameAndType 5 6), (0, u "java/lang/Object"), (0, u "<init>"), (0, u "()V"), (0, .fieldref 8 9), (0, .class_ 10), (0, .nameAndType 11 12), (0, u "com/example/planshift/planshift/campaign/Mutation"), (0, u "pick"), (0, u "Lcom/example/planshift/planshift/campaign/Bandit$Pick;"), (0, .fieldref 8 14), (0, .nameAndType 15 16), (0, u "accepted"), (0, u "Z"), (0, .fieldref 8 18), (0, .nameAndType 19 20), (0, u "queriesBefore"), (0, u "J"), (0, .fieldref 8 22), (0, .nameAndType 23 24), (0, u "pool"), (0, u "I"), (6, .fieldref 8 32), (0, .nameAndType 33 20), (0, u "poolRerun"), (0, .fieldref 8 35), (0, .nameAndType 36 20), (0, u "poolNew"), (0, .fieldref 8 38), (0, .nameAndType 39 20), (0, u "laterRun"), (0, .fieldref 8 41), (0, .nameAndType 42 20), (0, u "laterNew"), (0, .methodref 8 44), (0, .nameAndType 45 46), (0, u "share"), (0, u "(JJ)D"), (48, u "gain"), (0, u "()D"), (29, u "(Lcom/example/planshift/planshift/campaign/Bandit$Pick;ZJI)V"), (4, u "reran"), (0, u "(ZI)V"), (1, u "judgedAfter"), (0, u "(Z)V")] 8

def k9c0 : Code := { maxStack := 3, maxLocals := 6, code := prog_11_method_1_code, exceptionTable := #[], attributes := #[] }
def k9m0 : Method := { name := "<init>", desc := "(Lcom/example/planshift/planshift/campaign/Bandit$Pick;ZJI)V", sig := { parameters := [(.object "com/example/planshift/planshift/campaign/Bandit$Pick"), .boolean, .long, .int], returnType := none }, accessFlags := 0, code := some k9c0 }
def k9c1 : Code := { maxStack := 5, maxLocals := 3, code := prog_11_method_4_code, exceptionTable := #[], attributes := #[] }
def k9m1 : Method := { name := "reran", desc := "(ZI)V", sig := { parameters := [.boolean, .int], returnType := none }, accessFlags := 0, code := some k9c1 }
def k9c2 : Code := { maxStack := 5, maxLocals := 2, code := prog_11_method_5_code, exceptionTable := #[], attributes := #[] }
def k9m2 : Method := { name := "judgedAfter", desc := "(Z)V", sig := { parameters := [.boolean], returnType := none }, accessFlags := 0, code := some k9c2 }
def k9c3 : Code := { maxStack := 6, maxLocals := 1, code := prog_11_method_6_code, exceptionTable := #[], attributes := #[] }
def k9m3 : Method := { name := "gain", desc := "()D", sig := { parameters := [], returnType := some .double }, accessFlags := 0, code := some k9c3 }
def k9c4 : Code := { maxStack := 4, maxLocals := 4, code := prog_11_method_8_code, exceptionTable := #[], attributes := #[] }
def k9m4 : Method := { name := "share", desc := "(JJ)D", sig := { parameters := [.long, .long], returnType := some .double }, accessFlags := 10, code := some k9c4 }
/-- com/example/planshift/planshift/campaign/Mutation -/
def k9 : Class := { plain "com/example/planshift/planshift/campaign/Mutation" (some 0) with
  accessFlags := 48
  interfaces := #[]
  cf := some (fileOf pool9 8 #[] #[{ accessFlags := 0, nameIndex := 5, descriptorIndex := 126, attributes := #[] }, { accessFlags := 0, nameIndex := 131, descriptorIndex := 132, attributes := #[] }, { accessFlags := 0, nameIndex := 134, descriptorIndex := 135, attributes := #[] }, { accessFlags := 0, nameIndex := 95, descriptorIndex := 96, attributes := #[] }, { accessFlags := 10, nameIndex := 45, descriptorIndex := 46, attributes := #[] }] 48 2 #[] #[{ accessFlags := 18, nameIndex := 11, descriptorIndex := 12, attributes := #[] }, { accessFlags := 18, nameIndex := 15, descriptorIndex := 16, attributes := #[] }, { accessFlags := 18, nameIndex := 19, descriptorIndex := 20, attributes := #[] }, { accessFlags := 2, nameIndex := 23, descriptorIndex := 24, attributes := #[] }, { accessFlags := 2, nameIndex := 33, descriptorIndex := 20, attributes := #[] }, { accessFlags := 2, nameIndex := 36, descriptorIndex := 20, attributes := #[] }, { accessFlags := 2, nameIndex := 39, descriptorIndex := 20, attributes := #[] }, { accessFlags := 2, nameIndex := 42, descriptorIndex := 20, attributes := #[] }])
  fields := #[{ name := "pick", type := (.object "com/example/planshift/planshift/campaign/Bandit$Pick"), accessFlags := 18, slot := 0, constantValue := 0 }, { name := "accepted", type := .boolean, accessFlags := 18, slot := 1, constantValue := 0 }, { name := "queriesBefore", type := .long, accessFlags := 18, slot := 2, constantValue := 0 }, { name := "pool", type := .int, accessFlags := 2, slot := 3, constantValue := 0 }, { name := "poolRerun", type := .long, accessFlags := 2, slot := 4, constantValue := 0 }, { name := "poolNew", type := .long, accessFlags := 2, slot := 5, constantValue := 0 }, { name := "laterRun", type := .long, accessFlags := 2, slot := 6, constantValue := 0 }, { name := "laterNew", type := .long, accessFlags := 2, slot := 7, constantValue := 0 }]
  methods := #[k9m0, k9m1, k9m2, k9m3, k9m4]
  instanceTypes := #[(.object "com/example/planshift/planshift/campaign/Bandit$Pick"), .boolean, .long, .int, .long, .long, .long, .long]
  staticTypes := #[]
  resolved := Array.replicate 144 none
  statics := none }

def pool10 : Array CpInfo := pool [(1, u "java/lang/Cloneable"), (0, .class_ 1), (0, u "java/lang/Object"), (0, .class_ 3)] 3

/-- java/lang/Cloneable -/
def k10 : Class := { plain "java/lang/Cloneable" (some 0) with
  accessFlags := 1537
  interfaces := #[]
  cf := some (fileOf pool10 2 #[] #[] 1537 4 #[] #[])
  fields := #[]
  methods := #[]
  instanceTypes := #[]
  staticTypes := #[]
  resolved := Array.replicate 8 none
  statics := none }

/-- the primitive byte -/
def k11 : Class := { plain "byte" none with kind := .primitive 'B', accessFlags := 0x411 }
/-- [B -/
def k12 : Class := { plain "[B" (some 0) with kind := .array 11 .byte, interfaces := #[10, 3], accessFlags := 1041 }

/-- the primitive int -/
def k13 : Class := { plain "int" none with kind := .primitive 'I', accessFlags := 0x411 }
/-- [I -/
def k14 : Class := { plain "[I" (some 0) with kind := .array 13 .int, interfaces := #[10, 3], accessFlags := 1041 }

def heap : Heap := #[]
def classes : Array Class := #[k0, k1, k2, k3, k4, k5, k6, k7, k8, k9, k10, k11, k12, k13, k14]
def interned : List (Array UInt16 × Addr) := []
def slotsUsed : Nat := 0
def theMethod : MethodId := ⟨1, 1⟩
def args0 : Array Value := #[.long 5, .int 3, .int 7, .int 255]
def aboutOver (below : List Frame) : State where
  vm := { classes := classes, interned := interned.toArray }
  heap := heap
  slotsUsed := slotsUsed
  threads := #[{ frames := .invoking theMethod args0 :: below }]
def below0 : List Frame := [.native { method := ⟨0, 0⟩, args := #[] }]
def about1 : State := aboutOver below0
def p0 : Program := .bare "" "" ""
def e0 : Env := launch0.env 0 0 0
theorem w_frames : about1.frames = Frame.invoking theMethod args0 :: below0 := rfl
set_option maxRecDepth 65536 in
theorem w_args : argsFit about1.vm theMethod args0 = true := by decide +kernel
set_option maxRecDepth 65536 in
theorem w_heap : heapFits about1 = true := by decide +kernel
set_option maxRecDepth 65536 in
theorem w_runnable : about1.curStatus? = some .runnable := by decide +kernel
set_option maxRecDepth 65536 in
theorem w_alone : about1.alone = true := by decide +kernel
set_option maxRecDepth 65536 in
theorem w_named : about1.methodNamed? x = some theMethod := by decide +kernel
set_option maxRecDepth 65536 in
theorem w_hears : about1.hears theMethod below0 = true := by decide +kernel
set_option maxRecDepth 65536 in
theorem w_ripe : about1.ripe theMethod args0 below0 = true := by decide +kernel
theorem w_running : about1.status = .running := rfl
set_option maxRecDepth 65536 in
theorem w_room : about1.hasRoom e0.platform room_1 = true :=
  launch0.hasRoom_least _ room_1 (by decide +kernel) (by decide +kernel) (by decide +kernel) (by decide +kernel) (by decide +kernel) (by decide +kernel)
theorem allAtoms_all (ts : List Jvm.Cond) (a : Array Jvm.Value) (st : Jvm.State) : (allAtoms ts).before a st = ts.all (fun c => c.before a st) := by
  induction ts with
  | nil => rfl
  | cons c t ih =>
    show (Jvm.Cond.and c (allAtoms t)).before a st = _
    rw [Jvm.Cond.before_and, ih, List.all_cons]
def words1 : List Jvm.Cond := Jvm.Cond.code x code maxLocals ret :: tables_1
/-- a 'code' word, met by the world's own term for the bytes: nothing is compared byte by byte -/
theorem code_word {y : MethodName} {bytes : ByteArray} {mx : Nat} {rt : Option FieldType} {a : Array Value} {s : State} {m : MethodId} {meth : Method} {c : Code} (h1 : s.methodNamed? y = some m) (h2 : s.vm.method? m = some meth) (h3 : meth.code = some c) (h4 : c.code = bytes)
    (h5 : (c.maxLocals == mx && c.exceptionTable.isEmpty && decide (c.maxStack ≤ mostOperands) && decide (meth.sig.returnType = rt) && !meth.locks && decide (parseMethodDescriptor y.desc = some meth.sig)) = true) : (Jvm.Cond.code y bytes mx rt).before a s = true := by
  simp only [Bool.and_eq_true, beq_iff_eq, Bool.not_eq_true', decide_eq_true_eq] at h5
  obtain ⟨⟨⟨⟨⟨g1, g2⟩, g3⟩, g4⟩, g5⟩, g6⟩ := h5
  simp [Cond.before, Cond.holds, Cond.value, h1, h2, h3, h4, g1, g2, g3, g4, g5, g6]
def isCode : Jvm.Cond → Bool
  | .code _ _ _ _ => true
  | _ => false
theorem all_split {L : List Jvm.Cond} {P : Jvm.Cond → Bool} (h1 : L.all (fun c => isCode c || P c) = true) (h2 : ∀ c ∈ L.filter isCode, P c = true) : L.all P = true := by
  refine List.all_eq_true.mpr fun c hc => ?_
  have h := List.all_eq_true.mp h1 c hc
  rcases Bool.eq_false_or_eq_true (isCode c) with hi | hi
  · exact h2 c (List.mem_filter.mpr ⟨hc, hi⟩)
  · simpa [hi] using h
set_option maxRecDepth 65536 in
theorem w_c0 : (Jvm.Cond.code x code maxLocals ret).before args0 about1 = true := code_word (m := ⟨1, 1⟩) (meth := k1m1) (c := k1c1) (by decide +kernel) rfl rfl rfl (by decide +kernel)
set_option maxRecDepth 65536 in
theorem w_c1 : (Jvm.Cond.code ({ cls := "com/example/planshift/planshift/campaign/Bandit$Pick", name := "<init>", desc := "(Ljava/lang/String;Z)V" } : Jvm.MethodName) prog_2_method_1_code (3 : Nat) (Option.none : Option Jvm.ClassFile.FieldType)).before args0 about1 = true := code_word (m := ⟨2, 0⟩) (meth := k2m0) (c := k2c0) (by decide +kernel) rfl rfl rfl (by decide +kernel)
set_option maxRecDepth 65536 in
theorem w_c2 : (Jvm.Cond.code ({ cls := "java/lang/Object", name := "<init>", desc := "()V" } : Jvm.MethodName) object_method_1_code (1 : Nat) (Option.none : Option Jvm.ClassFile.FieldType)).before args0 about1 = true := code_word (m := ⟨0, 0⟩) (meth := k0m0) (c := k0c0) (by decide +kernel) rfl rfl rfl (by decide +kernel)
set_option maxRecDepth 65536 in
theorem w_c3 : (Jvm.Cond.code ({ cls := "com/example/planshift/planshift/campaign/Mutation", name := "<init>", desc := "(Lcom/example/planshift/planshift/campaign/Bandit$Pick;ZJI)V" } : Jvm.MethodName) prog_11_method_1_code (6 : Nat) (Option.none : Option Jvm.ClassFile.FieldType)).before args0 about1 = true := code_word (m := ⟨9, 0⟩) (meth := k9m0) (c := k9c0) (by decide +kernel) rfl rfl rfl (by decide +kernel)
set_option maxRecDepth 65536 in
theorem w_c4 : (Jvm.Cond.code ({ cls := "com/example/planshift/planshift/campaign/Mutation", name := "reran", desc := "(ZI)V" } : Jvm.MethodName) prog_11_method_4_code (3 : Nat) (Option.none : Option Jvm.ClassFile.FieldType)).before args0 about1 = true := code_word (m := ⟨9, 1⟩) (meth := k9m1) (c := k9c1) (by decide +kernel) rfl rfl rfl (by decide +kernel)
set_option maxRecDepth 65536 in
theorem w_c5 : (Jvm.Cond.code ({ cls := "com/example/planshift/planshift/campaign/Mutation", name := "gain", desc := "()D" } : Jvm.MethodName) prog_11_method_6_code (1 : Nat) (Option.some Jvm.ClassFile.FieldType.double)).before args0 about1 = true := code_word (m := ⟨9, 3⟩) (meth := k9m3) (c := k9c3) (by decide +kernel) rfl rfl rfl (by decide +kernel)
set_option maxRecDepth 65536 in
theorem w_c6 : (Jvm.Cond.code ({ cls := "com/example/planshift/planshift/campaign/Mutation", name := "share", desc := "(JJ)D" } : Jvm.MethodName) prog_11_method_8_code (4 : Nat) (Option.some Jvm.ClassFile.FieldType.double)).before args0 about1 = true := code_word (m := ⟨9, 4⟩) (meth := k9m4) (c := k9c4) (by decide +kernel) rfl rfl rfl (by decide +kernel)
set_option maxRecDepth 65536 in
theorem w_c7 : (Jvm.Cond.code ({ cls := "com/example/planshift/planshift/campaign/Mutation", name := "judgedAfter", desc := "(Z)V" } : Jvm.MethodName) prog_11_method_5_code (2 : Nat) (Option.none : Option Jvm.ClassFile.FieldType)).before args0 about1 = true := code_word (m := ⟨9, 2⟩) (meth := k9m2) (c := k9c2) (by decide +kernel) rfl rfl rfl (by decide +kernel)
def codes1 : List Jvm.Cond := [Jvm.Cond.code x code maxLocals ret, Jvm.Cond.code ({ cls := "com/example/planshift/planshift/campaign/Bandit$Pick", name := "<init>", desc := "(Ljava/lang/String;Z)V" } : Jvm.MethodName) prog_2_method_1_code (3 : Nat) (Option.none : Option Jvm.ClassFile.FieldType), Jvm.Cond.code ({ cls := "java/lang/Object", name := "<init>", desc := "()V" } : Jvm.MethodName) object_method_1_code (1 : Nat) (Option.none : Option Jvm.ClassFile.FieldType), Jvm.Cond.code ({ cls := "com/example/planshift/planshift/campaign/Mutation", name := "<init>", desc := "(Lcom/example/planshift/planshift/campaign/Bandit$Pick;ZJI)V" } : Jvm.MethodName) prog_11_method_1_code (6 : Nat) (Option.none : Option Jvm.ClassFile.FieldType), Jvm.Cond.code ({ cls := "com/example/planshift/planshift/campaign/Mutation", name := "reran", desc := "(ZI)V" } : Jvm.MethodName) prog_11_method_4_code (3 : Nat) (Option.none : Option Jvm.ClassFile.FieldType), Jvm.Cond.code ({ cls := "com/example/planshift/planshift/campaign/Mutation", name := "gain", desc := "()D" } : Jvm.MethodName) prog_11_method_6_code (1 : Nat) (Option.some Jvm.ClassFile.FieldType.double), Jvm.Cond.code ({ cls := "com/example/planshift/planshift/campaign/Mutation", name := "share", desc := "(JJ)D" } : Jvm.MethodName) prog_11_method_8_code (4 : Nat) (Option.some Jvm.ClassFile.FieldType.double), Jvm.Cond.code ({ cls := "com/example/planshift/planshift/campaign/Mutation", name := "judgedAfter", desc := "(Z)V" } : Jvm.MethodName) prog_11_method_5_code (2 : Nat) (Option.none : Option Jvm.ClassFile.FieldType)]
set_option maxRecDepth 65536 in
theorem codes_eq : words1.filter isCode = codes1 := rfl
theorem w_codes : ∀ c ∈ words1.filter isCode, c.before args0 about1 = true := by
  rw [codes_eq]
  intro c hc
  simp only [codes1, List.mem_cons, List.not_mem_nil, or_false] at hc
  rcases hc with rfl | rfl | rfl | rfl | rfl | rfl | rfl | rfl
  · exact w_c0
  · exact w_c1
  · exact w_c2
  · exact w_c3
  · exact w_c4
  · exact w_c5
  · exact w_c6
  · exact w_c7
set_option maxRecDepth 65536 in
theorem w_t1 : (words1.take 24).all (fun c => isCode c || c.before args0 about1) = true := by decide +kernel
set_option maxRecDepth 65536 in
theorem w_t2 : ((words1.drop 24).take 24).all (fun c => isCode c || c.before args0 about1) = true := by decide +kernel
set_option maxRecDepth 65536 in
theorem w_t3 : ((words1.drop 24).drop 24).all (fun c => isCode c || c.before args0 about1) = true := by decide +kernel
theorem w_tables : (allAtoms (Jvm.Cond.code x code maxLocals ret :: tables_1)).before args0 about1 = true := by
  rw [allAtoms_all]
  show words1.all (fun c => c.before args0 about1) = true
  refine all_split ?_ w_codes
  rw [← List.take_append_drop 24 words1, List.all_append, w_t1, ← List.take_append_drop 24 (words1.drop 24), List.all_append, w_t2, w_t3]
  rfl
set_option maxRecDepth 65536 in
theorem w_case : (Jvm.Cond.and given_1 narrow_1).before args0 about1 = true := by decide +kernel
theorem w_applies : (headSpec (Jvm.Cond.code x code maxLocals ret :: tables_1) room_1).applies x e0.platform about1 = true :=
  (Spec.applies_iff w_frames).mpr ⟨w_running, w_runnable, w_alone, w_named, w_hears, w_ripe, w_room, w_tables⟩
theorem atStart : AtStart classFile x code maxLocals ret World_1 tables_1 room_1 Calls_1 rest_1 Pre_1 launch0 p0 e0 about1 theMethod args0 below0 :=
  ⟨lists_1, trivial, launch0.admits_env _ _ _, launch0.least_env, fairChoices_fair.cas, fairChoices_fair.clock, w_frames, w_args, w_heap, w_applies, trivial, trivial, w_case⟩
end start1
theorem witness_1 : WitnessClaimed_1 := ⟨start1.p0, start1.e0, start1.about1, start1.theMethod, start1.args0, start1.below0, start1.atStart⟩
end Jvm.Pilot.@@N@@
