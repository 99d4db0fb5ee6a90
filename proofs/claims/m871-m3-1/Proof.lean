import JvmDerived
import JvmDerived.Pilot.@@N@@Statement
import JvmDerived.Pilot.@@N@@Code
set_option linter.unusedVariables false
set_option linter.unusedSimpArgs false

namespace Jvm.Own
open Sem ClassFile Op Lib Jvm.Stand Jvm.Free Jvm.LawKit Jvm.RoadKit Bundle
/-- how the tables over which the walk stands are related to the true start's: the same (narrow), or wider by interned constants -/
def Rel (W : Bool) (s : State) (vm0 : Vm) (n : Nat) : Prop := match W with
  | false => vm0 = s.vm
  | true => ∃ k0, s.Since vm0 k0 ∧ k0 ≤ n
theorem Rel.mono {W : Bool} {s : State} {vm0 : Vm} {n n' : Nat} (h : Rel W s vm0 n) (q : n ≤ n') : Rel W s vm0 n' := by
  cases W
  · exact h
  · obtain ⟨k0, h1, h2⟩ := h; exact ⟨k0, h1, Nat.le_trans h2 q⟩
def EndW (W : Bool) (s : State) (o : Outcome) (t : State) (L : List Loc) (k n : Nat) : Prop := match W with
  | false => FrameEnd s o t L k n
  | true => ReturnedEndW s o t L k n
def Prom (W : Bool) (n0 hz : Nat) (Q : Option Value → Heap → Prop) (R : Room) (s : State) (o : Outcome) (t : State) : Prop :=
  ∃ v L, o = .returned v ∧ (Fr n0 L ∧ hz ≤ t.heap.size ∧ Q v t.heap) ∧ EndW W s o t L R.cells R.slots
def Go (p : Program) (e : Env) (below : List Frame) (P : Outcome → State → Prop) (U : State) : Prop :=
  ∃ t o, Steps p.tables e below U t ∧ t.status = .running ∧ Ended t below o ∧ P o t
theorem Go.step {p : Program} {e : Env} {below : List Frame} {P : Outcome → State → Prop} {U V : State} (f : ∀ t, Steps p.tables e below V t → Steps p.tables e below U t) (g : Go p e below P V) : Go p e below P U := by
  obtain ⟨t, o, h1, h2⟩ := g; exact ⟨t, o, f t h1, h2⟩
def Cx (Z : State) (bytes : ByteArray) (maxL : Nat) (own nm : String) (ret : Option FieldType) (p : Program) (vm0 : Vm) (m : MethodId) (meth : Method) (c : Code) : Prop :=
  p.tables.exec = Jvm.exec ∧ c.code = bytes ∧ c.maxLocals = maxL ∧ meth.sig.returnType = ret ∧ meth.locks = false ∧ meth.name = nm ∧ Z.Warmed39 vm0 ∧ vm0.findClass own = some m.cls
/-- the contract of a body -/
def Met (W : Bool) (l : Launch) (Z : State) (y : MethodName) (bytes : ByteArray) (maxL : Nat) (ret : Option FieldType) (R : Room) (ws : List Jvm.Cond) (as' : Array Value) (h0 : Heap) (n0 : Nat) (Q : Option Value → Heap → Prop) : Prop :=
  MetFree l y (head1 (Jvm.Cond.code y bytes maxL ret :: ws) R) (fun a U => a = as' ∧ Z.Warmed39 U.vm ∧ U.heap = h0) (fun _ _ _ _ _ => True) (fun _ U o U' => Prom W n0 h0.size Q R U o U')
/-- from this point of the body on the run ends as Q says -/
def OAt (W : Bool) (l : Launch) (Z : State) (bytes : ByteArray) (maxL : Nat) (own nm : String) (ret : Option FieldType) (R : Room) (n0 hz : Nat) (Q : Option Value → Heap → Prop)
    (h : Heap) (cells slots pc : Nat) (Ls : Array Slot) (st : List Value) : Prop :=
  hz ≤ h.size → ∀ (p : Program) (e : Env) (s : State) (vm0 : Vm) (m : MethodId) (args : Array Value) (below : List Frame) (meth : Method) (c : Code) (T : State) (locs : List Loc),
    Cx Z bytes maxL own nm ret p vm0 m meth c → Rel W s vm0 h.size → Stand p l e R (s.setVm vm0) m args below meth c T locs cells slots → T.heap = h → Fr n0 locs →
    Go p e below (Prom W n0 hz Q R s) (T.setTop (mkF m pc Ls st))
section Walk
variable {W : Bool} {l : Launch} {Z : State} {a0 : Array Value} {bytes : ByteArray} {maxL : Nat} {own nm : String} {ret : Option FieldType} {R : Room} {n0 hz : Nat} {Q : Option Value → Heap → Prop} {h h' : Heap} {cells slots pc : Nat} {Ls : Array Slot} {st : List Value}
theorem Met.of {y : MethodName} {ws : List Jvm.Cond} {as' : Array Value} {h0 : Heap} (hp : plainFor y = true) {Ls : Array Slot} (hef : ∀ m, entryFrame m as' maxL = mkF m 0 Ls [])
    (k : OAt W l Z bytes maxL y.cls y.name ret R n0 h0.size Q h0 0 0 0 Ls []) : Met W l Z y bytes maxL ret R ws as' h0 n0 Q := by
  refine MetFree.of_bodySF hp hisR ?_
  intro p e s m args below meth c s₁ Bd hml0 hP hK
  obtain ⟨rfl, hZ, hh⟩ := hP
  have X0 : Stand p l e R s m args below meth c s₁ [] 0 0 := Stand.of_body Bd
  have e0 : s₁.heap = h0 := by rw [← hh, Bd.state]; rfl
  have hr : Rel W s s.vm h0.size := by
    cases W
    · exact rfl
    · exact ⟨0, State.WarmedH.since (State.WarmedH.refl s) 0, Nat.zero_le _⟩
  have g := k (Nat.le_refl _) p e s s.vm m args below meth c s₁ [] ⟨Bd.exec, Bd.bytes, hml0, Bd.returns, Bd.notSynchronized, (name_of_methodNamed Bd.named Bd.method).1, hZ, findClass_of_methodNamed Bd.named⟩ hr X0 e0 (Fr.nil n0)
  rw [← hef m] at g
  exact g
theorem Met.imp {y : MethodName} {ws : List Jvm.Cond} {as' : Array Value} {h0 : Heap} {Q' : Option Value → Heap → Prop} (k : Met W l Z y bytes maxL ret R ws as' h0 n0 Q) (f : ∀ v h, Q v h → Q' v h) : Met W l Z y bytes maxL ret R ws as' h0 n0 Q' :=
  fun p e h1 h2 h3 s m args below h4 h5 h6 h7 => by
    obtain ⟨n, o, g1, g2, g3, v, L, g4, ⟨g5, g6, g7⟩, g8⟩ := k p e h1 h2 h3 s m args below h4 h5 h6 h7
    exact ⟨n, o, g1, g2, g3, v, L, g4, ⟨g5, g6, f _ _ g7⟩, g8⟩
theorem OAt.cast {st' : List Value} (q : st' = st) (k : OAt W l Z bytes maxL own nm ret R n0 hz Q h cells slots pc Ls st') : OAt W l Z bytes maxL own nm ret R n0 hz Q h cells slots pc Ls st := q ▸ k
theorem OAt.castL {Ls' : Array Slot} {st' : List Value} (q : Ls' = Ls) (q2 : st' = st) (k : OAt W l Z bytes maxL own nm ret R n0 hz Q h cells slots pc Ls' st') : OAt W l Z bytes maxL own nm ret R n0 hz Q h cells slots pc Ls st := q ▸ q2 ▸ k
theorem OAt.mono {cells' slots' : Nat} (q1 : cells ≤ cells') (q2 : slots ≤ slots') (k : OAt W l Z bytes maxL own nm ret R n0 hz Q h cells' slots' pc Ls st) : OAt W l Z bytes maxL own nm ret R n0 hz Q h cells slots pc Ls st :=
  fun hs p e s vm0 m args below meth c T locs C r X eT N => k hs p e s vm0 m args below meth c T locs C r (X.mono q1 q2) eT N
/-- a step that leaves the state but for the frame -/
theorem OAt.plain {pc' : Nat} {Ls' : Array Slot} {st' : List Value} (k : OAt W l Z bytes maxL own nm ret R n0 hz Q h cells slots pc' Ls' st')
    (f : ∀ {p : Program} {e : Env} {below : List Frame} {m : MethodId} {c : Code} {T : State}, At T m c below → p.tables.exec = Jvm.exec → c.code = bytes → ∀ target, Steps p.tables e below (T.setTop (mkF m pc' Ls' st')) target → Steps p.tables e below (T.setTop (mkF m pc Ls st)) target) :
    OAt W l Z bytes maxL own nm ret R n0 hz Q h cells slots pc Ls st :=
  fun hs p e s vm0 m args below meth c T locs C r X eT N => (k hs p e s vm0 m args below meth c T locs C r X eT N).step (f X.here C.1 C.2.1)
/-- a step by a law over the Stand: same heap -/
theorem OAt.warm {pc' : Nat} {Ls' : Array Slot} {st' : List Value} (k : OAt W l Z bytes maxL own nm ret R n0 hz Q h cells slots pc' Ls' st')
    (f : ∀ {p : Program} {e : Env} {s : State} {m : MethodId} {args : Array Value} {below : List Frame} {meth : Method} {c : Code} {T : State} {locs : List Loc}, Cx Z bytes maxL own nm ret p s.vm m meth c → Stand p l e R s m args below meth c T locs cells slots → T.heap = h →
      ∃ T', Stand p l e R s m args below meth c T' locs cells slots ∧ T'.heap = h ∧ ∀ target, Steps p.tables e below (T'.setTop (mkF m pc' Ls' st')) target → Steps p.tables e below (T.setTop (mkF m pc Ls st)) target) :
    OAt W l Z bytes maxL own nm ret R n0 hz Q h cells slots pc Ls st :=
  fun hs p e s vm0 m args below meth c T locs C r X eT N => by
    obtain ⟨T', X', e', g⟩ := f (s := s.setVm vm0) C X eT
    exact (k hs p e s vm0 m args below meth c T' locs C r X' e' N).step g
/-- a step by a law over the Stand: the heap grows or is written at fresh places -/
theorem OAt.move {pc' : Nat} {Ls' : Array Slot} {st' : Heap → List Value} {cells' slots' : Nat} {P : Heap → Prop} (hg : ∀ h', P h' → h.size ≤ h'.size) (k : ∀ h', P h' → OAt W l Z bytes maxL own nm ret R n0 hz Q h' cells' slots' pc' Ls' (st' h'))
    (f : ∀ {p : Program} {e : Env} {s : State} {m : MethodId} {args : Array Value} {below : List Frame} {meth : Method} {c : Code} {T : State} {locs : List Loc}, Cx Z bytes maxL own nm ret p s.vm m meth c → Stand p l e R s m args below meth c T locs cells slots → T.heap = h → Fr n0 locs →
      ∃ T' h' locs', Stand p l e R s m args below meth c T' locs' cells' slots' ∧ T'.heap = h' ∧ Fr n0 locs' ∧ P h' ∧ ∀ target, Steps p.tables e below (T'.setTop (mkF m pc' Ls' (st' h'))) target → Steps p.tables e below (T.setTop (mkF m pc Ls st)) target) :
    OAt W l Z bytes maxL own nm ret R n0 hz Q h cells slots pc Ls st :=
  fun hs p e s vm0 m args below meth c T locs C r X eT N => by
    obtain ⟨T', h', locs', X', e', N', p', g⟩ := f (s := s.setVm vm0) C X eT N
    exact (k h' p' (Nat.le_trans hs (hg h' p')) p e s vm0 m args below meth c T' locs' C (r.mono (hg h' p')) X' e' N').step g
/-- the end -/
theorem OAt.done {v : Option Value} (hv : ret = none → v = none) (hq : Q v h) (hc : cells ≤ R.cells) (hn : slots ≤ R.slots)
    (f : ∀ {p : Program} {e : Env} {s : State} {m : MethodId} {args : Array Value} {below : List Frame} {meth : Method} {c : Code} {T : State} {locs : List Loc} {fs : List Frame}, Cx Z bytes maxL own nm ret p s.vm m meth c → Stand p l e R s m args below meth c T locs cells slots →
      (∀ (f : JFrame) (acts : List Action), f.method = m → f.locked = none → f.entered = [] → (doReturn e (T.setTop f) acts v).1 = T.setFrames fs) → Steps p.tables e below (T.setTop (mkF m pc Ls st)) (T.setFrames fs)) :
    OAt W l Z bytes maxL own nm ret R n0 hz Q h cells slots pc Ls st :=
  fun hs p e s vm0 m args below meth c T locs C r X eT N => by
    have hl : meth.locks = false := C.2.2.2.2.1
    have hv' : meth.sig.returnType = none → v = none := fun q => hv (C.2.2.2.1.symm.trans q)
    have hh : ∀ fs, (T.setFrames fs).heap = h := fun fs => eT
    cases W
    · obtain rfl : vm0 = s.vm := r
      obtain ⟨fs, h1, h2, h3, h4, h5⟩ := X.leave (v := v) hv' hl
      exact ⟨_, _, f C X h1, h2, h3, v, locs, rfl, ⟨N, by rw [hh]; exact hs, by rw [hh]; exact hq⟩, ⟨v, rfl⟩, h4, h5.mono hc hn⟩
    · obtain ⟨k0, r1, r2⟩ := r
      obtain ⟨fs, h1, h2, h3, h4⟩ := X.leaveW (v := v) r1 (by rw [eT]; exact r2) hv' hl
      exact ⟨_, _, f (s := s.setVm vm0) C X h1, h2, h3, v, locs, rfl, ⟨N, by rw [hh]; exact hs, by rw [hh]; exact hq⟩, h4.1, h4.2.1, h4.2.2.1, h4.2.2.2.mono hc hn⟩
theorem iconst {i : Int} (v : Int32) (hd : decode bytes pc = .ok (.iconst i, 1)) (hv : Int32.ofInt i = v) (k : OAt W l Z bytes maxL own nm ret R n0 hz Q h cells slots (pc + 1) Ls (.int v :: st)) : OAt W l Z bytes maxL own nm ret R n0 hz Q h cells slots pc Ls st :=
  k.plain fun hh hx hby _ q => XS.iconst hh hx rfl (hb hby hd) (by rw [hv]; exact q)
theorem bipush {i : Int} (v : Int32) (hd : decode bytes pc = .ok (.bipush i, 2)) (hv : (Int8.ofInt i).toInt32 = v) (k : OAt W l Z bytes maxL own nm ret R n0 hz Q h cells slots (pc + 2) Ls (.int v :: st)) : OAt W l Z bytes maxL own nm ret R n0 hz Q h cells slots pc Ls st :=
  k.plain fun hh hx hby _ q => XS.bipush hh hx rfl (hb hby hd) (by rw [hv]; exact q)
theorem sipush {i : Int} (v : Int32) (hd : decode bytes pc = .ok (.sipush i, 3)) (hv : (Int16.ofInt i).toInt32 = v) (k : OAt W l Z bytes maxL own nm ret R n0 hz Q h cells slots (pc + 3) Ls (.int v :: st)) : OAt W l Z bytes maxL own nm ret R n0 hz Q h cells slots pc Ls st :=
  k.plain fun hh hx hby _ q => XS.sipush hh hx rfl (hb hby hd) (by rw [hv]; exact q)
theorem lconst {i : Fin 2} (v : Int64) (hd : decode bytes pc = .ok (.lconst i, 1)) (hv : Int64.ofNat i = v) (k : OAt W l Z bytes maxL own nm ret R n0 hz Q h cells slots (pc + 1) Ls (.long v :: st)) : OAt W l Z bytes maxL own nm ret R n0 hz Q h cells slots pc Ls st :=
  k.plain fun hh hx hby _ q => XS.lconst hh hx rfl (hb hby hd) (by rw [hv]; exact q)
theorem aconstNull (hd : decode bytes pc = .ok (.aconst_null, 1)) (k : OAt W l Z bytes maxL own nm ret R n0 hz Q h cells slots (pc + 1) Ls (.null :: st)) : OAt W l Z bytes maxL own nm ret R n0 hz Q h cells slots pc Ls st :=
  k.plain fun hh hx hby _ q => XS.aconstNull hh hx rfl (hb hby hd) q
theorem iload {i : Nat} {v : Int32} (hd : decode bytes pc = .ok (.iload i, 2)) (hl : Ls[i]? = some (.val (.int v))) (k : OAt W l Z bytes maxL own nm ret R n0 hz Q h cells slots (pc + 2) Ls (.int v :: st)) : OAt W l Z bytes maxL own nm ret R n0 hz Q h cells slots pc Ls st :=
  k.plain fun hh hx hby _ q => XS.iload hh hx rfl (hb hby hd) hl q
theorem iloadN {i : Fin 4} {v : Int32} (hd : decode bytes pc = .ok (.iload_n i, 1)) (hl : Ls[i.val]? = some (.val (.int v))) (k : OAt W l Z bytes maxL own nm ret R n0 hz Q h cells slots (pc + 1) Ls (.int v :: st)) : OAt W l Z bytes maxL own nm ret R n0 hz Q h cells slots pc Ls st :=
  k.plain fun hh hx hby _ q => XS.iloadN hh hx rfl (hb hby hd) hl q
theorem lload {i : Nat} {v : Int64} (hd : decode bytes pc = .ok (.lload i, 2)) (hl : Ls[i]? = some (.val (.long v))) (k : OAt W l Z bytes maxL own nm ret R n0 hz Q h cells slots (pc + 2) Ls (.long v :: st)) : OAt W l Z bytes maxL own nm ret R n0 hz Q h cells slots pc Ls st :=
  k.plain fun hh hx hby _ q => XS.lload hh hx rfl (hb hby hd) hl q
theorem lloadN {i : Fin 4} {v : Int64} (hd : decode bytes pc = .ok (.lload_n i, 1)) (hl : Ls[i.val]? = some (.val (.long v))) (k : OAt W l Z bytes maxL own nm ret R n0 hz Q h cells slots (pc + 1) Ls (.long v :: st)) : OAt W l Z bytes maxL own nm ret R n0 hz Q h cells slots pc Ls st :=
  k.plain fun hh hx hby _ q => XS.lloadN hh hx rfl (hb hby hd) hl q
theorem aload {i : Nat} {v : Value} (hd : decode bytes pc = .ok (.aload i, 2)) (hl : Ls[i]? = some (.val v)) (hv : v.isRef = true) (k : OAt W l Z bytes maxL own nm ret R n0 hz Q h cells slots (pc + 2) Ls (v :: st)) : OAt W l Z bytes maxL own nm ret R n0 hz Q h cells slots pc Ls st :=
  k.plain fun hh hx hby _ q => XS.aload hh hx rfl (hb hby hd) hl hv q
theorem aloadN {i : Fin 4} {v : Value} (hd : decode bytes pc = .ok (.aload_n i, 1)) (hl : Ls[i.val]? = some (.val v)) (hv : v.isRef = true) (k : OAt W l Z bytes maxL own nm ret R n0 hz Q h cells slots (pc + 1) Ls (v :: st)) : OAt W l Z bytes maxL own nm ret R n0 hz Q h cells slots pc Ls st :=
  k.plain fun hh hx hby _ q => XS.aloadN hh hx rfl (hb hby hd) hl hv q
theorem istore {i : Nat} {v : Int32} (L2 : Array Slot) (hd : decode bytes pc = .ok (.istore i, 2)) (hl : storeLocals Ls i (.int v) = some L2) (k : OAt W l Z bytes maxL own nm ret R n0 hz Q h cells slots (pc + 2) L2 st) : OAt W l Z bytes maxL own nm ret R n0 hz Q h cells slots pc Ls (.int v :: st) :=
  k.plain fun hh hx hby _ q => XS.istore hh hx rfl (hb hby hd) rfl hl q
theorem istoreN {i : Fin 4} {v : Int32} (L2 : Array Slot) (hd : decode bytes pc = .ok (.istore_n i, 1)) (hl : storeLocals Ls i.val (.int v) = some L2) (k : OAt W l Z bytes maxL own nm ret R n0 hz Q h cells slots (pc + 1) L2 st) : OAt W l Z bytes maxL own nm ret R n0 hz Q h cells slots pc Ls (.int v :: st) :=
  k.plain fun hh hx hby _ q => XS.istoreN hh hx rfl (hb hby hd) rfl hl q
theorem lstore {i : Nat} {v : Int64} (L2 : Array Slot) (hd : decode bytes pc = .ok (.lstore i, 2)) (hl : storeLocals Ls i (.long v) = some L2) (k : OAt W l Z bytes maxL own nm ret R n0 hz Q h cells slots (pc + 2) L2 st) : OAt W l Z bytes maxL own nm ret R n0 hz Q h cells slots pc Ls (.long v :: st) :=
  k.plain fun hh hx hby _ q => XS.lstore hh hx rfl (hb hby hd) rfl hl q
theorem lstoreN {i : Fin 4} {v : Int64} (L2 : Array Slot) (hd : decode bytes pc = .ok (.lstore_n i, 1)) (hl : storeLocals Ls i.val (.long v) = some L2) (k : OAt W l Z bytes maxL own nm ret R n0 hz Q h cells slots (pc + 1) L2 st) : OAt W l Z bytes maxL own nm ret R n0 hz Q h cells slots pc Ls (.long v :: st) :=
  k.plain fun hh hx hby _ q => XS.lstoreN hh hx rfl (hb hby hd) rfl hl q
theorem astore {i : Nat} {v : Value} (L2 : Array Slot) (hd : decode bytes pc = .ok (.astore i, 2)) (hv : v.isRef = true) (hl : storeLocals Ls i v = some L2) (k : OAt W l Z bytes maxL own nm ret R n0 hz Q h cells slots (pc + 2) L2 st) : OAt W l Z bytes maxL own nm ret R n0 hz Q h cells slots pc Ls (v :: st) :=
  k.plain fun hh hx hby _ q => XS.astore hh hx rfl (hb hby hd) rfl hv hl q
theorem astoreN {i : Fin 4} {v : Value} (L2 : Array Slot) (hd : decode bytes pc = .ok (.astore_n i, 1)) (hv : v.isRef = true) (hl : storeLocals Ls i.val v = some L2) (k : OAt W l Z bytes maxL own nm ret R n0 hz Q h cells slots (pc + 1) L2 st) : OAt W l Z bytes maxL own nm ret R n0 hz Q h cells slots pc Ls (v :: st) :=
  k.plain fun hh hx hby _ q => XS.astoreN hh hx rfl (hb hby hd) rfl hv hl q
theorem iinc {i : Nat} {z : Int} {v : Int32} (w : Int32) (L2 : Array Slot) (hd : decode bytes pc = .ok (.iinc i z, 3)) (hw : Int32.ofInt z = w) (hl : Ls[i]? = some (.val (.int v))) (hl' : storeLocals Ls i (.int (v + w)) = some L2) (k : OAt W l Z bytes maxL own nm ret R n0 hz Q h cells slots (pc + 3) L2 st) : OAt W l Z bytes maxL own nm ret R n0 hz Q h cells slots pc Ls st :=
  k.plain fun hh hx hby _ q => XS.iinc hh hx rfl (hb hby hd) hl (by rw [hw]; exact hl') q
theorem iadd {x y : Int32} (hd : decode bytes pc = .ok (.iadd, 1)) (k : OAt W l Z bytes maxL own nm ret R n0 hz Q h cells slots (pc + 1) Ls (.int (x + y) :: st)) : OAt W l Z bytes maxL own nm ret R n0 hz Q h cells slots pc Ls (.int y :: .int x :: st) :=
  k.plain fun hh hx hby _ q => XS.iadd hh hx rfl (hb hby hd) rfl q
theorem isub {x y : Int32} (hd : decode bytes pc = .ok (.isub, 1)) (k : OAt W l Z bytes maxL own nm ret R n0 hz Q h cells slots (pc + 1) Ls (.int (x - y) :: st)) : OAt W l Z bytes maxL own nm ret R n0 hz Q h cells slots pc Ls (.int y :: .int x :: st) :=
  k.plain fun hh hx hby _ q => XS.isub hh hx rfl (hb hby hd) rfl q
theorem imul {x y : Int32} (hd : decode bytes pc = .ok (.imul, 1)) (k : OAt W l Z bytes maxL own nm ret R n0 hz Q h cells slots (pc + 1) Ls (.int (x * y) :: st)) : OAt W l Z bytes maxL own nm ret R n0 hz Q h cells slots pc Ls (.int y :: .int x :: st) :=
  k.plain fun hh hx hby _ q => XS.imul hh hx rfl (hb hby hd) rfl q
theorem iand {x y : Int32} (hd : decode bytes pc = .ok (.iand, 1)) (k : OAt W l Z bytes maxL own nm ret R n0 hz Q h cells slots (pc + 1) Ls (.int (x &&& y) :: st)) : OAt W l Z bytes maxL own nm ret R n0 hz Q h cells slots pc Ls (.int y :: .int x :: st) :=
  k.plain fun hh hx hby _ q => XS.iand hh hx rfl (hb hby hd) rfl q
theorem ior {x y : Int32} (hd : decode bytes pc = .ok (.ior, 1)) (k : OAt W l Z bytes maxL own nm ret R n0 hz Q h cells slots (pc + 1) Ls (.int (x ||| y) :: st)) : OAt W l Z bytes maxL own nm ret R n0 hz Q h cells slots pc Ls (.int y :: .int x :: st) :=
  k.plain fun hh hx hby _ q => XS.ior hh hx rfl (hb hby hd) rfl q
theorem ixor {x y : Int32} (hd : decode bytes pc = .ok (.ixor, 1)) (k : OAt W l Z bytes maxL own nm ret R n0 hz Q h cells slots (pc + 1) Ls (.int (x ^^^ y) :: st)) : OAt W l Z bytes maxL own nm ret R n0 hz Q h cells slots pc Ls (.int y :: .int x :: st) :=
  k.plain fun hh hx hby _ q => XS.ixor hh hx rfl (hb hby hd) rfl q
theorem ishl {x y : Int32} (hd : decode bytes pc = .ok (.ishl, 1)) (k : OAt W l Z bytes maxL own nm ret R n0 hz Q h cells slots (pc + 1) Ls (.int (x <<< (y &&& 31)) :: st)) : OAt W l Z bytes maxL own nm ret R n0 hz Q h cells slots pc Ls (.int y :: .int x :: st) :=
  k.plain fun hh hx hby _ q => XS.ishl hh hx rfl (hb hby hd) rfl q
theorem ishr {x y : Int32} (hd : decode bytes pc = .ok (.ishr, 1)) (k : OAt W l Z bytes maxL own nm ret R n0 hz Q h cells slots (pc + 1) Ls (.int (x >>> (y &&& 31)) :: st)) : OAt W l Z bytes maxL own nm ret R n0 hz Q h cells slots pc Ls (.int y :: .int x :: st) :=
  k.plain fun hh hx hby _ q => XS.ishr hh hx rfl (hb hby hd) rfl q
theorem iushr {x y : Int32} (hd : decode bytes pc = .ok (.iushr, 1)) (k : OAt W l Z bytes maxL own nm ret R n0 hz Q h cells slots (pc + 1) Ls (.int ((x.toUInt32 >>> (y &&& 31).toUInt32).toInt32) :: st)) : OAt W l Z bytes maxL own nm ret R n0 hz Q h cells slots pc Ls (.int y :: .int x :: st) :=
  k.plain fun hh hx hby _ q => XS.iushr hh hx rfl (hb hby hd) rfl q
theorem idiv {x y : Int32} (hd : decode bytes pc = .ok (.idiv, 1)) (hy : y ≠ 0) (k : OAt W l Z bytes maxL own nm ret R n0 hz Q h cells slots (pc + 1) Ls (.int (x / y) :: st)) : OAt W l Z bytes maxL own nm ret R n0 hz Q h cells slots pc Ls (.int y :: .int x :: st) :=
  k.plain fun hh hx hby _ q => XS.idiv hh hx rfl (hb hby hd) rfl hy q
theorem ladd {x y : Int64} (hd : decode bytes pc = .ok (.ladd, 1)) (k : OAt W l Z bytes maxL own nm ret R n0 hz Q h cells slots (pc + 1) Ls (.long (x + y) :: st)) : OAt W l Z bytes maxL own nm ret R n0 hz Q h cells slots pc Ls (.long y :: .long x :: st) :=
  k.plain fun hh hx hby _ q => XS.ladd hh hx rfl (hb hby hd) rfl q
theorem lsub {x y : Int64} (hd : decode bytes pc = .ok (.lsub, 1)) (k : OAt W l Z bytes maxL own nm ret R n0 hz Q h cells slots (pc + 1) Ls (.long (x - y) :: st)) : OAt W l Z bytes maxL own nm ret R n0 hz Q h cells slots pc Ls (.long y :: .long x :: st) :=
  k.plain fun hh hx hby _ q => XS.lsub hh hx rfl (hb hby hd) rfl q
theorem lmul {x y : Int64} (hd : decode bytes pc = .ok (.lmul, 1)) (k : OAt W l Z bytes maxL own nm ret R n0 hz Q h cells slots (pc + 1) Ls (.long (x * y) :: st)) : OAt W l Z bytes maxL own nm ret R n0 hz Q h cells slots pc Ls (.long y :: .long x :: st) :=
  k.plain fun hh hx hby _ q => XS.lmul hh hx rfl (hb hby hd) rfl q
theorem land {x y : Int64} (hd : decode bytes pc = .ok (.land, 1)) (k : OAt W l Z bytes maxL own nm ret R n0 hz Q h cells slots (pc + 1) Ls (.long (x &&& y) :: st)) : OAt W l Z bytes maxL own nm ret R n0 hz Q h cells slots pc Ls (.long y :: .long x :: st) :=
  k.plain fun hh hx hby _ q => XS.land hh hx rfl (hb hby hd) rfl q
theorem lor {x y : Int64} (hd : decode bytes pc = .ok (.lor, 1)) (k : OAt W l Z bytes maxL own nm ret R n0 hz Q h cells slots (pc + 1) Ls (.long (x ||| y) :: st)) : OAt W l Z bytes maxL own nm ret R n0 hz Q h cells slots pc Ls (.long y :: .long x :: st) :=
  k.plain fun hh hx hby _ q => XS.lor hh hx rfl (hb hby hd) rfl q
theorem lxor {x y : Int64} (hd : decode bytes pc = .ok (.lxor, 1)) (k : OAt W l Z bytes maxL own nm ret R n0 hz Q h cells slots (pc + 1) Ls (.long (x ^^^ y) :: st)) : OAt W l Z bytes maxL own nm ret R n0 hz Q h cells slots pc Ls (.long y :: .long x :: st) :=
  k.plain fun hh hx hby _ q => XS.lxor hh hx rfl (hb hby hd) rfl q
theorem lshl {x : Int64} {y : Int32} (hd : decode bytes pc = .ok (.lshl, 1)) (k : OAt W l Z bytes maxL own nm ret R n0 hz Q h cells slots (pc + 1) Ls (.long (x <<< (y &&& 0x3f).toInt64) :: st)) : OAt W l Z bytes maxL own nm ret R n0 hz Q h cells slots pc Ls (.int y :: .long x :: st) :=
  k.plain fun hh hx hby _ q => XS.lshl hh hx rfl (hb hby hd) rfl q
theorem lshr {x : Int64} {y : Int32} (hd : decode bytes pc = .ok (.lshr, 1)) (k : OAt W l Z bytes maxL own nm ret R n0 hz Q h cells slots (pc + 1) Ls (.long (x >>> (y &&& 0x3f).toInt64) :: st)) : OAt W l Z bytes maxL own nm ret R n0 hz Q h cells slots pc Ls (.int y :: .long x :: st) :=
  k.plain fun hh hx hby _ q => XS.lshr hh hx rfl (hb hby hd) rfl q
theorem lushr {x : Int64} {y : Int32} (hd : decode bytes pc = .ok (.lushr, 1)) (k : OAt W l Z bytes maxL own nm ret R n0 hz Q h cells slots (pc + 1) Ls (.long ((x.toUInt64 >>> (y &&& 0x3f).toInt64.toUInt64).toInt64) :: st)) : OAt W l Z bytes maxL own nm ret R n0 hz Q h cells slots pc Ls (.int y :: .long x :: st) :=
  k.plain fun hh hx hby _ q => XS.lushr hh hx rfl (hb hby hd) rfl q
theorem ldiv {x y : Int64} (hd : decode bytes pc = .ok (.ldiv, 1)) (hy : y ≠ 0) (k : OAt W l Z bytes maxL own nm ret R n0 hz Q h cells slots (pc + 1) Ls (.long (x / y) :: st)) : OAt W l Z bytes maxL own nm ret R n0 hz Q h cells slots pc Ls (.long y :: .long x :: st) :=
  k.plain fun hh hx hby _ q => XS.ldiv hh hx rfl (hb hby hd) rfl hy q
theorem lrem {x y : Int64} (hd : decode bytes pc = .ok (.lrem, 1)) (hy : y ≠ 0) (k : OAt W l Z bytes maxL own nm ret R n0 hz Q h cells slots (pc + 1) Ls (.long (x - (x / y) * y) :: st)) : OAt W l Z bytes maxL own nm ret R n0 hz Q h cells slots pc Ls (.long y :: .long x :: st) :=
  k.plain fun hh hx hby _ q => XS.lrem hh hx rfl (hb hby hd) rfl hy q
theorem ineg {x : Int32} (hd : decode bytes pc = .ok (.ineg, 1)) (k : OAt W l Z bytes maxL own nm ret R n0 hz Q h cells slots (pc + 1) Ls (.int (-x) :: st)) : OAt W l Z bytes maxL own nm ret R n0 hz Q h cells slots pc Ls (.int x :: st) :=
  k.plain fun hh hx hby _ q => XS.ineg hh hx rfl (hb hby hd) rfl q
theorem lneg {x : Int64} (hd : decode bytes pc = .ok (.lneg, 1)) (k : OAt W l Z bytes maxL own nm ret R n0 hz Q h cells slots (pc + 1) Ls (.long (-x) :: st)) : OAt W l Z bytes maxL own nm ret R n0 hz Q h cells slots pc Ls (.long x :: st) :=
  k.plain fun hh hx hby _ q => XS.lneg hh hx rfl (hb hby hd) rfl q
theorem i2l {x : Int32} (hd : decode bytes pc = .ok (.i2l, 1)) (k : OAt W l Z bytes maxL own nm ret R n0 hz Q h cells slots (pc + 1) Ls (.long x.toInt64 :: st)) : OAt W l Z bytes maxL own nm ret R n0 hz Q h cells slots pc Ls (.int x :: st) :=
  k.plain fun hh hx hby _ q => XS.i2l hh hx rfl (hb hby hd) rfl q
theorem l2i {x : Int64} (hd : decode bytes pc = .ok (.l2i, 1)) (k : OAt W l Z bytes maxL own nm ret R n0 hz Q h cells slots (pc + 1) Ls (.int x.toInt32 :: st)) : OAt W l Z bytes maxL own nm ret R n0 hz Q h cells slots pc Ls (.long x :: st) :=
  k.plain fun hh hx hby _ q => XS.l2i hh hx rfl (hb hby hd) rfl q
theorem i2b {x : Int32} (hd : decode bytes pc = .ok (.i2b, 1)) (k : OAt W l Z bytes maxL own nm ret R n0 hz Q h cells slots (pc + 1) Ls (.int x.toInt8.toInt32 :: st)) : OAt W l Z bytes maxL own nm ret R n0 hz Q h cells slots pc Ls (.int x :: st) :=
  k.plain fun hh hx hby _ q => XS.i2b hh hx rfl (hb hby hd) rfl q
theorem i2s {x : Int32} (hd : decode bytes pc = .ok (.i2s, 1)) (k : OAt W l Z bytes maxL own nm ret R n0 hz Q h cells slots (pc + 1) Ls (.int x.toInt16.toInt32 :: st)) : OAt W l Z bytes maxL own nm ret R n0 hz Q h cells slots pc Ls (.int x :: st) :=
  k.plain fun hh hx hby _ q => XS.i2s hh hx rfl (hb hby hd) rfl q
theorem i2c {x : Int32} (hd : decode bytes pc = .ok (.i2c, 1)) (k : OAt W l Z bytes maxL own nm ret R n0 hz Q h cells slots (pc + 1) Ls (.int x.toUInt32.toUInt16.toUInt32.toInt32 :: st)) : OAt W l Z bytes maxL own nm ret R n0 hz Q h cells slots pc Ls (.int x :: st) :=
  k.plain fun hh hx hby _ q => XS.i2c hh hx rfl (hb hby hd) rfl q
theorem lcmp {x y : Int64} (hd : decode bytes pc = .ok (.lcmp, 1)) (k : OAt W l Z bytes maxL own nm ret R n0 hz Q h cells slots (pc + 1) Ls (.int (lcmpV x y) :: st)) : OAt W l Z bytes maxL own nm ret R n0 hz Q h cells slots pc Ls (.long y :: .long x :: st) :=
  k.plain fun hh hx hby _ q => XS.lcmp hh hx rfl (hb hby hd) rfl (by rw [← lcW] at q; exact q)
theorem pop {v : Value} (hd : decode bytes pc = .ok (.pop, 1)) (hc : v.category = 1) (k : OAt W l Z bytes maxL own nm ret R n0 hz Q h cells slots (pc + 1) Ls st) : OAt W l Z bytes maxL own nm ret R n0 hz Q h cells slots pc Ls (v :: st) :=
  k.plain fun hh hx hby _ q => XS.pop hh hx rfl (hb hby hd) rfl hc q
theorem dup {v : Value} (hd : decode bytes pc = .ok (.dup, 1)) (hc : v.category = 1) (k : OAt W l Z bytes maxL own nm ret R n0 hz Q h cells slots (pc + 1) Ls (v :: v :: st)) : OAt W l Z bytes maxL own nm ret R n0 hz Q h cells slots pc Ls (v :: st) :=
  k.plain fun hh hx hby _ q => XS.dup hh hx rfl (hb hby hd) rfl hc q
theorem dupX1 {v w : Value} (hd : decode bytes pc = .ok (.dup_x1, 1)) (hc : v.category = 1) (hc' : w.category = 1) (k : OAt W l Z bytes maxL own nm ret R n0 hz Q h cells slots (pc + 1) Ls (v :: w :: v :: st)) : OAt W l Z bytes maxL own nm ret R n0 hz Q h cells slots pc Ls (v :: w :: st) :=
  k.plain fun hh hx hby _ q => XS.dupX1 hh hx rfl (hb hby hd) rfl hc hc' q
theorem dup2 {v w : Value} (hd : decode bytes pc = .ok (.dup2, 1)) (hc : v.category = 1) (hc' : w.category = 1) (k : OAt W l Z bytes maxL own nm ret R n0 hz Q h cells slots (pc + 1) Ls (v :: w :: v :: w :: st)) : OAt W l Z bytes maxL own nm ret R n0 hz Q h cells slots pc Ls (v :: w :: st) :=
  k.plain fun hh hx hby _ q => Jvm.Free.XT.dup2 hh hx rfl (hb hby hd) rfl hc hc' q
theorem dup2L {x : Int64} (hd : decode bytes pc = .ok (.dup2, 1)) (k : OAt W l Z bytes maxL own nm ret R n0 hz Q h cells slots (pc + 1) Ls (.long x :: .long x :: st)) : OAt W l Z bytes maxL own nm ret R n0 hz Q h cells slots pc Ls (.long x :: st) :=
  k.plain fun hh hx hby _ q => Jvm.Free.XT.dup2L hh hx rfl (hb hby hd) rfl q
theorem goto_ {o : Int} (pc' : Nat) (hd : decode bytes pc = .ok (.goto o, 3)) (ho : 0 ≤ (pc : Int) + o) (hp : ((pc : Int) + o).toNat = pc') (k : OAt W l Z bytes maxL own nm ret R n0 hz Q h cells slots pc' Ls st) : OAt W l Z bytes maxL own nm ret R n0 hz Q h cells slots pc Ls st :=
  k.plain fun hh hx hby _ q => XS.goto hh hx rfl rfl (hb hby hd) ho hp q
theorem icmp_eq {x y : Int32} {o : Int} (pc' : Nat) (hd : decode bytes pc = .ok (.if_icmp .eq o, 3)) (ho : 0 ≤ (pc : Int) + o) (hp : ((pc : Int) + o).toNat = pc') (kt : x = y → OAt W l Z bytes maxL own nm ret R n0 hz Q h cells slots pc' Ls st) (kf : ¬ x = y → OAt W l Z bytes maxL own nm ret R n0 hz Q h cells slots (pc + 3) Ls st) : OAt W l Z bytes maxL own nm ret R n0 hz Q h cells slots pc Ls (.int y :: .int x :: st) := by
  by_cases hc : x = y
  · exact (kt hc).plain fun hh hx hby _ q => XS.icmpYes hh hx rfl rfl (hb hby hd) rfl (teq hc).1 ho hp q
  · exact (kf hc).plain fun hh hx hby _ q => XS.icmpNo hh hx rfl (hb hby hd) rfl (feq hc).1 q
theorem if_eq {x : Int32} {o : Int} (pc' : Nat) (hd : decode bytes pc = .ok (.ifCond .eq o, 3)) (ho : 0 ≤ (pc : Int) + o) (hp : ((pc : Int) + o).toNat = pc') (kt : x = (0 : Int32) → OAt W l Z bytes maxL own nm ret R n0 hz Q h cells slots pc' Ls st) (kf : ¬ x = (0 : Int32) → OAt W l Z bytes maxL own nm ret R n0 hz Q h cells slots (pc + 3) Ls st) : OAt W l Z bytes maxL own nm ret R n0 hz Q h cells slots pc Ls (.int x :: st) := by
  by_cases hc : x = (0 : Int32)
  · exact (kt hc).plain fun hh hx hby _ q => XS.ifYes hh hx rfl rfl (hb hby hd) rfl ((if0 _ _).trans (teq hc).1) ho hp q
  · exact (kf hc).plain fun hh hx hby _ q => XS.ifNo hh hx rfl (hb hby hd) rfl ((if0 _ _).trans (feq hc).1) q
theorem icmp_ne {x y : Int32} {o : Int} (pc' : Nat) (hd : decode bytes pc = .ok (.if_icmp .ne o, 3)) (ho : 0 ≤ (pc : Int) + o) (hp : ((pc : Int) + o).toNat = pc') (kt : ¬ x = y → OAt W l Z bytes maxL own nm ret R n0 hz Q h cells slots pc' Ls st) (kf : x = y → OAt W l Z bytes maxL own nm ret R n0 hz Q h cells slots (pc + 3) Ls st) : OAt W l Z bytes maxL own nm ret R n0 hz Q h cells slots pc Ls (.int y :: .int x :: st) := by
  by_cases hc : ¬ x = y
  · exact (kt hc).plain fun hh hx hby _ q => XS.icmpYes hh hx rfl rfl (hb hby hd) rfl (feq hc).2 ho hp q
  · have hc' := Classical.not_not.mp hc; exact (kf hc').plain fun hh hx hby _ q => XS.icmpNo hh hx rfl (hb hby hd) rfl (teq hc').2 q
theorem if_ne {x : Int32} {o : Int} (pc' : Nat) (hd : decode bytes pc = .ok (.ifCond .ne o, 3)) (ho : 0 ≤ (pc : Int) + o) (hp : ((pc : Int) + o).toNat = pc') (kt : ¬ x = (0 : Int32) → OAt W l Z bytes maxL own nm ret R n0 hz Q h cells slots pc' Ls st) (kf : x = (0 : Int32) → OAt W l Z bytes maxL own nm ret R n0 hz Q h cells slots (pc + 3) Ls st) : OAt W l Z bytes maxL own nm ret R n0 hz Q h cells slots pc Ls (.int x :: st) := by
  by_cases hc : ¬ x = (0 : Int32)
  · exact (kt hc).plain fun hh hx hby _ q => XS.ifYes hh hx rfl rfl (hb hby hd) rfl ((if0 _ _).trans (feq hc).2) ho hp q
  · have hc' := Classical.not_not.mp hc; exact (kf hc').plain fun hh hx hby _ q => XS.ifNo hh hx rfl (hb hby hd) rfl ((if0 _ _).trans (teq hc').2) q
theorem icmp_lt {x y : Int32} {o : Int} (pc' : Nat) (hd : decode bytes pc = .ok (.if_icmp .lt o, 3)) (ho : 0 ≤ (pc : Int) + o) (hp : ((pc : Int) + o).toNat = pc') (kt : x < y → OAt W l Z bytes maxL own nm ret R n0 hz Q h cells slots pc' Ls st) (kf : ¬ x < y → OAt W l Z bytes maxL own nm ret R n0 hz Q h cells slots (pc + 3) Ls st) : OAt W l Z bytes maxL own nm ret R n0 hz Q h cells slots pc Ls (.int y :: .int x :: st) := by
  by_cases hc : x < y
  · exact (kt hc).plain fun hh hx hby _ q => XS.icmpYes hh hx rfl rfl (hb hby hd) rfl (tlt hc).1 ho hp q
  · exact (kf hc).plain fun hh hx hby _ q => XS.icmpNo hh hx rfl (hb hby hd) rfl (flt hc).1 q
theorem if_lt {x : Int32} {o : Int} (pc' : Nat) (hd : decode bytes pc = .ok (.ifCond .lt o, 3)) (ho : 0 ≤ (pc : Int) + o) (hp : ((pc : Int) + o).toNat = pc') (kt : x < (0 : Int32) → OAt W l Z bytes maxL own nm ret R n0 hz Q h cells slots pc' Ls st) (kf : ¬ x < (0 : Int32) → OAt W l Z bytes maxL own nm ret R n0 hz Q h cells slots (pc + 3) Ls st) : OAt W l Z bytes maxL own nm ret R n0 hz Q h cells slots pc Ls (.int x :: st) := by
  by_cases hc : x < (0 : Int32)
  · exact (kt hc).plain fun hh hx hby _ q => XS.ifYes hh hx rfl rfl (hb hby hd) rfl ((if0 _ _).trans (tlt hc).1) ho hp q
  · exact (kf hc).plain fun hh hx hby _ q => XS.ifNo hh hx rfl (hb hby hd) rfl ((if0 _ _).trans (flt hc).1) q
theorem icmp_ge {x y : Int32} {o : Int} (pc' : Nat) (hd : decode bytes pc = .ok (.if_icmp .ge o, 3)) (ho : 0 ≤ (pc : Int) + o) (hp : ((pc : Int) + o).toNat = pc') (kt : ¬ x < y → OAt W l Z bytes maxL own nm ret R n0 hz Q h cells slots pc' Ls st) (kf : x < y → OAt W l Z bytes maxL own nm ret R n0 hz Q h cells slots (pc + 3) Ls st) : OAt W l Z bytes maxL own nm ret R n0 hz Q h cells slots pc Ls (.int y :: .int x :: st) := by
  by_cases hc : ¬ x < y
  · exact (kt hc).plain fun hh hx hby _ q => XS.icmpYes hh hx rfl rfl (hb hby hd) rfl (flt hc).2.1 ho hp q
  · have hc' := Classical.not_not.mp hc; exact (kf hc').plain fun hh hx hby _ q => XS.icmpNo hh hx rfl (hb hby hd) rfl (tlt hc').2.1 q
theorem if_ge {x : Int32} {o : Int} (pc' : Nat) (hd : decode bytes pc = .ok (.ifCond .ge o, 3)) (ho : 0 ≤ (pc : Int) + o) (hp : ((pc : Int) + o).toNat = pc') (kt : ¬ x < (0 : Int32) → OAt W l Z bytes maxL own nm ret R n0 hz Q h cells slots pc' Ls st) (kf : x < (0 : Int32) → OAt W l Z bytes maxL own nm ret R n0 hz Q h cells slots (pc + 3) Ls st) : OAt W l Z bytes maxL own nm ret R n0 hz Q h cells slots pc Ls (.int x :: st) := by
  by_cases hc : ¬ x < (0 : Int32)
  · exact (kt hc).plain fun hh hx hby _ q => XS.ifYes hh hx rfl rfl (hb hby hd) rfl ((if0 _ _).trans (flt hc).2.1) ho hp q
  · have hc' := Classical.not_not.mp hc; exact (kf hc').plain fun hh hx hby _ q => XS.ifNo hh hx rfl (hb hby hd) rfl ((if0 _ _).trans (tlt hc').2.1) q
theorem icmp_gt {x y : Int32} {o : Int} (pc' : Nat) (hd : decode bytes pc = .ok (.if_icmp .gt o, 3)) (ho : 0 ≤ (pc : Int) + o) (hp : ((pc : Int) + o).toNat = pc') (kt : y < x → OAt W l Z bytes maxL own nm ret R n0 hz Q h cells slots pc' Ls st) (kf : ¬ y < x → OAt W l Z bytes maxL own nm ret R n0 hz Q h cells slots (pc + 3) Ls st) : OAt W l Z bytes maxL own nm ret R n0 hz Q h cells slots pc Ls (.int y :: .int x :: st) := by
  by_cases hc : y < x
  · exact (kt hc).plain fun hh hx hby _ q => XS.icmpYes hh hx rfl rfl (hb hby hd) rfl (tlt hc).2.2.1 ho hp q
  · exact (kf hc).plain fun hh hx hby _ q => XS.icmpNo hh hx rfl (hb hby hd) rfl (flt hc).2.2.1 q
theorem if_gt {x : Int32} {o : Int} (pc' : Nat) (hd : decode bytes pc = .ok (.ifCond .gt o, 3)) (ho : 0 ≤ (pc : Int) + o) (hp : ((pc : Int) + o).toNat = pc') (kt : (0 : Int32) < x → OAt W l Z bytes maxL own nm ret R n0 hz Q h cells slots pc' Ls st) (kf : ¬ (0 : Int32) < x → OAt W l Z bytes maxL own nm ret R n0 hz Q h cells slots (pc + 3) Ls st) : OAt W l Z bytes maxL own nm ret R n0 hz Q h cells slots pc Ls (.int x :: st) := by
  by_cases hc : (0 : Int32) < x
  · exact (kt hc).plain fun hh hx hby _ q => XS.ifYes hh hx rfl rfl (hb hby hd) rfl ((if0 _ _).trans (tlt hc).2.2.1) ho hp q
  · exact (kf hc).plain fun hh hx hby _ q => XS.ifNo hh hx rfl (hb hby hd) rfl ((if0 _ _).trans (flt hc).2.2.1) q
theorem icmp_le {x y : Int32} {o : Int} (pc' : Nat) (hd : decode bytes pc = .ok (.if_icmp .le o, 3)) (ho : 0 ≤ (pc : Int) + o) (hp : ((pc : Int) + o).toNat = pc') (kt : ¬ y < x → OAt W l Z bytes maxL own nm ret R n0 hz Q h cells slots pc' Ls st) (kf : y < x → OAt W l Z bytes maxL own nm ret R n0 hz Q h cells slots (pc + 3) Ls st) : OAt W l Z bytes maxL own nm ret R n0 hz Q h cells slots pc Ls (.int y :: .int x :: st) := by
  by_cases hc : ¬ y < x
  · exact (kt hc).plain fun hh hx hby _ q => XS.icmpYes hh hx rfl rfl (hb hby hd) rfl (flt hc).2.2.2 ho hp q
  · have hc' := Classical.not_not.mp hc; exact (kf hc').plain fun hh hx hby _ q => XS.icmpNo hh hx rfl (hb hby hd) rfl (tlt hc').2.2.2 q
theorem if_le {x : Int32} {o : Int} (pc' : Nat) (hd : decode bytes pc = .ok (.ifCond .le o, 3)) (ho : 0 ≤ (pc : Int) + o) (hp : ((pc : Int) + o).toNat = pc') (kt : ¬ (0 : Int32) < x → OAt W l Z bytes maxL own nm ret R n0 hz Q h cells slots pc' Ls st) (kf : (0 : Int32) < x → OAt W l Z bytes maxL own nm ret R n0 hz Q h cells slots (pc + 3) Ls st) : OAt W l Z bytes maxL own nm ret R n0 hz Q h cells slots pc Ls (.int x :: st) := by
  by_cases hc : ¬ (0 : Int32) < x
  · exact (kt hc).plain fun hh hx hby _ q => XS.ifYes hh hx rfl rfl (hb hby hd) rfl ((if0 _ _).trans (flt hc).2.2.2) ho hp q
  · have hc' := Classical.not_not.mp hc; exact (kf hc').plain fun hh hx hby _ q => XS.ifNo hh hx rfl (hb hby hd) rfl ((if0 _ _).trans (tlt hc').2.2.2) q
theorem ifnullYes {o : Int} (pc' : Nat) (hd : decode bytes pc = .ok (.ifnull o, 3)) (ho : 0 ≤ (pc : Int) + o) (hp : ((pc : Int) + o).toNat = pc') (k : OAt W l Z bytes maxL own nm ret R n0 hz Q h cells slots pc' Ls st) : OAt W l Z bytes maxL own nm ret R n0 hz Q h cells slots pc Ls (.null :: st) :=
  k.plain fun hh hx hby _ q => XS.ifnullYes hh hx rfl rfl (hb hby hd) rfl ho hp q
theorem ifnullNo {b : Addr} {o : Int} (hd : decode bytes pc = .ok (.ifnull o, 3)) (k : OAt W l Z bytes maxL own nm ret R n0 hz Q h cells slots (pc + 3) Ls st) : OAt W l Z bytes maxL own nm ret R n0 hz Q h cells slots pc Ls (.ref b :: st) :=
  k.plain fun hh hx hby _ q => XS.ifnullNo hh hx rfl (hb hby hd) rfl q
theorem ifnonnullYes {b : Addr} {o : Int} (pc' : Nat) (hd : decode bytes pc = .ok (.ifnonnull o, 3)) (ho : 0 ≤ (pc : Int) + o) (hp : ((pc : Int) + o).toNat = pc') (k : OAt W l Z bytes maxL own nm ret R n0 hz Q h cells slots pc' Ls st) : OAt W l Z bytes maxL own nm ret R n0 hz Q h cells slots pc Ls (.ref b :: st) :=
  k.plain fun hh hx hby _ q => XS.ifnonnullYes hh hx rfl rfl (hb hby hd) rfl ho hp q
theorem ifnonnullNo {o : Int} (hd : decode bytes pc = .ok (.ifnonnull o, 3)) (k : OAt W l Z bytes maxL own nm ret R n0 hz Q h cells slots (pc + 3) Ls st) : OAt W l Z bytes maxL own nm ret R n0 hz Q h cells slots pc Ls (.null :: st) :=
  k.plain fun hh hx hby _ q => XS.ifnonnullNo hh hx rfl (hb hby hd) rfl q
theorem acmp_eq {x y : Value} {o : Int} (pc' : Nat) (hd : decode bytes pc = .ok (.if_acmp .eq o, 3)) (ho : 0 ≤ (pc : Int) + o) (hp : ((pc : Int) + o).toNat = pc') (hx' : x.isRef = true) (hy' : y.isRef = true) (kt : x = y → OAt W l Z bytes maxL own nm ret R n0 hz Q h cells slots pc' Ls st) (kf : ¬ x = y → OAt W l Z bytes maxL own nm ret R n0 hz Q h cells slots (pc + 3) Ls st) : OAt W l Z bytes maxL own nm ret R n0 hz Q h cells slots pc Ls (y :: x :: st) := by
  by_cases hc : x = y
  · exact (kt hc).plain fun hh hx hby _ q => Jvm.Free.XT.acmpYes hh hx rfl rfl (hb hby hd) rfl hx' hy' (Jvm.Free.XT.aa_eq_t hc) ho hp q
  · exact (kf hc).plain fun hh hx hby _ q => Jvm.Free.XT.acmpNo hh hx rfl (hb hby hd) rfl hx' hy' (Jvm.Free.XT.aa_eq_f hc) q
theorem acmp_ne {x y : Value} {o : Int} (pc' : Nat) (hd : decode bytes pc = .ok (.if_acmp .ne o, 3)) (ho : 0 ≤ (pc : Int) + o) (hp : ((pc : Int) + o).toNat = pc') (hx' : x.isRef = true) (hy' : y.isRef = true) (kt : ¬ x = y → OAt W l Z bytes maxL own nm ret R n0 hz Q h cells slots pc' Ls st) (kf : x = y → OAt W l Z bytes maxL own nm ret R n0 hz Q h cells slots (pc + 3) Ls st) : OAt W l Z bytes maxL own nm ret R n0 hz Q h cells slots pc Ls (y :: x :: st) := by
  by_cases hc : ¬ x = y
  · exact (kt hc).plain fun hh hx hby _ q => Jvm.Free.XT.acmpYes hh hx rfl rfl (hb hby hd) rfl hx' hy' (Jvm.Free.XT.aa_ne_t hc) ho hp q
  · have hc' := Classical.not_not.mp hc; exact (kf hc').plain fun hh hx hby _ q => Jvm.Free.XT.acmpNo hh hx rfl (hb hby hd) rfl hx' hy' (Jvm.Free.XT.aa_ne_f hc') q
theorem irem_ {x y : Int32} (hd : decode bytes pc = .ok (.irem, 1)) (hy : y ≠ 0) (k : OAt W l Z bytes maxL own nm ret R n0 hz Q h cells slots (pc + 1) Ls (.int (x % y) :: st)) : OAt W l Z bytes maxL own nm ret R n0 hz Q h cells slots pc Ls (.int y :: .int x :: st) :=
  k.warm fun C X e => ⟨_, X, e, fun _ q => iremM X C.1 rfl (hb C.2.1 hd) rfl hy q⟩
theorem ldcInt {v : Int32} {i : Nat} (w : (Jvm.Cond.constant own i v).before a0 Z = true) (hd : decode bytes pc = .ok (.ldc i, 2)) (k : OAt W l Z bytes maxL own nm ret R n0 hz Q h cells slots (pc + 2) Ls (.int v :: st)) : OAt W l Z bytes maxL own nm ret R n0 hz Q h cells slots pc Ls st :=
  k.warm fun C X e => ⟨_, X, e, fun _ q => X.ldcI C.1 C.2.2.2.2.2.2.2 (mvT C.2.2.2.2.2.2.1 w) rfl (hb C.2.1 hd) q⟩
theorem ldcWInt {v : Int32} {i : Nat} (w : (Jvm.Cond.constant own i v).before a0 Z = true) (hd : decode bytes pc = .ok (.ldc_w i, 3)) (k : OAt W l Z bytes maxL own nm ret R n0 hz Q h cells slots (pc + 3) Ls (.int v :: st)) : OAt W l Z bytes maxL own nm ret R n0 hz Q h cells slots pc Ls st :=
  k.warm fun C X e => ⟨_, X, e, fun _ q => X.ldcWI C.1 C.2.2.2.2.2.2.2 (mvT C.2.2.2.2.2.2.1 w) rfl (hb C.2.1 hd) q⟩
theorem ldc2Long {v : Int64} {i : Nat} (w : (Jvm.Cond.constantLong own i v).before a0 Z = true) (hd : decode bytes pc = .ok (.ldc2_w i, 3)) (k : OAt W l Z bytes maxL own nm ret R n0 hz Q h cells slots (pc + 3) Ls (.long v :: st)) : OAt W l Z bytes maxL own nm ret R n0 hz Q h cells slots pc Ls st :=
  k.warm fun C X e => ⟨_, X, e, fun _ q => X.ldc2J C.1 C.2.2.2.2.2.2.2 (mvT C.2.2.2.2.2.2.1 w) rfl (hb C.2.1 hd) q⟩
/-! returns -/
theorem ret_int {z : Int32} (hret : ret = some .int) (hd : decode bytes pc = .ok (.ireturn, 1)) (hc : cells ≤ R.cells) (hn : slots ≤ R.slots) (hq : Q (some (.int z)) h) : OAt W l Z bytes maxL own nm ret R n0 hz Q h cells slots pc Ls (.int z :: st) :=
  OAt.done (by rw [hret]; nofun) hq hc hn fun C X hl => retOut X C.1 (t := .int) (C.2.2.2.1.trans hret) rfl (Or.inl ⟨rfl, Or.inl rfl, z, rfl⟩) (hb C.2.1 hd) hl
theorem ret_nar {z : Int32} {t : FieldType} (ht : t = .boolean ∨ t = .byte ∨ t = .char ∨ t = .short) (hret : ret = some t) (hd : decode bytes pc = .ok (.ireturn, 1)) (hc : cells ≤ R.cells) (hn : slots ≤ R.slots) (hq : Q (some (.int (nar t z))) h) : OAt W l Z bytes maxL own nm ret R n0 hz Q h cells slots pc Ls (.int z :: st) :=
  OAt.done (by rw [hret]; nofun) hq hc hn fun C X hl => retN X C.1 (C.2.2.2.1.trans hret) ht (hb C.2.1 hd) hl
theorem ret_long {z : Int64} (hret : ret = some .long) (hd : decode bytes pc = .ok (.lreturn, 1)) (hc : cells ≤ R.cells) (hn : slots ≤ R.slots) (hq : Q (some (.long z)) h) : OAt W l Z bytes maxL own nm ret R n0 hz Q h cells slots pc Ls (.long z :: st) :=
  OAt.done (by rw [hret]; nofun) hq hc hn fun C X hl => retOut X C.1 (t := .long) (C.2.2.2.1.trans hret) rfl (Or.inr (Or.inl ⟨rfl, rfl, z, rfl⟩)) (hb C.2.1 hd) hl
theorem ret_ref {v : Value} {t : FieldType} (hv : v.isRef = true) (ht : t.isReference = true) (hret : ret = some t) (hd : decode bytes pc = .ok (.areturn, 1)) (hc : cells ≤ R.cells) (hn : slots ≤ R.slots) (hq : Q (some v) h) : OAt W l Z bytes maxL own nm ret R n0 hz Q h cells slots pc Ls (v :: st) :=
  OAt.done (by rw [hret]; nofun) hq hc hn fun C X hl => retOut X C.1 (t := t) (C.2.2.2.1.trans hret) (by rcases ref_cases hv with rfl | ⟨a, rfl⟩ <;> cases t <;> first | rfl | (simp [FieldType.isReference] at ht)) (Or.inr (Or.inr (Or.inr (Or.inr ⟨rfl, ht, hv⟩)))) (hb C.2.1 hd) hl
theorem ret_void (hret : ret = none) (hd : decode bytes pc = .ok (.return_, 1)) (hc : cells ≤ R.cells) (hn : slots ≤ R.slots) (hq : Q none h) : OAt W l Z bytes maxL own nm ret R n0 hz Q h cells slots pc Ls [] :=
  OAt.done (fun _ => rfl) hq hc hn fun C X hl => X.returnOut C.1 (C.2.2.2.1.trans hret) (hb C.2.1 hd) hl

theorem Cx.exec {p : Program} {vm0 : Vm} {m : MethodId} {meth : Method} {c : Code} (C : Cx Z bytes maxL own nm ret p vm0 m meth c) : p.tables.exec = Jvm.exec := C.1
theorem Cx.by {p : Program} {vm0 : Vm} {m : MethodId} {meth : Method} {c : Code} (C : Cx Z bytes maxL own nm ret p vm0 m meth c) : c.code = bytes := C.2.1
theorem Cx.ml {p : Program} {vm0 : Vm} {m : MethodId} {meth : Method} {c : Code} (C : Cx Z bytes maxL own nm ret p vm0 m meth c) : c.maxLocals = maxL := C.2.2.1
theorem Cx.name {p : Program} {vm0 : Vm} {m : MethodId} {meth : Method} {c : Code} (C : Cx Z bytes maxL own nm ret p vm0 m meth c) : meth.name = nm := C.2.2.2.2.2.1
theorem Cx.zz {p : Program} {vm0 : Vm} {m : MethodId} {meth : Method} {c : Code} (C : Cx Z bytes maxL own nm ret p vm0 m meth c) : Z.Warmed39 vm0 := C.2.2.2.2.2.2.1
theorem Cx.ow {p : Program} {vm0 : Vm} {m : MethodId} {meth : Method} {c : Code} (C : Cx Z bytes maxL own nm ret p vm0 m meth c) : vm0.findClass own = some m.cls := C.2.2.2.2.2.2.2
/-! objects and fields -/
theorem new_ {C : String} {i n : Nat} (w : (Jvm.Cond.classLink own i C).before a0 Z = true) (wi : (Jvm.Cond.instantiable C n).before a0 Z = true) (wz : (Jvm.Cond.initialized C).before a0 Z = true) (hd : decode bytes pc = .ok (.new i, 3)) (hc : cells + 1 ≤ R.cells) (hl : slots + n ≤ R.slots)
    (k : ∀ (h' : Heap) (a : Addr), a = h.size → Ext h h' → Exa Z h' a C → (∀ {O f d : String} {ty : FieldType}, Laid Z a0 C O f d → parseFieldDescriptor d = some ty → Fld Z h' a O f d (defaultValue ty)) → OAt W l Z bytes maxL own nm ret R n0 hz Q h' (cells + 1) (slots + n) (pc + 3) Ls (.ref a :: st)) : OAt W l Z bytes maxL own nm ret R n0 hz Q h cells slots pc Ls st :=
  OAt.move (P := fun h' => Ext h h' ∧ Exa Z h' h.size C ∧ ∀ {O f d : String} {ty : FieldType}, Laid Z a0 C O f d → parseFieldDescriptor d = some ty → Fld Z h' h.size O f d (defaultValue ty)) (st' := fun _ => .ref h.size :: st) (fun _ q => q.1.1) (fun h' q => k h' _ rfl q.1 q.2.1 q.2.2) fun C X e N => by
    obtain ⟨T', h', X', e', E, A, D, -, g⟩ := newO X C.exec C.zz C.ow w wi wz e (g := mkF _ pc Ls st) rfl (hb C.by hd) hc hl
    exact ⟨T', h', _, X', e', N, ⟨E, A, D⟩, g⟩
theorem getF_ {R0 O f d host : String} {i : Nat} {a : Addr} {v : Value} (w : (Jvm.Cond.fieldLink own i R0 f d).before a0 Z = true ∨ (Jvm.Cond.fieldLinkNest own i R0 f d host).before a0 Z = true) (via : Via Z R0 O f d) (F : Fld Z h a O f d v) (hd : decode bytes pc = .ok (.getfield i, 3)) (k : OAt W l Z bytes maxL own nm ret R n0 hz Q h cells slots (pc + 3) Ls (v :: st)) : OAt W l Z bytes maxL own nm ret R n0 hz Q h cells slots pc Ls (.ref a :: st) :=
  k.warm fun C X e => Jvm.RoadKit.getF X C.exec C.zz C.ow w via e F (g := mkF _ pc Ls (.ref a :: st)) rfl rfl (hb C.by hd)
theorem getS_ {R0 O f d host : String} {i : Nat} {v : Value} (w : (Jvm.Cond.fieldLink own i R0 f d).before a0 Z = true ∨ (Jvm.Cond.fieldLinkNest own i R0 f d host).before a0 Z = true) (via : Via Z R0 O f d) (F : Sta Z h O f d v) (hd : decode bytes pc = .ok (.getstatic i, 3)) (k : OAt W l Z bytes maxL own nm ret R n0 hz Q h cells slots (pc + 3) Ls (v :: st)) : OAt W l Z bytes maxL own nm ret R n0 hz Q h cells slots pc Ls st :=
  k.warm fun C X e => getS2 X C.exec C.zz C.ow w via e F (g := mkF _ pc Ls st) rfl (hb C.by hd)
theorem putF_ {R0 O f d host K : String} {i kk : Nat} {ty : FieldType} {a : Addr} {v old : Value} (w : (Jvm.Cond.fieldLink own i R0 f d).before a0 Z = true ∨ (Jvm.Cond.fieldLinkNest own i R0 f d host).before a0 Z = true) (via : Via Z R0 O f d) (F : Fld Z h a O f d old) (E : Exa Z h a K)
    (L : (Jvm.Cond.lays K O f d).before a0 Z = true ∨ ((Jvm.Cond.laysFinal K O f d).before a0 Z = true ∧ own = O ∧ nm = "<init>")) (wi : (Jvm.Cond.instantiable K kk).before a0 Z = true) (hty : parseFieldDescriptor d = some ty) (hn : narrow ty v = v) (hf : fits ty v = true) (ha : n0 ≤ a) (hd : decode bytes pc = .ok (.putfield i, 3))
    (k : ∀ h', Wr h h' a (Jvm.RoadKit.slotOf Z O f d) v → OAt W l Z bytes maxL own nm ret R n0 hz Q h' cells slots (pc + 3) Ls st) : OAt W l Z bytes maxL own nm ret R n0 hz Q h cells slots pc Ls (v :: .ref a :: st) :=
  OAt.move (P := fun h' => Wr h h' a (Jvm.RoadKit.slotOf Z O f d) v) (st' := fun _ => st) (fun _ q => Nat.le_of_eq q.size.symm) k fun C X e N => by
    obtain ⟨T', h', X', e', W', g⟩ := putF X C.exec C.zz C.ow w via e F E (L.imp id fun q => ⟨q.1, q.2.1, C.name.trans q.2.2⟩) wi hty hn hf (g := mkF _ pc Ls (v :: .ref a :: st)) rfl rfl (hb C.by hd)
    exact ⟨T', h', _, X', e', Fr.snoc X' N ha, W', g⟩
theorem putFN_ {R0 O f d K : String} {i kk : Nat} {ty : FieldType} {a : Addr} {v v' old : Value} (w : (Jvm.Cond.fieldLink own i R0 f d).before a0 Z = true) (via : Via Z R0 O f d) (F : Fld Z h a O f d old) (E : Exa Z h a K)
    (L : (Jvm.Cond.lays K O f d).before a0 Z = true ∨ ((Jvm.Cond.laysFinal K O f d).before a0 Z = true ∧ own = O ∧ nm = "<init>")) (wi : (Jvm.Cond.instantiable K kk).before a0 Z = true) (hty : parseFieldDescriptor d = some ty) (hn : narrow ty v = v') (hf : fits ty v' = true) (ha : n0 ≤ a) (hd : decode bytes pc = .ok (.putfield i, 3))
    (k : ∀ h', Wr h h' a (Jvm.RoadKit.slotOf Z O f d) v' → OAt W l Z bytes maxL own nm ret R n0 hz Q h' cells slots (pc + 3) Ls st) : OAt W l Z bytes maxL own nm ret R n0 hz Q h cells slots pc Ls (v :: .ref a :: st) :=
  OAt.move (P := fun h' => Wr h h' a (Jvm.RoadKit.slotOf Z O f d) v') (st' := fun _ => st) (fun _ q => Nat.le_of_eq q.size.symm) k fun C X e N => by
    obtain ⟨T', h', X', e', W', g⟩ := putFN X C.exec C.zz C.ow w via e F E (L.imp id fun q => ⟨q.1, q.2.1, C.name.trans q.2.2⟩) wi hty hn hf (g := mkF _ pc Ls (v :: .ref a :: st)) rfl rfl (hb C.by hd)
    exact ⟨T', h', _, X', e', Fr.snoc X' N ha, W', g⟩
theorem initO_ {i : Nat} {a : Addr} (w1 : (Jvm.Cond.methodLink own i Lib.objectInit).before a0 Z = true) (w2 : (Jvm.Cond.instanceMethod Lib.objectInit).before a0 Z = true) (w3 : (Jvm.Cond.code Lib.objectInit ⟨#[0xb1]⟩ 1 none).before a0 Z = true) (hd : decode bytes pc = .ok (.invokespecial i, 3)) (hs : Ls.size = maxL) (hf : 1 ≤ R.frames)
    (wt : Nat) (hW : (st.map fun v => v.category).sum = wt) (hl : wt + 12 ≤ R.locals) (k : OAt W l Z bytes maxL own nm ret R n0 hz Q h cells slots (pc + 3) Ls st) : OAt W l Z bytes maxL own nm ret R n0 hz Q h cells slots pc Ls (.ref a :: st) :=
  k.warm fun C X e => initO X C.exec C.zz C.ow w1 w2 w3 e (g := mkF _ pc Ls (.ref a :: st)) rfl (by rw [C.ml]; exact hs) rfl (hb C.by hd) hf (W := wt) (by show 2 * 0 + _ ≤ _; rw [hW]; omega) hl
theorem castY_ {K : String} {i : Nat} {a : Addr} (w : (Jvm.Cond.classLink own i K).before a0 Z = true) (F : Ins Z h a K true) (hd : decode bytes pc = .ok (.checkcast i, 3)) (k : OAt W l Z bytes maxL own nm ret R n0 hz Q h cells slots (pc + 3) Ls (.ref a :: st)) : OAt W l Z bytes maxL own nm ret R n0 hz Q h cells slots pc Ls (.ref a :: st) :=
  k.warm fun C X e => castY X C.exec C.zz C.ow w e F (g := mkF _ pc Ls (.ref a :: st)) rfl rfl (hb C.by hd)
theorem castNull {i : Nat} (hd : decode bytes pc = .ok (.checkcast i, 3)) (k : OAt W l Z bytes maxL own nm ret R n0 hz Q h cells slots (pc + 3) Ls (.null :: st)) : OAt W l Z bytes maxL own nm ret R n0 hz Q h cells slots pc Ls (.null :: st) :=
  k.warm fun C X e => ⟨_, X, e, X.checkcastNull C.exec (g := mkF _ pc Ls (.null :: st)) rfl rfl (hb C.by hd)⟩
theorem instY_ {K : String} {i : Nat} {a : Addr} (w : (Jvm.Cond.classLink own i K).before a0 Z = true) (F : Ins Z h a K true) (hd : decode bytes pc = .ok (.instanceof i, 3)) (k : OAt W l Z bytes maxL own nm ret R n0 hz Q h cells slots (pc + 3) Ls (.int 1 :: st)) : OAt W l Z bytes maxL own nm ret R n0 hz Q h cells slots pc Ls (.ref a :: st) :=
  k.warm fun C X e => instY X C.exec C.zz C.ow w e F (g := mkF _ pc Ls (.ref a :: st)) rfl rfl (hb C.by hd)
/-! arrays: a list of what they hold -/
def Arl (Z : State) (h : Heap) (a : Addr) (k : ClassId) (ty : FieldType) (vs : List Value) : Prop := ∃ c : Cell, Arr Z h a c ty ∧ c.cls = k ∧ c.slots.toList = vs ∧ vs.length < 2 ^ 31 ∧ ∀ v ∈ vs, fits ty v = true
section Arl
variable {a b : Addr} {ka : ClassId} {ty : FieldType} {vs : List Value} {v : Value} {sl : Nat} {ws : List Addr}
theorem Arl.lt (F : Arl Z h a ka ty vs) : a < h.size := by obtain ⟨c, A, -⟩ := F; exact A.lt
theorem Arl.len (F : Arl Z h a ka ty vs) : vs.length < 2 ^ 31 := by obtain ⟨c, -, -, -, q, -⟩ := F; exact q
theorem Arl.fits (F : Arl Z h a ka ty vs) : ∀ v ∈ vs, Jvm.fits ty v = true := by obtain ⟨c, -, -, -, -, q⟩ := F; exact q
theorem Arl.ext (F : Arl Z h a ka ty vs) (E : Ext h h') : Arl Z h' a ka ty vs := by obtain ⟨c, A, r⟩ := F; exact ⟨c, A.ext E, r⟩
theorem Arl.other (F : Arl Z h b ka ty vs) (W : Wr h h' a sl v) (q : b ≠ a) : Arl Z h' b ka ty vs := by obtain ⟨c, A, r⟩ := F; exact ⟨c, A.other W q, r⟩
theorem Arl.keep (F : Arl Z h a ka ty vs) (K : Keep h h' ws) (q : a ∉ ws) : Arl Z h' a ka ty vs := by obtain ⟨c, A, r⟩ := F; exact ⟨c, ⟨K.2.1 a c A.1 q, A.2⟩, r⟩
theorem Arl.of_new {n : Int32} {N : Nat} (A : Arr Z h a (newA ka ty n) ty) (hn : n.toInt = N) (hf : Jvm.fits ty (defaultValue ty) = true) : Arl Z h a ka ty (List.replicate N (defaultValue ty)) := by
  have hN : n.toNatClampNeg = N := by have h1 : n.toNatClampNeg = n.toInt.toNat := rfl; rw [h1, hn]; rfl
  refine ⟨_, A, rfl, ?_, ?_, ?_⟩
  · simp [newA, hN]
  · rw [List.length_replicate]; have := n.toInt_lt; omega
  · intro v hv; rw [List.mem_replicate] at hv; rw [hv.2]; exact hf
theorem idx_of {j : Int32} {i : Nat} (hj : j.toInt = i) : ¬ j < 0 ∧ j.toNatClampNeg = i := by
  refine ⟨fun q => ?_, ?_⟩
  · rw [Int32.lt_iff_toInt_lt, hj] at q; have : (0 : Int32).toInt = 0 := rfl; omega
  · have h1 : j.toNatClampNeg = j.toInt.toNat := rfl
    rw [h1, hj]; rfl
theorem Arl.at (F : Arl Z h a ka ty vs) {j : Int32} {i : Nat} (hj : j.toInt = i) (hv : vs[i]? = some v) : ∃ c : Cell, Arr Z h a c ty ∧ ¬ (j < 0 ∨ c.slots.size ≤ j.toNatClampNeg) ∧ c.slots[j.toNatClampNeg]? = some v := by
  obtain ⟨c, A, h1, h2, h3, h4⟩ := F
  obtain ⟨q1, q2⟩ := idx_of hj
  have hi : i < vs.length := (List.getElem?_eq_some_iff.mp hv).1
  have hs : c.slots.size = vs.length := by rw [← h2]; simp
  refine ⟨c, A, ?_, ?_⟩
  · rw [q2]; rintro (x | x)
    · exact q1 x
    · omega
  · rw [q2, ← Array.getElem?_toList, h2]; exact hv
theorem Arl.set (F : Arl Z h a ka ty vs) {i : Nat} (hf : Jvm.fits ty v = true) (W : Wr h h' a i v) : Arl Z h' a ka ty (vs.set i v) := by
  obtain ⟨c, A, h1, h2, h3, h4⟩ := F
  refine ⟨_, A.same W, h1, ?_, by simpa using h3, ?_⟩
  · subst h2; simp [Cell.setSlot]
  · intro w hw
    rcases List.mem_or_eq_of_mem_set hw with q | q
    · exact h4 _ q
    · rw [q]; exact hf
theorem Arl.inb (F : Arl Z h a ka ty vs) {j : Int32} {i : Nat} (hj : j.toInt = i) (hi : i < vs.length) : ∃ c : Cell, Arr Z h a c ty ∧ ¬ (j < 0 ∨ c.slots.size ≤ j.toNatClampNeg) := by
  obtain ⟨c, A, q, -⟩ := F.at hj (v := vs[i]) (List.getElem?_eq_getElem hi)
  exact ⟨c, A, q⟩
theorem Arl.nostat (F : Arl Z h a ka ty vs) : ∀ cell : Cell, h[a]? = some cell → cell.vm.isStatics = false := by obtain ⟨c, A, -⟩ := F; exact A.nostat
theorem sto_of {y : Addr} {C : String} (F : Arl Z h a ka ty vs) (O : Ovr Z ka C) (I : Ins Z h y C true) : Sto Z h a (.ref y) := by obtain ⟨c, A, q, -⟩ := F; exact Sto.ofV A q O I
theorem sta_keep {C n d : String} {w : Value} (F : Sta Z h C n d w) (K : Keep h h' ws) (hw : ∀ x ∈ ws, ∀ cell : Cell, h[x]? = some cell → cell.vm.isStatics = false) : Sta Z h' C n d w := by
  obtain ⟨cf, i, k, f, st, cell, h1, h2, h3, h4, h5, h6, h7⟩ := F
  refine ⟨cf, i, k, f, st, cell, h1, h2, h3, h4, K.2.1 _ _ h5 fun q => ?_, h6, h7⟩
  rw [hw st q cell h5] at h6; cases h6
theorem narrow_ref {t : FieldType} {w : Value} (hv : w.isRef = true) (ht : t.isReference = true) : narrow t w = w := by rcases ref_cases hv with rfl | ⟨x, rfl⟩ <;> cases t <;> first | rfl | (simp [FieldType.isReference] at ht)
theorem fits_ref' {t : FieldType} {w : Value} (hv : w.isRef = true) (ht : t.isReference = true) : Jvm.fits t w = true := by rcases ref_cases hv with rfl | ⟨x, rfl⟩ <;> cases t <;> first | rfl | (simp [FieldType.isReference] at ht)
theorem Arl.arv (F : Arl Z h a ka ty vs) (d : Value) {z : Int32} (hz : z.toInt = vs.length) : Arv Z h a ka ty z vs d := by
  obtain ⟨c, A, h1, h2, h3, h4⟩ := F
  obtain ⟨q1, q2⟩ := idx_of hz
  have hs : c.slots.size = vs.length := by rw [← h2]; simp
  refine ⟨c, A, h1, hs.trans q2.symm, q1, ?_, ?_⟩
  · intro k hk
    have hk' : k < vs.length := by omega
    rw [← Array.getElem?_toList, h2, List.getD_eq_getElem?_getD, List.getElem?_eq_getElem hk']; rfl
  · intro i hi
    have hi' : i < vs.length := by omega
    rw [List.getD_eq_getElem?_getD, List.getElem?_eq_getElem hi']
    exact h4 _ (List.getElem_mem hi')
theorem Arl.of_arv {d : Value} {z : Int32} (F : Arv Z h a ka ty z vs d) (hz : z.toInt = vs.length) : Arl Z h a ka ty vs := by
  obtain ⟨c, A, h1, h2, h3, h4, h5⟩ := F
  obtain ⟨q1, q2⟩ := idx_of hz
  have hs : c.slots.size = vs.length := h2.trans q2
  have hv : ∀ k (hk : k < vs.length), vs.getD k d = vs[k] := fun k hk => by rw [List.getD_eq_getElem?_getD, List.getElem?_eq_getElem hk]; rfl
  refine ⟨c, A, h1, ?_, ?_, ?_⟩
  · apply List.ext_getElem?
    intro k
    rw [Array.getElem?_toList]
    by_cases hk : k < vs.length
    · rw [h4 k (by omega), List.getElem?_eq_getElem hk, hv k hk]
    · rw [List.getElem?_eq_none (by omega), Array.getElem?_eq_none (by omega)]
  · have := z.toInt_lt; omega
  · intro v hm
    obtain ⟨i, hi, rfl⟩ := List.getElem_of_mem hm
    rw [← hv i hi]; exact h5 i (by omega)
end Arl
theorem newarray_ {aty : ArrayType} {n : Int32} {N : Nat} (cap : Nat) (ty : FieldType) (hty : newarray.typeOf aty = ty) (w : (Jvm.Cond.arrayClass ty).before a0 Z = true) (hd : decode bytes pc = .ok (.newarray aty, 2)) (hn : n.toInt = N) (hcap : N ≤ cap) (hb' : cap * 8 ≤ 536870912) (hc : cells + 1 ≤ R.cells) (hl : slots + cap ≤ R.slots) (hf : fits ty (defaultValue ty) = true)
    (k : ∀ (h' : Heap) (a : Addr) (ka : ClassId), a = h.size → Ext h h' → Arl Z h' a ka ty (List.replicate N (defaultValue ty)) → OAt W l Z bytes maxL own nm ret R n0 hz Q h' (cells + 1) (slots + cap) (pc + 2) Ls (.ref a :: st)) : OAt W l Z bytes maxL own nm ret R n0 hz Q h cells slots pc Ls (.int n :: st) := by
  subst hty
  obtain ⟨q1, q2⟩ := idx_of hn
  exact OAt.move (P := fun h' => Ext h h' ∧ ∃ ka, Arl Z h' h.size ka (newarray.typeOf aty) (List.replicate N (defaultValue (newarray.typeOf aty)))) (st' := fun _ => .ref h.size :: st) (fun _ q => q.1.1) (fun h' q => by obtain ⟨q1, ka, q2⟩ := q; exact k h' _ ka rfl q1 q2) fun C X e N => by
    obtain ⟨T', h', cA, X', e', E, A, g⟩ := newP X C.exec C.zz w e (g := mkF _ pc Ls (.int n :: st)) rfl (hb C.by hd) rfl q1 (cap := cap) (by omega) hb' hc hl
    exact ⟨T', h', _, X', e', N, ⟨E, cA, Arl.of_new A hn hf⟩, g⟩
theorem anewarray_ {K : String} {i : Nat} {n : Int32} {N : Nat} (cap : Nat) (w1 : (Jvm.Cond.classLink own i K).before a0 Z = true) (w2 : (Jvm.Cond.arrayOver (.object K)).before a0 Z = true) (hd : decode bytes pc = .ok (.anewarray i, 3)) (hn : n.toInt = N) (hcap : N ≤ cap) (hb' : cap * 8 ≤ 536870912) (hc : cells + 1 ≤ R.cells) (hl : slots + cap ≤ R.slots)
    (k : ∀ (h' : Heap) (a : Addr) (ka : ClassId), a = h.size → Ext h h' → Ovr Z ka K → Arl Z h' a ka (.object K) (List.replicate N .null) → OAt W l Z bytes maxL own nm ret R n0 hz Q h' (cells + 1) (slots + cap) (pc + 3) Ls (.ref a :: st)) : OAt W l Z bytes maxL own nm ret R n0 hz Q h cells slots pc Ls (.int n :: st) := by
  obtain ⟨q1, q2⟩ := idx_of hn
  exact OAt.move (P := fun h' => Ext h h' ∧ ∃ ka, Ovr Z ka K ∧ Arl Z h' h.size ka (.object K) (List.replicate N .null)) (st' := fun _ => .ref h.size :: st) (fun _ q => q.1.1) (fun h' q => by obtain ⟨q1, ka, q3, q2⟩ := q; exact k h' _ ka rfl q1 q3 q2) fun C X e N => by
    obtain ⟨T', h', cA, X', e', E, A, O, g⟩ := newR X C.exec C.zz C.ow w1 w2 e (g := mkF _ pc Ls (.int n :: st)) rfl (hb C.by hd) rfl q1 (cap := cap) (by omega) hb' hc hl
    exact ⟨T', h', _, X', e', N, ⟨E, cA, O, Arl.of_new A hn rfl⟩, g⟩
theorem arraylength_ {a : Addr} {ka : ClassId} {ty : FieldType} {vs : List Value} (z : Int32) (F : Arl Z h a ka ty vs) (hz' : vs.length.toInt32 = z) (hd : decode bytes pc = .ok (.arraylength, 1)) (k : OAt W l Z bytes maxL own nm ret R n0 hz Q h cells slots (pc + 1) Ls (.int z :: st)) : OAt W l Z bytes maxL own nm ret R n0 hz Q h cells slots pc Ls (.ref a :: st) :=
  k.warm fun C X e => by
    obtain ⟨c, A, h1, h2, h3, h4⟩ := F
    have hs : c.slots.size.toInt32 = z := by rw [← hz', ← h2]; simp
    refine ⟨_, X, e, fun t q => X.arraylength C.exec (by rw [e]; exact A.1) (State.isArrayOf_alike C.zz.alike A.2.1) (g := mkF _ pc Ls (.ref a :: st)) rfl rfl (hb C.by hd) t ?_⟩
    rw [hs]; exact q
theorem iaload_ {a : Addr} {ka : ClassId} {vs : List Value} {j : Int32} {i : Nat} {v : Value} (F : Arl Z h a ka .int vs) (hj : j.toInt = i) (hv : vs[i]? = some v) (hd : decode bytes pc = .ok (.iaload, 1)) (k : OAt W l Z bytes maxL own nm ret R n0 hz Q h cells slots (pc + 1) Ls (v :: st)) : OAt W l Z bytes maxL own nm ret R n0 hz Q h cells slots pc Ls (.int j :: .ref a :: st) :=
  k.warm fun C X e => by
    obtain ⟨c, A, h1, h2⟩ := F.at hj hv
    exact ⟨_, X, e, fun t q => X.iaload C.exec (by rw [e]; exact A.1) (State.isArrayOf_alike C.zz.alike A.2.1) A.2.2 h1 h2 (g := mkF _ pc Ls (.int j :: .ref a :: st)) rfl rfl (hb C.by hd) t q⟩
theorem laload_ {a : Addr} {ka : ClassId} {vs : List Value} {j : Int32} {i : Nat} {v : Value} (F : Arl Z h a ka .long vs) (hj : j.toInt = i) (hv : vs[i]? = some v) (hd : decode bytes pc = .ok (.laload, 1)) (k : OAt W l Z bytes maxL own nm ret R n0 hz Q h cells slots (pc + 1) Ls (v :: st)) : OAt W l Z bytes maxL own nm ret R n0 hz Q h cells slots pc Ls (.int j :: .ref a :: st) :=
  k.warm fun C X e => by
    obtain ⟨c, A, h1, h2⟩ := F.at hj hv
    exact ⟨_, X, e, fun t q => X.laload C.exec (by rw [e]; exact A.1) (State.isArrayOf_alike C.zz.alike A.2.1) A.2.2 h1 h2 (g := mkF _ pc Ls (.int j :: .ref a :: st)) rfl rfl (hb C.by hd) t q⟩
theorem caload_ {a : Addr} {ka : ClassId} {vs : List Value} {j : Int32} {i : Nat} {v : Value} (F : Arl Z h a ka .char vs) (hj : j.toInt = i) (hv : vs[i]? = some v) (hd : decode bytes pc = .ok (.caload, 1)) (k : OAt W l Z bytes maxL own nm ret R n0 hz Q h cells slots (pc + 1) Ls (v :: st)) : OAt W l Z bytes maxL own nm ret R n0 hz Q h cells slots pc Ls (.int j :: .ref a :: st) :=
  k.warm fun C X e => by
    obtain ⟨c, A, h1, h2⟩ := F.at hj hv
    exact ⟨_, X, e, fun t q => X.caload C.exec (by rw [e]; exact A.1) (State.isArrayOf_alike C.zz.alike A.2.1) A.2.2 h1 h2 (g := mkF _ pc Ls (.int j :: .ref a :: st)) rfl rfl (hb C.by hd) t q⟩
theorem baload_ {a : Addr} {ka : ClassId} {vs : List Value} {j : Int32} {i : Nat} {v : Value} (F : Arl Z h a ka .byte vs) (hj : j.toInt = i) (hv : vs[i]? = some v) (hd : decode bytes pc = .ok (.baload, 1)) (k : OAt W l Z bytes maxL own nm ret R n0 hz Q h cells slots (pc + 1) Ls (v :: st)) : OAt W l Z bytes maxL own nm ret R n0 hz Q h cells slots pc Ls (.int j :: .ref a :: st) :=
  k.warm fun C X e => by
    obtain ⟨c, A, h1, h2⟩ := F.at hj hv
    exact ⟨_, X, e, fun t q => X.baloadBytes C.exec (by rw [e]; exact A.1) (State.isArrayOf_alike C.zz.alike A.2.1) A.2.2 h1 h2 (g := mkF _ pc Ls (.int j :: .ref a :: st)) rfl rfl (hb C.by hd) t q⟩
theorem zaload_ {a : Addr} {ka : ClassId} {vs : List Value} {j : Int32} {i : Nat} {v : Value} (F : Arl Z h a ka .boolean vs) (hj : j.toInt = i) (hv : vs[i]? = some v) (hd : decode bytes pc = .ok (.baload, 1)) (k : OAt W l Z bytes maxL own nm ret R n0 hz Q h cells slots (pc + 1) Ls (v :: st)) : OAt W l Z bytes maxL own nm ret R n0 hz Q h cells slots pc Ls (.int j :: .ref a :: st) :=
  k.warm fun C X e => by
    obtain ⟨c, A, h1, h2⟩ := F.at hj hv
    exact ⟨_, X, e, fun t q => X.baloadBooleans C.exec (by rw [e]; exact A.1) (State.isArrayOf_alike C.zz.alike A.2.1) A.2.2 h1 h2 (g := mkF _ pc Ls (.int j :: .ref a :: st)) rfl rfl (hb C.by hd) t q⟩
theorem aaload_ {a : Addr} {ka : ClassId} {ty : FieldType} {vs : List Value} {j : Int32} {i : Nat} {v : Value} (F : Arl Z h a ka ty vs) (hty : ty.isReference = true) (hj : j.toInt = i) (hv : vs[i]? = some v) (hd : decode bytes pc = .ok (.aaload, 1)) (k : OAt W l Z bytes maxL own nm ret R n0 hz Q h cells slots (pc + 1) Ls (v :: st)) : OAt W l Z bytes maxL own nm ret R n0 hz Q h cells slots pc Ls (.int j :: .ref a :: st) :=
  k.warm fun C X e => by
    obtain ⟨c, A, h1, h2⟩ := F.at hj hv
    exact ⟨_, X, e, fun t q => X.aaload C.exec (by rw [e]; exact A.1) (State.isArrayOf_alike C.zz.alike A.2.1) hty A.2.2 h1 h2 (g := mkF _ pc Ls (.int j :: .ref a :: st)) rfl rfl (hb C.by hd) t q⟩
theorem iastore_ {a : Addr} {ka : ClassId} {vs : List Value} {j : Int32} {x : Int32} {i : Nat} (F : Arl Z h a ka .int vs) (hj : j.toInt = i) (hi : i < vs.length) (ha : n0 ≤ a) (hd : decode bytes pc = .ok (.iastore, 1)) (k : ∀ h', Wr h h' a i (.int x) → Arl Z h' a ka .int (vs.set i (.int x)) → OAt W l Z bytes maxL own nm ret R n0 hz Q h' cells slots (pc + 1) Ls st) : OAt W l Z bytes maxL own nm ret R n0 hz Q h cells slots pc Ls (.int x :: .int j :: .ref a :: st) :=
  OAt.move (P := fun h' => Wr h h' a i (.int x) ∧ Arl Z h' a ka .int (vs.set i (.int x))) (st' := fun _ => st) (fun _ q => Nat.le_of_eq q.1.size.symm) (fun h' q => k h' q.1 q.2) fun C X e N => by
    obtain ⟨c, A, h1⟩ := F.inb hj hi
    obtain ⟨T', h', X', e', W', g⟩ := stI X C.exec C.zz e A h1 (g := mkF _ pc Ls (.int x :: .int j :: .ref a :: st)) rfl rfl (hb C.by hd)
    rw [(idx_of hj).2] at W'
    exact ⟨T', h', _, X', e', Fr.snoc X' N ha, ⟨W', F.set (rfl) W'⟩, g⟩
theorem lastore_ {a : Addr} {ka : ClassId} {vs : List Value} {j : Int32} {x : Int64} {i : Nat} (F : Arl Z h a ka .long vs) (hj : j.toInt = i) (hi : i < vs.length) (ha : n0 ≤ a) (hd : decode bytes pc = .ok (.lastore, 1)) (k : ∀ h', Wr h h' a i (.long x) → Arl Z h' a ka .long (vs.set i (.long x)) → OAt W l Z bytes maxL own nm ret R n0 hz Q h' cells slots (pc + 1) Ls st) : OAt W l Z bytes maxL own nm ret R n0 hz Q h cells slots pc Ls (.long x :: .int j :: .ref a :: st) :=
  OAt.move (P := fun h' => Wr h h' a i (.long x) ∧ Arl Z h' a ka .long (vs.set i (.long x))) (st' := fun _ => st) (fun _ q => Nat.le_of_eq q.1.size.symm) (fun h' q => k h' q.1 q.2) fun C X e N => by
    obtain ⟨c, A, h1⟩ := F.inb hj hi
    obtain ⟨T', h', X', e', W', g⟩ := stJ X C.exec C.zz e A h1 (g := mkF _ pc Ls (.long x :: .int j :: .ref a :: st)) rfl rfl (hb C.by hd)
    rw [(idx_of hj).2] at W'
    exact ⟨T', h', _, X', e', Fr.snoc X' N ha, ⟨W', F.set (rfl) W'⟩, g⟩
theorem castore_ {a : Addr} {ka : ClassId} {vs : List Value} {j : Int32} {x : Int32} {i : Nat} (F : Arl Z h a ka .char vs) (hj : j.toInt = i) (hi : i < vs.length) (ha : n0 ≤ a) (hd : decode bytes pc = .ok (.castore, 1)) (k : ∀ h', Wr h h' a i (.int (nar .char x)) → Arl Z h' a ka .char (vs.set i (.int (nar .char x))) → OAt W l Z bytes maxL own nm ret R n0 hz Q h' cells slots (pc + 1) Ls st) : OAt W l Z bytes maxL own nm ret R n0 hz Q h cells slots pc Ls (.int x :: .int j :: .ref a :: st) :=
  OAt.move (P := fun h' => Wr h h' a i (.int (nar .char x)) ∧ Arl Z h' a ka .char (vs.set i (.int (nar .char x)))) (st' := fun _ => st) (fun _ q => Nat.le_of_eq q.1.size.symm) (fun h' q => k h' q.1 q.2) fun C X e N => by
    obtain ⟨c, A, h1⟩ := F.inb hj hi
    obtain ⟨T', h', X', e', W', g⟩ := stC X C.exec C.zz e A h1 (g := mkF _ pc Ls (.int x :: .int j :: .ref a :: st)) rfl rfl (hb C.by hd)
    rw [(idx_of hj).2] at W'
    exact ⟨T', h', _, X', e', Fr.snoc X' N ha, ⟨W', F.set (fits_nar_char x) W'⟩, g⟩
theorem bastore_ {a : Addr} {ka : ClassId} {vs : List Value} {j : Int32} {x : Int32} {i : Nat} (F : Arl Z h a ka .byte vs) (hj : j.toInt = i) (hi : i < vs.length) (ha : n0 ≤ a) (hd : decode bytes pc = .ok (.bastore, 1)) (k : ∀ h', Wr h h' a i (.int (nar .byte x)) → Arl Z h' a ka .byte (vs.set i (.int (nar .byte x))) → OAt W l Z bytes maxL own nm ret R n0 hz Q h' cells slots (pc + 1) Ls st) : OAt W l Z bytes maxL own nm ret R n0 hz Q h cells slots pc Ls (.int x :: .int j :: .ref a :: st) :=
  OAt.move (P := fun h' => Wr h h' a i (.int (nar .byte x)) ∧ Arl Z h' a ka .byte (vs.set i (.int (nar .byte x)))) (st' := fun _ => st) (fun _ q => Nat.le_of_eq q.1.size.symm) (fun h' q => k h' q.1 q.2) fun C X e N => by
    obtain ⟨c, A, h1⟩ := F.inb hj hi
    obtain ⟨T', h', X', e', W', g⟩ := stB X C.exec C.zz e A h1 (g := mkF _ pc Ls (.int x :: .int j :: .ref a :: st)) rfl rfl (hb C.by hd)
    rw [(idx_of hj).2] at W'
    exact ⟨T', h', _, X', e', Fr.snoc X' N ha, ⟨W', F.set (fits_nar_byte x) W'⟩, g⟩
theorem zastore_ {a : Addr} {ka : ClassId} {vs : List Value} {j : Int32} {x : Int32} {i : Nat} (F : Arl Z h a ka .boolean vs) (hj : j.toInt = i) (hi : i < vs.length) (ha : n0 ≤ a) (hd : decode bytes pc = .ok (.bastore, 1)) (k : ∀ h', Wr h h' a i (.int (nar .boolean x)) → Arl Z h' a ka .boolean (vs.set i (.int (nar .boolean x))) → OAt W l Z bytes maxL own nm ret R n0 hz Q h' cells slots (pc + 1) Ls st) : OAt W l Z bytes maxL own nm ret R n0 hz Q h cells slots pc Ls (.int x :: .int j :: .ref a :: st) :=
  OAt.move (P := fun h' => Wr h h' a i (.int (nar .boolean x)) ∧ Arl Z h' a ka .boolean (vs.set i (.int (nar .boolean x)))) (st' := fun _ => st) (fun _ q => Nat.le_of_eq q.1.size.symm) (fun h' q => k h' q.1 q.2) fun C X e N => by
    obtain ⟨c, A, h1⟩ := F.inb hj hi
    obtain ⟨T', h', X', e', W', g⟩ := stZ X C.exec C.zz e A h1 (g := mkF _ pc Ls (.int x :: .int j :: .ref a :: st)) rfl rfl (hb C.by hd)
    rw [(idx_of hj).2] at W'
    exact ⟨T', h', _, X', e', Fr.snoc X' N ha, ⟨W', F.set (fits_nar_bool x) W'⟩, g⟩
theorem aastore_ {a : Addr} {ka : ClassId} {ty : FieldType} {vs : List Value} {j : Int32} {x : Value} {i : Nat} (F : Arl Z h a ka ty vs) (hty : ty.isReference = true) (hx : x.isRef = true) (S : Sto Z h a x) (hj : j.toInt = i) (hi : i < vs.length) (ha : n0 ≤ a) (hd : decode bytes pc = .ok (.aastore, 1)) (k : ∀ h', Wr h h' a i x → Arl Z h' a ka ty (vs.set i x) → OAt W l Z bytes maxL own nm ret R n0 hz Q h' cells slots (pc + 1) Ls st) : OAt W l Z bytes maxL own nm ret R n0 hz Q h cells slots pc Ls (x :: .int j :: .ref a :: st) :=
  OAt.move (P := fun h' => Wr h h' a i x ∧ Arl Z h' a ka ty (vs.set i x)) (st' := fun _ => st) (fun _ q => Nat.le_of_eq q.1.size.symm) (fun h' q => k h' q.1 q.2) fun C X e N => by
    obtain ⟨c, A, h1⟩ := F.inb hj hi
    obtain ⟨T', h', X', e', W', g⟩ := stR X C.exec C.zz e A h1 hty S (g := mkF _ pc Ls (x :: .int j :: .ref a :: st)) rfl rfl (hb C.by hd)
    rw [(idx_of hj).2] at W'
    have hf : fits ty x = true := by rcases ref_cases hx with rfl | ⟨y, rfl⟩ <;> cases ty <;> first | rfl | (simp [FieldType.isReference] at hty)
    exact ⟨T', h', _, X', e', Fr.snoc X' N ha, ⟨W', F.set hf W'⟩, g⟩
/-! calls by contract: a callee that interns nothing -/
theorem OAt.callN {y : MethodName} {bytes' : ByteArray} {maxL' : Nat} {ret' : Option FieldType} {R' : Room} {as' : Array Value} {Q' : Option Value → Heap → Prop} {len wt : Nat} {rest : List Value} (hM : Met false l Z y bytes' maxL' ret' R' [] as' h n0 Q')
    (wc : (Jvm.Cond.code y bytes' maxL' ret').before a0 Z = true) (wz : (Jvm.Cond.initialized y.cls).before a0 Z = true) (hf : R'.frames + 1 ≤ R.frames) (hl : wt + (maxL' + 11) + R'.locals ≤ R.locals) (hc : cells + R'.cells ≤ R.cells) (hs : slots + R'.slots ≤ R.slots)
    (f : ∀ {p : Program} {e : Env} {s : State} {m : MethodId} {args : Array Value} {below : List Frame} {meth : Method} {c : Code} {T : State} {locs : List Loc}, Cx Z bytes maxL own nm ret p s.vm m meth c → Stand p l e R s m args below meth c T locs cells slots → T.heap = h → ∀ (Pre : Pt → Array Value → Prop) (Post : Pt → Array Value → Option Value → Pt → Prop), Back l R p e below s args y len wt Pre Post → (∀ vm₁, s.WarmedH vm₁ → Pre ⟨T.setVm vm₁, locs, cells, slots⟩ as') →
      ∃ (v : Option Value) (vm₁ : Vm) (B : Pt), s.WarmedH vm₁ ∧ Stand p l e R s m args below meth c B.U B.locs B.cells B.slots ∧ Post ⟨T.setVm vm₁, locs, cells, slots⟩ as' v B ∧ ∀ target, Steps p.tables e below (B.U.setTop (mkF m (pc + len) Ls (v.toList ++ rest))) target → Steps p.tables e below (T.setTop (mkF m pc Ls st)) target)
    (k : ∀ v h', Q' v h' → OAt W l Z bytes maxL own nm ret R n0 hz Q h' (cells + R'.cells) (slots + R'.slots) (pc + len) Ls (v.toList ++ rest)) : OAt W l Z bytes maxL own nm ret R n0 hz Q h cells slots pc Ls st :=
  fun hs' p e s vm0 m args below meth c T locs C r X eT N => by
    have hB : Back l R p e below (s.setVm vm0) args y len wt _ _ := backOf (Q := fun v h' L => Fr n0 L ∧ h.size ≤ h'.size ∧ Q' v h') hM C.zz wc wz hf hl
    obtain ⟨v, vm₁, ⟨T', L', k', n'⟩, hW, X', ⟨Lc, ⟨N', hg, hq⟩, l1, l2, l3⟩, g⟩ := f (s := s.setVm vm0) C X eT _ _ hB (fun vm₁ _ => ⟨rfl, eT, hc, hs⟩)
    dsimp only [Pt.U, Pt.locs, Pt.cells, Pt.slots] at X' l1 l2 l3 g hg hq
    subst l1 l2 l3
    exact (k v T'.heap hq (Nat.le_trans hs' hg) p e s vm0 m args below meth c T' _ C (r.mono hg) X' rfl (N.app N')).step g
/-- what a call of a contract asks of room and words -/
theorem callS_ {y : MethodName} {bytes' : ByteArray} {maxL' : Nat} {ret' : Option FieldType} {R' : Room} {Q' : Option Value → Heap → Prop} {i : Nat} {ps : List FieldType} {rt : Option FieldType} (argsL rest : List Value) (wt : Nat) (hM : Met false l Z y bytes' maxL' ret' R' [] argsL.toArray h n0 Q')
    (w1 : (Jvm.Cond.methodLink own i y).before a0 Z = true) (w2 : (Jvm.Cond.static y).before a0 Z = true) (wz : (Jvm.Cond.initialized y.cls).before a0 Z = true) (wc : (Jvm.Cond.code y bytes' maxL' ret').before a0 Z = true) (hy : y.cls ≠ "java/lang/invoke/MethodHandle" ∧ y.cls ≠ "java/lang/invoke/VarHandle")
    (hd : decode bytes pc = .ok (.invokestatic i, 3)) (hp : parseMethodDescriptor y.desc = some ⟨ps, rt⟩) (hn : argsL.length = ps.length) (hst : st = argsL.reverse ++ rest) (hwt : (rest.map fun v => v.category).sum = wt) (hs : Ls.size = maxL)
    (hf : R'.frames + 1 ≤ R.frames) (hl : wt + (maxL' + 11) + R'.locals ≤ R.locals) (hc : cells + R'.cells ≤ R.cells) (hsl : slots + R'.slots ≤ R.slots)
    (k : ∀ v h', Q' v h' → OAt W l Z bytes maxL own nm ret R n0 hz Q h' (cells + R'.cells) (slots + R'.slots) (pc + 3) Ls (v.toList ++ rest)) : OAt W l Z bytes maxL own nm ret R n0 hz Q h cells slots pc Ls st :=
  OAt.callN (len := 3) hM wc wz hf hl hc hsl (fun C X eT _ _ hB hpre => by
    obtain ⟨v, vm₁, B, h1, h2, h3, h4⟩ := Jvm.LawKit.callS X C.exec C.ow (mvT C.zz w1) (mvT C.zz w2) (mvT C.zz wz) (mvT C.zz wc) hy hB (g := mkF _ pc Ls st) rfl (by rw [C.ml]; exact hs) (lenOf hp hn) hst (by show 2 * 0 + _ ≤ _; rw [hwt]; omega) (hb C.by hd) hpre
    exact ⟨v, vm₁, B, h1, h2, h3, h4⟩) k
/-- a static call of a body that writes nothing and returns val -/
def Pur (val : Value) (h : Heap) : Option Value → Heap → Prop := fun v h' => v = some val ∧ h' = h
theorem callSP {y : MethodName} {bytes' : ByteArray} {maxL' : Nat} {ret' : Option FieldType} {R' : Room} {val : Value} {i : Nat} {ps : List FieldType} {rt : Option FieldType} (argsL rest : List Value) (wt : Nat) (hM : Met false l Z y bytes' maxL' ret' R' [] argsL.toArray h n0 (Pur val h))
    (w1 : (Jvm.Cond.methodLink own i y).before a0 Z = true) (w2 : (Jvm.Cond.static y).before a0 Z = true) (wz : (Jvm.Cond.initialized y.cls).before a0 Z = true) (wc : (Jvm.Cond.code y bytes' maxL' ret').before a0 Z = true) (hy : y.cls ≠ "java/lang/invoke/MethodHandle" ∧ y.cls ≠ "java/lang/invoke/VarHandle")
    (hd : decode bytes pc = .ok (.invokestatic i, 3)) (hp : parseMethodDescriptor y.desc = some ⟨ps, rt⟩) (hn : argsL.length = ps.length) (hst : st = argsL.reverse ++ rest) (hwt : (rest.map fun v => v.category).sum = wt) (hs : Ls.size = maxL)
    (hf : R'.frames + 1 ≤ R.frames) (hl : wt + (maxL' + 11) + R'.locals ≤ R.locals) (hc : cells + R'.cells ≤ R.cells) (hsl : slots + R'.slots ≤ R.slots)
    (k : OAt W l Z bytes maxL own nm ret R n0 hz Q h (cells + R'.cells) (slots + R'.slots) (pc + 3) Ls (val :: rest)) : OAt W l Z bytes maxL own nm ret R n0 hz Q h cells slots pc Ls st :=
  callS_ argsL rest wt hM w1 w2 wz wc hy hd hp hn hst hwt hs hf hl hc hsl (fun v h' q => by obtain ⟨rfl, rfl⟩ := q; exact k)
/-- a constructor -/
theorem callI_ {y : MethodName} {bytes' : ByteArray} {maxL' : Nat} {R' : Room} {Q' : Option Value → Heap → Prop} {i : Nat} {ps : List FieldType} {rt : Option FieldType} (a : Addr) (argsL rest : List Value) (wt : Nat) (hM : Met false l Z y bytes' maxL' none R' [] (.ref a :: argsL).toArray h n0 Q')
    (w1 : (Jvm.Cond.methodLink own i y).before a0 Z = true) (w2 : (Jvm.Cond.instanceMethod y).before a0 Z = true) (wz : (Jvm.Cond.initialized y.cls).before a0 Z = true) (wc : (Jvm.Cond.code y bytes' maxL' none).before a0 Z = true) (hy1 : y.name = "<init>") (hy : y.cls ≠ "java/lang/invoke/MethodHandle" ∧ y.cls ≠ "java/lang/invoke/VarHandle")
    (hd : decode bytes pc = .ok (.invokespecial i, 3)) (hp : parseMethodDescriptor y.desc = some ⟨ps, rt⟩) (hn : argsL.length = ps.length) (hst : st = argsL.reverse ++ .ref a :: rest) (hwt : (rest.map fun v => v.category).sum = wt) (hs : Ls.size = maxL)
    (hf : R'.frames + 1 ≤ R.frames) (hl : wt + (maxL' + 11) + R'.locals ≤ R.locals) (hc : cells + R'.cells ≤ R.cells) (hsl : slots + R'.slots ≤ R.slots)
    (k : ∀ v h', Q' v h' → OAt W l Z bytes maxL own nm ret R n0 hz Q h' (cells + R'.cells) (slots + R'.slots) (pc + 3) Ls (v.toList ++ rest)) : OAt W l Z bytes maxL own nm ret R n0 hz Q h cells slots pc Ls st :=
  OAt.callN (len := 3) hM wc wz hf hl hc hsl (fun C X eT _ _ hB hpre => by
    obtain ⟨v, vm₁, B, h1, h2, h3, h4⟩ := X.specialBack C.exec hy1 C.ow (mvT C.zz w1) (mvT C.zz w2) (mvT C.zz wc) hy hB (g := mkF _ pc Ls st) rfl (by rw [C.ml]; exact hs) (Steps.refl _) (lenOf hp hn) hst (by show 2 * 0 + _ ≤ _; rw [hwt]; omega) (hb C.by hd) hpre
    exact ⟨v, vm₁, B, h1, h2, h3, fun t q => h4.trans q⟩) k
/-- an instance method, selected by the receiver's class K -/
theorem callV_ {x y : MethodName} {K : String} {bytes' : ByteArray} {maxL' : Nat} {ret' : Option FieldType} {R' : Room} {Q' : Option Value → Heap → Prop} {i : Nat} {ps : List FieldType} {rt : Option FieldType} (a : Addr) (argsL rest : List Value) (wt : Nat) (hM : Met false l Z y bytes' maxL' ret' R' [] (.ref a :: argsL).toArray h n0 Q')
    (w1 : (Jvm.Cond.methodLink own i x).before a0 Z = true) (w2 : (Jvm.Cond.declares x).before a0 Z = true) (hnf : ∀ s : State, Z.Warmed39 s.vm → NotFace s x) (w3 : (Jvm.Cond.selects K x y).before a0 Z = true) (w4 : (Jvm.Cond.instanceMethod y).before a0 Z = true) (wz : (Jvm.Cond.initialized y.cls).before a0 Z = true) (wc : (Jvm.Cond.code y bytes' maxL' ret').before a0 Z = true)
    (hy : x.cls ≠ "java/lang/invoke/MethodHandle" ∧ x.cls ≠ "java/lang/invoke/VarHandle") (E : Exa Z h a K)
    (hd : decode bytes pc = .ok (.invokevirtual i, 3)) (hp : parseMethodDescriptor x.desc = some ⟨ps, rt⟩) (hn : argsL.length = ps.length) (hst : st = argsL.reverse ++ .ref a :: rest) (hwt : (rest.map fun v => v.category).sum = wt) (hs : Ls.size = maxL)
    (hf : R'.frames + 1 ≤ R.frames) (hl : wt + (maxL' + 11) + R'.locals ≤ R.locals) (hc : cells + R'.cells ≤ R.cells) (hsl : slots + R'.slots ≤ R.slots)
    (k : ∀ v h', Q' v h' → OAt W l Z bytes maxL own nm ret R n0 hz Q h' (cells + R'.cells) (slots + R'.slots) (pc + 3) Ls (v.toList ++ rest)) : OAt W l Z bytes maxL own nm ret R n0 hz Q h cells slots pc Ls st :=
  OAt.callN (len := 3) hM wc wz hf hl hc hsl (fun C X eT _ _ hB hpre => by
    obtain ⟨cq, kq, qa, qb, qc⟩ := isOf C.zz eT E
    obtain ⟨v, vm₁, B, h1, h2, h3, h4⟩ := X.virtualBack C.exec C.ow (mvT C.zz w1) (mvT C.zz w2) (hnf _ C.zz) (mvT C.zz w3) (mvT C.zz w4) hy hB qa qc (g := mkF _ pc Ls st) rfl (by rw [C.ml]; exact hs) (Steps.refl _) (lenOf hp hn) hst (by show 2 * 0 + _ ≤ _; rw [hwt]; omega) (hb C.by hd) hpre
    exact ⟨v, vm₁, B, h1, h2, h3, fun t q => h4.trans q⟩) k
/-- through an interface -/
theorem callF_ {x y : MethodName} {K : String} {bytes' : ByteArray} {maxL' : Nat} {ret' : Option FieldType} {R' : Room} {Q' : Option Value → Heap → Prop} {i cn : Nat} {ps : List FieldType} {rt : Option FieldType} (a : Addr) (argsL rest : List Value) (wt : Nat) (hM : Met false l Z y bytes' maxL' ret' R' [] (.ref a :: argsL).toArray h n0 Q')
    (w1 : (Jvm.Cond.methodLink own i x).before a0 Z = true) (w2 : (Jvm.Cond.declares x).before a0 Z = true) (w5 : (Jvm.Cond.interfaceMethod x.cls x.cls x.name x.desc).before a0 Z = true) (hfa : ((Jvm.Cond.interfaceMethod x.cls x.cls x.name x.desc).onTables && (Jvm.Cond.interfaceMethod x.cls x.cls x.name x.desc).keepsFace) = true) (w3 : (Jvm.Cond.selects K x y).before a0 Z = true) (w4 : (Jvm.Cond.instanceMethod y).before a0 Z = true) (w6 : (Jvm.Cond.publicMethod y).before a0 Z = true) (w7 : (Jvm.Cond.unhidden K x.name x.desc).before a0 Z = true) (w8 : (Jvm.Cond.castable K x.cls).before a0 Z = true)
    (wz : (Jvm.Cond.initialized y.cls).before a0 Z = true) (wc : (Jvm.Cond.code y bytes' maxL' ret').before a0 Z = true)
    (hy : x.cls ≠ "java/lang/invoke/MethodHandle" ∧ x.cls ≠ "java/lang/invoke/VarHandle") (E : Exa Z h a K)
    (hd : decode bytes pc = .ok (.invokeinterface i cn, 5)) (hp : parseMethodDescriptor x.desc = some ⟨ps, rt⟩) (hn : argsL.length = ps.length) (hst : st = argsL.reverse ++ .ref a :: rest) (hwt : (rest.map fun v => v.category).sum = wt) (hs : Ls.size = maxL)
    (hf : R'.frames + 1 ≤ R.frames) (hl : wt + (maxL' + 11) + R'.locals ≤ R.locals) (hc : cells + R'.cells ≤ R.cells) (hsl : slots + R'.slots ≤ R.slots)
    (k : ∀ v h', Q' v h' → OAt W l Z bytes maxL own nm ret R n0 hz Q h' (cells + R'.cells) (slots + R'.slots) (pc + 5) Ls (v.toList ++ rest)) : OAt W l Z bytes maxL own nm ret R n0 hz Q h cells slots pc Ls st :=
  OAt.callN (len := 5) hM wc wz hf hl hc hsl (fun C X eT _ _ hB hpre => by
    obtain ⟨cq, kq, qa, qb, qc⟩ := isOf C.zz eT E
    obtain ⟨v, vm₁, B, h1, h2, h3, h4⟩ := X.interfaceBack C.exec C.ow (mvT C.zz w1) (mvT C.zz w2) (mvT C.zz w5 hfa) (mvT C.zz w3) (mvT C.zz w4) (mvT C.zz w6) (mvT C.zz w7) (mvT C.zz w8) hy hB qa qb qc (g := mkF _ pc Ls st) rfl (by rw [C.ml]; exact hs) (Steps.refl _) (lenOf hp hn) hst (by show 2 * 0 + _ ≤ _; rw [hwt]; omega) (hb C.by hd) hpre
    exact ⟨v, vm₁, B, h1, h2, h3, fun t q => h4.trans q⟩) k
/-- a private method, by invokevirtual -/
theorem callP_ {y : MethodName} {K : String} {bytes' : ByteArray} {maxL' : Nat} {ret' : Option FieldType} {R' : Room} {Q' : Option Value → Heap → Prop} {i : Nat} {ps : List FieldType} {rt : Option FieldType} (a : Addr) (argsL rest : List Value) (wt : Nat) (hM : Met false l Z y bytes' maxL' ret' R' [] (.ref a :: argsL).toArray h n0 Q')
    (w1 : (Jvm.Cond.methodLink own i y).before a0 Z = true) (w4 : (Jvm.Cond.instanceMethod y).before a0 Z = true) (w3 : (Jvm.Cond.selects y.cls y y).before a0 Z = true) (w5 : (Jvm.Cond.privateMethod y).before a0 Z = true) (wz : (Jvm.Cond.initialized y.cls).before a0 Z = true) (wc : (Jvm.Cond.code y bytes' maxL' ret').before a0 Z = true)
    (hy : y.cls ≠ "java/lang/invoke/MethodHandle" ∧ y.cls ≠ "java/lang/invoke/VarHandle") (E : Exa Z h a K)
    (hd : decode bytes pc = .ok (.invokevirtual i, 3)) (hp : parseMethodDescriptor y.desc = some ⟨ps, rt⟩) (hn : argsL.length = ps.length) (hst : st = argsL.reverse ++ .ref a :: rest) (hwt : (rest.map fun v => v.category).sum = wt) (hs : Ls.size = maxL)
    (hf : R'.frames + 1 ≤ R.frames) (hl : wt + (maxL' + 11) + R'.locals ≤ R.locals) (hc : cells + R'.cells ≤ R.cells) (hsl : slots + R'.slots ≤ R.slots)
    (k : ∀ v h', Q' v h' → OAt W l Z bytes maxL own nm ret R n0 hz Q h' (cells + R'.cells) (slots + R'.slots) (pc + 3) Ls (v.toList ++ rest)) : OAt W l Z bytes maxL own nm ret R n0 hz Q h cells slots pc Ls st :=
  OAt.callN (len := 3) hM wc wz hf hl hc hsl (fun C X eT _ _ hB hpre => by
    obtain ⟨cq, qa, qb⟩ := E.cell
    obtain ⟨v, vm₁, B, h1, h2, h3, h4⟩ := X.privateBack C.exec C.ow (mvT C.zz w1) (mvT C.zz w4) (mvT C.zz w3) (Cond.privateMethod_at (mvP C.zz w5 (args := #[]))) (mvT C.zz wc) hy hB (g := mkF _ pc Ls st) rfl (by rw [C.ml]; exact hs) (Steps.refl _) (a := a) (by rw [eT]; exact qa) qb (lenOf hp hn) hst (by show 2 * 0 + _ ≤ _; rw [hwt]; omega) (hb C.by hd) hpre
    exact ⟨v, vm₁, B, h1, h2, h3, fun t q => h4.trans q⟩) k
def Pur0 (h : Heap) : Option Value → Heap → Prop := fun v h' => v = none ∧ h' = h
theorem callIP {y : MethodName} {bytes' : ByteArray} {maxL' : Nat} {R' : Room} {i : Nat} {ps : List FieldType} {rt : Option FieldType} (a : Addr) (argsL rest : List Value) (wt : Nat) (hM : Met false l Z y bytes' maxL' none R' [] (.ref a :: argsL).toArray h n0 (Pur0 h))
    (w1 : (Jvm.Cond.methodLink own i y).before a0 Z = true) (w2 : (Jvm.Cond.instanceMethod y).before a0 Z = true) (wz : (Jvm.Cond.initialized y.cls).before a0 Z = true) (wc : (Jvm.Cond.code y bytes' maxL' none).before a0 Z = true) (hy1 : y.name = "<init>") (hy : y.cls ≠ "java/lang/invoke/MethodHandle" ∧ y.cls ≠ "java/lang/invoke/VarHandle")
    (hd : decode bytes pc = .ok (.invokespecial i, 3)) (hp : parseMethodDescriptor y.desc = some ⟨ps, rt⟩) (hn : argsL.length = ps.length) (hst : st = argsL.reverse ++ .ref a :: rest) (hwt : (rest.map fun v => v.category).sum = wt) (hs : Ls.size = maxL)
    (hf : R'.frames + 1 ≤ R.frames) (hl : wt + (maxL' + 11) + R'.locals ≤ R.locals) (hc : cells + R'.cells ≤ R.cells) (hsl : slots + R'.slots ≤ R.slots)
    (k : OAt W l Z bytes maxL own nm ret R n0 hz Q h (cells + R'.cells) (slots + R'.slots) (pc + 3) Ls rest) : OAt W l Z bytes maxL own nm ret R n0 hz Q h cells slots pc Ls st :=
  callI_ a argsL rest wt hM w1 w2 wz wc hy1 hy hd hp hn hst hwt hs hf hl hc hsl (fun v h' q => by obtain ⟨rfl, rfl⟩ := q; exact k)
theorem callVP {x y : MethodName} {K : String} {bytes' : ByteArray} {maxL' : Nat} {ret' : Option FieldType} {R' : Room} {val : Value} {i : Nat} {ps : List FieldType} {rt : Option FieldType} (a : Addr) (argsL rest : List Value) (wt : Nat) (hM : Met false l Z y bytes' maxL' ret' R' [] (.ref a :: argsL).toArray h n0 (Pur val h))
    (w1 : (Jvm.Cond.methodLink own i x).before a0 Z = true) (w2 : (Jvm.Cond.declares x).before a0 Z = true) (hnf : ∀ s : State, Z.Warmed39 s.vm → NotFace s x) (w3 : (Jvm.Cond.selects K x y).before a0 Z = true) (w4 : (Jvm.Cond.instanceMethod y).before a0 Z = true) (wz : (Jvm.Cond.initialized y.cls).before a0 Z = true) (wc : (Jvm.Cond.code y bytes' maxL' ret').before a0 Z = true)
    (hy : x.cls ≠ "java/lang/invoke/MethodHandle" ∧ x.cls ≠ "java/lang/invoke/VarHandle") (E : Exa Z h a K)
    (hd : decode bytes pc = .ok (.invokevirtual i, 3)) (hp : parseMethodDescriptor x.desc = some ⟨ps, rt⟩) (hn : argsL.length = ps.length) (hst : st = argsL.reverse ++ .ref a :: rest) (hwt : (rest.map fun v => v.category).sum = wt) (hs : Ls.size = maxL)
    (hf : R'.frames + 1 ≤ R.frames) (hl : wt + (maxL' + 11) + R'.locals ≤ R.locals) (hc : cells + R'.cells ≤ R.cells) (hsl : slots + R'.slots ≤ R.slots)
    (k : OAt W l Z bytes maxL own nm ret R n0 hz Q h (cells + R'.cells) (slots + R'.slots) (pc + 3) Ls (val :: rest)) : OAt W l Z bytes maxL own nm ret R n0 hz Q h cells slots pc Ls st :=
  callV_ a argsL rest wt hM w1 w2 hnf w3 w4 wz wc hy E hd hp hn hst hwt hs hf hl hc hsl (fun v h' q => by obtain ⟨rfl, rfl⟩ := q; exact k)
theorem callFP {x y : MethodName} {K : String} {bytes' : ByteArray} {maxL' : Nat} {ret' : Option FieldType} {R' : Room} {val : Value} {i cn : Nat} {ps : List FieldType} {rt : Option FieldType} (a : Addr) (argsL rest : List Value) (wt : Nat) (hM : Met false l Z y bytes' maxL' ret' R' [] (.ref a :: argsL).toArray h n0 (Pur val h))
    (w1 : (Jvm.Cond.methodLink own i x).before a0 Z = true) (w2 : (Jvm.Cond.declares x).before a0 Z = true) (w5 : (Jvm.Cond.interfaceMethod x.cls x.cls x.name x.desc).before a0 Z = true) (hfa : ((Jvm.Cond.interfaceMethod x.cls x.cls x.name x.desc).onTables && (Jvm.Cond.interfaceMethod x.cls x.cls x.name x.desc).keepsFace) = true) (w3 : (Jvm.Cond.selects K x y).before a0 Z = true) (w4 : (Jvm.Cond.instanceMethod y).before a0 Z = true) (w6 : (Jvm.Cond.publicMethod y).before a0 Z = true) (w7 : (Jvm.Cond.unhidden K x.name x.desc).before a0 Z = true) (w8 : (Jvm.Cond.castable K x.cls).before a0 Z = true)
    (wz : (Jvm.Cond.initialized y.cls).before a0 Z = true) (wc : (Jvm.Cond.code y bytes' maxL' ret').before a0 Z = true)
    (hy : x.cls ≠ "java/lang/invoke/MethodHandle" ∧ x.cls ≠ "java/lang/invoke/VarHandle") (E : Exa Z h a K)
    (hd : decode bytes pc = .ok (.invokeinterface i cn, 5)) (hp : parseMethodDescriptor x.desc = some ⟨ps, rt⟩) (hn : argsL.length = ps.length) (hst : st = argsL.reverse ++ .ref a :: rest) (hwt : (rest.map fun v => v.category).sum = wt) (hs : Ls.size = maxL)
    (hf : R'.frames + 1 ≤ R.frames) (hl : wt + (maxL' + 11) + R'.locals ≤ R.locals) (hc : cells + R'.cells ≤ R.cells) (hsl : slots + R'.slots ≤ R.slots)
    (k : OAt W l Z bytes maxL own nm ret R n0 hz Q h (cells + R'.cells) (slots + R'.slots) (pc + 5) Ls (val :: rest)) : OAt W l Z bytes maxL own nm ret R n0 hz Q h cells slots pc Ls st :=
  callF_ a argsL rest wt hM w1 w2 w5 hfa w3 w4 w6 w7 w8 wz wc hy E hd hp hn hst hwt hs hf hl hc hsl (fun v h' q => by obtain ⟨rfl, rfl⟩ := q; exact k)
theorem callPP {y : MethodName} {K : String} {bytes' : ByteArray} {maxL' : Nat} {ret' : Option FieldType} {R' : Room} {val : Value} {i : Nat} {ps : List FieldType} {rt : Option FieldType} (a : Addr) (argsL rest : List Value) (wt : Nat) (hM : Met false l Z y bytes' maxL' ret' R' [] (.ref a :: argsL).toArray h n0 (Pur val h))
    (w1 : (Jvm.Cond.methodLink own i y).before a0 Z = true) (w4 : (Jvm.Cond.instanceMethod y).before a0 Z = true) (w3 : (Jvm.Cond.selects y.cls y y).before a0 Z = true) (w5 : (Jvm.Cond.privateMethod y).before a0 Z = true) (wz : (Jvm.Cond.initialized y.cls).before a0 Z = true) (wc : (Jvm.Cond.code y bytes' maxL' ret').before a0 Z = true)
    (hy : y.cls ≠ "java/lang/invoke/MethodHandle" ∧ y.cls ≠ "java/lang/invoke/VarHandle") (E : Exa Z h a K)
    (hd : decode bytes pc = .ok (.invokevirtual i, 3)) (hp : parseMethodDescriptor y.desc = some ⟨ps, rt⟩) (hn : argsL.length = ps.length) (hst : st = argsL.reverse ++ .ref a :: rest) (hwt : (rest.map fun v => v.category).sum = wt) (hs : Ls.size = maxL)
    (hf : R'.frames + 1 ≤ R.frames) (hl : wt + (maxL' + 11) + R'.locals ≤ R.locals) (hc : cells + R'.cells ≤ R.cells) (hsl : slots + R'.slots ≤ R.slots)
    (k : OAt W l Z bytes maxL own nm ret R n0 hz Q h (cells + R'.cells) (slots + R'.slots) (pc + 3) Ls (val :: rest)) : OAt W l Z bytes maxL own nm ret R n0 hz Q h cells slots pc Ls st :=
  callP_ a argsL rest wt hM w1 w4 w3 w5 wz wc hy E hd hp hn hst hwt hs hf hl hc hsl (fun v h' q => by obtain ⟨rfl, rfl⟩ := q; exact k)
theorem arraycopy_ {a b : Addr} {ka kb : ClassId} {ty : FieldType} {vs vd : List Value} {sp dp nn : Int32} {i j n : Nat} {ix : Nat} (wt : Nat) (w1 : (Jvm.Cond.methodLink own ix Jvm.Stand.acN).before a0 Z = true) (w2 : (Jvm.Cond.native Jvm.Stand.acN).before a0 Z = true) (w3 : (Jvm.Cond.static Jvm.Stand.acN).before a0 Z = true) (w4 : (Jvm.Cond.initialized "java/lang/System").before a0 Z = true)
    (F : Arl Z h a ka ty vs) (G : Arl Z h b kb ty vd) (hty : refKind ty = false) (h1 : sp.toInt = i) (h2 : dp.toInt = j) (h3 : nn.toInt = n) (h4 : i + n ≤ vs.length) (h5 : j + n ≤ vd.length) (ge : n0 ≤ b) (hs : Ls.size = maxL) (hd : decode bytes pc = .ok (.invokestatic ix, 3)) (hf : 1 ≤ R.frames) (hwt : (st.map fun v => v.category).sum = wt) (hlo : wt + (nativeFrameWords "java/lang/System" "arraycopy" 5 + 11) ≤ R.locals)
    (k : ∀ h', Keep h h' [b] → Arl Z h' b kb ty (vd.take j ++ (vs.drop i).take n ++ vd.drop (j + n)) → OAt W l Z bytes maxL own nm ret R n0 hz Q h' cells slots (pc + 3) Ls st) : OAt W l Z bytes maxL own nm ret R n0 hz Q h cells slots pc Ls (.int nn :: .int dp :: .ref b :: .int sp :: .ref a :: st) := by
  obtain ⟨p1, q1⟩ := idx_of h1
  obtain ⟨p2, q2⟩ := idx_of h2
  obtain ⟨p3, q3⟩ := idx_of h3
  have la := F.len
  have lb := G.len
  have za : (Int32.ofNat vs.length).toInt = vs.length := Int32.toInt_ofNat_of_lt la
  have zb : (Int32.ofNat vd.length).toInt = vd.length := Int32.toInt_ofNat_of_lt lb
  obtain ⟨pa, qa⟩ := idx_of za
  obtain ⟨pb, qb⟩ := idx_of zb
  have hus : (vs.drop i).take n = (List.range n).map fun k => vs.getD (i + k) .null := by
    apply List.ext_getElem?
    intro k
    by_cases hk : k < n
    · rw [List.getElem?_take_of_lt hk, List.getElem?_drop, List.getElem?_map, List.getElem?_range hk, Option.map_some, List.getD_eq_getElem?_getD, List.getElem?_eq_getElem (by omega)]; rfl
    · rw [List.getElem?_eq_none (by simp; omega), List.getElem?_eq_none (by simp; omega)]
  exact OAt.move (P := fun h' => Keep h h' [b] ∧ Arl Z h' b kb ty (vd.take j ++ (vs.drop i).take n ++ vd.drop (j + n))) (st' := fun _ => st) (fun _ q => q.1.1) (fun h' q => k h' q.1 q.2) fun C X e N => by
    obtain ⟨T', h', L, X', e', N', K, V, g⟩ := cpA X C.exec C.zz C.ow w1 w2 w3 w4 e (F.arv .null za) (G.arv .null zb) (us := (vs.drop i).take n) (Or.inl ⟨rfl, hty⟩) p1 p2 p3 (by omega) (by omega) (by rw [q3, q1]; exact hus) (by omega) N ge (g := mkF _ pc Ls (.int nn :: .int dp :: .ref b :: .int sp :: .ref a :: st)) rfl (by rw [C.ml]; exact hs) rfl (hb C.by hd) hf (W := wt) (by show 2 * 0 + _ ≤ _; rw [hwt]; omega) hlo
    rw [q2, q3] at V
    refine ⟨T', h', L, X', e', N', ⟨K, Arl.of_arv V ?_⟩, g⟩
    rw [zb]; simp; omega
/-! String constants, and callees that may intern (W = true) -/
theorem ldcS_ {text : String} {i : Nat} (n : Nat) (w : (Jvm.Cond.stringLink own i text).before a0 Z = true) (wS : ∀ a ∈ Bundle.stringAtoms, a.before a0 Z = true) (hd : decode bytes pc = .ok (.ldc i, 2)) (hn' : 4 * text.toList.length ≤ n) (hbig : n ≤ 536870912) (hc : cells + 2 ≤ R.cells) (hl : slots + (n + 4) ≤ R.slots)
    (k : ∀ (h' : Heap) (a : Addr), Ext h h' → OAt true l Z bytes maxL own nm ret R n0 hz Q h' (cells + 2) (slots + (n + 4)) (pc + 2) Ls (.ref a :: st)) : OAt true l Z bytes maxL own nm ret R n0 hz Q h cells slots pc Ls st :=
  fun hs p e s vm0 m args below meth c T locs C r X eT N => by
    obtain ⟨k0, r1, r2⟩ := r
    obtain ⟨a, T', h', k1, X', e', E, hS', hk', hZ', hown', g⟩ := ldcS X C.exec C.zz C.ow w wS eT r1 r2 (g := mkF m pc Ls st) rfl (hb C.by hd) hn' hbig hc hl
    exact (k h' a E (Nat.le_trans hs E.1) p e s T'.vm m args below meth c T' locs ⟨C.1, C.2.1, C.2.2.1, C.2.2.2.1, C.2.2.2.2.1, C.2.2.2.2.2.1, hZ', hown'⟩ ⟨k1, hS', hk'⟩ X' e' N).step g
theorem OAt.callW {y : MethodName} {bytes' : ByteArray} {maxL' : Nat} {ret' : Option FieldType} {R' : Room} {as' : Array Value} {Q' : Option Value → Heap → Prop} {len wt : Nat} {rest : List Value} (hM : Met true l Z y bytes' maxL' ret' R' [] as' h n0 Q')
    (wc : (Jvm.Cond.code y bytes' maxL' ret').before a0 Z = true) (wz : (Jvm.Cond.initialized y.cls).before a0 Z = true) (hf : R'.frames + 1 ≤ R.frames) (hl : wt + (maxL' + 11) + R'.locals ≤ R.locals) (hc : cells + R'.cells ≤ R.cells) (hs : slots + R'.slots ≤ R.slots)
    (f : ∀ {p : Program} {e : Env} {s : State} {m : MethodId} {args : Array Value} {below : List Frame} {meth : Method} {c : Code} {T : State} {locs : List Loc}, Cx Z bytes maxL own nm ret p s.vm m meth c → Stand p l e R s m args below meth c T locs cells slots → T.heap = h → ∀ (Pre : Pt → Array Value → Prop) (Post : Pt → Array Value → Option Value → Pt → Prop), BackS l R p e below s args y len wt Pre Post → (∀ vm₁, s.WarmedH vm₁ → Pre ⟨T.setVm vm₁, locs, cells, slots⟩ as') →
      ∃ (v : Option Value) (vm₁ : Vm) (B : Pt), s.WarmedH vm₁ ∧ Stand p l e R (s.setVm B.U.vm) m args below meth c B.U B.locs B.cells B.slots ∧ s.Since B.U.vm B.U.heap.size ∧ T.heap.size ≤ B.U.heap.size ∧ Post ⟨T.setVm vm₁, locs, cells, slots⟩ as' v B ∧ ∀ target, Steps p.tables e below (B.U.setTop (mkF m (pc + len) Ls (v.toList ++ rest))) target → Steps p.tables e below (T.setTop (mkF m pc Ls st)) target)
    (k : ∀ v h', Q' v h' → OAt true l Z bytes maxL own nm ret R n0 hz Q h' (cells + R'.cells) (slots + R'.slots) (pc + len) Ls (v.toList ++ rest)) : OAt true l Z bytes maxL own nm ret R n0 hz Q h cells slots pc Ls st :=
  fun hs' p e s vm0 m args below meth c T locs C r X eT N => by
    obtain ⟨k0, r1, r2⟩ := r
    have hB : BackS l R p e below (s.setVm vm0) args y len wt _ _ := backOfS (Q := fun v h' L => Fr n0 L ∧ h.size ≤ h'.size ∧ Q' v h') hM C.zz wc wz hf hl
    obtain ⟨v, vm₁, ⟨T', L', k', n'⟩, hW, X', hS2, hg2, ⟨Lc, ⟨N', hg, hq⟩, l1, l2, l3⟩, g⟩ := f (s := s.setVm vm0) C X eT _ _ hB (fun vm₁ _ => ⟨rfl, eT, hc, hs⟩)
    dsimp only [Pt.U, Pt.locs, Pt.cells, Pt.slots] at X' hS2 hg2 l1 l2 l3 g hg hq
    subst l1 l2 l3
    obtain ⟨X2, hS3, hZ3, ho3⟩ := rebS r1 (by rw [eT]; exact r2) X' hS2 hg2 C.zz C.ow
    exact (k v T'.heap hq (Nat.le_trans hs' hg) p e s T'.vm m args below meth c T' _ ⟨C.1, C.2.1, C.2.2.1, C.2.2.2.1, C.2.2.2.2.1, C.2.2.2.2.2.1, hZ3, ho3⟩ ⟨_, hS3, Nat.le_refl _⟩ X2 rfl (N.app N')).step g
theorem callSW {y : MethodName} {bytes' : ByteArray} {maxL' : Nat} {ret' : Option FieldType} {R' : Room} {Q' : Option Value → Heap → Prop} {i : Nat} {ps : List FieldType} {rt : Option FieldType} (argsL rest : List Value) (wt : Nat) (hM : Met true l Z y bytes' maxL' ret' R' [] argsL.toArray h n0 Q')
    (w1 : (Jvm.Cond.methodLink own i y).before a0 Z = true) (w2 : (Jvm.Cond.static y).before a0 Z = true) (wz : (Jvm.Cond.initialized y.cls).before a0 Z = true) (wc : (Jvm.Cond.code y bytes' maxL' ret').before a0 Z = true) (hy : y.cls ≠ "java/lang/invoke/MethodHandle" ∧ y.cls ≠ "java/lang/invoke/VarHandle")
    (hd : decode bytes pc = .ok (.invokestatic i, 3)) (hp : parseMethodDescriptor y.desc = some ⟨ps, rt⟩) (hn : argsL.length = ps.length) (hst : st = argsL.reverse ++ rest) (hwt : (rest.map fun v => v.category).sum = wt) (hs : Ls.size = maxL)
    (hf : R'.frames + 1 ≤ R.frames) (hl : wt + (maxL' + 11) + R'.locals ≤ R.locals) (hc : cells + R'.cells ≤ R.cells) (hsl : slots + R'.slots ≤ R.slots)
    (k : ∀ v h', Q' v h' → OAt true l Z bytes maxL own nm ret R n0 hz Q h' (cells + R'.cells) (slots + R'.slots) (pc + 3) Ls (v.toList ++ rest)) : OAt true l Z bytes maxL own nm ret R n0 hz Q h cells slots pc Ls st :=
  OAt.callW (len := 3) hM wc wz hf hl hc hsl (fun C X eT _ _ hB hpre => by
    obtain ⟨v, vm₁, B, h1, h2, h5, h6, h3, h4⟩ := Jvm.RoadKit.callSS X C.exec C.ow (mvT C.zz w1) (mvT C.zz w2) (mvT C.zz wz) (mvT C.zz wc) hy hB (g := mkF _ pc Ls st) rfl (by rw [C.ml]; exact hs) (lenOf hp hn) hst (by show 2 * 0 + _ ≤ _; rw [hwt]; omega) (hb C.by hd) hpre
    exact ⟨v, vm₁, B, h1, h2, h5, h6, h3, fun t q => h4.trans q⟩) k
theorem callIW {y : MethodName} {bytes' : ByteArray} {maxL' : Nat} {R' : Room} {Q' : Option Value → Heap → Prop} {i : Nat} {ps : List FieldType} {rt : Option FieldType} (a : Addr) (argsL rest : List Value) (wt : Nat) (hM : Met true l Z y bytes' maxL' none R' [] (.ref a :: argsL).toArray h n0 Q')
    (w1 : (Jvm.Cond.methodLink own i y).before a0 Z = true) (w2 : (Jvm.Cond.instanceMethod y).before a0 Z = true) (wz : (Jvm.Cond.initialized y.cls).before a0 Z = true) (wc : (Jvm.Cond.code y bytes' maxL' none).before a0 Z = true) (hy1 : y.name = "<init>") (hy : y.cls ≠ "java/lang/invoke/MethodHandle" ∧ y.cls ≠ "java/lang/invoke/VarHandle")
    (hd : decode bytes pc = .ok (.invokespecial i, 3)) (hp : parseMethodDescriptor y.desc = some ⟨ps, rt⟩) (hn : argsL.length = ps.length) (hst : st = argsL.reverse ++ .ref a :: rest) (hwt : (rest.map fun v => v.category).sum = wt) (hs : Ls.size = maxL)
    (hf : R'.frames + 1 ≤ R.frames) (hl : wt + (maxL' + 11) + R'.locals ≤ R.locals) (hc : cells + R'.cells ≤ R.cells) (hsl : slots + R'.slots ≤ R.slots)
    (k : ∀ v h', Q' v h' → OAt true l Z bytes maxL own nm ret R n0 hz Q h' (cells + R'.cells) (slots + R'.slots) (pc + 3) Ls (v.toList ++ rest)) : OAt true l Z bytes maxL own nm ret R n0 hz Q h cells slots pc Ls st :=
  OAt.callW (len := 3) hM wc wz hf hl hc hsl (fun C X eT _ _ hB hpre => by
    obtain ⟨v, vm₁, B, h1, h2, h5, h6, h3, h4⟩ := X.specialBackS C.exec hy1 C.ow (mvT C.zz w1) (mvT C.zz w2) (mvT C.zz wc) hy hB (g := mkF _ pc Ls st) rfl (by rw [C.ml]; exact hs) (Steps.refl _) (lenOf hp hn) hst (by show 2 * 0 + _ ≤ _; rw [hwt]; omega) (hb C.by hd) hpre
    exact ⟨v, vm₁, B, h1, h2, h5, h6, h3, fun t q => h4.trans q⟩) k
theorem callVW {x y : MethodName} {K : String} {bytes' : ByteArray} {maxL' : Nat} {ret' : Option FieldType} {R' : Room} {Q' : Option Value → Heap → Prop} {i : Nat} {ps : List FieldType} {rt : Option FieldType} (a : Addr) (argsL rest : List Value) (wt : Nat) (hM : Met true l Z y bytes' maxL' ret' R' [] (.ref a :: argsL).toArray h n0 Q')
    (w1 : (Jvm.Cond.methodLink own i x).before a0 Z = true) (w2 : (Jvm.Cond.declares x).before a0 Z = true) (hnf : ∀ s : State, Z.Warmed39 s.vm → NotFace s x) (w3 : (Jvm.Cond.selects K x y).before a0 Z = true) (w4 : (Jvm.Cond.instanceMethod y).before a0 Z = true) (wz : (Jvm.Cond.initialized y.cls).before a0 Z = true) (wc : (Jvm.Cond.code y bytes' maxL' ret').before a0 Z = true)
    (hy : x.cls ≠ "java/lang/invoke/MethodHandle" ∧ x.cls ≠ "java/lang/invoke/VarHandle") (E : Exa Z h a K)
    (hd : decode bytes pc = .ok (.invokevirtual i, 3)) (hp : parseMethodDescriptor x.desc = some ⟨ps, rt⟩) (hn : argsL.length = ps.length) (hst : st = argsL.reverse ++ .ref a :: rest) (hwt : (rest.map fun v => v.category).sum = wt) (hs : Ls.size = maxL)
    (hf : R'.frames + 1 ≤ R.frames) (hl : wt + (maxL' + 11) + R'.locals ≤ R.locals) (hc : cells + R'.cells ≤ R.cells) (hsl : slots + R'.slots ≤ R.slots)
    (k : ∀ v h', Q' v h' → OAt true l Z bytes maxL own nm ret R n0 hz Q h' (cells + R'.cells) (slots + R'.slots) (pc + 3) Ls (v.toList ++ rest)) : OAt true l Z bytes maxL own nm ret R n0 hz Q h cells slots pc Ls st :=
  OAt.callW (len := 3) hM wc wz hf hl hc hsl (fun C X eT _ _ hB hpre => by
    obtain ⟨cq, kq, qa, qb, qc⟩ := isOf C.zz eT E
    obtain ⟨v, vm₁, B, h1, h2, h5, h6, h3, h4⟩ := X.virtualBackS C.exec C.ow (mvT C.zz w1) (mvT C.zz w2) (hnf _ C.zz) (mvT C.zz w3) (mvT C.zz w4) hy hB qa qc (g := mkF _ pc Ls st) rfl (by rw [C.ml]; exact hs) (Steps.refl _) (lenOf hp hn) hst (by show 2 * 0 + _ ≤ _; rw [hwt]; omega) (hb C.by hd) hpre
    exact ⟨v, vm₁, B, h1, h2, h5, h6, h3, fun t q => h4.trans q⟩) k
theorem callFW {x y : MethodName} {K : String} {bytes' : ByteArray} {maxL' : Nat} {ret' : Option FieldType} {R' : Room} {Q' : Option Value → Heap → Prop} {i cn : Nat} {ps : List FieldType} {rt : Option FieldType} (a : Addr) (argsL rest : List Value) (wt : Nat) (hM : Met true l Z y bytes' maxL' ret' R' [] (.ref a :: argsL).toArray h n0 Q')
    (w1 : (Jvm.Cond.methodLink own i x).before a0 Z = true) (w2 : (Jvm.Cond.declares x).before a0 Z = true) (w5 : (Jvm.Cond.interfaceMethod x.cls x.cls x.name x.desc).before a0 Z = true) (hfa : ((Jvm.Cond.interfaceMethod x.cls x.cls x.name x.desc).onTables && (Jvm.Cond.interfaceMethod x.cls x.cls x.name x.desc).keepsFace) = true) (w3 : (Jvm.Cond.selects K x y).before a0 Z = true) (w4 : (Jvm.Cond.instanceMethod y).before a0 Z = true) (w6 : (Jvm.Cond.publicMethod y).before a0 Z = true) (w7 : (Jvm.Cond.unhidden K x.name x.desc).before a0 Z = true) (w8 : (Jvm.Cond.castable K x.cls).before a0 Z = true)
    (wz : (Jvm.Cond.initialized y.cls).before a0 Z = true) (wc : (Jvm.Cond.code y bytes' maxL' ret').before a0 Z = true)
    (hy : x.cls ≠ "java/lang/invoke/MethodHandle" ∧ x.cls ≠ "java/lang/invoke/VarHandle") (E : Exa Z h a K)
    (hd : decode bytes pc = .ok (.invokeinterface i cn, 5)) (hp : parseMethodDescriptor x.desc = some ⟨ps, rt⟩) (hn : argsL.length = ps.length) (hst : st = argsL.reverse ++ .ref a :: rest) (hwt : (rest.map fun v => v.category).sum = wt) (hs : Ls.size = maxL)
    (hf : R'.frames + 1 ≤ R.frames) (hl : wt + (maxL' + 11) + R'.locals ≤ R.locals) (hc : cells + R'.cells ≤ R.cells) (hsl : slots + R'.slots ≤ R.slots)
    (k : ∀ v h', Q' v h' → OAt true l Z bytes maxL own nm ret R n0 hz Q h' (cells + R'.cells) (slots + R'.slots) (pc + 5) Ls (v.toList ++ rest)) : OAt true l Z bytes maxL own nm ret R n0 hz Q h cells slots pc Ls st :=
  OAt.callW (len := 5) hM wc wz hf hl hc hsl (fun C X eT _ _ hB hpre => by
    obtain ⟨cq, kq, qa, qb, qc⟩ := isOf C.zz eT E
    obtain ⟨v, vm₁, B, h1, h2, h5, h6, h3, h4⟩ := X.interfaceBackS C.exec C.ow (mvT C.zz w1) (mvT C.zz w2) (mvT C.zz w5 hfa) (mvT C.zz w3) (mvT C.zz w4) (mvT C.zz w6) (mvT C.zz w7) (mvT C.zz w8) hy hB qa qb qc (g := mkF _ pc Ls st) rfl (by rw [C.ml]; exact hs) (Steps.refl _) (lenOf hp hn) hst (by show 2 * 0 + _ ≤ _; rw [hwt]; omega) (hb C.by hd) hpre
    exact ⟨v, vm₁, B, h1, h2, h5, h6, h3, fun t q => h4.trans q⟩) k
theorem callPW {y : MethodName} {K : String} {bytes' : ByteArray} {maxL' : Nat} {ret' : Option FieldType} {R' : Room} {Q' : Option Value → Heap → Prop} {i : Nat} {ps : List FieldType} {rt : Option FieldType} (a : Addr) (argsL rest : List Value) (wt : Nat) (hM : Met true l Z y bytes' maxL' ret' R' [] (.ref a :: argsL).toArray h n0 Q')
    (w1 : (Jvm.Cond.methodLink own i y).before a0 Z = true) (w4 : (Jvm.Cond.instanceMethod y).before a0 Z = true) (w3 : (Jvm.Cond.selects y.cls y y).before a0 Z = true) (w5 : (Jvm.Cond.privateMethod y).before a0 Z = true) (wz : (Jvm.Cond.initialized y.cls).before a0 Z = true) (wc : (Jvm.Cond.code y bytes' maxL' ret').before a0 Z = true)
    (hy : y.cls ≠ "java/lang/invoke/MethodHandle" ∧ y.cls ≠ "java/lang/invoke/VarHandle") (E : Exa Z h a K)
    (hd : decode bytes pc = .ok (.invokevirtual i, 3)) (hp : parseMethodDescriptor y.desc = some ⟨ps, rt⟩) (hn : argsL.length = ps.length) (hst : st = argsL.reverse ++ .ref a :: rest) (hwt : (rest.map fun v => v.category).sum = wt) (hs : Ls.size = maxL)
    (hf : R'.frames + 1 ≤ R.frames) (hl : wt + (maxL' + 11) + R'.locals ≤ R.locals) (hc : cells + R'.cells ≤ R.cells) (hsl : slots + R'.slots ≤ R.slots)
    (k : ∀ v h', Q' v h' → OAt true l Z bytes maxL own nm ret R n0 hz Q h' (cells + R'.cells) (slots + R'.slots) (pc + 3) Ls (v.toList ++ rest)) : OAt true l Z bytes maxL own nm ret R n0 hz Q h cells slots pc Ls st :=
  OAt.callW (len := 3) hM wc wz hf hl hc hsl (fun C X eT _ _ hB hpre => by
    obtain ⟨cq, qa, qb⟩ := E.cell
    obtain ⟨v, vm₁, B, h1, h2, h5, h6, h3, h4⟩ := X.privateBackS C.exec C.ow (mvT C.zz w1) (mvT C.zz w4) (mvT C.zz w3) (Cond.privateMethod_at (mvP C.zz w5 (args := #[]))) (mvT C.zz wc) hy hB (g := mkF _ pc Ls st) rfl (by rw [C.ml]; exact hs) (Steps.refl _) (a := a) (by rw [eT]; exact qa) qb (lenOf hp hn) hst (by show 2 * 0 + _ ≤ _; rw [hwt]; omega) (hb C.by hd) hpre
    exact ⟨v, vm₁, B, h1, h2, h5, h6, h3, fun t q => h4.trans q⟩) k

end Walk
end Jvm.Own
namespace Jvm.Pilot.@@N@@
open Jvm Jvm.ClassFile Sem Op Lib Jvm.Free Jvm.Stand Jvm.LawKit Jvm.RoadKit Jvm.Own Bundle Jvm.Pilot.@@N@@.Jvm.D
theorem own_pos (x : Int32) : 0 ≤ (x &&& (2147483647 : Int32)).toInt := by
  have h : (x &&& (2147483647 : Int32)).toBitVec.toNat < 2 ^ 31 := by
    rw [Int32.toBitVec_and, BitVec.toNat_and]
    have : (Int32.toBitVec 2147483647).toNat = 2 ^ 31 - 1 := by decide
    rw [this, Nat.and_two_pow_sub_one_eq_mod]; exact Nat.mod_lt _ (by decide)
  rw [← Int32.toInt_toBitVec, BitVec.toInt_eq_toNat_of_lt (by omega)]; omega
theorem own_at (x : Int32) : (x &&& (3 : Int32)) = 0 ∨ (x &&& (3 : Int32)) = 1 ∨ (x &&& (3 : Int32)) = 2 ∨ (x &&& (3 : Int32)) = 3 := by
  have h : (x &&& (3 : Int32)).toBitVec.toNat < 2 ^ 2 := by
    rw [Int32.toBitVec_and, BitVec.toNat_and]
    have : (Int32.toBitVec 3).toNat = 2 ^ 2 - 1 := by decide
    rw [this, Nat.and_two_pow_sub_one_eq_mod]; exact Nat.mod_lt _ (by decide)
  have e : (x &&& (3 : Int32)).toInt = (x &&& (3 : Int32)).toBitVec.toNat := by rw [← Int32.toInt_toBitVec, BitVec.toInt_eq_toNat_of_lt (by omega)]
  simp only [← Int32.toInt_inj, e, Int32.reduceToInt]
  omega
theorem own_div {x y : Int32} (d : Int) (hy : y.toInt = d) (hd : 0 < d) (hx : 0 ≤ x.toInt) : (x / y).toInt = x.toInt / d := by
  rw [Int32.toInt_div_of_ne_right _ _ (by rintro rfl; have : (-1 : Int32).toInt = -1 := rfl; omega), hy]
  exact Int.tdiv_eq_ediv_of_nonneg hx
theorem own_rem {x y : Int32} (d : Int) (hy : y.toInt = d) (hx : 0 ≤ x.toInt) : (x % y).toInt = x.toInt % d := by
  rw [Int32.toInt_mod, hy]; exact Int.tmod_eq_emod_of_nonneg hx
theorem own_nd (x : Int32) (h : 0 ≤ x.toInt) (h2 : x.toInt < 1000000) : x.toInt < 100 ∨ (100 ≤ x.toInt ∧ x.toInt < 1000) ∨ (1000 ≤ x.toInt ∧ x.toInt < 10000) ∨ (10000 ≤ x.toInt ∧ x.toInt < 100000) ∨ (100000 ≤ x.toInt ∧ x.toInt < 1000000) := by omega
def own_dig (x : Int32) : Int32 := nar .byte (((48 : Int32) + x).toInt8.toInt32)
theorem own_digv {x : Int32} (h : 0 ≤ x.toInt) (h2 : x.toInt < 10) : nar .byte (own_dig x) = 48 + x := by
  have e : x = 0 ∨ x = 1 ∨ x = 2 ∨ x = 3 ∨ x = 4 ∨ x = 5 ∨ x = 6 ∨ x = 7 ∨ x = 8 ∨ x = 9 := by
    simp only [← Int32.toInt_inj, Int32.reduceToInt]; omega
  rcases e with rfl | rfl | rfl | rfl | rfl | rfl | rfl | rfl | rfl | rfl <;> rfl
theorem own_mod10 {x : Int32} (h : 0 ≤ x.toInt) : nar .byte (own_dig (x % 10)) = 48 + x % 10 := by
  have e := own_rem (x := x) (y := 10) 10 rfl h
  exact own_digv (by omega) (by omega)
theorem own_div10 {x : Int32} (h : 0 ≤ x.toInt) (h2 : x.toInt < 100) : nar .byte (own_dig (x / 10)) = 48 + x / 10 := by
  have e := own_div (x := x) (y := 10) 10 rfl (by omega) h
  exact own_digv (by omega) (by omega)
theorem own_min {t : Int32} (h : 0 ≤ t.toInt) : (t - (t / 3600) * 3600) / 60 = (t / 60) % 60 := by
  have hl := t.toInt_lt
  have e1 := own_div (x := t) (y := 3600) 3600 rfl (by omega) h
  have e2 : ((t / 3600) * 3600).toInt = (t / 3600).toInt * 3600 := Jvm.Free.XT.mul32 (y := 3600) (show Jvm.Free.XT.fits32 (_ * 3600) from ⟨by omega, by omega⟩)
  have e3 : (t - (t / 3600) * 3600).toInt = t.toInt - ((t / 3600) * 3600).toInt := Jvm.Free.XT.sub32 ⟨by omega, by omega⟩
  have e4 := own_div (x := (t - (t / 3600) * 3600)) (y := 60) 60 rfl (by omega) (by omega)
  have e5 := own_div (x := t) (y := 60) 60 rfl (by omega) h
  have e6 := own_rem (x := t / 60) (y := 60) 60 rfl (by omega)
  rw [← Int32.toInt_inj, e4, e6, e3, e2, e1, e5]; omega
theorem own_sec {t : Int32} (h : 0 ≤ t.toInt) : (t - (t / 3600) * 3600) - ((t / 60) % 60) * 60 = t % 60 := by
  have hl := t.toInt_lt
  have e1 := own_div (x := t) (y := 3600) 3600 rfl (by omega) h
  have e2 : ((t / 3600) * 3600).toInt = (t / 3600).toInt * 3600 := Jvm.Free.XT.mul32 (y := 3600) (show Jvm.Free.XT.fits32 (_ * 3600) from ⟨by omega, by omega⟩)
  have e3 : (t - (t / 3600) * 3600).toInt = t.toInt - ((t / 3600) * 3600).toInt := Jvm.Free.XT.sub32 ⟨by omega, by omega⟩
  have e5 := own_div (x := t) (y := 60) 60 rfl (by omega) h
  have e6 := own_rem (x := t / 60) (y := 60) 60 rfl (by omega)
  have e7 : (((t / 60) % 60) * 60).toInt = ((t / 60) % 60).toInt * 60 := Jvm.Free.XT.mul32 (y := 60) (show Jvm.Free.XT.fits32 (_ * 60) from ⟨by omega, by omega⟩)
  have e8 : ((t - (t / 3600) * 3600) - ((t / 60) % 60) * 60).toInt = (t - (t / 3600) * 3600).toInt - (((t / 60) % 60) * 60).toInt := Jvm.Free.XT.sub32 ⟨by omega, by omega⟩
  have e9 := own_rem (x := t) (y := 60) 60 rfl h
  rw [← Int32.toInt_inj, e8, e9, e7, e3, e2, e6, e1, e5]; omega
theorem own_q {x : Int32} (h : 0 ≤ x.toInt) : x / 1 = x := by
  rw [← Int32.toInt_inj, own_div 1 rfl (by omega) h]; omega
theorem own_qq {x y z w : Int32} (d e : Int) (hy : y.toInt = d) (hz : z.toInt = e) (hw : w.toInt = d * e) (hd : 0 < d) (he : 0 < e) (h : 0 ≤ x.toInt) : x / y / z = x / w := by
  have h1 := own_div (x := x) d hy hd h
  have hde : 0 < d * e := Int.mul_pos hd he
  have h3 : 0 ≤ x.toInt / d := Int.ediv_nonneg h (by omega)
  rw [← Int32.toInt_inj, own_div (x := x / y) e hz he (by omega), own_div (x := x) (d * e) hw hde h, h1, Int.ediv_ediv_of_nonneg (by omega)]
theorem d2_0 : decode prog_118_method_11_code 0 = .ok (.bipush 48, 2) := by decide +kernel
theorem d2_2 : decode prog_118_method_11_code 2 = .ok (.iload_n 0, 1) := by decide +kernel
theorem d2_3 : decode prog_118_method_11_code 3 = .ok (.iadd, 1) := by decide +kernel
theorem d2_4 : decode prog_118_method_11_code 4 = .ok (.i2b, 1) := by decide +kernel
theorem d2_5 : decode prog_118_method_11_code 5 = .ok (.ireturn, 1) := by decide +kernel
theorem ef_rmD (m : MethodId) (x : Int32)  : entryFrame m #[(.int x)] 1 = mkF m 0 #[.val (.int x)] [] := by first | (simp [entryFrame, mkF, argsToLocals, Value.category]; done) | rfl
theorem pn_2 : plainFor (⟨"com/example/voznired/voznired/timetable/StopTime", "digit", "(I)B"⟩ : MethodName) = true := plainFor_of_name (show plainName "com/example/voznired/voznired/timetable/StopTime" = true by first | (simp [plainName, overriddenIn]; done) | decide +kernel)
set_option maxRecDepth 65536 in
set_option maxHeartbeats 40000000 in
theorem rmD (l : Launch) (Z : State) (a0 : Array Value) (hw : ∀ d ∈ tables_1, d.before a0 Z = true) (ws : List Jvm.Cond) (x : Int32) (h0 : Heap) (n0 : Nat) (hn : n0 ≤ h0.size) :
    Met false l Z (⟨"com/example/voznired/voznired/timetable/StopTime", "digit", "(I)B"⟩ : MethodName) prog_118_method_11_code 1 (some .byte) ({ frames := 0, cells := 0, slots := 0, locals := 0 } : Room) ws #[(.int x)] h0 n0 (Pur (.int (own_dig x)) h0) := by
  refine Met.of pn_2 (fun m => ef_rmD m x) ?_
  refine Own.bipush (48 : Int32) d2_0 rfl ?_
  refine Own.iloadN d2_2 rfl ?_
  refine Own.iadd d2_3 ?_
  refine Own.i2b d2_4 ?_
  refine Own.ret_nar (t := .byte) (by simp) rfl d2_5 (by decide) (by decide) ?_
  exact ⟨rfl, rfl⟩
def own_pow (x : Int32) : Int32 := (if (0 : Int32) < x then (if x = (1 : Int32) then (10 : Int32) else (if x = (2 : Int32) then (100 : Int32) else (if x = (3 : Int32) then (1000 : Int32) else (if x = (4 : Int32) then (10000 : Int32) else (100000 : Int32))))) else (1 : Int32))
theorem d5_0 : decode method_5_code 0 = .ok (.iload_n 0, 1) := by decide +kernel
theorem d5_1 : decode method_5_code 1 = .ok (.ifCond .gt 5, 3) := by decide +kernel
theorem d5_6 : decode method_5_code 6 = .ok (.iload_n 0, 1) := by decide +kernel
theorem d5_7 : decode method_5_code 7 = .ok (.iconst 1, 1) := by decide +kernel
theorem d5_8 : decode method_5_code 8 = .ok (.if_icmp .ne 6, 3) := by decide +kernel
theorem d5_14 : decode method_5_code 14 = .ok (.iload_n 0, 1) := by decide +kernel
theorem d5_15 : decode method_5_code 15 = .ok (.iconst 2, 1) := by decide +kernel
theorem d5_16 : decode method_5_code 16 = .ok (.if_icmp .ne 6, 3) := by decide +kernel
theorem d5_22 : decode method_5_code 22 = .ok (.iload_n 0, 1) := by decide +kernel
theorem d5_23 : decode method_5_code 23 = .ok (.iconst 3, 1) := by decide +kernel
theorem d5_24 : decode method_5_code 24 = .ok (.if_icmp .ne 7, 3) := by decide +kernel
theorem d5_31 : decode method_5_code 31 = .ok (.iload_n 0, 1) := by decide +kernel
theorem d5_32 : decode method_5_code 32 = .ok (.iconst 4, 1) := by decide +kernel
theorem d5_33 : decode method_5_code 33 = .ok (.if_icmp .ne 7, 3) := by decide +kernel
theorem d5_40 : decode method_5_code 40 = .ok (.ldc 14, 2) := by decide +kernel
theorem d5_42 : decode method_5_code 42 = .ok (.ireturn, 1) := by decide +kernel
theorem d5_36 : decode method_5_code 36 = .ok (.sipush 10000, 3) := by decide +kernel
theorem d5_39 : decode method_5_code 39 = .ok (.ireturn, 1) := by decide +kernel
theorem d5_27 : decode method_5_code 27 = .ok (.sipush 1000, 3) := by decide +kernel
theorem d5_30 : decode method_5_code 30 = .ok (.ireturn, 1) := by decide +kernel
theorem d5_19 : decode method_5_code 19 = .ok (.bipush 100, 2) := by decide +kernel
theorem d5_21 : decode method_5_code 21 = .ok (.ireturn, 1) := by decide +kernel
theorem d5_11 : decode method_5_code 11 = .ok (.bipush 10, 2) := by decide +kernel
theorem d5_13 : decode method_5_code 13 = .ok (.ireturn, 1) := by decide +kernel
theorem d5_4 : decode method_5_code 4 = .ok (.iconst 1, 1) := by decide +kernel
theorem d5_5 : decode method_5_code 5 = .ok (.ireturn, 1) := by decide +kernel
theorem ef_rmP (m : MethodId) (x : Int32)  : entryFrame m #[(.int x)] 1 = mkF m 0 #[.val (.int x)] [] := by first | (simp [entryFrame, mkF, argsToLocals, Value.category]; done) | rfl
theorem pn_5 : plainFor (⟨"com/example/voznired/voznired/timetable/StopTimeFormatTimePinLaw", "pow10", "(I)I"⟩ : MethodName) = true := plainFor_of_name (show plainName "com/example/voznired/voznired/timetable/StopTimeFormatTimePinLaw" = true by first | (simp [plainName, overriddenIn]; done) | decide +kernel)
set_option maxRecDepth 65536 in
set_option maxHeartbeats 40000000 in
theorem rmP (l : Launch) (Z : State) (a0 : Array Value) (hw : ∀ d ∈ tables_1, d.before a0 Z = true) (ws : List Jvm.Cond) (x : Int32) (h0 : Heap) (n0 : Nat) (hn : n0 ≤ h0.size) :
    Met false l Z (⟨"com/example/voznired/voznired/timetable/StopTimeFormatTimePinLaw", "pow10", "(I)I"⟩ : MethodName) method_5_code 1 (some .int) ({ frames := 0, cells := 0, slots := 0, locals := 0 } : Room) ws #[(.int x)] h0 n0 (Pur (.int (own_pow x)) h0) := by
  refine Met.of pn_5 (fun m => ef_rmP m x) ?_
  refine Own.iloadN d5_0 rfl ?_
  refine Own.if_gt 6 d5_1 (by decide) rfl (fun c1 => ?_) (fun c1 => ?_)
  · refine Own.iloadN d5_6 rfl ?_
    refine Own.iconst (1 : Int32) d5_7 rfl ?_
    refine Own.icmp_ne 14 d5_8 (by decide) rfl (fun c8 => ?_) (fun c8 => ?_)
    · refine Own.iloadN d5_14 rfl ?_
      refine Own.iconst (2 : Int32) d5_15 rfl ?_
      refine Own.icmp_ne 22 d5_16 (by decide) rfl (fun c16 => ?_) (fun c16 => ?_)
      · refine Own.iloadN d5_22 rfl ?_
        refine Own.iconst (3 : Int32) d5_23 rfl ?_
        refine Own.icmp_ne 31 d5_24 (by decide) rfl (fun c24 => ?_) (fun c24 => ?_)
        · refine Own.iloadN d5_31 rfl ?_
          refine Own.iconst (4 : Int32) d5_32 rfl ?_
          refine Own.icmp_ne 40 d5_33 (by decide) rfl (fun c33 => ?_) (fun c33 => ?_)
          · refine Own.ldcInt (hw _ (List.mem_of_getElem? (i := 19) rfl)) d5_40 ?_
            refine Own.ret_int rfl d5_42 (by decide) (by decide) ?_
            refine ⟨congrArg (fun z => some (Value.int z)) ?_, rfl⟩
            rw [own_pow, if_pos c1, if_neg c8, if_neg c16, if_neg c24, if_neg c33]
          · refine Own.sipush (10000 : Int32) d5_36 rfl ?_
            refine Own.ret_int rfl d5_39 (by decide) (by decide) ?_
            refine ⟨congrArg (fun z => some (Value.int z)) ?_, rfl⟩
            rw [own_pow, if_pos c1, if_neg c8, if_neg c16, if_neg c24, if_pos c33]
        · refine Own.sipush (1000 : Int32) d5_27 rfl ?_
          refine Own.ret_int rfl d5_30 (by decide) (by decide) ?_
          refine ⟨congrArg (fun z => some (Value.int z)) ?_, rfl⟩
          rw [own_pow, if_pos c1, if_neg c8, if_neg c16, if_pos c24]
      · refine Own.bipush (100 : Int32) d5_19 rfl ?_
        refine Own.ret_int rfl d5_21 (by decide) (by decide) ?_
        refine ⟨congrArg (fun z => some (Value.int z)) ?_, rfl⟩
        rw [own_pow, if_pos c1, if_neg c8, if_pos c16]
    · refine Own.bipush (10 : Int32) d5_11 rfl ?_
      refine Own.ret_int rfl d5_13 (by decide) (by decide) ?_
      refine ⟨congrArg (fun z => some (Value.int z)) ?_, rfl⟩
      rw [own_pow, if_pos c1, if_pos c8]
  · refine Own.iconst (1 : Int32) d5_4 rfl ?_
    refine Own.ret_int rfl d5_5 (by decide) (by decide) ?_
    refine ⟨congrArg (fun z => some (Value.int z)) ?_, rfl⟩
    rw [own_pow, if_neg c1]
theorem own_pow_ne (x : Int32) : own_pow x ≠ 0 := by
  unfold own_pow; repeat' split
  all_goals decide
def own_exp (xi : Int32) (xa : Int32) (xn : Int32) (xh : Int32) (xm : Int32) (xs : Int32) : Int32 := (if xi < xa then (120 : Int32) else (if xi < ((xa + xn) + (6 : Int32)) then (if (xi - xa) < xn then ((48 : Int32) + ((xh / (own_pow ((xn - (1 : Int32)) - (xi - xa)))) % (10 : Int32))) else (if (xi - xa) = xn then (58 : Int32) else (if (xi - xa) = (xn + (3 : Int32)) then (58 : Int32) else (if (xi - xa) = (xn + (1 : Int32)) then ((48 : Int32) + (xm / (10 : Int32))) else (if (xi - xa) = (xn + (2 : Int32)) then ((48 : Int32) + (xm % (10 : Int32))) else (if (xi - xa) = (xn + (4 : Int32)) then ((48 : Int32) + (xs / (10 : Int32))) else ((48 : Int32) + (xs % (10 : Int32))))))))) else (120 : Int32)))
theorem d4_0 : decode method_4_code 0 = .ok (.iload_n 0, 1) := by decide +kernel
theorem d4_1 : decode method_4_code 1 = .ok (.iload_n 1, 1) := by decide +kernel
theorem d4_2 : decode method_4_code 2 = .ok (.if_icmp .lt 13, 3) := by decide +kernel
theorem d4_15 : decode method_4_code 15 = .ok (.bipush 120, 2) := by decide +kernel
theorem d4_17 : decode method_4_code 17 = .ok (.ireturn, 1) := by decide +kernel
theorem d4_5 : decode method_4_code 5 = .ok (.iload_n 0, 1) := by decide +kernel
theorem d4_6 : decode method_4_code 6 = .ok (.iload_n 1, 1) := by decide +kernel
theorem d4_7 : decode method_4_code 7 = .ok (.iload_n 2, 1) := by decide +kernel
theorem d4_8 : decode method_4_code 8 = .ok (.iadd, 1) := by decide +kernel
theorem d4_9 : decode method_4_code 9 = .ok (.bipush 6, 2) := by decide +kernel
theorem d4_11 : decode method_4_code 11 = .ok (.iadd, 1) := by decide +kernel
theorem d4_12 : decode method_4_code 12 = .ok (.if_icmp .lt 6, 3) := by decide +kernel
theorem d4_18 : decode method_4_code 18 = .ok (.iload_n 0, 1) := by decide +kernel
theorem d4_19 : decode method_4_code 19 = .ok (.iload_n 1, 1) := by decide +kernel
theorem d4_20 : decode method_4_code 20 = .ok (.isub, 1) := by decide +kernel
theorem d4_21 : decode method_4_code 21 = .ok (.istore 6, 2) := by decide +kernel
theorem d4_23 : decode method_4_code 23 = .ok (.iload 6, 2) := by decide +kernel
theorem d4_25 : decode method_4_code 25 = .ok (.iload_n 2, 1) := by decide +kernel
theorem d4_26 : decode method_4_code 26 = .ok (.if_icmp .ge 21, 3) := by decide +kernel
theorem d4_47 : decode method_4_code 47 = .ok (.iload 6, 2) := by decide +kernel
theorem d4_49 : decode method_4_code 49 = .ok (.iload_n 2, 1) := by decide +kernel
theorem d4_50 : decode method_4_code 50 = .ok (.if_icmp .eq 11, 3) := by decide +kernel
theorem d4_61 : decode method_4_code 61 = .ok (.bipush 58, 2) := by decide +kernel
theorem d4_63 : decode method_4_code 63 = .ok (.ireturn, 1) := by decide +kernel
theorem d4_53 : decode method_4_code 53 = .ok (.iload 6, 2) := by decide +kernel
theorem d4_55 : decode method_4_code 55 = .ok (.iload_n 2, 1) := by decide +kernel
theorem d4_56 : decode method_4_code 56 = .ok (.iconst 3, 1) := by decide +kernel
theorem d4_57 : decode method_4_code 57 = .ok (.iadd, 1) := by decide +kernel
theorem d4_58 : decode method_4_code 58 = .ok (.if_icmp .ne 6, 3) := by decide +kernel
theorem d4_64 : decode method_4_code 64 = .ok (.iload 6, 2) := by decide +kernel
theorem d4_66 : decode method_4_code 66 = .ok (.iload_n 2, 1) := by decide +kernel
theorem d4_67 : decode method_4_code 67 = .ok (.iconst 1, 1) := by decide +kernel
theorem d4_68 : decode method_4_code 68 = .ok (.iadd, 1) := by decide +kernel
theorem d4_69 : decode method_4_code 69 = .ok (.if_icmp .ne 12, 3) := by decide +kernel
theorem d4_81 : decode method_4_code 81 = .ok (.iload 6, 2) := by decide +kernel
theorem d4_83 : decode method_4_code 83 = .ok (.iload_n 2, 1) := by decide +kernel
theorem d4_84 : decode method_4_code 84 = .ok (.iconst 2, 1) := by decide +kernel
theorem d4_85 : decode method_4_code 85 = .ok (.iadd, 1) := by decide +kernel
theorem d4_86 : decode method_4_code 86 = .ok (.if_icmp .ne 12, 3) := by decide +kernel
theorem d4_98 : decode method_4_code 98 = .ok (.iload 6, 2) := by decide +kernel
theorem d4_100 : decode method_4_code 100 = .ok (.iload_n 2, 1) := by decide +kernel
theorem d4_101 : decode method_4_code 101 = .ok (.iconst 4, 1) := by decide +kernel
theorem d4_102 : decode method_4_code 102 = .ok (.iadd, 1) := by decide +kernel
theorem d4_103 : decode method_4_code 103 = .ok (.if_icmp .ne 12, 3) := by decide +kernel
theorem d4_115 : decode method_4_code 115 = .ok (.bipush 48, 2) := by decide +kernel
theorem d4_117 : decode method_4_code 117 = .ok (.iload 5, 2) := by decide +kernel
theorem d4_119 : decode method_4_code 119 = .ok (.bipush 10, 2) := by decide +kernel
theorem d4_121 : decode method_4_code 121 = .ok (.irem, 1) := by decide +kernel
theorem d4_122 : decode method_4_code 122 = .ok (.iadd, 1) := by decide +kernel
theorem d4_123 : decode method_4_code 123 = .ok (.ireturn, 1) := by decide +kernel
theorem d4_106 : decode method_4_code 106 = .ok (.bipush 48, 2) := by decide +kernel
theorem d4_108 : decode method_4_code 108 = .ok (.iload 5, 2) := by decide +kernel
theorem d4_110 : decode method_4_code 110 = .ok (.bipush 10, 2) := by decide +kernel
theorem d4_112 : decode method_4_code 112 = .ok (.idiv, 1) := by decide +kernel
theorem d4_113 : decode method_4_code 113 = .ok (.iadd, 1) := by decide +kernel
theorem d4_114 : decode method_4_code 114 = .ok (.ireturn, 1) := by decide +kernel
theorem d4_89 : decode method_4_code 89 = .ok (.bipush 48, 2) := by decide +kernel
theorem d4_91 : decode method_4_code 91 = .ok (.iload 4, 2) := by decide +kernel
theorem d4_93 : decode method_4_code 93 = .ok (.bipush 10, 2) := by decide +kernel
theorem d4_95 : decode method_4_code 95 = .ok (.irem, 1) := by decide +kernel
theorem d4_96 : decode method_4_code 96 = .ok (.iadd, 1) := by decide +kernel
theorem d4_97 : decode method_4_code 97 = .ok (.ireturn, 1) := by decide +kernel
theorem d4_72 : decode method_4_code 72 = .ok (.bipush 48, 2) := by decide +kernel
theorem d4_74 : decode method_4_code 74 = .ok (.iload 4, 2) := by decide +kernel
theorem d4_76 : decode method_4_code 76 = .ok (.bipush 10, 2) := by decide +kernel
theorem d4_78 : decode method_4_code 78 = .ok (.idiv, 1) := by decide +kernel
theorem d4_79 : decode method_4_code 79 = .ok (.iadd, 1) := by decide +kernel
theorem d4_80 : decode method_4_code 80 = .ok (.ireturn, 1) := by decide +kernel
theorem d4_29 : decode method_4_code 29 = .ok (.bipush 48, 2) := by decide +kernel
theorem d4_31 : decode method_4_code 31 = .ok (.iload_n 3, 1) := by decide +kernel
theorem d4_32 : decode method_4_code 32 = .ok (.iload_n 2, 1) := by decide +kernel
theorem d4_33 : decode method_4_code 33 = .ok (.iconst 1, 1) := by decide +kernel
theorem d4_34 : decode method_4_code 34 = .ok (.isub, 1) := by decide +kernel
theorem d4_35 : decode method_4_code 35 = .ok (.iload 6, 2) := by decide +kernel
theorem d4_37 : decode method_4_code 37 = .ok (.isub, 1) := by decide +kernel
theorem d4_38 : decode method_4_code 38 = .ok (.invokestatic 25, 3) := by decide +kernel
theorem pd_1 : parseMethodDescriptor "(I)I" = some ⟨[.int], some .int⟩ := by decide +kernel
theorem d4_41 : decode method_4_code 41 = .ok (.idiv, 1) := by decide +kernel
theorem d4_42 : decode method_4_code 42 = .ok (.bipush 10, 2) := by decide +kernel
theorem d4_44 : decode method_4_code 44 = .ok (.irem, 1) := by decide +kernel
theorem d4_45 : decode method_4_code 45 = .ok (.iadd, 1) := by decide +kernel
theorem d4_46 : decode method_4_code 46 = .ok (.ireturn, 1) := by decide +kernel
theorem ef_rmE (m : MethodId) (xi : Int32) (xa : Int32) (xn : Int32) (xh : Int32) (xm : Int32) (xs : Int32)  : entryFrame m #[(.int xi), (.int xa), (.int xn), (.int xh), (.int xm), (.int xs)] 7 = mkF m 0 #[.val (.int xi), .val (.int xa), .val (.int xn), .val (.int xh), .val (.int xm), .val (.int xs), .unset] [] := by first | (simp [entryFrame, mkF, argsToLocals, Value.category]; done) | rfl
theorem pn_4 : plainFor (⟨"com/example/voznired/voznired/timetable/StopTimeFormatTimePinLaw", "expected", "(IIIIII)I"⟩ : MethodName) = true := plainFor_of_name (show plainName "com/example/voznired/voznired/timetable/StopTimeFormatTimePinLaw" = true by first | (simp [plainName, overriddenIn]; done) | decide +kernel)
set_option maxRecDepth 65536 in
set_option maxHeartbeats 40000000 in
theorem rmE (l : Launch) (Z : State) (a0 : Array Value) (hw : ∀ d ∈ tables_1, d.before a0 Z = true) (ws : List Jvm.Cond) (xi : Int32) (xa : Int32) (xn : Int32) (xh : Int32) (xm : Int32) (xs : Int32) (h0 : Heap) (n0 : Nat) (hn : n0 ≤ h0.size) :
    Met false l Z (⟨"com/example/voznired/voznired/timetable/StopTimeFormatTimePinLaw", "expected", "(IIIIII)I"⟩ : MethodName) method_4_code 7 (some .int) ({ frames := 1, cells := 0, slots := 0, locals := 14 } : Room) ws #[(.int xi), (.int xa), (.int xn), (.int xh), (.int xm), (.int xs)] h0 n0 (Pur (.int (own_exp xi xa xn xh xm xs)) h0) := by
  refine Met.of pn_4 (fun m => ef_rmE m xi xa xn xh xm xs) ?_
  refine Own.iloadN d4_0 rfl ?_
  refine Own.iloadN d4_1 rfl ?_
  refine Own.icmp_lt 15 d4_2 (by decide) rfl (fun c2 => ?_) (fun c2 => ?_)
  · refine Own.bipush (120 : Int32) d4_15 rfl ?_
    refine Own.ret_int rfl d4_17 (by decide) (by decide) ?_
    refine ⟨congrArg (fun z => some (Value.int z)) ?_, rfl⟩
    rw [own_exp, if_pos c2]
  · refine Own.iloadN d4_5 rfl ?_
    refine Own.iloadN d4_6 rfl ?_
    refine Own.iloadN d4_7 rfl ?_
    refine Own.iadd d4_8 ?_
    refine Own.bipush (6 : Int32) d4_9 rfl ?_
    refine Own.iadd d4_11 ?_
    refine Own.icmp_lt 18 d4_12 (by decide) rfl (fun c12 => ?_) (fun c12 => ?_)
    · refine Own.iloadN d4_18 rfl ?_
      refine Own.iloadN d4_19 rfl ?_
      refine Own.isub d4_20 ?_
      refine Own.istore #[.val (.int xi), .val (.int xa), .val (.int xn), .val (.int xh), .val (.int xm), .val (.int xs), .val (.int (xi - xa))] d4_21 rfl ?_
      refine Own.iload d4_23 rfl ?_
      refine Own.iloadN d4_25 rfl ?_
      refine Own.icmp_ge 47 d4_26 (by decide) rfl (fun c26 => ?_) (fun c26 => ?_)
      · refine Own.iload d4_47 rfl ?_
        refine Own.iloadN d4_49 rfl ?_
        refine Own.icmp_eq 61 d4_50 (by decide) rfl (fun c50 => ?_) (fun c50 => ?_)
        · refine Own.bipush (58 : Int32) d4_61 rfl ?_
          refine Own.ret_int rfl d4_63 (by decide) (by decide) ?_
          refine ⟨congrArg (fun z => some (Value.int z)) ?_, rfl⟩
          rw [own_exp, if_neg c2, if_pos c12, if_neg c26, if_pos c50]
        · refine Own.iload d4_53 rfl ?_
          refine Own.iloadN d4_55 rfl ?_
          refine Own.iconst (3 : Int32) d4_56 rfl ?_
          refine Own.iadd d4_57 ?_
          refine Own.icmp_ne 64 d4_58 (by decide) rfl (fun c58 => ?_) (fun c58 => ?_)
          · refine Own.iload d4_64 rfl ?_
            refine Own.iloadN d4_66 rfl ?_
            refine Own.iconst (1 : Int32) d4_67 rfl ?_
            refine Own.iadd d4_68 ?_
            refine Own.icmp_ne 81 d4_69 (by decide) rfl (fun c69 => ?_) (fun c69 => ?_)
            · refine Own.iload d4_81 rfl ?_
              refine Own.iloadN d4_83 rfl ?_
              refine Own.iconst (2 : Int32) d4_84 rfl ?_
              refine Own.iadd d4_85 ?_
              refine Own.icmp_ne 98 d4_86 (by decide) rfl (fun c86 => ?_) (fun c86 => ?_)
              · refine Own.iload d4_98 rfl ?_
                refine Own.iloadN d4_100 rfl ?_
                refine Own.iconst (4 : Int32) d4_101 rfl ?_
                refine Own.iadd d4_102 ?_
                refine Own.icmp_ne 115 d4_103 (by decide) rfl (fun c103 => ?_) (fun c103 => ?_)
                · refine Own.bipush (48 : Int32) d4_115 rfl ?_
                  refine Own.iload d4_117 rfl ?_
                  refine Own.bipush (10 : Int32) d4_119 rfl ?_
                  refine Own.irem_ d4_121 (by decide) ?_
                  refine Own.iadd d4_122 ?_
                  refine Own.ret_int rfl d4_123 (by decide) (by decide) ?_
                  refine ⟨congrArg (fun z => some (Value.int z)) ?_, rfl⟩
                  rw [own_exp, if_neg c2, if_pos c12, if_neg c26, if_neg c50, if_neg c58, if_neg c69, if_neg c86, if_neg c103]
                · refine Own.bipush (48 : Int32) d4_106 rfl ?_
                  refine Own.iload d4_108 rfl ?_
                  refine Own.bipush (10 : Int32) d4_110 rfl ?_
                  refine Own.idiv d4_112 (by decide) ?_
                  refine Own.iadd d4_113 ?_
                  refine Own.ret_int rfl d4_114 (by decide) (by decide) ?_
                  refine ⟨congrArg (fun z => some (Value.int z)) ?_, rfl⟩
                  rw [own_exp, if_neg c2, if_pos c12, if_neg c26, if_neg c50, if_neg c58, if_neg c69, if_neg c86, if_pos c103]
              · refine Own.bipush (48 : Int32) d4_89 rfl ?_
                refine Own.iload d4_91 rfl ?_
                refine Own.bipush (10 : Int32) d4_93 rfl ?_
                refine Own.irem_ d4_95 (by decide) ?_
                refine Own.iadd d4_96 ?_
                refine Own.ret_int rfl d4_97 (by decide) (by decide) ?_
                refine ⟨congrArg (fun z => some (Value.int z)) ?_, rfl⟩
                rw [own_exp, if_neg c2, if_pos c12, if_neg c26, if_neg c50, if_neg c58, if_neg c69, if_pos c86]
            · refine Own.bipush (48 : Int32) d4_72 rfl ?_
              refine Own.iload d4_74 rfl ?_
              refine Own.bipush (10 : Int32) d4_76 rfl ?_
              refine Own.idiv d4_78 (by decide) ?_
              refine Own.iadd d4_79 ?_
              refine Own.ret_int rfl d4_80 (by decide) (by decide) ?_
              refine ⟨congrArg (fun z => some (Value.int z)) ?_, rfl⟩
              rw [own_exp, if_neg c2, if_pos c12, if_neg c26, if_neg c50, if_neg c58, if_pos c69]
          · refine Own.bipush (58 : Int32) d4_61 rfl ?_
            refine Own.ret_int rfl d4_63 (by decide) (by decide) ?_
            refine ⟨congrArg (fun z => some (Value.int z)) ?_, rfl⟩
            rw [own_exp, if_neg c2, if_pos c12, if_neg c26, if_neg c50, if_pos c58]
      · refine Own.bipush (48 : Int32) d4_29 rfl ?_
        refine Own.iloadN d4_31 rfl ?_
        refine Own.iloadN d4_32 rfl ?_
        refine Own.iconst (1 : Int32) d4_33 rfl ?_
        refine Own.isub d4_34 ?_
        refine Own.iload d4_35 rfl ?_
        refine Own.isub d4_37 ?_
        refine Own.callSP [(.int ((xn - (1 : Int32)) - (xi - xa)))] [(.int xh), (.int (48 : Int32))] 2 (rmP l Z a0 hw [] ((xn - (1 : Int32)) - (xi - xa)) h0 n0 hn) (hw _ (List.mem_of_getElem? (i := 16) rfl)) (hw _ (List.mem_of_getElem? (i := 17) rfl)) (hw _ (List.mem_of_getElem? (i := 11) rfl)) (hw _ (List.mem_of_getElem? (i := 18) rfl)) (by decide) d4_38 pd_1 rfl rfl rfl rfl (by decide) (by decide) (by decide) (by decide) ?_
        refine Own.idiv d4_41 (own_pow_ne _) ?_
        refine Own.bipush (10 : Int32) d4_42 rfl ?_
        refine Own.irem_ d4_44 (by decide) ?_
        refine Own.iadd d4_45 ?_
        refine Own.ret_int rfl d4_46 (by decide) (by decide) ?_
        refine ⟨congrArg (fun z => some (Value.int z)) ?_, rfl⟩
        rw [own_exp, if_neg c2, if_pos c12, if_pos c26]
    · refine Own.bipush (120 : Int32) d4_15 rfl ?_
      refine Own.ret_int rfl d4_17 (by decide) (by decide) ?_
      refine ⟨congrArg (fun z => some (Value.int z)) ?_, rfl⟩
      rw [own_exp, if_neg c2, if_neg c12]
theorem d3_0 : decode method_3_code 0 = .ok (.aload_n 0, 1) := by decide +kernel
theorem d3_1 : decode method_3_code 1 = .ok (.iload_n 1, 1) := by decide +kernel
theorem d3_2 : decode method_3_code 2 = .ok (.baload, 1) := by decide +kernel
theorem d3_3 : decode method_3_code 3 = .ok (.iload_n 1, 1) := by decide +kernel
theorem d3_4 : decode method_3_code 4 = .ok (.iload_n 2, 1) := by decide +kernel
theorem d3_5 : decode method_3_code 5 = .ok (.iload_n 3, 1) := by decide +kernel
theorem d3_6 : decode method_3_code 6 = .ok (.iload 4, 2) := by decide +kernel
theorem d3_8 : decode method_3_code 8 = .ok (.iload 5, 2) := by decide +kernel
theorem d3_10 : decode method_3_code 10 = .ok (.iload 6, 2) := by decide +kernel
theorem d3_12 : decode method_3_code 12 = .ok (.invokestatic 21, 3) := by decide +kernel
theorem pd_2 : parseMethodDescriptor "(IIIIII)I" = some ⟨[.int, .int, .int, .int, .int, .int], some .int⟩ := by decide +kernel
theorem d3_15 : decode method_3_code 15 = .ok (.if_icmp .ne 7, 3) := by decide +kernel
theorem d3_18 : decode method_3_code 18 = .ok (.iconst 1, 1) := by decide +kernel
theorem d3_19 : decode method_3_code 19 = .ok (.goto 4, 3) := by decide +kernel
theorem d3_23 : decode method_3_code 23 = .ok (.ireturn, 1) := by decide +kernel
theorem ef_rmO (m : MethodId) (a1 : Addr) (xi : Int32) (xa : Int32) (xn : Int32) (xh : Int32) (xm : Int32) (xs : Int32)  : entryFrame m #[(.ref a1), (.int xi), (.int xa), (.int xn), (.int xh), (.int xm), (.int xs)] 7 = mkF m 0 #[.val (.ref a1), .val (.int xi), .val (.int xa), .val (.int xn), .val (.int xh), .val (.int xm), .val (.int xs)] [] := by first | (simp [entryFrame, mkF, argsToLocals, Value.category]; done) | rfl
theorem pn_3 : plainFor (⟨"com/example/voznired/voznired/timetable/StopTimeFormatTimePinLaw", "ok", "([BIIIIII)Z"⟩ : MethodName) = true := plainFor_of_name (show plainName "com/example/voznired/voznired/timetable/StopTimeFormatTimePinLaw" = true by first | (simp [plainName, overriddenIn]; done) | decide +kernel)
set_option maxRecDepth 65536 in
set_option maxHeartbeats 40000000 in
theorem rmO (l : Launch) (Z : State) (a0 : Array Value) (hw : ∀ d ∈ tables_1, d.before a0 Z = true) (ws : List Jvm.Cond) (a1 : Addr) (xi : Int32) (xa : Int32) (xn : Int32) (xh : Int32) (xm : Int32) (xs : Int32) (ka : ClassId) (vs : List Value) (i : Nat) (h0 : Heap) (n0 : Nat) (hn : n0 ≤ h0.size) (V_a1 : Arl Z h0 a1 ka .byte vs) (hi : xi.toInt = (i : Int)) (hv : vs[i]? = some (.int (own_exp xi xa xn xh xm xs))) :
    Met false l Z (⟨"com/example/voznired/voznired/timetable/StopTimeFormatTimePinLaw", "ok", "([BIIIIII)Z"⟩ : MethodName) method_3_code 7 (some .boolean) ({ frames := 2, cells := 0, slots := 0, locals := 33 } : Room) ws #[(.ref a1), (.int xi), (.int xa), (.int xn), (.int xh), (.int xm), (.int xs)] h0 n0 (Pur (.int 1) h0) := by
  refine Met.of pn_3 (fun m => ef_rmO m a1 xi xa xn xh xm xs) ?_
  refine Own.aloadN d3_0 rfl rfl ?_
  refine Own.iloadN d3_1 rfl ?_
  refine Own.baload_ V_a1 (i := i) hi (v := (.int (own_exp xi xa xn xh xm xs))) hv d3_2 ?_
  refine Own.iloadN d3_3 rfl ?_
  refine Own.iloadN d3_4 rfl ?_
  refine Own.iloadN d3_5 rfl ?_
  refine Own.iload d3_6 rfl ?_
  refine Own.iload d3_8 rfl ?_
  refine Own.iload d3_10 rfl ?_
  refine Own.callSP [(.int xi), (.int xa), (.int xn), (.int xh), (.int xm), (.int xs)] [(.int (own_exp xi xa xn xh xm xs))] 1 (rmE l Z a0 hw [] xi xa xn xh xm xs h0 n0 hn) (hw _ (List.mem_of_getElem? (i := 13) rfl)) (hw _ (List.mem_of_getElem? (i := 14) rfl)) (hw _ (List.mem_of_getElem? (i := 11) rfl)) (hw _ (List.mem_of_getElem? (i := 15) rfl)) (by decide) d3_12 pd_2 rfl rfl rfl rfl (by decide) (by decide) (by decide) (by decide) ?_
  refine Own.icmp_ne 22 d3_15 (by decide) rfl (fun q => absurd rfl q) (fun _ => ?_)
  refine Own.iconst (1 : Int32) d3_18 rfl ?_
  refine Own.goto_ 23 d3_19 (by decide) rfl ?_
  refine Own.ret_nar (t := .boolean) (by simp) rfl d3_23 (by decide) (by decide) ?_
  exact ⟨rfl, rfl⟩
abbrev own_x : Value := .int (nar .byte (120 : Int32))
abbrev own_c : Value := .int (nar .byte (58 : Int32))
abbrev own_d (x : Int32) : Value := .int (nar .byte (own_dig x))
theorem d1_0 : decode prog_118_method_10_code 0 = .ok (.iload_n 0, 1) := by decide +kernel
theorem d1_1 : decode prog_118_method_10_code 1 = .ok (.sipush 3600, 3) := by decide +kernel
theorem d1_4 : decode prog_118_method_10_code 4 = .ok (.idiv, 1) := by decide +kernel
theorem d1_5 : decode prog_118_method_10_code 5 = .ok (.istore_n 3, 1) := by decide +kernel
theorem d1_6 : decode prog_118_method_10_code 6 = .ok (.iload_n 0, 1) := by decide +kernel
theorem d1_7 : decode prog_118_method_10_code 7 = .ok (.bipush 60, 2) := by decide +kernel
theorem d1_9 : decode prog_118_method_10_code 9 = .ok (.idiv, 1) := by decide +kernel
theorem d1_10 : decode prog_118_method_10_code 10 = .ok (.bipush 60, 2) := by decide +kernel
theorem d1_12 : decode prog_118_method_10_code 12 = .ok (.irem, 1) := by decide +kernel
theorem d1_13 : decode prog_118_method_10_code 13 = .ok (.istore 4, 2) := by decide +kernel
theorem d1_15 : decode prog_118_method_10_code 15 = .ok (.iload_n 0, 1) := by decide +kernel
theorem d1_16 : decode prog_118_method_10_code 16 = .ok (.bipush 60, 2) := by decide +kernel
theorem d1_18 : decode prog_118_method_10_code 18 = .ok (.irem, 1) := by decide +kernel
theorem d1_19 : decode prog_118_method_10_code 19 = .ok (.istore 5, 2) := by decide +kernel
theorem d1_21 : decode prog_118_method_10_code 21 = .ok (.iconst 2, 1) := by decide +kernel
theorem d1_22 : decode prog_118_method_10_code 22 = .ok (.istore 6, 2) := by decide +kernel
theorem d1_24 : decode prog_118_method_10_code 24 = .ok (.iload_n 3, 1) := by decide +kernel
theorem d1_25 : decode prog_118_method_10_code 25 = .ok (.bipush 100, 2) := by decide +kernel
theorem d1_27 : decode prog_118_method_10_code 27 = .ok (.idiv, 1) := by decide +kernel
theorem d1_28 : decode prog_118_method_10_code 28 = .ok (.istore 7, 2) := by decide +kernel
theorem d1_30 : decode prog_118_method_10_code 30 = .ok (.iload 7, 2) := by decide +kernel
theorem d1_32 : decode prog_118_method_10_code 32 = .ok (.ifCond .le 16, 3) := by decide +kernel
theorem d1_48 : decode prog_118_method_10_code 48 = .ok (.iload_n 2, 1) := by decide +kernel
theorem d1_49 : decode prog_118_method_10_code 49 = .ok (.iload 6, 2) := by decide +kernel
theorem d1_51 : decode prog_118_method_10_code 51 = .ok (.iadd, 1) := by decide +kernel
theorem d1_52 : decode prog_118_method_10_code 52 = .ok (.bipush 6, 2) := by decide +kernel
theorem d1_54 : decode prog_118_method_10_code 54 = .ok (.iadd, 1) := by decide +kernel
theorem d1_55 : decode prog_118_method_10_code 55 = .ok (.istore 7, 2) := by decide +kernel
theorem d1_57 : decode prog_118_method_10_code 57 = .ok (.iload 7, 2) := by decide +kernel
theorem d1_59 : decode prog_118_method_10_code 59 = .ok (.istore 8, 2) := by decide +kernel
theorem d1_61 : decode prog_118_method_10_code 61 = .ok (.aload_n 1, 1) := by decide +kernel
theorem d1_62 : decode prog_118_method_10_code 62 = .ok (.iinc 8 (-1), 3) := by decide +kernel
theorem d1_65 : decode prog_118_method_10_code 65 = .ok (.iload 8, 2) := by decide +kernel
theorem d1_67 : decode prog_118_method_10_code 67 = .ok (.iload 5, 2) := by decide +kernel
theorem d1_69 : decode prog_118_method_10_code 69 = .ok (.bipush 10, 2) := by decide +kernel
theorem d1_71 : decode prog_118_method_10_code 71 = .ok (.irem, 1) := by decide +kernel
theorem d1_72 : decode prog_118_method_10_code 72 = .ok (.invokestatic 108, 3) := by decide +kernel
theorem pd_0 : parseMethodDescriptor "(I)B" = some ⟨[.int], some .byte⟩ := by decide +kernel
theorem d1_75 : decode prog_118_method_10_code 75 = .ok (.bastore, 1) := by decide +kernel
theorem d1_76 : decode prog_118_method_10_code 76 = .ok (.aload_n 1, 1) := by decide +kernel
theorem d1_77 : decode prog_118_method_10_code 77 = .ok (.iinc 8 (-1), 3) := by decide +kernel
theorem d1_80 : decode prog_118_method_10_code 80 = .ok (.iload 8, 2) := by decide +kernel
theorem d1_82 : decode prog_118_method_10_code 82 = .ok (.iload 5, 2) := by decide +kernel
theorem d1_84 : decode prog_118_method_10_code 84 = .ok (.bipush 10, 2) := by decide +kernel
theorem d1_86 : decode prog_118_method_10_code 86 = .ok (.idiv, 1) := by decide +kernel
theorem d1_87 : decode prog_118_method_10_code 87 = .ok (.invokestatic 108, 3) := by decide +kernel
theorem d1_90 : decode prog_118_method_10_code 90 = .ok (.bastore, 1) := by decide +kernel
theorem d1_91 : decode prog_118_method_10_code 91 = .ok (.aload_n 1, 1) := by decide +kernel
theorem d1_92 : decode prog_118_method_10_code 92 = .ok (.iinc 8 (-1), 3) := by decide +kernel
theorem d1_95 : decode prog_118_method_10_code 95 = .ok (.iload 8, 2) := by decide +kernel
theorem d1_97 : decode prog_118_method_10_code 97 = .ok (.bipush 58, 2) := by decide +kernel
theorem d1_99 : decode prog_118_method_10_code 99 = .ok (.bastore, 1) := by decide +kernel
theorem d1_100 : decode prog_118_method_10_code 100 = .ok (.aload_n 1, 1) := by decide +kernel
theorem d1_101 : decode prog_118_method_10_code 101 = .ok (.iinc 8 (-1), 3) := by decide +kernel
theorem d1_104 : decode prog_118_method_10_code 104 = .ok (.iload 8, 2) := by decide +kernel
theorem d1_106 : decode prog_118_method_10_code 106 = .ok (.iload 4, 2) := by decide +kernel
theorem d1_108 : decode prog_118_method_10_code 108 = .ok (.bipush 10, 2) := by decide +kernel
theorem d1_110 : decode prog_118_method_10_code 110 = .ok (.irem, 1) := by decide +kernel
theorem d1_111 : decode prog_118_method_10_code 111 = .ok (.invokestatic 108, 3) := by decide +kernel
theorem d1_114 : decode prog_118_method_10_code 114 = .ok (.bastore, 1) := by decide +kernel
theorem d1_115 : decode prog_118_method_10_code 115 = .ok (.aload_n 1, 1) := by decide +kernel
theorem d1_116 : decode prog_118_method_10_code 116 = .ok (.iinc 8 (-1), 3) := by decide +kernel
theorem d1_119 : decode prog_118_method_10_code 119 = .ok (.iload 8, 2) := by decide +kernel
theorem d1_121 : decode prog_118_method_10_code 121 = .ok (.iload 4, 2) := by decide +kernel
theorem d1_123 : decode prog_118_method_10_code 123 = .ok (.bipush 10, 2) := by decide +kernel
theorem d1_125 : decode prog_118_method_10_code 125 = .ok (.idiv, 1) := by decide +kernel
theorem d1_126 : decode prog_118_method_10_code 126 = .ok (.invokestatic 108, 3) := by decide +kernel
theorem d1_129 : decode prog_118_method_10_code 129 = .ok (.bastore, 1) := by decide +kernel
theorem d1_130 : decode prog_118_method_10_code 130 = .ok (.aload_n 1, 1) := by decide +kernel
theorem d1_131 : decode prog_118_method_10_code 131 = .ok (.iinc 8 (-1), 3) := by decide +kernel
theorem d1_134 : decode prog_118_method_10_code 134 = .ok (.iload 8, 2) := by decide +kernel
theorem d1_136 : decode prog_118_method_10_code 136 = .ok (.bipush 58, 2) := by decide +kernel
theorem d1_138 : decode prog_118_method_10_code 138 = .ok (.bastore, 1) := by decide +kernel
theorem d1_139 : decode prog_118_method_10_code 139 = .ok (.iload_n 3, 1) := by decide +kernel
theorem d1_140 : decode prog_118_method_10_code 140 = .ok (.istore 9, 2) := by decide +kernel
theorem d1_142 : decode prog_118_method_10_code 142 = .ok (.iload 8, 2) := by decide +kernel
theorem d1_144 : decode prog_118_method_10_code 144 = .ok (.iload_n 2, 1) := by decide +kernel
theorem d1_145 : decode prog_118_method_10_code 145 = .ok (.if_icmp .le 28, 3) := by decide +kernel
theorem d1_148 : decode prog_118_method_10_code 148 = .ok (.aload_n 1, 1) := by decide +kernel
theorem d1_149 : decode prog_118_method_10_code 149 = .ok (.iinc 8 (-1), 3) := by decide +kernel
theorem d1_152 : decode prog_118_method_10_code 152 = .ok (.iload 8, 2) := by decide +kernel
theorem d1_154 : decode prog_118_method_10_code 154 = .ok (.iload 9, 2) := by decide +kernel
theorem d1_156 : decode prog_118_method_10_code 156 = .ok (.bipush 10, 2) := by decide +kernel
theorem d1_158 : decode prog_118_method_10_code 158 = .ok (.irem, 1) := by decide +kernel
theorem d1_159 : decode prog_118_method_10_code 159 = .ok (.invokestatic 108, 3) := by decide +kernel
theorem d1_162 : decode prog_118_method_10_code 162 = .ok (.bastore, 1) := by decide +kernel
theorem d1_163 : decode prog_118_method_10_code 163 = .ok (.iload 9, 2) := by decide +kernel
theorem d1_165 : decode prog_118_method_10_code 165 = .ok (.bipush 10, 2) := by decide +kernel
theorem d1_167 : decode prog_118_method_10_code 167 = .ok (.idiv, 1) := by decide +kernel
theorem d1_168 : decode prog_118_method_10_code 168 = .ok (.istore 9, 2) := by decide +kernel
theorem d1_170 : decode prog_118_method_10_code 170 = .ok (.goto (-28), 3) := by decide +kernel
theorem d1_173 : decode prog_118_method_10_code 173 = .ok (.iload 7, 2) := by decide +kernel
theorem d1_175 : decode prog_118_method_10_code 175 = .ok (.ireturn, 1) := by decide +kernel
def Q_rmF_0_2 (Z : State) (a1 : Addr) (ka : ClassId) (uh : Int32) (um : Int32) (us : Int32) (h0 : Heap) (n0 : Nat) (v : Option Value) (h : Heap) : Prop := v = some (.int (8 : Int32)) ∧ Keep h0 h [a1] ∧ Arl Z h a1 ka .byte [(own_d ((uh / (10 : Int32)) % (10 : Int32))), (own_d (uh % (10 : Int32))), own_c, (own_d (um / (10 : Int32))), (own_d (um % (10 : Int32))), own_c, (own_d (us / (10 : Int32))), (own_d (us % (10 : Int32))), own_x, own_x, own_x, own_x, own_x, own_x, own_x, own_x]
theorem ef_rmF_0_2 (m : MethodId) (p0 : Int32) (a1 : Addr)  : entryFrame m #[(.int p0), (.ref a1), (.int (0 : Int32))] 10 = mkF m 0 #[.val (.int p0), .val (.ref a1), .val (.int (0 : Int32)), .unset, .unset, .unset, .unset, .unset, .unset, .unset] [] := by first | (simp [entryFrame, mkF, argsToLocals, Value.category]; done) | rfl
theorem pn_1 : plainFor (⟨"com/example/voznired/voznired/timetable/StopTime", "formatTime", "(I[BI)I"⟩ : MethodName) = true := plainFor_of_name (show plainName "com/example/voznired/voznired/timetable/StopTime" = true by first | (simp [plainName, overriddenIn]; done) | decide +kernel)
set_option maxRecDepth 65536 in
set_option maxHeartbeats 40000000 in
theorem rmF_0_2 (l : Launch) (Z : State) (a0 : Array Value) (hw : ∀ d ∈ tables_1, d.before a0 Z = true) (ws : List Jvm.Cond) (p0 : Int32) (a1 : Addr) (ka : ClassId) (uh : Int32) (um : Int32) (us : Int32) (h0 : Heap) (n0 : Nat) (hn : n0 ≤ h0.size) (V_a1 : Arl Z h0 a1 ka .byte [own_x, own_x, own_x, own_x, own_x, own_x, own_x, own_x, own_x, own_x, own_x, own_x, own_x, own_x, own_x, own_x]) (g_a1 : n0 ≤ a1) (e_h : p0 / (3600 : Int32) = uh) (e_m : (p0 / (60 : Int32)) % (60 : Int32) = um) (e_s : p0 % (60 : Int32) = us) (hl : 0 ≤ uh.toInt) (hu : uh.toInt < 100) :
    Met false l Z (⟨"com/example/voznired/voznired/timetable/StopTime", "formatTime", "(I[BI)I"⟩ : MethodName) prog_118_method_10_code 10 (some .int) ({ frames := 1, cells := 0, slots := 0, locals := 14 } : Room) ws #[(.int p0), (.ref a1), (.int (0 : Int32))] h0 n0 (Q_rmF_0_2 Z a1 ka uh um us h0 n0) := by
  refine Met.of pn_1 (fun m => ef_rmF_0_2 m p0 a1) ?_
  have K := Keep.refl h0 [a1]
  refine Own.iloadN d1_0 rfl ?_
  refine Own.sipush (3600 : Int32) d1_1 rfl ?_
  refine Own.idiv d1_4 (by decide) ?_
  rw [e_h]
  refine Own.istoreN #[.val (.int p0), .val (.ref a1), .val (.int (0 : Int32)), .val (.int uh), .unset, .unset, .unset, .unset, .unset, .unset] d1_5 rfl ?_
  refine Own.iloadN d1_6 rfl ?_
  refine Own.bipush (60 : Int32) d1_7 rfl ?_
  refine Own.idiv d1_9 (by decide) ?_
  refine Own.bipush (60 : Int32) d1_10 rfl ?_
  refine Own.irem_ d1_12 (by decide) ?_
  rw [e_m]
  refine Own.istore #[.val (.int p0), .val (.ref a1), .val (.int (0 : Int32)), .val (.int uh), .val (.int um), .unset, .unset, .unset, .unset, .unset] d1_13 rfl ?_
  refine Own.iloadN d1_15 rfl ?_
  refine Own.bipush (60 : Int32) d1_16 rfl ?_
  refine Own.irem_ d1_18 (by decide) ?_
  rw [e_s]
  refine Own.istore #[.val (.int p0), .val (.ref a1), .val (.int (0 : Int32)), .val (.int uh), .val (.int um), .val (.int us), .unset, .unset, .unset, .unset] d1_19 rfl ?_
  refine Own.iconst (2 : Int32) d1_21 rfl ?_
  refine Own.istore #[.val (.int p0), .val (.ref a1), .val (.int (0 : Int32)), .val (.int uh), .val (.int um), .val (.int us), .val (.int (2 : Int32)), .unset, .unset, .unset] d1_22 rfl ?_
  refine Own.iloadN d1_24 rfl ?_
  refine Own.bipush (100 : Int32) d1_25 rfl ?_
  refine Own.idiv d1_27 (by decide) ?_
  obtain ⟨ur0, e_ur0⟩ : ∃ z : Int32, z = (uh / (100 : Int32)) := ⟨_, rfl⟩
  rw [← e_ur0]
  have r_ur0 : ur0.toInt = uh.toInt / 100 := by
    rw [e_ur0]; exact own_div 100 rfl (by omega) (by omega)
  refine Own.istore #[.val (.int p0), .val (.ref a1), .val (.int (0 : Int32)), .val (.int uh), .val (.int um), .val (.int us), .val (.int (2 : Int32)), .val (.int ur0), .unset, .unset] d1_28 rfl ?_
  refine Own.iload d1_30 rfl ?_
  refine Own.if_le 48 d1_32 (by decide) rfl (fun _ => ?_) (fun q => absurd q (by simp only [Int32.lt_iff_toInt_lt, Int32.reduceToInt]; omega))
  refine Own.iloadN d1_48 rfl ?_
  refine Own.iload d1_49 rfl ?_
  refine Own.iadd d1_51 ?_
  refine OAt.cast (st' := [(.int (2 : Int32))]) rfl ?_
  refine Own.bipush (6 : Int32) d1_52 rfl ?_
  refine Own.iadd d1_54 ?_
  refine OAt.cast (st' := [(.int (8 : Int32))]) rfl ?_
  refine Own.istore #[.val (.int p0), .val (.ref a1), .val (.int (0 : Int32)), .val (.int uh), .val (.int um), .val (.int us), .val (.int (2 : Int32)), .val (.int (8 : Int32)), .unset, .unset] d1_55 rfl ?_
  refine Own.iload d1_57 rfl ?_
  refine Own.istore #[.val (.int p0), .val (.ref a1), .val (.int (0 : Int32)), .val (.int uh), .val (.int um), .val (.int us), .val (.int (2 : Int32)), .val (.int (8 : Int32)), .val (.int (8 : Int32)), .unset] d1_59 rfl ?_
  refine Own.aloadN d1_61 rfl rfl ?_
  refine Own.iinc (-1 : Int32) #[.val (.int p0), .val (.ref a1), .val (.int (0 : Int32)), .val (.int uh), .val (.int um), .val (.int us), .val (.int (2 : Int32)), .val (.int (8 : Int32)), .val (.int ((8 : Int32) + (-1 : Int32))), .unset] d1_62 rfl rfl rfl ?_
  refine OAt.castL (Ls' := #[.val (.int p0), .val (.ref a1), .val (.int (0 : Int32)), .val (.int uh), .val (.int um), .val (.int us), .val (.int (2 : Int32)), .val (.int (8 : Int32)), .val (.int (7 : Int32)), .unset]) rfl rfl ?_
  refine Own.iload d1_65 rfl ?_
  refine Own.iload d1_67 rfl ?_
  refine Own.bipush (10 : Int32) d1_69 rfl ?_
  refine Own.irem_ d1_71 (by decide) ?_
  refine Own.callSP [(.int (us % (10 : Int32)))] [(.int (7 : Int32)), (.ref a1)] 2 (rmD l Z a0 hw [] (us % (10 : Int32)) h0 n0 hn) (hw _ (List.mem_of_getElem? (i := 6) rfl)) (hw _ (List.mem_of_getElem? (i := 7) rfl)) (hw _ (List.mem_of_getElem? (i := 4) rfl)) (hw _ (List.mem_of_getElem? (i := 8) rfl)) (by decide) d1_72 pd_0 rfl rfl rfl rfl (by decide) (by decide) (by decide) (by decide) ?_
  refine Own.bastore_ V_a1 (i := 7) rfl (Nat.le_of_ble_eq_true rfl) g_a1 d1_75 (fun h1 W1 V1 => ?_)
  have hn : n0 ≤ h1.size := by rw [W1.size]; exact hn
  clear V_a1
  replace V1 : Arl Z h1 a1 ka .byte [own_x, own_x, own_x, own_x, own_x, own_x, own_x, (own_d (us % (10 : Int32))), own_x, own_x, own_x, own_x, own_x, own_x, own_x, own_x] := V1
  have K := K.wr W1 (Or.inl (List.mem_of_getElem? (i := 0) rfl))
  refine Own.aloadN d1_76 rfl rfl ?_
  refine Own.iinc (-1 : Int32) #[.val (.int p0), .val (.ref a1), .val (.int (0 : Int32)), .val (.int uh), .val (.int um), .val (.int us), .val (.int (2 : Int32)), .val (.int (8 : Int32)), .val (.int ((7 : Int32) + (-1 : Int32))), .unset] d1_77 rfl rfl rfl ?_
  refine OAt.castL (Ls' := #[.val (.int p0), .val (.ref a1), .val (.int (0 : Int32)), .val (.int uh), .val (.int um), .val (.int us), .val (.int (2 : Int32)), .val (.int (8 : Int32)), .val (.int (6 : Int32)), .unset]) rfl rfl ?_
  refine Own.iload d1_80 rfl ?_
  refine Own.iload d1_82 rfl ?_
  refine Own.bipush (10 : Int32) d1_84 rfl ?_
  refine Own.idiv d1_86 (by decide) ?_
  refine Own.callSP [(.int (us / (10 : Int32)))] [(.int (6 : Int32)), (.ref a1)] 2 (rmD l Z a0 hw [] (us / (10 : Int32)) h1 n0 hn) (hw _ (List.mem_of_getElem? (i := 6) rfl)) (hw _ (List.mem_of_getElem? (i := 7) rfl)) (hw _ (List.mem_of_getElem? (i := 4) rfl)) (hw _ (List.mem_of_getElem? (i := 8) rfl)) (by decide) d1_87 pd_0 rfl rfl rfl rfl (by decide) (by decide) (by decide) (by decide) ?_
  refine Own.bastore_ V1 (i := 6) rfl (Nat.le_of_ble_eq_true rfl) g_a1 d1_90 (fun h2 W2 V2 => ?_)
  have hn : n0 ≤ h2.size := by rw [W2.size]; exact hn
  clear V1
  replace V2 : Arl Z h2 a1 ka .byte [own_x, own_x, own_x, own_x, own_x, own_x, (own_d (us / (10 : Int32))), (own_d (us % (10 : Int32))), own_x, own_x, own_x, own_x, own_x, own_x, own_x, own_x] := V2
  have K := K.wr W2 (Or.inl (List.mem_of_getElem? (i := 0) rfl))
  refine Own.aloadN d1_91 rfl rfl ?_
  refine Own.iinc (-1 : Int32) #[.val (.int p0), .val (.ref a1), .val (.int (0 : Int32)), .val (.int uh), .val (.int um), .val (.int us), .val (.int (2 : Int32)), .val (.int (8 : Int32)), .val (.int ((6 : Int32) + (-1 : Int32))), .unset] d1_92 rfl rfl rfl ?_
  refine OAt.castL (Ls' := #[.val (.int p0), .val (.ref a1), .val (.int (0 : Int32)), .val (.int uh), .val (.int um), .val (.int us), .val (.int (2 : Int32)), .val (.int (8 : Int32)), .val (.int (5 : Int32)), .unset]) rfl rfl ?_
  refine Own.iload d1_95 rfl ?_
  refine Own.bipush (58 : Int32) d1_97 rfl ?_
  refine Own.bastore_ V2 (i := 5) rfl (Nat.le_of_ble_eq_true rfl) g_a1 d1_99 (fun h3 W3 V3 => ?_)
  have hn : n0 ≤ h3.size := by rw [W3.size]; exact hn
  clear V2
  replace V3 : Arl Z h3 a1 ka .byte [own_x, own_x, own_x, own_x, own_x, own_c, (own_d (us / (10 : Int32))), (own_d (us % (10 : Int32))), own_x, own_x, own_x, own_x, own_x, own_x, own_x, own_x] := V3
  have K := K.wr W3 (Or.inl (List.mem_of_getElem? (i := 0) rfl))
  refine Own.aloadN d1_100 rfl rfl ?_
  refine Own.iinc (-1 : Int32) #[.val (.int p0), .val (.ref a1), .val (.int (0 : Int32)), .val (.int uh), .val (.int um), .val (.int us), .val (.int (2 : Int32)), .val (.int (8 : Int32)), .val (.int ((5 : Int32) + (-1 : Int32))), .unset] d1_101 rfl rfl rfl ?_
  refine OAt.castL (Ls' := #[.val (.int p0), .val (.ref a1), .val (.int (0 : Int32)), .val (.int uh), .val (.int um), .val (.int us), .val (.int (2 : Int32)), .val (.int (8 : Int32)), .val (.int (4 : Int32)), .unset]) rfl rfl ?_
  refine Own.iload d1_104 rfl ?_
  refine Own.iload d1_106 rfl ?_
  refine Own.bipush (10 : Int32) d1_108 rfl ?_
  refine Own.irem_ d1_110 (by decide) ?_
  refine Own.callSP [(.int (um % (10 : Int32)))] [(.int (4 : Int32)), (.ref a1)] 2 (rmD l Z a0 hw [] (um % (10 : Int32)) h3 n0 hn) (hw _ (List.mem_of_getElem? (i := 6) rfl)) (hw _ (List.mem_of_getElem? (i := 7) rfl)) (hw _ (List.mem_of_getElem? (i := 4) rfl)) (hw _ (List.mem_of_getElem? (i := 8) rfl)) (by decide) d1_111 pd_0 rfl rfl rfl rfl (by decide) (by decide) (by decide) (by decide) ?_
  refine Own.bastore_ V3 (i := 4) rfl (Nat.le_of_ble_eq_true rfl) g_a1 d1_114 (fun h4 W4 V4 => ?_)
  have hn : n0 ≤ h4.size := by rw [W4.size]; exact hn
  clear V3
  replace V4 : Arl Z h4 a1 ka .byte [own_x, own_x, own_x, own_x, (own_d (um % (10 : Int32))), own_c, (own_d (us / (10 : Int32))), (own_d (us % (10 : Int32))), own_x, own_x, own_x, own_x, own_x, own_x, own_x, own_x] := V4
  have K := K.wr W4 (Or.inl (List.mem_of_getElem? (i := 0) rfl))
  refine Own.aloadN d1_115 rfl rfl ?_
  refine Own.iinc (-1 : Int32) #[.val (.int p0), .val (.ref a1), .val (.int (0 : Int32)), .val (.int uh), .val (.int um), .val (.int us), .val (.int (2 : Int32)), .val (.int (8 : Int32)), .val (.int ((4 : Int32) + (-1 : Int32))), .unset] d1_116 rfl rfl rfl ?_
  refine OAt.castL (Ls' := #[.val (.int p0), .val (.ref a1), .val (.int (0 : Int32)), .val (.int uh), .val (.int um), .val (.int us), .val (.int (2 : Int32)), .val (.int (8 : Int32)), .val (.int (3 : Int32)), .unset]) rfl rfl ?_
  refine Own.iload d1_119 rfl ?_
  refine Own.iload d1_121 rfl ?_
  refine Own.bipush (10 : Int32) d1_123 rfl ?_
  refine Own.idiv d1_125 (by decide) ?_
  refine Own.callSP [(.int (um / (10 : Int32)))] [(.int (3 : Int32)), (.ref a1)] 2 (rmD l Z a0 hw [] (um / (10 : Int32)) h4 n0 hn) (hw _ (List.mem_of_getElem? (i := 6) rfl)) (hw _ (List.mem_of_getElem? (i := 7) rfl)) (hw _ (List.mem_of_getElem? (i := 4) rfl)) (hw _ (List.mem_of_getElem? (i := 8) rfl)) (by decide) d1_126 pd_0 rfl rfl rfl rfl (by decide) (by decide) (by decide) (by decide) ?_
  refine Own.bastore_ V4 (i := 3) rfl (Nat.le_of_ble_eq_true rfl) g_a1 d1_129 (fun h5 W5 V5 => ?_)
  have hn : n0 ≤ h5.size := by rw [W5.size]; exact hn
  clear V4
  replace V5 : Arl Z h5 a1 ka .byte [own_x, own_x, own_x, (own_d (um / (10 : Int32))), (own_d (um % (10 : Int32))), own_c, (own_d (us / (10 : Int32))), (own_d (us % (10 : Int32))), own_x, own_x, own_x, own_x, own_x, own_x, own_x, own_x] := V5
  have K := K.wr W5 (Or.inl (List.mem_of_getElem? (i := 0) rfl))
  refine Own.aloadN d1_130 rfl rfl ?_
  refine Own.iinc (-1 : Int32) #[.val (.int p0), .val (.ref a1), .val (.int (0 : Int32)), .val (.int uh), .val (.int um), .val (.int us), .val (.int (2 : Int32)), .val (.int (8 : Int32)), .val (.int ((3 : Int32) + (-1 : Int32))), .unset] d1_131 rfl rfl rfl ?_
  refine OAt.castL (Ls' := #[.val (.int p0), .val (.ref a1), .val (.int (0 : Int32)), .val (.int uh), .val (.int um), .val (.int us), .val (.int (2 : Int32)), .val (.int (8 : Int32)), .val (.int (2 : Int32)), .unset]) rfl rfl ?_
  refine Own.iload d1_134 rfl ?_
  refine Own.bipush (58 : Int32) d1_136 rfl ?_
  refine Own.bastore_ V5 (i := 2) rfl (Nat.le_of_ble_eq_true rfl) g_a1 d1_138 (fun h6 W6 V6 => ?_)
  have hn : n0 ≤ h6.size := by rw [W6.size]; exact hn
  clear V5
  replace V6 : Arl Z h6 a1 ka .byte [own_x, own_x, own_c, (own_d (um / (10 : Int32))), (own_d (um % (10 : Int32))), own_c, (own_d (us / (10 : Int32))), (own_d (us % (10 : Int32))), own_x, own_x, own_x, own_x, own_x, own_x, own_x, own_x] := V6
  have K := K.wr W6 (Or.inl (List.mem_of_getElem? (i := 0) rfl))
  refine Own.iloadN d1_139 rfl ?_
  refine Own.istore #[.val (.int p0), .val (.ref a1), .val (.int (0 : Int32)), .val (.int uh), .val (.int um), .val (.int us), .val (.int (2 : Int32)), .val (.int (8 : Int32)), .val (.int (2 : Int32)), .val (.int uh)] d1_140 rfl ?_
  refine Own.iload d1_142 rfl ?_
  refine Own.iloadN d1_144 rfl ?_
  refine Own.icmp_le 173 d1_145 (by decide) rfl (fun q => absurd (by decide) q) (fun _ => ?_)
  refine Own.aloadN d1_148 rfl rfl ?_
  refine Own.iinc (-1 : Int32) #[.val (.int p0), .val (.ref a1), .val (.int (0 : Int32)), .val (.int uh), .val (.int um), .val (.int us), .val (.int (2 : Int32)), .val (.int (8 : Int32)), .val (.int ((2 : Int32) + (-1 : Int32))), .val (.int uh)] d1_149 rfl rfl rfl ?_
  refine OAt.castL (Ls' := #[.val (.int p0), .val (.ref a1), .val (.int (0 : Int32)), .val (.int uh), .val (.int um), .val (.int us), .val (.int (2 : Int32)), .val (.int (8 : Int32)), .val (.int (1 : Int32)), .val (.int uh)]) rfl rfl ?_
  refine Own.iload d1_152 rfl ?_
  refine Own.iload d1_154 rfl ?_
  refine Own.bipush (10 : Int32) d1_156 rfl ?_
  refine Own.irem_ d1_158 (by decide) ?_
  refine Own.callSP [(.int (uh % (10 : Int32)))] [(.int (1 : Int32)), (.ref a1)] 2 (rmD l Z a0 hw [] (uh % (10 : Int32)) h6 n0 hn) (hw _ (List.mem_of_getElem? (i := 6) rfl)) (hw _ (List.mem_of_getElem? (i := 7) rfl)) (hw _ (List.mem_of_getElem? (i := 4) rfl)) (hw _ (List.mem_of_getElem? (i := 8) rfl)) (by decide) d1_159 pd_0 rfl rfl rfl rfl (by decide) (by decide) (by decide) (by decide) ?_
  refine Own.bastore_ V6 (i := 1) rfl (Nat.le_of_ble_eq_true rfl) g_a1 d1_162 (fun h7 W7 V7 => ?_)
  have hn : n0 ≤ h7.size := by rw [W7.size]; exact hn
  clear V6
  replace V7 : Arl Z h7 a1 ka .byte [own_x, (own_d (uh % (10 : Int32))), own_c, (own_d (um / (10 : Int32))), (own_d (um % (10 : Int32))), own_c, (own_d (us / (10 : Int32))), (own_d (us % (10 : Int32))), own_x, own_x, own_x, own_x, own_x, own_x, own_x, own_x] := V7
  have K := K.wr W7 (Or.inl (List.mem_of_getElem? (i := 0) rfl))
  refine Own.iload d1_163 rfl ?_
  refine Own.bipush (10 : Int32) d1_165 rfl ?_
  refine Own.idiv d1_167 (by decide) ?_
  refine Own.istore #[.val (.int p0), .val (.ref a1), .val (.int (0 : Int32)), .val (.int uh), .val (.int um), .val (.int us), .val (.int (2 : Int32)), .val (.int (8 : Int32)), .val (.int (1 : Int32)), .val (.int (uh / (10 : Int32)))] d1_168 rfl ?_
  refine Own.goto_ 142 d1_170 (by decide) rfl ?_
  refine Own.iload d1_142 rfl ?_
  refine Own.iloadN d1_144 rfl ?_
  refine Own.icmp_le 173 d1_145 (by decide) rfl (fun q => absurd (by decide) q) (fun _ => ?_)
  refine Own.aloadN d1_148 rfl rfl ?_
  refine Own.iinc (-1 : Int32) #[.val (.int p0), .val (.ref a1), .val (.int (0 : Int32)), .val (.int uh), .val (.int um), .val (.int us), .val (.int (2 : Int32)), .val (.int (8 : Int32)), .val (.int ((1 : Int32) + (-1 : Int32))), .val (.int (uh / (10 : Int32)))] d1_149 rfl rfl rfl ?_
  refine OAt.castL (Ls' := #[.val (.int p0), .val (.ref a1), .val (.int (0 : Int32)), .val (.int uh), .val (.int um), .val (.int us), .val (.int (2 : Int32)), .val (.int (8 : Int32)), .val (.int (0 : Int32)), .val (.int (uh / (10 : Int32)))]) rfl rfl ?_
  refine Own.iload d1_152 rfl ?_
  refine Own.iload d1_154 rfl ?_
  refine Own.bipush (10 : Int32) d1_156 rfl ?_
  refine Own.irem_ d1_158 (by decide) ?_
  refine Own.callSP [(.int ((uh / (10 : Int32)) % (10 : Int32)))] [(.int (0 : Int32)), (.ref a1)] 2 (rmD l Z a0 hw [] ((uh / (10 : Int32)) % (10 : Int32)) h7 n0 hn) (hw _ (List.mem_of_getElem? (i := 6) rfl)) (hw _ (List.mem_of_getElem? (i := 7) rfl)) (hw _ (List.mem_of_getElem? (i := 4) rfl)) (hw _ (List.mem_of_getElem? (i := 8) rfl)) (by decide) d1_159 pd_0 rfl rfl rfl rfl (by decide) (by decide) (by decide) (by decide) ?_
  refine Own.bastore_ V7 (i := 0) rfl (Nat.le_of_ble_eq_true rfl) g_a1 d1_162 (fun h8 W8 V8 => ?_)
  have hn : n0 ≤ h8.size := by rw [W8.size]; exact hn
  clear V7
  replace V8 : Arl Z h8 a1 ka .byte [(own_d ((uh / (10 : Int32)) % (10 : Int32))), (own_d (uh % (10 : Int32))), own_c, (own_d (um / (10 : Int32))), (own_d (um % (10 : Int32))), own_c, (own_d (us / (10 : Int32))), (own_d (us % (10 : Int32))), own_x, own_x, own_x, own_x, own_x, own_x, own_x, own_x] := V8
  have K := K.wr W8 (Or.inl (List.mem_of_getElem? (i := 0) rfl))
  refine Own.iload d1_163 rfl ?_
  refine Own.bipush (10 : Int32) d1_165 rfl ?_
  refine Own.idiv d1_167 (by decide) ?_
  refine Own.istore #[.val (.int p0), .val (.ref a1), .val (.int (0 : Int32)), .val (.int uh), .val (.int um), .val (.int us), .val (.int (2 : Int32)), .val (.int (8 : Int32)), .val (.int (0 : Int32)), .val (.int ((uh / (10 : Int32)) / (10 : Int32)))] d1_168 rfl ?_
  refine Own.goto_ 142 d1_170 (by decide) rfl ?_
  refine Own.iload d1_142 rfl ?_
  refine Own.iloadN d1_144 rfl ?_
  refine Own.icmp_le 173 d1_145 (by decide) rfl (fun _ => ?_) (fun q => absurd q (by decide))
  refine Own.iload d1_173 rfl ?_
  refine Own.ret_int rfl d1_175 (by decide) (by decide) ?_
  exact ⟨rfl, K, V8⟩
theorem d1_35 : decode prog_118_method_10_code 35 = .ok (.iinc 6 1, 3) := by decide +kernel
theorem d1_38 : decode prog_118_method_10_code 38 = .ok (.iload 7, 2) := by decide +kernel
theorem d1_40 : decode prog_118_method_10_code 40 = .ok (.bipush 10, 2) := by decide +kernel
theorem d1_42 : decode prog_118_method_10_code 42 = .ok (.idiv, 1) := by decide +kernel
theorem d1_43 : decode prog_118_method_10_code 43 = .ok (.istore 7, 2) := by decide +kernel
theorem d1_45 : decode prog_118_method_10_code 45 = .ok (.goto (-15), 3) := by decide +kernel
def Q_rmF_0_3 (Z : State) (a1 : Addr) (ka : ClassId) (uh : Int32) (um : Int32) (us : Int32) (h0 : Heap) (n0 : Nat) (v : Option Value) (h : Heap) : Prop := v = some (.int (9 : Int32)) ∧ Keep h0 h [a1] ∧ Arl Z h a1 ka .byte [(own_d (((uh / (10 : Int32)) / (10 : Int32)) % (10 : Int32))), (own_d ((uh / (10 : Int32)) % (10 : Int32))), (own_d (uh % (10 : Int32))), own_c, (own_d (um / (10 : Int32))), (own_d (um % (10 : Int32))), own_c, (own_d (us / (10 : Int32))), (own_d (us % (10 : Int32))), own_x, own_x, own_x, own_x, own_x, own_x, own_x]
theorem ef_rmF_0_3 (m : MethodId) (p0 : Int32) (a1 : Addr)  : entryFrame m #[(.int p0), (.ref a1), (.int (0 : Int32))] 10 = mkF m 0 #[.val (.int p0), .val (.ref a1), .val (.int (0 : Int32)), .unset, .unset, .unset, .unset, .unset, .unset, .unset] [] := by first | (simp [entryFrame, mkF, argsToLocals, Value.category]; done) | rfl
set_option maxRecDepth 65536 in
set_option maxHeartbeats 40000000 in
theorem rmF_0_3 (l : Launch) (Z : State) (a0 : Array Value) (hw : ∀ d ∈ tables_1, d.before a0 Z = true) (ws : List Jvm.Cond) (p0 : Int32) (a1 : Addr) (ka : ClassId) (uh : Int32) (um : Int32) (us : Int32) (h0 : Heap) (n0 : Nat) (hn : n0 ≤ h0.size) (V_a1 : Arl Z h0 a1 ka .byte [own_x, own_x, own_x, own_x, own_x, own_x, own_x, own_x, own_x, own_x, own_x, own_x, own_x, own_x, own_x, own_x]) (g_a1 : n0 ≤ a1) (e_h : p0 / (3600 : Int32) = uh) (e_m : (p0 / (60 : Int32)) % (60 : Int32) = um) (e_s : p0 % (60 : Int32) = us) (hl : 100 ≤ uh.toInt) (hu : uh.toInt < 1000) :
    Met false l Z (⟨"com/example/voznired/voznired/timetable/StopTime", "formatTime", "(I[BI)I"⟩ : MethodName) prog_118_method_10_code 10 (some .int) ({ frames := 1, cells := 0, slots := 0, locals := 14 } : Room) ws #[(.int p0), (.ref a1), (.int (0 : Int32))] h0 n0 (Q_rmF_0_3 Z a1 ka uh um us h0 n0) := by
  refine Met.of pn_1 (fun m => ef_rmF_0_3 m p0 a1) ?_
  have K := Keep.refl h0 [a1]
  refine Own.iloadN d1_0 rfl ?_
  refine Own.sipush (3600 : Int32) d1_1 rfl ?_
  refine Own.idiv d1_4 (by decide) ?_
  rw [e_h]
  refine Own.istoreN #[.val (.int p0), .val (.ref a1), .val (.int (0 : Int32)), .val (.int uh), .unset, .unset, .unset, .unset, .unset, .unset] d1_5 rfl ?_
  refine Own.iloadN d1_6 rfl ?_
  refine Own.bipush (60 : Int32) d1_7 rfl ?_
  refine Own.idiv d1_9 (by decide) ?_
  refine Own.bipush (60 : Int32) d1_10 rfl ?_
  refine Own.irem_ d1_12 (by decide) ?_
  rw [e_m]
  refine Own.istore #[.val (.int p0), .val (.ref a1), .val (.int (0 : Int32)), .val (.int uh), .val (.int um), .unset, .unset, .unset, .unset, .unset] d1_13 rfl ?_
  refine Own.iloadN d1_15 rfl ?_
  refine Own.bipush (60 : Int32) d1_16 rfl ?_
  refine Own.irem_ d1_18 (by decide) ?_
  rw [e_s]
  refine Own.istore #[.val (.int p0), .val (.ref a1), .val (.int (0 : Int32)), .val (.int uh), .val (.int um), .val (.int us), .unset, .unset, .unset, .unset] d1_19 rfl ?_
  refine Own.iconst (2 : Int32) d1_21 rfl ?_
  refine Own.istore #[.val (.int p0), .val (.ref a1), .val (.int (0 : Int32)), .val (.int uh), .val (.int um), .val (.int us), .val (.int (2 : Int32)), .unset, .unset, .unset] d1_22 rfl ?_
  refine Own.iloadN d1_24 rfl ?_
  refine Own.bipush (100 : Int32) d1_25 rfl ?_
  refine Own.idiv d1_27 (by decide) ?_
  obtain ⟨ur0, e_ur0⟩ : ∃ z : Int32, z = (uh / (100 : Int32)) := ⟨_, rfl⟩
  rw [← e_ur0]
  have r_ur0 : ur0.toInt = uh.toInt / 100 := by
    rw [e_ur0]; exact own_div 100 rfl (by omega) (by omega)
  refine Own.istore #[.val (.int p0), .val (.ref a1), .val (.int (0 : Int32)), .val (.int uh), .val (.int um), .val (.int us), .val (.int (2 : Int32)), .val (.int ur0), .unset, .unset] d1_28 rfl ?_
  refine Own.iload d1_30 rfl ?_
  refine Own.if_le 48 d1_32 (by decide) rfl (fun q => absurd (by simp only [Int32.lt_iff_toInt_lt, Int32.reduceToInt]; omega) q) (fun _ => ?_)
  refine Own.iinc (1 : Int32) #[.val (.int p0), .val (.ref a1), .val (.int (0 : Int32)), .val (.int uh), .val (.int um), .val (.int us), .val (.int ((2 : Int32) + (1 : Int32))), .val (.int ur0), .unset, .unset] d1_35 rfl rfl rfl ?_
  refine OAt.castL (Ls' := #[.val (.int p0), .val (.ref a1), .val (.int (0 : Int32)), .val (.int uh), .val (.int um), .val (.int us), .val (.int (3 : Int32)), .val (.int ur0), .unset, .unset]) rfl rfl ?_
  refine Own.iload d1_38 rfl ?_
  refine Own.bipush (10 : Int32) d1_40 rfl ?_
  refine Own.idiv d1_42 (by decide) ?_
  obtain ⟨ur1, e_ur1⟩ : ∃ z : Int32, z = (ur0 / (10 : Int32)) := ⟨_, rfl⟩
  rw [← e_ur1]
  have r_ur1 : ur1.toInt = ur0.toInt / 10 := by
    rw [e_ur1]; rw [own_div 10 rfl (by omega) (by omega)]
  refine Own.istore #[.val (.int p0), .val (.ref a1), .val (.int (0 : Int32)), .val (.int uh), .val (.int um), .val (.int us), .val (.int (3 : Int32)), .val (.int ur1), .unset, .unset] d1_43 rfl ?_
  refine Own.goto_ 30 d1_45 (by decide) rfl ?_
  refine Own.iload d1_30 rfl ?_
  refine Own.if_le 48 d1_32 (by decide) rfl (fun _ => ?_) (fun q => absurd q (by simp only [Int32.lt_iff_toInt_lt, Int32.reduceToInt]; omega))
  refine Own.iloadN d1_48 rfl ?_
  refine Own.iload d1_49 rfl ?_
  refine Own.iadd d1_51 ?_
  refine OAt.cast (st' := [(.int (3 : Int32))]) rfl ?_
  refine Own.bipush (6 : Int32) d1_52 rfl ?_
  refine Own.iadd d1_54 ?_
  refine OAt.cast (st' := [(.int (9 : Int32))]) rfl ?_
  refine Own.istore #[.val (.int p0), .val (.ref a1), .val (.int (0 : Int32)), .val (.int uh), .val (.int um), .val (.int us), .val (.int (3 : Int32)), .val (.int (9 : Int32)), .unset, .unset] d1_55 rfl ?_
  refine Own.iload d1_57 rfl ?_
  refine Own.istore #[.val (.int p0), .val (.ref a1), .val (.int (0 : Int32)), .val (.int uh), .val (.int um), .val (.int us), .val (.int (3 : Int32)), .val (.int (9 : Int32)), .val (.int (9 : Int32)), .unset] d1_59 rfl ?_
  refine Own.aloadN d1_61 rfl rfl ?_
  refine Own.iinc (-1 : Int32) #[.val (.int p0), .val (.ref a1), .val (.int (0 : Int32)), .val (.int uh), .val (.int um), .val (.int us), .val (.int (3 : Int32)), .val (.int (9 : Int32)), .val (.int ((9 : Int32) + (-1 : Int32))), .unset] d1_62 rfl rfl rfl ?_
  refine OAt.castL (Ls' := #[.val (.int p0), .val (.ref a1), .val (.int (0 : Int32)), .val (.int uh), .val (.int um), .val (.int us), .val (.int (3 : Int32)), .val (.int (9 : Int32)), .val (.int (8 : Int32)), .unset]) rfl rfl ?_
  refine Own.iload d1_65 rfl ?_
  refine Own.iload d1_67 rfl ?_
  refine Own.bipush (10 : Int32) d1_69 rfl ?_
  refine Own.irem_ d1_71 (by decide) ?_
  refine Own.callSP [(.int (us % (10 : Int32)))] [(.int (8 : Int32)), (.ref a1)] 2 (rmD l Z a0 hw [] (us % (10 : Int32)) h0 n0 hn) (hw _ (List.mem_of_getElem? (i := 6) rfl)) (hw _ (List.mem_of_getElem? (i := 7) rfl)) (hw _ (List.mem_of_getElem? (i := 4) rfl)) (hw _ (List.mem_of_getElem? (i := 8) rfl)) (by decide) d1_72 pd_0 rfl rfl rfl rfl (by decide) (by decide) (by decide) (by decide) ?_
  refine Own.bastore_ V_a1 (i := 8) rfl (Nat.le_of_ble_eq_true rfl) g_a1 d1_75 (fun h9 W9 V9 => ?_)
  have hn : n0 ≤ h9.size := by rw [W9.size]; exact hn
  clear V_a1
  replace V9 : Arl Z h9 a1 ka .byte [own_x, own_x, own_x, own_x, own_x, own_x, own_x, own_x, (own_d (us % (10 : Int32))), own_x, own_x, own_x, own_x, own_x, own_x, own_x] := V9
  have K := K.wr W9 (Or.inl (List.mem_of_getElem? (i := 0) rfl))
  refine Own.aloadN d1_76 rfl rfl ?_
  refine Own.iinc (-1 : Int32) #[.val (.int p0), .val (.ref a1), .val (.int (0 : Int32)), .val (.int uh), .val (.int um), .val (.int us), .val (.int (3 : Int32)), .val (.int (9 : Int32)), .val (.int ((8 : Int32) + (-1 : Int32))), .unset] d1_77 rfl rfl rfl ?_
  refine OAt.castL (Ls' := #[.val (.int p0), .val (.ref a1), .val (.int (0 : Int32)), .val (.int uh), .val (.int um), .val (.int us), .val (.int (3 : Int32)), .val (.int (9 : Int32)), .val (.int (7 : Int32)), .unset]) rfl rfl ?_
  refine Own.iload d1_80 rfl ?_
  refine Own.iload d1_82 rfl ?_
  refine Own.bipush (10 : Int32) d1_84 rfl ?_
  refine Own.idiv d1_86 (by decide) ?_
  refine Own.callSP [(.int (us / (10 : Int32)))] [(.int (7 : Int32)), (.ref a1)] 2 (rmD l Z a0 hw [] (us / (10 : Int32)) h9 n0 hn) (hw _ (List.mem_of_getElem? (i := 6) rfl)) (hw _ (List.mem_of_getElem? (i := 7) rfl)) (hw _ (List.mem_of_getElem? (i := 4) rfl)) (hw _ (List.mem_of_getElem? (i := 8) rfl)) (by decide) d1_87 pd_0 rfl rfl rfl rfl (by decide) (by decide) (by decide) (by decide) ?_
  refine Own.bastore_ V9 (i := 7) rfl (Nat.le_of_ble_eq_true rfl) g_a1 d1_90 (fun h10 W10 V10 => ?_)
  have hn : n0 ≤ h10.size := by rw [W10.size]; exact hn
  clear V9
  replace V10 : Arl Z h10 a1 ka .byte [own_x, own_x, own_x, own_x, own_x, own_x, own_x, (own_d (us / (10 : Int32))), (own_d (us % (10 : Int32))), own_x, own_x, own_x, own_x, own_x, own_x, own_x] := V10
  have K := K.wr W10 (Or.inl (List.mem_of_getElem? (i := 0) rfl))
  refine Own.aloadN d1_91 rfl rfl ?_
  refine Own.iinc (-1 : Int32) #[.val (.int p0), .val (.ref a1), .val (.int (0 : Int32)), .val (.int uh), .val (.int um), .val (.int us), .val (.int (3 : Int32)), .val (.int (9 : Int32)), .val (.int ((7 : Int32) + (-1 : Int32))), .unset] d1_92 rfl rfl rfl ?_
  refine OAt.castL (Ls' := #[.val (.int p0), .val (.ref a1), .val (.int (0 : Int32)), .val (.int uh), .val (.int um), .val (.int us), .val (.int (3 : Int32)), .val (.int (9 : Int32)), .val (.int (6 : Int32)), .unset]) rfl rfl ?_
  refine Own.iload d1_95 rfl ?_
  refine Own.bipush (58 : Int32) d1_97 rfl ?_
  refine Own.bastore_ V10 (i := 6) rfl (Nat.le_of_ble_eq_true rfl) g_a1 d1_99 (fun h11 W11 V11 => ?_)
  have hn : n0 ≤ h11.size := by rw [W11.size]; exact hn
  clear V10
  replace V11 : Arl Z h11 a1 ka .byte [own_x, own_x, own_x, own_x, own_x, own_x, own_c, (own_d (us / (10 : Int32))), (own_d (us % (10 : Int32))), own_x, own_x, own_x, own_x, own_x, own_x, own_x] := V11
  have K := K.wr W11 (Or.inl (List.mem_of_getElem? (i := 0) rfl))
  refine Own.aloadN d1_100 rfl rfl ?_
  refine Own.iinc (-1 : Int32) #[.val (.int p0), .val (.ref a1), .val (.int (0 : Int32)), .val (.int uh), .val (.int um), .val (.int us), .val (.int (3 : Int32)), .val (.int (9 : Int32)), .val (.int ((6 : Int32) + (-1 : Int32))), .unset] d1_101 rfl rfl rfl ?_
  refine OAt.castL (Ls' := #[.val (.int p0), .val (.ref a1), .val (.int (0 : Int32)), .val (.int uh), .val (.int um), .val (.int us), .val (.int (3 : Int32)), .val (.int (9 : Int32)), .val (.int (5 : Int32)), .unset]) rfl rfl ?_
  refine Own.iload d1_104 rfl ?_
  refine Own.iload d1_106 rfl ?_
  refine Own.bipush (10 : Int32) d1_108 rfl ?_
  refine Own.irem_ d1_110 (by decide) ?_
  refine Own.callSP [(.int (um % (10 : Int32)))] [(.int (5 : Int32)), (.ref a1)] 2 (rmD l Z a0 hw [] (um % (10 : Int32)) h11 n0 hn) (hw _ (List.mem_of_getElem? (i := 6) rfl)) (hw _ (List.mem_of_getElem? (i := 7) rfl)) (hw _ (List.mem_of_getElem? (i := 4) rfl)) (hw _ (List.mem_of_getElem? (i := 8) rfl)) (by decide) d1_111 pd_0 rfl rfl rfl rfl (by decide) (by decide) (by decide) (by decide) ?_
  refine Own.bastore_ V11 (i := 5) rfl (Nat.le_of_ble_eq_true rfl) g_a1 d1_114 (fun h12 W12 V12 => ?_)
  have hn : n0 ≤ h12.size := by rw [W12.size]; exact hn
  clear V11
  replace V12 : Arl Z h12 a1 ka .byte [own_x, own_x, own_x, own_x, own_x, (own_d (um % (10 : Int32))), own_c, (own_d (us / (10 : Int32))), (own_d (us % (10 : Int32))), own_x, own_x, own_x, own_x, own_x, own_x, own_x] := V12
  have K := K.wr W12 (Or.inl (List.mem_of_getElem? (i := 0) rfl))
  refine Own.aloadN d1_115 rfl rfl ?_
  refine Own.iinc (-1 : Int32) #[.val (.int p0), .val (.ref a1), .val (.int (0 : Int32)), .val (.int uh), .val (.int um), .val (.int us), .val (.int (3 : Int32)), .val (.int (9 : Int32)), .val (.int ((5 : Int32) + (-1 : Int32))), .unset] d1_116 rfl rfl rfl ?_
  refine OAt.castL (Ls' := #[.val (.int p0), .val (.ref a1), .val (.int (0 : Int32)), .val (.int uh), .val (.int um), .val (.int us), .val (.int (3 : Int32)), .val (.int (9 : Int32)), .val (.int (4 : Int32)), .unset]) rfl rfl ?_
  refine Own.iload d1_119 rfl ?_
  refine Own.iload d1_121 rfl ?_
  refine Own.bipush (10 : Int32) d1_123 rfl ?_
  refine Own.idiv d1_125 (by decide) ?_
  refine Own.callSP [(.int (um / (10 : Int32)))] [(.int (4 : Int32)), (.ref a1)] 2 (rmD l Z a0 hw [] (um / (10 : Int32)) h12 n0 hn) (hw _ (List.mem_of_getElem? (i := 6) rfl)) (hw _ (List.mem_of_getElem? (i := 7) rfl)) (hw _ (List.mem_of_getElem? (i := 4) rfl)) (hw _ (List.mem_of_getElem? (i := 8) rfl)) (by decide) d1_126 pd_0 rfl rfl rfl rfl (by decide) (by decide) (by decide) (by decide) ?_
  refine Own.bastore_ V12 (i := 4) rfl (Nat.le_of_ble_eq_true rfl) g_a1 d1_129 (fun h13 W13 V13 => ?_)
  have hn : n0 ≤ h13.size := by rw [W13.size]; exact hn
  clear V12
  replace V13 : Arl Z h13 a1 ka .byte [own_x, own_x, own_x, own_x, (own_d (um / (10 : Int32))), (own_d (um % (10 : Int32))), own_c, (own_d (us / (10 : Int32))), (own_d (us % (10 : Int32))), own_x, own_x, own_x, own_x, own_x, own_x, own_x] := V13
  have K := K.wr W13 (Or.inl (List.mem_of_getElem? (i := 0) rfl))
  refine Own.aloadN d1_130 rfl rfl ?_
  refine Own.iinc (-1 : Int32) #[.val (.int p0), .val (.ref a1), .val (.int (0 : Int32)), .val (.int uh), .val (.int um), .val (.int us), .val (.int (3 : Int32)), .val (.int (9 : Int32)), .val (.int ((4 : Int32) + (-1 : Int32))), .unset] d1_131 rfl rfl rfl ?_
  refine OAt.castL (Ls' := #[.val (.int p0), .val (.ref a1), .val (.int (0 : Int32)), .val (.int uh), .val (.int um), .val (.int us), .val (.int (3 : Int32)), .val (.int (9 : Int32)), .val (.int (3 : Int32)), .unset]) rfl rfl ?_
  refine Own.iload d1_134 rfl ?_
  refine Own.bipush (58 : Int32) d1_136 rfl ?_
  refine Own.bastore_ V13 (i := 3) rfl (Nat.le_of_ble_eq_true rfl) g_a1 d1_138 (fun h14 W14 V14 => ?_)
  have hn : n0 ≤ h14.size := by rw [W14.size]; exact hn
  clear V13
  replace V14 : Arl Z h14 a1 ka .byte [own_x, own_x, own_x, own_c, (own_d (um / (10 : Int32))), (own_d (um % (10 : Int32))), own_c, (own_d (us / (10 : Int32))), (own_d (us % (10 : Int32))), own_x, own_x, own_x, own_x, own_x, own_x, own_x] := V14
  have K := K.wr W14 (Or.inl (List.mem_of_getElem? (i := 0) rfl))
  refine Own.iloadN d1_139 rfl ?_
  refine Own.istore #[.val (.int p0), .val (.ref a1), .val (.int (0 : Int32)), .val (.int uh), .val (.int um), .val (.int us), .val (.int (3 : Int32)), .val (.int (9 : Int32)), .val (.int (3 : Int32)), .val (.int uh)] d1_140 rfl ?_
  refine Own.iload d1_142 rfl ?_
  refine Own.iloadN d1_144 rfl ?_
  refine Own.icmp_le 173 d1_145 (by decide) rfl (fun q => absurd (by decide) q) (fun _ => ?_)
  refine Own.aloadN d1_148 rfl rfl ?_
  refine Own.iinc (-1 : Int32) #[.val (.int p0), .val (.ref a1), .val (.int (0 : Int32)), .val (.int uh), .val (.int um), .val (.int us), .val (.int (3 : Int32)), .val (.int (9 : Int32)), .val (.int ((3 : Int32) + (-1 : Int32))), .val (.int uh)] d1_149 rfl rfl rfl ?_
  refine OAt.castL (Ls' := #[.val (.int p0), .val (.ref a1), .val (.int (0 : Int32)), .val (.int uh), .val (.int um), .val (.int us), .val (.int (3 : Int32)), .val (.int (9 : Int32)), .val (.int (2 : Int32)), .val (.int uh)]) rfl rfl ?_
  refine Own.iload d1_152 rfl ?_
  refine Own.iload d1_154 rfl ?_
  refine Own.bipush (10 : Int32) d1_156 rfl ?_
  refine Own.irem_ d1_158 (by decide) ?_
  refine Own.callSP [(.int (uh % (10 : Int32)))] [(.int (2 : Int32)), (.ref a1)] 2 (rmD l Z a0 hw [] (uh % (10 : Int32)) h14 n0 hn) (hw _ (List.mem_of_getElem? (i := 6) rfl)) (hw _ (List.mem_of_getElem? (i := 7) rfl)) (hw _ (List.mem_of_getElem? (i := 4) rfl)) (hw _ (List.mem_of_getElem? (i := 8) rfl)) (by decide) d1_159 pd_0 rfl rfl rfl rfl (by decide) (by decide) (by decide) (by decide) ?_
  refine Own.bastore_ V14 (i := 2) rfl (Nat.le_of_ble_eq_true rfl) g_a1 d1_162 (fun h15 W15 V15 => ?_)
  have hn : n0 ≤ h15.size := by rw [W15.size]; exact hn
  clear V14
  replace V15 : Arl Z h15 a1 ka .byte [own_x, own_x, (own_d (uh % (10 : Int32))), own_c, (own_d (um / (10 : Int32))), (own_d (um % (10 : Int32))), own_c, (own_d (us / (10 : Int32))), (own_d (us % (10 : Int32))), own_x, own_x, own_x, own_x, own_x, own_x, own_x] := V15
  have K := K.wr W15 (Or.inl (List.mem_of_getElem? (i := 0) rfl))
  refine Own.iload d1_163 rfl ?_
  refine Own.bipush (10 : Int32) d1_165 rfl ?_
  refine Own.idiv d1_167 (by decide) ?_
  refine Own.istore #[.val (.int p0), .val (.ref a1), .val (.int (0 : Int32)), .val (.int uh), .val (.int um), .val (.int us), .val (.int (3 : Int32)), .val (.int (9 : Int32)), .val (.int (2 : Int32)), .val (.int (uh / (10 : Int32)))] d1_168 rfl ?_
  refine Own.goto_ 142 d1_170 (by decide) rfl ?_
  refine Own.iload d1_142 rfl ?_
  refine Own.iloadN d1_144 rfl ?_
  refine Own.icmp_le 173 d1_145 (by decide) rfl (fun q => absurd (by decide) q) (fun _ => ?_)
  refine Own.aloadN d1_148 rfl rfl ?_
  refine Own.iinc (-1 : Int32) #[.val (.int p0), .val (.ref a1), .val (.int (0 : Int32)), .val (.int uh), .val (.int um), .val (.int us), .val (.int (3 : Int32)), .val (.int (9 : Int32)), .val (.int ((2 : Int32) + (-1 : Int32))), .val (.int (uh / (10 : Int32)))] d1_149 rfl rfl rfl ?_
  refine OAt.castL (Ls' := #[.val (.int p0), .val (.ref a1), .val (.int (0 : Int32)), .val (.int uh), .val (.int um), .val (.int us), .val (.int (3 : Int32)), .val (.int (9 : Int32)), .val (.int (1 : Int32)), .val (.int (uh / (10 : Int32)))]) rfl rfl ?_
  refine Own.iload d1_152 rfl ?_
  refine Own.iload d1_154 rfl ?_
  refine Own.bipush (10 : Int32) d1_156 rfl ?_
  refine Own.irem_ d1_158 (by decide) ?_
  refine Own.callSP [(.int ((uh / (10 : Int32)) % (10 : Int32)))] [(.int (1 : Int32)), (.ref a1)] 2 (rmD l Z a0 hw [] ((uh / (10 : Int32)) % (10 : Int32)) h15 n0 hn) (hw _ (List.mem_of_getElem? (i := 6) rfl)) (hw _ (List.mem_of_getElem? (i := 7) rfl)) (hw _ (List.mem_of_getElem? (i := 4) rfl)) (hw _ (List.mem_of_getElem? (i := 8) rfl)) (by decide) d1_159 pd_0 rfl rfl rfl rfl (by decide) (by decide) (by decide) (by decide) ?_
  refine Own.bastore_ V15 (i := 1) rfl (Nat.le_of_ble_eq_true rfl) g_a1 d1_162 (fun h16 W16 V16 => ?_)
  have hn : n0 ≤ h16.size := by rw [W16.size]; exact hn
  clear V15
  replace V16 : Arl Z h16 a1 ka .byte [own_x, (own_d ((uh / (10 : Int32)) % (10 : Int32))), (own_d (uh % (10 : Int32))), own_c, (own_d (um / (10 : Int32))), (own_d (um % (10 : Int32))), own_c, (own_d (us / (10 : Int32))), (own_d (us % (10 : Int32))), own_x, own_x, own_x, own_x, own_x, own_x, own_x] := V16
  have K := K.wr W16 (Or.inl (List.mem_of_getElem? (i := 0) rfl))
  refine Own.iload d1_163 rfl ?_
  refine Own.bipush (10 : Int32) d1_165 rfl ?_
  refine Own.idiv d1_167 (by decide) ?_
  refine Own.istore #[.val (.int p0), .val (.ref a1), .val (.int (0 : Int32)), .val (.int uh), .val (.int um), .val (.int us), .val (.int (3 : Int32)), .val (.int (9 : Int32)), .val (.int (1 : Int32)), .val (.int ((uh / (10 : Int32)) / (10 : Int32)))] d1_168 rfl ?_
  refine Own.goto_ 142 d1_170 (by decide) rfl ?_
  refine Own.iload d1_142 rfl ?_
  refine Own.iloadN d1_144 rfl ?_
  refine Own.icmp_le 173 d1_145 (by decide) rfl (fun q => absurd (by decide) q) (fun _ => ?_)
  refine Own.aloadN d1_148 rfl rfl ?_
  refine Own.iinc (-1 : Int32) #[.val (.int p0), .val (.ref a1), .val (.int (0 : Int32)), .val (.int uh), .val (.int um), .val (.int us), .val (.int (3 : Int32)), .val (.int (9 : Int32)), .val (.int ((1 : Int32) + (-1 : Int32))), .val (.int ((uh / (10 : Int32)) / (10 : Int32)))] d1_149 rfl rfl rfl ?_
  refine OAt.castL (Ls' := #[.val (.int p0), .val (.ref a1), .val (.int (0 : Int32)), .val (.int uh), .val (.int um), .val (.int us), .val (.int (3 : Int32)), .val (.int (9 : Int32)), .val (.int (0 : Int32)), .val (.int ((uh / (10 : Int32)) / (10 : Int32)))]) rfl rfl ?_
  refine Own.iload d1_152 rfl ?_
  refine Own.iload d1_154 rfl ?_
  refine Own.bipush (10 : Int32) d1_156 rfl ?_
  refine Own.irem_ d1_158 (by decide) ?_
  refine Own.callSP [(.int (((uh / (10 : Int32)) / (10 : Int32)) % (10 : Int32)))] [(.int (0 : Int32)), (.ref a1)] 2 (rmD l Z a0 hw [] (((uh / (10 : Int32)) / (10 : Int32)) % (10 : Int32)) h16 n0 hn) (hw _ (List.mem_of_getElem? (i := 6) rfl)) (hw _ (List.mem_of_getElem? (i := 7) rfl)) (hw _ (List.mem_of_getElem? (i := 4) rfl)) (hw _ (List.mem_of_getElem? (i := 8) rfl)) (by decide) d1_159 pd_0 rfl rfl rfl rfl (by decide) (by decide) (by decide) (by decide) ?_
  refine Own.bastore_ V16 (i := 0) rfl (Nat.le_of_ble_eq_true rfl) g_a1 d1_162 (fun h17 W17 V17 => ?_)
  have hn : n0 ≤ h17.size := by rw [W17.size]; exact hn
  clear V16
  replace V17 : Arl Z h17 a1 ka .byte [(own_d (((uh / (10 : Int32)) / (10 : Int32)) % (10 : Int32))), (own_d ((uh / (10 : Int32)) % (10 : Int32))), (own_d (uh % (10 : Int32))), own_c, (own_d (um / (10 : Int32))), (own_d (um % (10 : Int32))), own_c, (own_d (us / (10 : Int32))), (own_d (us % (10 : Int32))), own_x, own_x, own_x, own_x, own_x, own_x, own_x] := V17
  have K := K.wr W17 (Or.inl (List.mem_of_getElem? (i := 0) rfl))
  refine Own.iload d1_163 rfl ?_
  refine Own.bipush (10 : Int32) d1_165 rfl ?_
  refine Own.idiv d1_167 (by decide) ?_
  refine Own.istore #[.val (.int p0), .val (.ref a1), .val (.int (0 : Int32)), .val (.int uh), .val (.int um), .val (.int us), .val (.int (3 : Int32)), .val (.int (9 : Int32)), .val (.int (0 : Int32)), .val (.int (((uh / (10 : Int32)) / (10 : Int32)) / (10 : Int32)))] d1_168 rfl ?_
  refine Own.goto_ 142 d1_170 (by decide) rfl ?_
  refine Own.iload d1_142 rfl ?_
  refine Own.iloadN d1_144 rfl ?_
  refine Own.icmp_le 173 d1_145 (by decide) rfl (fun _ => ?_) (fun q => absurd q (by decide))
  refine Own.iload d1_173 rfl ?_
  refine Own.ret_int rfl d1_175 (by decide) (by decide) ?_
  exact ⟨rfl, K, V17⟩
def Q_rmF_0_4 (Z : State) (a1 : Addr) (ka : ClassId) (uh : Int32) (um : Int32) (us : Int32) (h0 : Heap) (n0 : Nat) (v : Option Value) (h : Heap) : Prop := v = some (.int (10 : Int32)) ∧ Keep h0 h [a1] ∧ Arl Z h a1 ka .byte [(own_d ((((uh / (10 : Int32)) / (10 : Int32)) / (10 : Int32)) % (10 : Int32))), (own_d (((uh / (10 : Int32)) / (10 : Int32)) % (10 : Int32))), (own_d ((uh / (10 : Int32)) % (10 : Int32))), (own_d (uh % (10 : Int32))), own_c, (own_d (um / (10 : Int32))), (own_d (um % (10 : Int32))), own_c, (own_d (us / (10 : Int32))), (own_d (us % (10 : Int32))), own_x, own_x, own_x, own_x, own_x, own_x]
theorem ef_rmF_0_4 (m : MethodId) (p0 : Int32) (a1 : Addr)  : entryFrame m #[(.int p0), (.ref a1), (.int (0 : Int32))] 10 = mkF m 0 #[.val (.int p0), .val (.ref a1), .val (.int (0 : Int32)), .unset, .unset, .unset, .unset, .unset, .unset, .unset] [] := by first | (simp [entryFrame, mkF, argsToLocals, Value.category]; done) | rfl
set_option maxRecDepth 65536 in
set_option maxHeartbeats 40000000 in
theorem rmF_0_4 (l : Launch) (Z : State) (a0 : Array Value) (hw : ∀ d ∈ tables_1, d.before a0 Z = true) (ws : List Jvm.Cond) (p0 : Int32) (a1 : Addr) (ka : ClassId) (uh : Int32) (um : Int32) (us : Int32) (h0 : Heap) (n0 : Nat) (hn : n0 ≤ h0.size) (V_a1 : Arl Z h0 a1 ka .byte [own_x, own_x, own_x, own_x, own_x, own_x, own_x, own_x, own_x, own_x, own_x, own_x, own_x, own_x, own_x, own_x]) (g_a1 : n0 ≤ a1) (e_h : p0 / (3600 : Int32) = uh) (e_m : (p0 / (60 : Int32)) % (60 : Int32) = um) (e_s : p0 % (60 : Int32) = us) (hl : 1000 ≤ uh.toInt) (hu : uh.toInt < 10000) :
    Met false l Z (⟨"com/example/voznired/voznired/timetable/StopTime", "formatTime", "(I[BI)I"⟩ : MethodName) prog_118_method_10_code 10 (some .int) ({ frames := 1, cells := 0, slots := 0, locals := 14 } : Room) ws #[(.int p0), (.ref a1), (.int (0 : Int32))] h0 n0 (Q_rmF_0_4 Z a1 ka uh um us h0 n0) := by
  refine Met.of pn_1 (fun m => ef_rmF_0_4 m p0 a1) ?_
  have K := Keep.refl h0 [a1]
  refine Own.iloadN d1_0 rfl ?_
  refine Own.sipush (3600 : Int32) d1_1 rfl ?_
  refine Own.idiv d1_4 (by decide) ?_
  rw [e_h]
  refine Own.istoreN #[.val (.int p0), .val (.ref a1), .val (.int (0 : Int32)), .val (.int uh), .unset, .unset, .unset, .unset, .unset, .unset] d1_5 rfl ?_
  refine Own.iloadN d1_6 rfl ?_
  refine Own.bipush (60 : Int32) d1_7 rfl ?_
  refine Own.idiv d1_9 (by decide) ?_
  refine Own.bipush (60 : Int32) d1_10 rfl ?_
  refine Own.irem_ d1_12 (by decide) ?_
  rw [e_m]
  refine Own.istore #[.val (.int p0), .val (.ref a1), .val (.int (0 : Int32)), .val (.int uh), .val (.int um), .unset, .unset, .unset, .unset, .unset] d1_13 rfl ?_
  refine Own.iloadN d1_15 rfl ?_
  refine Own.bipush (60 : Int32) d1_16 rfl ?_
  refine Own.irem_ d1_18 (by decide) ?_
  rw [e_s]
  refine Own.istore #[.val (.int p0), .val (.ref a1), .val (.int (0 : Int32)), .val (.int uh), .val (.int um), .val (.int us), .unset, .unset, .unset, .unset] d1_19 rfl ?_
  refine Own.iconst (2 : Int32) d1_21 rfl ?_
  refine Own.istore #[.val (.int p0), .val (.ref a1), .val (.int (0 : Int32)), .val (.int uh), .val (.int um), .val (.int us), .val (.int (2 : Int32)), .unset, .unset, .unset] d1_22 rfl ?_
  refine Own.iloadN d1_24 rfl ?_
  refine Own.bipush (100 : Int32) d1_25 rfl ?_
  refine Own.idiv d1_27 (by decide) ?_
  obtain ⟨ur0, e_ur0⟩ : ∃ z : Int32, z = (uh / (100 : Int32)) := ⟨_, rfl⟩
  rw [← e_ur0]
  have r_ur0 : ur0.toInt = uh.toInt / 100 := by
    rw [e_ur0]; exact own_div 100 rfl (by omega) (by omega)
  refine Own.istore #[.val (.int p0), .val (.ref a1), .val (.int (0 : Int32)), .val (.int uh), .val (.int um), .val (.int us), .val (.int (2 : Int32)), .val (.int ur0), .unset, .unset] d1_28 rfl ?_
  refine Own.iload d1_30 rfl ?_
  refine Own.if_le 48 d1_32 (by decide) rfl (fun q => absurd (by simp only [Int32.lt_iff_toInt_lt, Int32.reduceToInt]; omega) q) (fun _ => ?_)
  refine Own.iinc (1 : Int32) #[.val (.int p0), .val (.ref a1), .val (.int (0 : Int32)), .val (.int uh), .val (.int um), .val (.int us), .val (.int ((2 : Int32) + (1 : Int32))), .val (.int ur0), .unset, .unset] d1_35 rfl rfl rfl ?_
  refine OAt.castL (Ls' := #[.val (.int p0), .val (.ref a1), .val (.int (0 : Int32)), .val (.int uh), .val (.int um), .val (.int us), .val (.int (3 : Int32)), .val (.int ur0), .unset, .unset]) rfl rfl ?_
  refine Own.iload d1_38 rfl ?_
  refine Own.bipush (10 : Int32) d1_40 rfl ?_
  refine Own.idiv d1_42 (by decide) ?_
  obtain ⟨ur1, e_ur1⟩ : ∃ z : Int32, z = (ur0 / (10 : Int32)) := ⟨_, rfl⟩
  rw [← e_ur1]
  have r_ur1 : ur1.toInt = ur0.toInt / 10 := by
    rw [e_ur1]; rw [own_div 10 rfl (by omega) (by omega)]
  refine Own.istore #[.val (.int p0), .val (.ref a1), .val (.int (0 : Int32)), .val (.int uh), .val (.int um), .val (.int us), .val (.int (3 : Int32)), .val (.int ur1), .unset, .unset] d1_43 rfl ?_
  refine Own.goto_ 30 d1_45 (by decide) rfl ?_
  refine Own.iload d1_30 rfl ?_
  refine Own.if_le 48 d1_32 (by decide) rfl (fun q => absurd (by simp only [Int32.lt_iff_toInt_lt, Int32.reduceToInt]; omega) q) (fun _ => ?_)
  refine Own.iinc (1 : Int32) #[.val (.int p0), .val (.ref a1), .val (.int (0 : Int32)), .val (.int uh), .val (.int um), .val (.int us), .val (.int ((3 : Int32) + (1 : Int32))), .val (.int ur1), .unset, .unset] d1_35 rfl rfl rfl ?_
  refine OAt.castL (Ls' := #[.val (.int p0), .val (.ref a1), .val (.int (0 : Int32)), .val (.int uh), .val (.int um), .val (.int us), .val (.int (4 : Int32)), .val (.int ur1), .unset, .unset]) rfl rfl ?_
  refine Own.iload d1_38 rfl ?_
  refine Own.bipush (10 : Int32) d1_40 rfl ?_
  refine Own.idiv d1_42 (by decide) ?_
  obtain ⟨ur2, e_ur2⟩ : ∃ z : Int32, z = (ur1 / (10 : Int32)) := ⟨_, rfl⟩
  rw [← e_ur2]
  have r_ur2 : ur2.toInt = ur1.toInt / 10 := by
    rw [e_ur2]; rw [own_div 10 rfl (by omega) (by omega)]
  refine Own.istore #[.val (.int p0), .val (.ref a1), .val (.int (0 : Int32)), .val (.int uh), .val (.int um), .val (.int us), .val (.int (4 : Int32)), .val (.int ur2), .unset, .unset] d1_43 rfl ?_
  refine Own.goto_ 30 d1_45 (by decide) rfl ?_
  refine Own.iload d1_30 rfl ?_
  refine Own.if_le 48 d1_32 (by decide) rfl (fun _ => ?_) (fun q => absurd q (by simp only [Int32.lt_iff_toInt_lt, Int32.reduceToInt]; omega))
  refine Own.iloadN d1_48 rfl ?_
  refine Own.iload d1_49 rfl ?_
  refine Own.iadd d1_51 ?_
  refine OAt.cast (st' := [(.int (4 : Int32))]) rfl ?_
  refine Own.bipush (6 : Int32) d1_52 rfl ?_
  refine Own.iadd d1_54 ?_
  refine OAt.cast (st' := [(.int (10 : Int32))]) rfl ?_
  refine Own.istore #[.val (.int p0), .val (.ref a1), .val (.int (0 : Int32)), .val (.int uh), .val (.int um), .val (.int us), .val (.int (4 : Int32)), .val (.int (10 : Int32)), .unset, .unset] d1_55 rfl ?_
  refine Own.iload d1_57 rfl ?_
  refine Own.istore #[.val (.int p0), .val (.ref a1), .val (.int (0 : Int32)), .val (.int uh), .val (.int um), .val (.int us), .val (.int (4 : Int32)), .val (.int (10 : Int32)), .val (.int (10 : Int32)), .unset] d1_59 rfl ?_
  refine Own.aloadN d1_61 rfl rfl ?_
  refine Own.iinc (-1 : Int32) #[.val (.int p0), .val (.ref a1), .val (.int (0 : Int32)), .val (.int uh), .val (.int um), .val (.int us), .val (.int (4 : Int32)), .val (.int (10 : Int32)), .val (.int ((10 : Int32) + (-1 : Int32))), .unset] d1_62 rfl rfl rfl ?_
  refine OAt.castL (Ls' := #[.val (.int p0), .val (.ref a1), .val (.int (0 : Int32)), .val (.int uh), .val (.int um), .val (.int us), .val (.int (4 : Int32)), .val (.int (10 : Int32)), .val (.int (9 : Int32)), .unset]) rfl rfl ?_
  refine Own.iload d1_65 rfl ?_
  refine Own.iload d1_67 rfl ?_
  refine Own.bipush (10 : Int32) d1_69 rfl ?_
  refine Own.irem_ d1_71 (by decide) ?_
  refine Own.callSP [(.int (us % (10 : Int32)))] [(.int (9 : Int32)), (.ref a1)] 2 (rmD l Z a0 hw [] (us % (10 : Int32)) h0 n0 hn) (hw _ (List.mem_of_getElem? (i := 6) rfl)) (hw _ (List.mem_of_getElem? (i := 7) rfl)) (hw _ (List.mem_of_getElem? (i := 4) rfl)) (hw _ (List.mem_of_getElem? (i := 8) rfl)) (by decide) d1_72 pd_0 rfl rfl rfl rfl (by decide) (by decide) (by decide) (by decide) ?_
  refine Own.bastore_ V_a1 (i := 9) rfl (Nat.le_of_ble_eq_true rfl) g_a1 d1_75 (fun h18 W18 V18 => ?_)
  have hn : n0 ≤ h18.size := by rw [W18.size]; exact hn
  clear V_a1
  replace V18 : Arl Z h18 a1 ka .byte [own_x, own_x, own_x, own_x, own_x, own_x, own_x, own_x, own_x, (own_d (us % (10 : Int32))), own_x, own_x, own_x, own_x, own_x, own_x] := V18
  have K := K.wr W18 (Or.inl (List.mem_of_getElem? (i := 0) rfl))
  refine Own.aloadN d1_76 rfl rfl ?_
  refine Own.iinc (-1 : Int32) #[.val (.int p0), .val (.ref a1), .val (.int (0 : Int32)), .val (.int uh), .val (.int um), .val (.int us), .val (.int (4 : Int32)), .val (.int (10 : Int32)), .val (.int ((9 : Int32) + (-1 : Int32))), .unset] d1_77 rfl rfl rfl ?_
  refine OAt.castL (Ls' := #[.val (.int p0), .val (.ref a1), .val (.int (0 : Int32)), .val (.int uh), .val (.int um), .val (.int us), .val (.int (4 : Int32)), .val (.int (10 : Int32)), .val (.int (8 : Int32)), .unset]) rfl rfl ?_
  refine Own.iload d1_80 rfl ?_
  refine Own.iload d1_82 rfl ?_
  refine Own.bipush (10 : Int32) d1_84 rfl ?_
  refine Own.idiv d1_86 (by decide) ?_
  refine Own.callSP [(.int (us / (10 : Int32)))] [(.int (8 : Int32)), (.ref a1)] 2 (rmD l Z a0 hw [] (us / (10 : Int32)) h18 n0 hn) (hw _ (List.mem_of_getElem? (i := 6) rfl)) (hw _ (List.mem_of_getElem? (i := 7) rfl)) (hw _ (List.mem_of_getElem? (i := 4) rfl)) (hw _ (List.mem_of_getElem? (i := 8) rfl)) (by decide) d1_87 pd_0 rfl rfl rfl rfl (by decide) (by decide) (by decide) (by decide) ?_
  refine Own.bastore_ V18 (i := 8) rfl (Nat.le_of_ble_eq_true rfl) g_a1 d1_90 (fun h19 W19 V19 => ?_)
  have hn : n0 ≤ h19.size := by rw [W19.size]; exact hn
  clear V18
  replace V19 : Arl Z h19 a1 ka .byte [own_x, own_x, own_x, own_x, own_x, own_x, own_x, own_x, (own_d (us / (10 : Int32))), (own_d (us % (10 : Int32))), own_x, own_x, own_x, own_x, own_x, own_x] := V19
  have K := K.wr W19 (Or.inl (List.mem_of_getElem? (i := 0) rfl))
  refine Own.aloadN d1_91 rfl rfl ?_
  refine Own.iinc (-1 : Int32) #[.val (.int p0), .val (.ref a1), .val (.int (0 : Int32)), .val (.int uh), .val (.int um), .val (.int us), .val (.int (4 : Int32)), .val (.int (10 : Int32)), .val (.int ((8 : Int32) + (-1 : Int32))), .unset] d1_92 rfl rfl rfl ?_
  refine OAt.castL (Ls' := #[.val (.int p0), .val (.ref a1), .val (.int (0 : Int32)), .val (.int uh), .val (.int um), .val (.int us), .val (.int (4 : Int32)), .val (.int (10 : Int32)), .val (.int (7 : Int32)), .unset]) rfl rfl ?_
  refine Own.iload d1_95 rfl ?_
  refine Own.bipush (58 : Int32) d1_97 rfl ?_
  refine Own.bastore_ V19 (i := 7) rfl (Nat.le_of_ble_eq_true rfl) g_a1 d1_99 (fun h20 W20 V20 => ?_)
  have hn : n0 ≤ h20.size := by rw [W20.size]; exact hn
  clear V19
  replace V20 : Arl Z h20 a1 ka .byte [own_x, own_x, own_x, own_x, own_x, own_x, own_x, own_c, (own_d (us / (10 : Int32))), (own_d (us % (10 : Int32))), own_x, own_x, own_x, own_x, own_x, own_x] := V20
  have K := K.wr W20 (Or.inl (List.mem_of_getElem? (i := 0) rfl))
  refine Own.aloadN d1_100 rfl rfl ?_
  refine Own.iinc (-1 : Int32) #[.val (.int p0), .val (.ref a1), .val (.int (0 : Int32)), .val (.int uh), .val (.int um), .val (.int us), .val (.int (4 : Int32)), .val (.int (10 : Int32)), .val (.int ((7 : Int32) + (-1 : Int32))), .unset] d1_101 rfl rfl rfl ?_
  refine OAt.castL (Ls' := #[.val (.int p0), .val (.ref a1), .val (.int (0 : Int32)), .val (.int uh), .val (.int um), .val (.int us), .val (.int (4 : Int32)), .val (.int (10 : Int32)), .val (.int (6 : Int32)), .unset]) rfl rfl ?_
  refine Own.iload d1_104 rfl ?_
  refine Own.iload d1_106 rfl ?_
  refine Own.bipush (10 : Int32) d1_108 rfl ?_
  refine Own.irem_ d1_110 (by decide) ?_
  refine Own.callSP [(.int (um % (10 : Int32)))] [(.int (6 : Int32)), (.ref a1)] 2 (rmD l Z a0 hw [] (um % (10 : Int32)) h20 n0 hn) (hw _ (List.mem_of_getElem? (i := 6) rfl)) (hw _ (List.mem_of_getElem? (i := 7) rfl)) (hw _ (List.mem_of_getElem? (i := 4) rfl)) (hw _ (List.mem_of_getElem? (i := 8) rfl)) (by decide) d1_111 pd_0 rfl rfl rfl rfl (by decide) (by decide) (by decide) (by decide) ?_
  refine Own.bastore_ V20 (i := 6) rfl (Nat.le_of_ble_eq_true rfl) g_a1 d1_114 (fun h21 W21 V21 => ?_)
  have hn : n0 ≤ h21.size := by rw [W21.size]; exact hn
  clear V20
  replace V21 : Arl Z h21 a1 ka .byte [own_x, own_x, own_x, own_x, own_x, own_x, (own_d (um % (10 : Int32))), own_c, (own_d (us / (10 : Int32))), (own_d (us % (10 : Int32))), own_x, own_x, own_x, own_x, own_x, own_x] := V21
  have K := K.wr W21 (Or.inl (List.mem_of_getElem? (i := 0) rfl))
  refine Own.aloadN d1_115 rfl rfl ?_
  refine Own.iinc (-1 : Int32) #[.val (.int p0), .val (.ref a1), .val (.int (0 : Int32)), .val (.int uh), .val (.int um), .val (.int us), .val (.int (4 : Int32)), .val (.int (10 : Int32)), .val (.int ((6 : Int32) + (-1 : Int32))), .unset] d1_116 rfl rfl rfl ?_
  refine OAt.castL (Ls' := #[.val (.int p0), .val (.ref a1), .val (.int (0 : Int32)), .val (.int uh), .val (.int um), .val (.int us), .val (.int (4 : Int32)), .val (.int (10 : Int32)), .val (.int (5 : Int32)), .unset]) rfl rfl ?_
  refine Own.iload d1_119 rfl ?_
  refine Own.iload d1_121 rfl ?_
  refine Own.bipush (10 : Int32) d1_123 rfl ?_
  refine Own.idiv d1_125 (by decide) ?_
  refine Own.callSP [(.int (um / (10 : Int32)))] [(.int (5 : Int32)), (.ref a1)] 2 (rmD l Z a0 hw [] (um / (10 : Int32)) h21 n0 hn) (hw _ (List.mem_of_getElem? (i := 6) rfl)) (hw _ (List.mem_of_getElem? (i := 7) rfl)) (hw _ (List.mem_of_getElem? (i := 4) rfl)) (hw _ (List.mem_of_getElem? (i := 8) rfl)) (by decide) d1_126 pd_0 rfl rfl rfl rfl (by decide) (by decide) (by decide) (by decide) ?_
  refine Own.bastore_ V21 (i := 5) rfl (Nat.le_of_ble_eq_true rfl) g_a1 d1_129 (fun h22 W22 V22 => ?_)
  have hn : n0 ≤ h22.size := by rw [W22.size]; exact hn
  clear V21
  replace V22 : Arl Z h22 a1 ka .byte [own_x, own_x, own_x, own_x, own_x, (own_d (um / (10 : Int32))), (own_d (um % (10 : Int32))), own_c, (own_d (us / (10 : Int32))), (own_d (us % (10 : Int32))), own_x, own_x, own_x, own_x, own_x, own_x] := V22
  have K := K.wr W22 (Or.inl (List.mem_of_getElem? (i := 0) rfl))
  refine Own.aloadN d1_130 rfl rfl ?_
  refine Own.iinc (-1 : Int32) #[.val (.int p0), .val (.ref a1), .val (.int (0 : Int32)), .val (.int uh), .val (.int um), .val (.int us), .val (.int (4 : Int32)), .val (.int (10 : Int32)), .val (.int ((5 : Int32) + (-1 : Int32))), .unset] d1_131 rfl rfl rfl ?_
  refine OAt.castL (Ls' := #[.val (.int p0), .val (.ref a1), .val (.int (0 : Int32)), .val (.int uh), .val (.int um), .val (.int us), .val (.int (4 : Int32)), .val (.int (10 : Int32)), .val (.int (4 : Int32)), .unset]) rfl rfl ?_
  refine Own.iload d1_134 rfl ?_
  refine Own.bipush (58 : Int32) d1_136 rfl ?_
  refine Own.bastore_ V22 (i := 4) rfl (Nat.le_of_ble_eq_true rfl) g_a1 d1_138 (fun h23 W23 V23 => ?_)
  have hn : n0 ≤ h23.size := by rw [W23.size]; exact hn
  clear V22
  replace V23 : Arl Z h23 a1 ka .byte [own_x, own_x, own_x, own_x, own_c, (own_d (um / (10 : Int32))), (own_d (um % (10 : Int32))), own_c, (own_d (us / (10 : Int32))), (own_d (us % (10 : Int32))), own_x, own_x, own_x, own_x, own_x, own_x] := V23
  have K := K.wr W23 (Or.inl (List.mem_of_getElem? (i := 0) rfl))
  refine Own.iloadN d1_139 rfl ?_
  refine Own.istore #[.val (.int p0), .val (.ref a1), .val (.int (0 : Int32)), .val (.int uh), .val (.int um), .val (.int us), .val (.int (4 : Int32)), .val (.int (10 : Int32)), .val (.int (4 : Int32)), .val (.int uh)] d1_140 rfl ?_
  refine Own.iload d1_142 rfl ?_
  refine Own.iloadN d1_144 rfl ?_
  refine Own.icmp_le 173 d1_145 (by decide) rfl (fun q => absurd (by decide) q) (fun _ => ?_)
  refine Own.aloadN d1_148 rfl rfl ?_
  refine Own.iinc (-1 : Int32) #[.val (.int p0), .val (.ref a1), .val (.int (0 : Int32)), .val (.int uh), .val (.int um), .val (.int us), .val (.int (4 : Int32)), .val (.int (10 : Int32)), .val (.int ((4 : Int32) + (-1 : Int32))), .val (.int uh)] d1_149 rfl rfl rfl ?_
  refine OAt.castL (Ls' := #[.val (.int p0), .val (.ref a1), .val (.int (0 : Int32)), .val (.int uh), .val (.int um), .val (.int us), .val (.int (4 : Int32)), .val (.int (10 : Int32)), .val (.int (3 : Int32)), .val (.int uh)]) rfl rfl ?_
  refine Own.iload d1_152 rfl ?_
  refine Own.iload d1_154 rfl ?_
  refine Own.bipush (10 : Int32) d1_156 rfl ?_
  refine Own.irem_ d1_158 (by decide) ?_
  refine Own.callSP [(.int (uh % (10 : Int32)))] [(.int (3 : Int32)), (.ref a1)] 2 (rmD l Z a0 hw [] (uh % (10 : Int32)) h23 n0 hn) (hw _ (List.mem_of_getElem? (i := 6) rfl)) (hw _ (List.mem_of_getElem? (i := 7) rfl)) (hw _ (List.mem_of_getElem? (i := 4) rfl)) (hw _ (List.mem_of_getElem? (i := 8) rfl)) (by decide) d1_159 pd_0 rfl rfl rfl rfl (by decide) (by decide) (by decide) (by decide) ?_
  refine Own.bastore_ V23 (i := 3) rfl (Nat.le_of_ble_eq_true rfl) g_a1 d1_162 (fun h24 W24 V24 => ?_)
  have hn : n0 ≤ h24.size := by rw [W24.size]; exact hn
  clear V23
  replace V24 : Arl Z h24 a1 ka .byte [own_x, own_x, own_x, (own_d (uh % (10 : Int32))), own_c, (own_d (um / (10 : Int32))), (own_d (um % (10 : Int32))), own_c, (own_d (us / (10 : Int32))), (own_d (us % (10 : Int32))), own_x, own_x, own_x, own_x, own_x, own_x] := V24
  have K := K.wr W24 (Or.inl (List.mem_of_getElem? (i := 0) rfl))
  refine Own.iload d1_163 rfl ?_
  refine Own.bipush (10 : Int32) d1_165 rfl ?_
  refine Own.idiv d1_167 (by decide) ?_
  refine Own.istore #[.val (.int p0), .val (.ref a1), .val (.int (0 : Int32)), .val (.int uh), .val (.int um), .val (.int us), .val (.int (4 : Int32)), .val (.int (10 : Int32)), .val (.int (3 : Int32)), .val (.int (uh / (10 : Int32)))] d1_168 rfl ?_
  refine Own.goto_ 142 d1_170 (by decide) rfl ?_
  refine Own.iload d1_142 rfl ?_
  refine Own.iloadN d1_144 rfl ?_
  refine Own.icmp_le 173 d1_145 (by decide) rfl (fun q => absurd (by decide) q) (fun _ => ?_)
  refine Own.aloadN d1_148 rfl rfl ?_
  refine Own.iinc (-1 : Int32) #[.val (.int p0), .val (.ref a1), .val (.int (0 : Int32)), .val (.int uh), .val (.int um), .val (.int us), .val (.int (4 : Int32)), .val (.int (10 : Int32)), .val (.int ((3 : Int32) + (-1 : Int32))), .val (.int (uh / (10 : Int32)))] d1_149 rfl rfl rfl ?_
  refine OAt.castL (Ls' := #[.val (.int p0), .val (.ref a1), .val (.int (0 : Int32)), .val (.int uh), .val (.int um), .val (.int us), .val (.int (4 : Int32)), .val (.int (10 : Int32)), .val (.int (2 : Int32)), .val (.int (uh / (10 : Int32)))]) rfl rfl ?_
  refine Own.iload d1_152 rfl ?_
  refine Own.iload d1_154 rfl ?_
  refine Own.bipush (10 : Int32) d1_156 rfl ?_
  refine Own.irem_ d1_158 (by decide) ?_
  refine Own.callSP [(.int ((uh / (10 : Int32)) % (10 : Int32)))] [(.int (2 : Int32)), (.ref a1)] 2 (rmD l Z a0 hw [] ((uh / (10 : Int32)) % (10 : Int32)) h24 n0 hn) (hw _ (List.mem_of_getElem? (i := 6) rfl)) (hw _ (List.mem_of_getElem? (i := 7) rfl)) (hw _ (List.mem_of_getElem? (i := 4) rfl)) (hw _ (List.mem_of_getElem? (i := 8) rfl)) (by decide) d1_159 pd_0 rfl rfl rfl rfl (by decide) (by decide) (by decide) (by decide) ?_
  refine Own.bastore_ V24 (i := 2) rfl (Nat.le_of_ble_eq_true rfl) g_a1 d1_162 (fun h25 W25 V25 => ?_)
  have hn : n0 ≤ h25.size := by rw [W25.size]; exact hn
  clear V24
  replace V25 : Arl Z h25 a1 ka .byte [own_x, own_x, (own_d ((uh / (10 : Int32)) % (10 : Int32))), (own_d (uh % (10 : Int32))), own_c, (own_d (um / (10 : Int32))), (own_d (um % (10 : Int32))), own_c, (own_d (us / (10 : Int32))), (own_d (us % (10 : Int32))), own_x, own_x, own_x, own_x, own_x, own_x] := V25
  have K := K.wr W25 (Or.inl (List.mem_of_getElem? (i := 0) rfl))
  refine Own.iload d1_163 rfl ?_
  refine Own.bipush (10 : Int32) d1_165 rfl ?_
  refine Own.idiv d1_167 (by decide) ?_
  refine Own.istore #[.val (.int p0), .val (.ref a1), .val (.int (0 : Int32)), .val (.int uh), .val (.int um), .val (.int us), .val (.int (4 : Int32)), .val (.int (10 : Int32)), .val (.int (2 : Int32)), .val (.int ((uh / (10 : Int32)) / (10 : Int32)))] d1_168 rfl ?_
  refine Own.goto_ 142 d1_170 (by decide) rfl ?_
  refine Own.iload d1_142 rfl ?_
  refine Own.iloadN d1_144 rfl ?_
  refine Own.icmp_le 173 d1_145 (by decide) rfl (fun q => absurd (by decide) q) (fun _ => ?_)
  refine Own.aloadN d1_148 rfl rfl ?_
  refine Own.iinc (-1 : Int32) #[.val (.int p0), .val (.ref a1), .val (.int (0 : Int32)), .val (.int uh), .val (.int um), .val (.int us), .val (.int (4 : Int32)), .val (.int (10 : Int32)), .val (.int ((2 : Int32) + (-1 : Int32))), .val (.int ((uh / (10 : Int32)) / (10 : Int32)))] d1_149 rfl rfl rfl ?_
  refine OAt.castL (Ls' := #[.val (.int p0), .val (.ref a1), .val (.int (0 : Int32)), .val (.int uh), .val (.int um), .val (.int us), .val (.int (4 : Int32)), .val (.int (10 : Int32)), .val (.int (1 : Int32)), .val (.int ((uh / (10 : Int32)) / (10 : Int32)))]) rfl rfl ?_
  refine Own.iload d1_152 rfl ?_
  refine Own.iload d1_154 rfl ?_
  refine Own.bipush (10 : Int32) d1_156 rfl ?_
  refine Own.irem_ d1_158 (by decide) ?_
  refine Own.callSP [(.int (((uh / (10 : Int32)) / (10 : Int32)) % (10 : Int32)))] [(.int (1 : Int32)), (.ref a1)] 2 (rmD l Z a0 hw [] (((uh / (10 : Int32)) / (10 : Int32)) % (10 : Int32)) h25 n0 hn) (hw _ (List.mem_of_getElem? (i := 6) rfl)) (hw _ (List.mem_of_getElem? (i := 7) rfl)) (hw _ (List.mem_of_getElem? (i := 4) rfl)) (hw _ (List.mem_of_getElem? (i := 8) rfl)) (by decide) d1_159 pd_0 rfl rfl rfl rfl (by decide) (by decide) (by decide) (by decide) ?_
  refine Own.bastore_ V25 (i := 1) rfl (Nat.le_of_ble_eq_true rfl) g_a1 d1_162 (fun h26 W26 V26 => ?_)
  have hn : n0 ≤ h26.size := by rw [W26.size]; exact hn
  clear V25
  replace V26 : Arl Z h26 a1 ka .byte [own_x, (own_d (((uh / (10 : Int32)) / (10 : Int32)) % (10 : Int32))), (own_d ((uh / (10 : Int32)) % (10 : Int32))), (own_d (uh % (10 : Int32))), own_c, (own_d (um / (10 : Int32))), (own_d (um % (10 : Int32))), own_c, (own_d (us / (10 : Int32))), (own_d (us % (10 : Int32))), own_x, own_x, own_x, own_x, own_x, own_x] := V26
  have K := K.wr W26 (Or.inl (List.mem_of_getElem? (i := 0) rfl))
  refine Own.iload d1_163 rfl ?_
  refine Own.bipush (10 : Int32) d1_165 rfl ?_
  refine Own.idiv d1_167 (by decide) ?_
  refine Own.istore #[.val (.int p0), .val (.ref a1), .val (.int (0 : Int32)), .val (.int uh), .val (.int um), .val (.int us), .val (.int (4 : Int32)), .val (.int (10 : Int32)), .val (.int (1 : Int32)), .val (.int (((uh / (10 : Int32)) / (10 : Int32)) / (10 : Int32)))] d1_168 rfl ?_
  refine Own.goto_ 142 d1_170 (by decide) rfl ?_
  refine Own.iload d1_142 rfl ?_
  refine Own.iloadN d1_144 rfl ?_
  refine Own.icmp_le 173 d1_145 (by decide) rfl (fun q => absurd (by decide) q) (fun _ => ?_)
  refine Own.aloadN d1_148 rfl rfl ?_
  refine Own.iinc (-1 : Int32) #[.val (.int p0), .val (.ref a1), .val (.int (0 : Int32)), .val (.int uh), .val (.int um), .val (.int us), .val (.int (4 : Int32)), .val (.int (10 : Int32)), .val (.int ((1 : Int32) + (-1 : Int32))), .val (.int (((uh / (10 : Int32)) / (10 : Int32)) / (10 : Int32)))] d1_149 rfl rfl rfl ?_
  refine OAt.castL (Ls' := #[.val (.int p0), .val (.ref a1), .val (.int (0 : Int32)), .val (.int uh), .val (.int um), .val (.int us), .val (.int (4 : Int32)), .val (.int (10 : Int32)), .val (.int (0 : Int32)), .val (.int (((uh / (10 : Int32)) / (10 : Int32)) / (10 : Int32)))]) rfl rfl ?_
  refine Own.iload d1_152 rfl ?_
  refine Own.iload d1_154 rfl ?_
  refine Own.bipush (10 : Int32) d1_156 rfl ?_
  refine Own.irem_ d1_158 (by decide) ?_
  refine Own.callSP [(.int ((((uh / (10 : Int32)) / (10 : Int32)) / (10 : Int32)) % (10 : Int32)))] [(.int (0 : Int32)), (.ref a1)] 2 (rmD l Z a0 hw [] ((((uh / (10 : Int32)) / (10 : Int32)) / (10 : Int32)) % (10 : Int32)) h26 n0 hn) (hw _ (List.mem_of_getElem? (i := 6) rfl)) (hw _ (List.mem_of_getElem? (i := 7) rfl)) (hw _ (List.mem_of_getElem? (i := 4) rfl)) (hw _ (List.mem_of_getElem? (i := 8) rfl)) (by decide) d1_159 pd_0 rfl rfl rfl rfl (by decide) (by decide) (by decide) (by decide) ?_
  refine Own.bastore_ V26 (i := 0) rfl (Nat.le_of_ble_eq_true rfl) g_a1 d1_162 (fun h27 W27 V27 => ?_)
  have hn : n0 ≤ h27.size := by rw [W27.size]; exact hn
  clear V26
  replace V27 : Arl Z h27 a1 ka .byte [(own_d ((((uh / (10 : Int32)) / (10 : Int32)) / (10 : Int32)) % (10 : Int32))), (own_d (((uh / (10 : Int32)) / (10 : Int32)) % (10 : Int32))), (own_d ((uh / (10 : Int32)) % (10 : Int32))), (own_d (uh % (10 : Int32))), own_c, (own_d (um / (10 : Int32))), (own_d (um % (10 : Int32))), own_c, (own_d (us / (10 : Int32))), (own_d (us % (10 : Int32))), own_x, own_x, own_x, own_x, own_x, own_x] := V27
  have K := K.wr W27 (Or.inl (List.mem_of_getElem? (i := 0) rfl))
  refine Own.iload d1_163 rfl ?_
  refine Own.bipush (10 : Int32) d1_165 rfl ?_
  refine Own.idiv d1_167 (by decide) ?_
  refine Own.istore #[.val (.int p0), .val (.ref a1), .val (.int (0 : Int32)), .val (.int uh), .val (.int um), .val (.int us), .val (.int (4 : Int32)), .val (.int (10 : Int32)), .val (.int (0 : Int32)), .val (.int ((((uh / (10 : Int32)) / (10 : Int32)) / (10 : Int32)) / (10 : Int32)))] d1_168 rfl ?_
  refine Own.goto_ 142 d1_170 (by decide) rfl ?_
  refine Own.iload d1_142 rfl ?_
  refine Own.iloadN d1_144 rfl ?_
  refine Own.icmp_le 173 d1_145 (by decide) rfl (fun _ => ?_) (fun q => absurd q (by decide))
  refine Own.iload d1_173 rfl ?_
  refine Own.ret_int rfl d1_175 (by decide) (by decide) ?_
  exact ⟨rfl, K, V27⟩
def Q_rmF_0_5 (Z : State) (a1 : Addr) (ka : ClassId) (uh : Int32) (um : Int32) (us : Int32) (h0 : Heap) (n0 : Nat) (v : Option Value) (h : Heap) : Prop := v = some (.int (11 : Int32)) ∧ Keep h0 h [a1] ∧ Arl Z h a1 ka .byte [(own_d (((((uh / (10 : Int32)) / (10 : Int32)) / (10 : Int32)) / (10 : Int32)) % (10 : Int32))), (own_d ((((uh / (10 : Int32)) / (10 : Int32)) / (10 : Int32)) % (10 : Int32))), (own_d (((uh / (10 : Int32)) / (10 : Int32)) % (10 : Int32))), (own_d ((uh / (10 : Int32)) % (10 : Int32))), (own_d (uh % (10 : Int32))), own_c, (own_d (um / (10 : Int32))), (own_d (um % (10 : Int32))), own_c, (own_d (us / (10 : Int32))), (own_d (us % (10 : Int32))), own_x, own_x, own_x, own_x, own_x]
theorem ef_rmF_0_5 (m : MethodId) (p0 : Int32) (a1 : Addr)  : entryFrame m #[(.int p0), (.ref a1), (.int (0 : Int32))] 10 = mkF m 0 #[.val (.int p0), .val (.ref a1), .val (.int (0 : Int32)), .unset, .unset, .unset, .unset, .unset, .unset, .unset] [] := by first | (simp [entryFrame, mkF, argsToLocals, Value.category]; done) | rfl
set_option maxRecDepth 65536 in
set_option maxHeartbeats 40000000 in
theorem rmF_0_5 (l : Launch) (Z : State) (a0 : Array Value) (hw : ∀ d ∈ tables_1, d.before a0 Z = true) (ws : List Jvm.Cond) (p0 : Int32) (a1 : Addr) (ka : ClassId) (uh : Int32) (um : Int32) (us : Int32) (h0 : Heap) (n0 : Nat) (hn : n0 ≤ h0.size) (V_a1 : Arl Z h0 a1 ka .byte [own_x, own_x, own_x, own_x, own_x, own_x, own_x, own_x, own_x, own_x, own_x, own_x, own_x, own_x, own_x, own_x]) (g_a1 : n0 ≤ a1) (e_h : p0 / (3600 : Int32) = uh) (e_m : (p0 / (60 : Int32)) % (60 : Int32) = um) (e_s : p0 % (60 : Int32) = us) (hl : 10000 ≤ uh.toInt) (hu : uh.toInt < 100000) :
    Met false l Z (⟨"com/example/voznired/voznired/timetable/StopTime", "formatTime", "(I[BI)I"⟩ : MethodName) prog_118_method_10_code 10 (some .int) ({ frames := 1, cells := 0, slots := 0, locals := 14 } : Room) ws #[(.int p0), (.ref a1), (.int (0 : Int32))] h0 n0 (Q_rmF_0_5 Z a1 ka uh um us h0 n0) := by
  refine Met.of pn_1 (fun m => ef_rmF_0_5 m p0 a1) ?_
  have K := Keep.refl h0 [a1]
  refine Own.iloadN d1_0 rfl ?_
  refine Own.sipush (3600 : Int32) d1_1 rfl ?_
  refine Own.idiv d1_4 (by decide) ?_
  rw [e_h]
  refine Own.istoreN #[.val (.int p0), .val (.ref a1), .val (.int (0 : Int32)), .val (.int uh), .unset, .unset, .unset, .unset, .unset, .unset] d1_5 rfl ?_
  refine Own.iloadN d1_6 rfl ?_
  refine Own.bipush (60 : Int32) d1_7 rfl ?_
  refine Own.idiv d1_9 (by decide) ?_
  refine Own.bipush (60 : Int32) d1_10 rfl ?_
  refine Own.irem_ d1_12 (by decide) ?_
  rw [e_m]
  refine Own.istore #[.val (.int p0), .val (.ref a1), .val (.int (0 : Int32)), .val (.int uh), .val (.int um), .unset, .unset, .unset, .unset, .unset] d1_13 rfl ?_
  refine Own.iloadN d1_15 rfl ?_
  refine Own.bipush (60 : Int32) d1_16 rfl ?_
  refine Own.irem_ d1_18 (by decide) ?_
  rw [e_s]
  refine Own.istore #[.val (.int p0), .val (.ref a1), .val (.int (0 : Int32)), .val (.int uh), .val (.int um), .val (.int us), .unset, .unset, .unset, .unset] d1_19 rfl ?_
  refine Own.iconst (2 : Int32) d1_21 rfl ?_
  refine Own.istore #[.val (.int p0), .val (.ref a1), .val (.int (0 : Int32)), .val (.int uh), .val (.int um), .val (.int us), .val (.int (2 : Int32)), .unset, .unset, .unset] d1_22 rfl ?_
  refine Own.iloadN d1_24 rfl ?_
  refine Own.bipush (100 : Int32) d1_25 rfl ?_
  refine Own.idiv d1_27 (by decide) ?_
  obtain ⟨ur0, e_ur0⟩ : ∃ z : Int32, z = (uh / (100 : Int32)) := ⟨_, rfl⟩
  rw [← e_ur0]
  have r_ur0 : ur0.toInt = uh.toInt / 100 := by
    rw [e_ur0]; exact own_div 100 rfl (by omega) (by omega)
  refine Own.istore #[.val (.int p0), .val (.ref a1), .val (.int (0 : Int32)), .val (.int uh), .val (.int um), .val (.int us), .val (.int (2 : Int32)), .val (.int ur0), .unset, .unset] d1_28 rfl ?_
  refine Own.iload d1_30 rfl ?_
  refine Own.if_le 48 d1_32 (by decide) rfl (fun q => absurd (by simp only [Int32.lt_iff_toInt_lt, Int32.reduceToInt]; omega) q) (fun _ => ?_)
  refine Own.iinc (1 : Int32) #[.val (.int p0), .val (.ref a1), .val (.int (0 : Int32)), .val (.int uh), .val (.int um), .val (.int us), .val (.int ((2 : Int32) + (1 : Int32))), .val (.int ur0), .unset, .unset] d1_35 rfl rfl rfl ?_
  refine OAt.castL (Ls' := #[.val (.int p0), .val (.ref a1), .val (.int (0 : Int32)), .val (.int uh), .val (.int um), .val (.int us), .val (.int (3 : Int32)), .val (.int ur0), .unset, .unset]) rfl rfl ?_
  refine Own.iload d1_38 rfl ?_
  refine Own.bipush (10 : Int32) d1_40 rfl ?_
  refine Own.idiv d1_42 (by decide) ?_
  obtain ⟨ur1, e_ur1⟩ : ∃ z : Int32, z = (ur0 / (10 : Int32)) := ⟨_, rfl⟩
  rw [← e_ur1]
  have r_ur1 : ur1.toInt = ur0.toInt / 10 := by
    rw [e_ur1]; rw [own_div 10 rfl (by omega) (by omega)]
  refine Own.istore #[.val (.int p0), .val (.ref a1), .val (.int (0 : Int32)), .val (.int uh), .val (.int um), .val (.int us), .val (.int (3 : Int32)), .val (.int ur1), .unset, .unset] d1_43 rfl ?_
  refine Own.goto_ 30 d1_45 (by decide) rfl ?_
  refine Own.iload d1_30 rfl ?_
  refine Own.if_le 48 d1_32 (by decide) rfl (fun q => absurd (by simp only [Int32.lt_iff_toInt_lt, Int32.reduceToInt]; omega) q) (fun _ => ?_)
  refine Own.iinc (1 : Int32) #[.val (.int p0), .val (.ref a1), .val (.int (0 : Int32)), .val (.int uh), .val (.int um), .val (.int us), .val (.int ((3 : Int32) + (1 : Int32))), .val (.int ur1), .unset, .unset] d1_35 rfl rfl rfl ?_
  refine OAt.castL (Ls' := #[.val (.int p0), .val (.ref a1), .val (.int (0 : Int32)), .val (.int uh), .val (.int um), .val (.int us), .val (.int (4 : Int32)), .val (.int ur1), .unset, .unset]) rfl rfl ?_
  refine Own.iload d1_38 rfl ?_
  refine Own.bipush (10 : Int32) d1_40 rfl ?_
  refine Own.idiv d1_42 (by decide) ?_
  obtain ⟨ur2, e_ur2⟩ : ∃ z : Int32, z = (ur1 / (10 : Int32)) := ⟨_, rfl⟩
  rw [← e_ur2]
  have r_ur2 : ur2.toInt = ur1.toInt / 10 := by
    rw [e_ur2]; rw [own_div 10 rfl (by omega) (by omega)]
  refine Own.istore #[.val (.int p0), .val (.ref a1), .val (.int (0 : Int32)), .val (.int uh), .val (.int um), .val (.int us), .val (.int (4 : Int32)), .val (.int ur2), .unset, .unset] d1_43 rfl ?_
  refine Own.goto_ 30 d1_45 (by decide) rfl ?_
  refine Own.iload d1_30 rfl ?_
  refine Own.if_le 48 d1_32 (by decide) rfl (fun q => absurd (by simp only [Int32.lt_iff_toInt_lt, Int32.reduceToInt]; omega) q) (fun _ => ?_)
  refine Own.iinc (1 : Int32) #[.val (.int p0), .val (.ref a1), .val (.int (0 : Int32)), .val (.int uh), .val (.int um), .val (.int us), .val (.int ((4 : Int32) + (1 : Int32))), .val (.int ur2), .unset, .unset] d1_35 rfl rfl rfl ?_
  refine OAt.castL (Ls' := #[.val (.int p0), .val (.ref a1), .val (.int (0 : Int32)), .val (.int uh), .val (.int um), .val (.int us), .val (.int (5 : Int32)), .val (.int ur2), .unset, .unset]) rfl rfl ?_
  refine Own.iload d1_38 rfl ?_
  refine Own.bipush (10 : Int32) d1_40 rfl ?_
  refine Own.idiv d1_42 (by decide) ?_
  obtain ⟨ur3, e_ur3⟩ : ∃ z : Int32, z = (ur2 / (10 : Int32)) := ⟨_, rfl⟩
  rw [← e_ur3]
  have r_ur3 : ur3.toInt = ur2.toInt / 10 := by
    rw [e_ur3]; rw [own_div 10 rfl (by omega) (by omega)]
  refine Own.istore #[.val (.int p0), .val (.ref a1), .val (.int (0 : Int32)), .val (.int uh), .val (.int um), .val (.int us), .val (.int (5 : Int32)), .val (.int ur3), .unset, .unset] d1_43 rfl ?_
  refine Own.goto_ 30 d1_45 (by decide) rfl ?_
  refine Own.iload d1_30 rfl ?_
  refine Own.if_le 48 d1_32 (by decide) rfl (fun _ => ?_) (fun q => absurd q (by simp only [Int32.lt_iff_toInt_lt, Int32.reduceToInt]; omega))
  refine Own.iloadN d1_48 rfl ?_
  refine Own.iload d1_49 rfl ?_
  refine Own.iadd d1_51 ?_
  refine OAt.cast (st' := [(.int (5 : Int32))]) rfl ?_
  refine Own.bipush (6 : Int32) d1_52 rfl ?_
  refine Own.iadd d1_54 ?_
  refine OAt.cast (st' := [(.int (11 : Int32))]) rfl ?_
  refine Own.istore #[.val (.int p0), .val (.ref a1), .val (.int (0 : Int32)), .val (.int uh), .val (.int um), .val (.int us), .val (.int (5 : Int32)), .val (.int (11 : Int32)), .unset, .unset] d1_55 rfl ?_
  refine Own.iload d1_57 rfl ?_
  refine Own.istore #[.val (.int p0), .val (.ref a1), .val (.int (0 : Int32)), .val (.int uh), .val (.int um), .val (.int us), .val (.int (5 : Int32)), .val (.int (11 : Int32)), .val (.int (11 : Int32)), .unset] d1_59 rfl ?_
  refine Own.aloadN d1_61 rfl rfl ?_
  refine Own.iinc (-1 : Int32) #[.val (.int p0), .val (.ref a1), .val (.int (0 : Int32)), .val (.int uh), .val (.int um), .val (.int us), .val (.int (5 : Int32)), .val (.int (11 : Int32)), .val (.int ((11 : Int32) + (-1 : Int32))), .unset] d1_62 rfl rfl rfl ?_
  refine OAt.castL (Ls' := #[.val (.int p0), .val (.ref a1), .val (.int (0 : Int32)), .val (.int uh), .val (.int um), .val (.int us), .val (.int (5 : Int32)), .val (.int (11 : Int32)), .val (.int (10 : Int32)), .unset]) rfl rfl ?_
  refine Own.iload d1_65 rfl ?_
  refine Own.iload d1_67 rfl ?_
  refine Own.bipush (10 : Int32) d1_69 rfl ?_
  refine Own.irem_ d1_71 (by decide) ?_
  refine Own.callSP [(.int (us % (10 : Int32)))] [(.int (10 : Int32)), (.ref a1)] 2 (rmD l Z a0 hw [] (us % (10 : Int32)) h0 n0 hn) (hw _ (List.mem_of_getElem? (i := 6) rfl)) (hw _ (List.mem_of_getElem? (i := 7) rfl)) (hw _ (List.mem_of_getElem? (i := 4) rfl)) (hw _ (List.mem_of_getElem? (i := 8) rfl)) (by decide) d1_72 pd_0 rfl rfl rfl rfl (by decide) (by decide) (by decide) (by decide) ?_
  refine Own.bastore_ V_a1 (i := 10) rfl (Nat.le_of_ble_eq_true rfl) g_a1 d1_75 (fun h28 W28 V28 => ?_)
  have hn : n0 ≤ h28.size := by rw [W28.size]; exact hn
  clear V_a1
  replace V28 : Arl Z h28 a1 ka .byte [own_x, own_x, own_x, own_x, own_x, own_x, own_x, own_x, own_x, own_x, (own_d (us % (10 : Int32))), own_x, own_x, own_x, own_x, own_x] := V28
  have K := K.wr W28 (Or.inl (List.mem_of_getElem? (i := 0) rfl))
  refine Own.aloadN d1_76 rfl rfl ?_
  refine Own.iinc (-1 : Int32) #[.val (.int p0), .val (.ref a1), .val (.int (0 : Int32)), .val (.int uh), .val (.int um), .val (.int us), .val (.int (5 : Int32)), .val (.int (11 : Int32)), .val (.int ((10 : Int32) + (-1 : Int32))), .unset] d1_77 rfl rfl rfl ?_
  refine OAt.castL (Ls' := #[.val (.int p0), .val (.ref a1), .val (.int (0 : Int32)), .val (.int uh), .val (.int um), .val (.int us), .val (.int (5 : Int32)), .val (.int (11 : Int32)), .val (.int (9 : Int32)), .unset]) rfl rfl ?_
  refine Own.iload d1_80 rfl ?_
  refine Own.iload d1_82 rfl ?_
  refine Own.bipush (10 : Int32) d1_84 rfl ?_
  refine Own.idiv d1_86 (by decide) ?_
  refine Own.callSP [(.int (us / (10 : Int32)))] [(.int (9 : Int32)), (.ref a1)] 2 (rmD l Z a0 hw [] (us / (10 : Int32)) h28 n0 hn) (hw _ (List.mem_of_getElem? (i := 6) rfl)) (hw _ (List.mem_of_getElem? (i := 7) rfl)) (hw _ (List.mem_of_getElem? (i := 4) rfl)) (hw _ (List.mem_of_getElem? (i := 8) rfl)) (by decide) d1_87 pd_0 rfl rfl rfl rfl (by decide) (by decide) (by decide) (by decide) ?_
  refine Own.bastore_ V28 (i := 9) rfl (Nat.le_of_ble_eq_true rfl) g_a1 d1_90 (fun h29 W29 V29 => ?_)
  have hn : n0 ≤ h29.size := by rw [W29.size]; exact hn
  clear V28
  replace V29 : Arl Z h29 a1 ka .byte [own_x, own_x, own_x, own_x, own_x, own_x, own_x, own_x, own_x, (own_d (us / (10 : Int32))), (own_d (us % (10 : Int32))), own_x, own_x, own_x, own_x, own_x] := V29
  have K := K.wr W29 (Or.inl (List.mem_of_getElem? (i := 0) rfl))
  refine Own.aloadN d1_91 rfl rfl ?_
  refine Own.iinc (-1 : Int32) #[.val (.int p0), .val (.ref a1), .val (.int (0 : Int32)), .val (.int uh), .val (.int um), .val (.int us), .val (.int (5 : Int32)), .val (.int (11 : Int32)), .val (.int ((9 : Int32) + (-1 : Int32))), .unset] d1_92 rfl rfl rfl ?_
  refine OAt.castL (Ls' := #[.val (.int p0), .val (.ref a1), .val (.int (0 : Int32)), .val (.int uh), .val (.int um), .val (.int us), .val (.int (5 : Int32)), .val (.int (11 : Int32)), .val (.int (8 : Int32)), .unset]) rfl rfl ?_
  refine Own.iload d1_95 rfl ?_
  refine Own.bipush (58 : Int32) d1_97 rfl ?_
  refine Own.bastore_ V29 (i := 8) rfl (Nat.le_of_ble_eq_true rfl) g_a1 d1_99 (fun h30 W30 V30 => ?_)
  have hn : n0 ≤ h30.size := by rw [W30.size]; exact hn
  clear V29
  replace V30 : Arl Z h30 a1 ka .byte [own_x, own_x, own_x, own_x, own_x, own_x, own_x, own_x, own_c, (own_d (us / (10 : Int32))), (own_d (us % (10 : Int32))), own_x, own_x, own_x, own_x, own_x] := V30
  have K := K.wr W30 (Or.inl (List.mem_of_getElem? (i := 0) rfl))
  refine Own.aloadN d1_100 rfl rfl ?_
  refine Own.iinc (-1 : Int32) #[.val (.int p0), .val (.ref a1), .val (.int (0 : Int32)), .val (.int uh), .val (.int um), .val (.int us), .val (.int (5 : Int32)), .val (.int (11 : Int32)), .val (.int ((8 : Int32) + (-1 : Int32))), .unset] d1_101 rfl rfl rfl ?_
  refine OAt.castL (Ls' := #[.val (.int p0), .val (.ref a1), .val (.int (0 : Int32)), .val (.int uh), .val (.int um), .val (.int us), .val (.int (5 : Int32)), .val (.int (11 : Int32)), .val (.int (7 : Int32)), .unset]) rfl rfl ?_
  refine Own.iload d1_104 rfl ?_
  refine Own.iload d1_106 rfl ?_
  refine Own.bipush (10 : Int32) d1_108 rfl ?_
  refine Own.irem_ d1_110 (by decide) ?_
  refine Own.callSP [(.int (um % (10 : Int32)))] [(.int (7 : Int32)), (.ref a1)] 2 (rmD l Z a0 hw [] (um % (10 : Int32)) h30 n0 hn) (hw _ (List.mem_of_getElem? (i := 6) rfl)) (hw _ (List.mem_of_getElem? (i := 7) rfl)) (hw _ (List.mem_of_getElem? (i := 4) rfl)) (hw _ (List.mem_of_getElem? (i := 8) rfl)) (by decide) d1_111 pd_0 rfl rfl rfl rfl (by decide) (by decide) (by decide) (by decide) ?_
  refine Own.bastore_ V30 (i := 7) rfl (Nat.le_of_ble_eq_true rfl) g_a1 d1_114 (fun h31 W31 V31 => ?_)
  have hn : n0 ≤ h31.size := by rw [W31.size]; exact hn
  clear V30
  replace V31 : Arl Z h31 a1 ka .byte [own_x, own_x, own_x, own_x, own_x, own_x, own_x, (own_d (um % (10 : Int32))), own_c, (own_d (us / (10 : Int32))), (own_d (us % (10 : Int32))), own_x, own_x, own_x, own_x, own_x] := V31
  have K := K.wr W31 (Or.inl (List.mem_of_getElem? (i := 0) rfl))
  refine Own.aloadN d1_115 rfl rfl ?_
  refine Own.iinc (-1 : Int32) #[.val (.int p0), .val (.ref a1), .val (.int (0 : Int32)), .val (.int uh), .val (.int um), .val (.int us), .val (.int (5 : Int32)), .val (.int (11 : Int32)), .val (.int ((7 : Int32) + (-1 : Int32))), .unset] d1_116 rfl rfl rfl ?_
  refine OAt.castL (Ls' := #[.val (.int p0), .val (.ref a1), .val (.int (0 : Int32)), .val (.int uh), .val (.int um), .val (.int us), .val (.int (5 : Int32)), .val (.int (11 : Int32)), .val (.int (6 : Int32)), .unset]) rfl rfl ?_
  refine Own.iload d1_119 rfl ?_
  refine Own.iload d1_121 rfl ?_
  refine Own.bipush (10 : Int32) d1_123 rfl ?_
  refine Own.idiv d1_125 (by decide) ?_
  refine Own.callSP [(.int (um / (10 : Int32)))] [(.int (6 : Int32)), (.ref a1)] 2 (rmD l Z a0 hw [] (um / (10 : Int32)) h31 n0 hn) (hw _ (List.mem_of_getElem? (i := 6) rfl)) (hw _ (List.mem_of_getElem? (i := 7) rfl)) (hw _ (List.mem_of_getElem? (i := 4) rfl)) (hw _ (List.mem_of_getElem? (i := 8) rfl)) (by decide) d1_126 pd_0 rfl rfl rfl rfl (by decide) (by decide) (by decide) (by decide) ?_
  refine Own.bastore_ V31 (i := 6) rfl (Nat.le_of_ble_eq_true rfl) g_a1 d1_129 (fun h32 W32 V32 => ?_)
  have hn : n0 ≤ h32.size := by rw [W32.size]; exact hn
  clear V31
  replace V32 : Arl Z h32 a1 ka .byte [own_x, own_x, own_x, own_x, own_x, own_x, (own_d (um / (10 : Int32))), (own_d (um % (10 : Int32))), own_c, (own_d (us / (10 : Int32))), (own_d (us % (10 : Int32))), own_x, own_x, own_x, own_x, own_x] := V32
  have K := K.wr W32 (Or.inl (List.mem_of_getElem? (i := 0) rfl))
  refine Own.aloadN d1_130 rfl rfl ?_
  refine Own.iinc (-1 : Int32) #[.val (.int p0), .val (.ref a1), .val (.int (0 : Int32)), .val (.int uh), .val (.int um), .val (.int us), .val (.int (5 : Int32)), .val (.int (11 : Int32)), .val (.int ((6 : Int32) + (-1 : Int32))), .unset] d1_131 rfl rfl rfl ?_
  refine OAt.castL (Ls' := #[.val (.int p0), .val (.ref a1), .val (.int (0 : Int32)), .val (.int uh), .val (.int um), .val (.int us), .val (.int (5 : Int32)), .val (.int (11 : Int32)), .val (.int (5 : Int32)), .unset]) rfl rfl ?_
  refine Own.iload d1_134 rfl ?_
  refine Own.bipush (58 : Int32) d1_136 rfl ?_
  refine Own.bastore_ V32 (i := 5) rfl (Nat.le_of_ble_eq_true rfl) g_a1 d1_138 (fun h33 W33 V33 => ?_)
  have hn : n0 ≤ h33.size := by rw [W33.size]; exact hn
  clear V32
  replace V33 : Arl Z h33 a1 ka .byte [own_x, own_x, own_x, own_x, own_x, own_c, (own_d (um / (10 : Int32))), (own_d (um % (10 : Int32))), own_c, (own_d (us / (10 : Int32))), (own_d (us % (10 : Int32))), own_x, own_x, own_x, own_x, own_x] := V33
  have K := K.wr W33 (Or.inl (List.mem_of_getElem? (i := 0) rfl))
  refine Own.iloadN d1_139 rfl ?_
  refine Own.istore #[.val (.int p0), .val (.ref a1), .val (.int (0 : Int32)), .val (.int uh), .val (.int um), .val (.int us), .val (.int (5 : Int32)), .val (.int (11 : Int32)), .val (.int (5 : Int32)), .val (.int uh)] d1_140 rfl ?_
  refine Own.iload d1_142 rfl ?_
  refine Own.iloadN d1_144 rfl ?_
  refine Own.icmp_le 173 d1_145 (by decide) rfl (fun q => absurd (by decide) q) (fun _ => ?_)
  refine Own.aloadN d1_148 rfl rfl ?_
  refine Own.iinc (-1 : Int32) #[.val (.int p0), .val (.ref a1), .val (.int (0 : Int32)), .val (.int uh), .val (.int um), .val (.int us), .val (.int (5 : Int32)), .val (.int (11 : Int32)), .val (.int ((5 : Int32) + (-1 : Int32))), .val (.int uh)] d1_149 rfl rfl rfl ?_
  refine OAt.castL (Ls' := #[.val (.int p0), .val (.ref a1), .val (.int (0 : Int32)), .val (.int uh), .val (.int um), .val (.int us), .val (.int (5 : Int32)), .val (.int (11 : Int32)), .val (.int (4 : Int32)), .val (.int uh)]) rfl rfl ?_
  refine Own.iload d1_152 rfl ?_
  refine Own.iload d1_154 rfl ?_
  refine Own.bipush (10 : Int32) d1_156 rfl ?_
  refine Own.irem_ d1_158 (by decide) ?_
  refine Own.callSP [(.int (uh % (10 : Int32)))] [(.int (4 : Int32)), (.ref a1)] 2 (rmD l Z a0 hw [] (uh % (10 : Int32)) h33 n0 hn) (hw _ (List.mem_of_getElem? (i := 6) rfl)) (hw _ (List.mem_of_getElem? (i := 7) rfl)) (hw _ (List.mem_of_getElem? (i := 4) rfl)) (hw _ (List.mem_of_getElem? (i := 8) rfl)) (by decide) d1_159 pd_0 rfl rfl rfl rfl (by decide) (by decide) (by decide) (by decide) ?_
  refine Own.bastore_ V33 (i := 4) rfl (Nat.le_of_ble_eq_true rfl) g_a1 d1_162 (fun h34 W34 V34 => ?_)
  have hn : n0 ≤ h34.size := by rw [W34.size]; exact hn
  clear V33
  replace V34 : Arl Z h34 a1 ka .byte [own_x, own_x, own_x, own_x, (own_d (uh % (10 : Int32))), own_c, (own_d (um / (10 : Int32))), (own_d (um % (10 : Int32))), own_c, (own_d (us / (10 : Int32))), (own_d (us % (10 : Int32))), own_x, own_x, own_x, own_x, own_x] := V34
  have K := K.wr W34 (Or.inl (List.mem_of_getElem? (i := 0) rfl))
  refine Own.iload d1_163 rfl ?_
  refine Own.bipush (10 : Int32) d1_165 rfl ?_
  refine Own.idiv d1_167 (by decide) ?_
  refine Own.istore #[.val (.int p0), .val (.ref a1), .val (.int (0 : Int32)), .val (.int uh), .val (.int um), .val (.int us), .val (.int (5 : Int32)), .val (.int (11 : Int32)), .val (.int (4 : Int32)), .val (.int (uh / (10 : Int32)))] d1_168 rfl ?_
  refine Own.goto_ 142 d1_170 (by decide) rfl ?_
  refine Own.iload d1_142 rfl ?_
  refine Own.iloadN d1_144 rfl ?_
  refine Own.icmp_le 173 d1_145 (by decide) rfl (fun q => absurd (by decide) q) (fun _ => ?_)
  refine Own.aloadN d1_148 rfl rfl ?_
  refine Own.iinc (-1 : Int32) #[.val (.int p0), .val (.ref a1), .val (.int (0 : Int32)), .val (.int uh), .val (.int um), .val (.int us), .val (.int (5 : Int32)), .val (.int (11 : Int32)), .val (.int ((4 : Int32) + (-1 : Int32))), .val (.int (uh / (10 : Int32)))] d1_149 rfl rfl rfl ?_
  refine OAt.castL (Ls' := #[.val (.int p0), .val (.ref a1), .val (.int (0 : Int32)), .val (.int uh), .val (.int um), .val (.int us), .val (.int (5 : Int32)), .val (.int (11 : Int32)), .val (.int (3 : Int32)), .val (.int (uh / (10 : Int32)))]) rfl rfl ?_
  refine Own.iload d1_152 rfl ?_
  refine Own.iload d1_154 rfl ?_
  refine Own.bipush (10 : Int32) d1_156 rfl ?_
  refine Own.irem_ d1_158 (by decide) ?_
  refine Own.callSP [(.int ((uh / (10 : Int32)) % (10 : Int32)))] [(.int (3 : Int32)), (.ref a1)] 2 (rmD l Z a0 hw [] ((uh / (10 : Int32)) % (10 : Int32)) h34 n0 hn) (hw _ (List.mem_of_getElem? (i := 6) rfl)) (hw _ (List.mem_of_getElem? (i := 7) rfl)) (hw _ (List.mem_of_getElem? (i := 4) rfl)) (hw _ (List.mem_of_getElem? (i := 8) rfl)) (by decide) d1_159 pd_0 rfl rfl rfl rfl (by decide) (by decide) (by decide) (by decide) ?_
  refine Own.bastore_ V34 (i := 3) rfl (Nat.le_of_ble_eq_true rfl) g_a1 d1_162 (fun h35 W35 V35 => ?_)
  have hn : n0 ≤ h35.size := by rw [W35.size]; exact hn
  clear V34
  replace V35 : Arl Z h35 a1 ka .byte [own_x, own_x, own_x, (own_d ((uh / (10 : Int32)) % (10 : Int32))), (own_d (uh % (10 : Int32))), own_c, (own_d (um / (10 : Int32))), (own_d (um % (10 : Int32))), own_c, (own_d (us / (10 : Int32))), (own_d (us % (10 : Int32))), own_x, own_x, own_x, own_x, own_x] := V35
  have K := K.wr W35 (Or.inl (List.mem_of_getElem? (i := 0) rfl))
  refine Own.iload d1_163 rfl ?_
  refine Own.bipush (10 : Int32) d1_165 rfl ?_
  refine Own.idiv d1_167 (by decide) ?_
  refine Own.istore #[.val (.int p0), .val (.ref a1), .val (.int (0 : Int32)), .val (.int uh), .val (.int um), .val (.int us), .val (.int (5 : Int32)), .val (.int (11 : Int32)), .val (.int (3 : Int32)), .val (.int ((uh / (10 : Int32)) / (10 : Int32)))] d1_168 rfl ?_
  refine Own.goto_ 142 d1_170 (by decide) rfl ?_
  refine Own.iload d1_142 rfl ?_
  refine Own.iloadN d1_144 rfl ?_
  refine Own.icmp_le 173 d1_145 (by decide) rfl (fun q => absurd (by decide) q) (fun _ => ?_)
  refine Own.aloadN d1_148 rfl rfl ?_
  refine Own.iinc (-1 : Int32) #[.val (.int p0), .val (.ref a1), .val (.int (0 : Int32)), .val (.int uh), .val (.int um), .val (.int us), .val (.int (5 : Int32)), .val (.int (11 : Int32)), .val (.int ((3 : Int32) + (-1 : Int32))), .val (.int ((uh / (10 : Int32)) / (10 : Int32)))] d1_149 rfl rfl rfl ?_
  refine OAt.castL (Ls' := #[.val (.int p0), .val (.ref a1), .val (.int (0 : Int32)), .val (.int uh), .val (.int um), .val (.int us), .val (.int (5 : Int32)), .val (.int (11 : Int32)), .val (.int (2 : Int32)), .val (.int ((uh / (10 : Int32)) / (10 : Int32)))]) rfl rfl ?_
  refine Own.iload d1_152 rfl ?_
  refine Own.iload d1_154 rfl ?_
  refine Own.bipush (10 : Int32) d1_156 rfl ?_
  refine Own.irem_ d1_158 (by decide) ?_
  refine Own.callSP [(.int (((uh / (10 : Int32)) / (10 : Int32)) % (10 : Int32)))] [(.int (2 : Int32)), (.ref a1)] 2 (rmD l Z a0 hw [] (((uh / (10 : Int32)) / (10 : Int32)) % (10 : Int32)) h35 n0 hn) (hw _ (List.mem_of_getElem? (i := 6) rfl)) (hw _ (List.mem_of_getElem? (i := 7) rfl)) (hw _ (List.mem_of_getElem? (i := 4) rfl)) (hw _ (List.mem_of_getElem? (i := 8) rfl)) (by decide) d1_159 pd_0 rfl rfl rfl rfl (by decide) (by decide) (by decide) (by decide) ?_
  refine Own.bastore_ V35 (i := 2) rfl (Nat.le_of_ble_eq_true rfl) g_a1 d1_162 (fun h36 W36 V36 => ?_)
  have hn : n0 ≤ h36.size := by rw [W36.size]; exact hn
  clear V35
  replace V36 : Arl Z h36 a1 ka .byte [own_x, own_x, (own_d (((uh / (10 : Int32)) / (10 : Int32)) % (10 : Int32))), (own_d ((uh / (10 : Int32)) % (10 : Int32))), (own_d (uh % (10 : Int32))), own_c, (own_d (um / (10 : Int32))), (own_d (um % (10 : Int32))), own_c, (own_d (us / (10 : Int32))), (own_d (us % (10 : Int32))), own_x, own_x, own_x, own_x, own_x] := V36
  have K := K.wr W36 (Or.inl (List.mem_of_getElem? (i := 0) rfl))
  refine Own.iload d1_163 rfl ?_
  refine Own.bipush (10 : Int32) d1_165 rfl ?_
  refine Own.idiv d1_167 (by decide) ?_
  refine Own.istore #[.val (.int p0), .val (.ref a1), .val (.int (0 : Int32)), .val (.int uh), .val (.int um), .val (.int us), .val (.int (5 : Int32)), .val (.int (11 : Int32)), .val (.int (2 : Int32)), .val (.int (((uh / (10 : Int32)) / (10 : Int32)) / (10 : Int32)))] d1_168 rfl ?_
  refine Own.goto_ 142 d1_170 (by decide) rfl ?_
  refine Own.iload d1_142 rfl ?_
  refine Own.iloadN d1_144 rfl ?_
  refine Own.icmp_le 173 d1_145 (by decide) rfl (fun q => absurd (by decide) q) (fun _ => ?_)
  refine Own.aloadN d1_148 rfl rfl ?_
  refine Own.iinc (-1 : Int32) #[.val (.int p0), .val (.ref a1), .val (.int (0 : Int32)), .val (.int uh), .val (.int um), .val (.int us), .val (.int (5 : Int32)), .val (.int (11 : Int32)), .val (.int ((2 : Int32) + (-1 : Int32))), .val (.int (((uh / (10 : Int32)) / (10 : Int32)) / (10 : Int32)))] d1_149 rfl rfl rfl ?_
  refine OAt.castL (Ls' := #[.val (.int p0), .val (.ref a1), .val (.int (0 : Int32)), .val (.int uh), .val (.int um), .val (.int us), .val (.int (5 : Int32)), .val (.int (11 : Int32)), .val (.int (1 : Int32)), .val (.int (((uh / (10 : Int32)) / (10 : Int32)) / (10 : Int32)))]) rfl rfl ?_
  refine Own.iload d1_152 rfl ?_
  refine Own.iload d1_154 rfl ?_
  refine Own.bipush (10 : Int32) d1_156 rfl ?_
  refine Own.irem_ d1_158 (by decide) ?_
  refine Own.callSP [(.int ((((uh / (10 : Int32)) / (10 : Int32)) / (10 : Int32)) % (10 : Int32)))] [(.int (1 : Int32)), (.ref a1)] 2 (rmD l Z a0 hw [] ((((uh / (10 : Int32)) / (10 : Int32)) / (10 : Int32)) % (10 : Int32)) h36 n0 hn) (hw _ (List.mem_of_getElem? (i := 6) rfl)) (hw _ (List.mem_of_getElem? (i := 7) rfl)) (hw _ (List.mem_of_getElem? (i := 4) rfl)) (hw _ (List.mem_of_getElem? (i := 8) rfl)) (by decide) d1_159 pd_0 rfl rfl rfl rfl (by decide) (by decide) (by decide) (by decide) ?_
  refine Own.bastore_ V36 (i := 1) rfl (Nat.le_of_ble_eq_true rfl) g_a1 d1_162 (fun h37 W37 V37 => ?_)
  have hn : n0 ≤ h37.size := by rw [W37.size]; exact hn
  clear V36
  replace V37 : Arl Z h37 a1 ka .byte [own_x, (own_d ((((uh / (10 : Int32)) / (10 : Int32)) / (10 : Int32)) % (10 : Int32))), (own_d (((uh / (10 : Int32)) / (10 : Int32)) % (10 : Int32))), (own_d ((uh / (10 : Int32)) % (10 : Int32))), (own_d (uh % (10 : Int32))), own_c, (own_d (um / (10 : Int32))), (own_d (um % (10 : Int32))), own_c, (own_d (us / (10 : Int32))), (own_d (us % (10 : Int32))), own_x, own_x, own_x, own_x, own_x] := V37
  have K := K.wr W37 (Or.inl (List.mem_of_getElem? (i := 0) rfl))
  refine Own.iload d1_163 rfl ?_
  refine Own.bipush (10 : Int32) d1_165 rfl ?_
  refine Own.idiv d1_167 (by decide) ?_
  refine Own.istore #[.val (.int p0), .val (.ref a1), .val (.int (0 : Int32)), .val (.int uh), .val (.int um), .val (.int us), .val (.int (5 : Int32)), .val (.int (11 : Int32)), .val (.int (1 : Int32)), .val (.int ((((uh / (10 : Int32)) / (10 : Int32)) / (10 : Int32)) / (10 : Int32)))] d1_168 rfl ?_
  refine Own.goto_ 142 d1_170 (by decide) rfl ?_
  refine Own.iload d1_142 rfl ?_
  refine Own.iloadN d1_144 rfl ?_
  refine Own.icmp_le 173 d1_145 (by decide) rfl (fun q => absurd (by decide) q) (fun _ => ?_)
  refine Own.aloadN d1_148 rfl rfl ?_
  refine Own.iinc (-1 : Int32) #[.val (.int p0), .val (.ref a1), .val (.int (0 : Int32)), .val (.int uh), .val (.int um), .val (.int us), .val (.int (5 : Int32)), .val (.int (11 : Int32)), .val (.int ((1 : Int32) + (-1 : Int32))), .val (.int ((((uh / (10 : Int32)) / (10 : Int32)) / (10 : Int32)) / (10 : Int32)))] d1_149 rfl rfl rfl ?_
  refine OAt.castL (Ls' := #[.val (.int p0), .val (.ref a1), .val (.int (0 : Int32)), .val (.int uh), .val (.int um), .val (.int us), .val (.int (5 : Int32)), .val (.int (11 : Int32)), .val (.int (0 : Int32)), .val (.int ((((uh / (10 : Int32)) / (10 : Int32)) / (10 : Int32)) / (10 : Int32)))]) rfl rfl ?_
  refine Own.iload d1_152 rfl ?_
  refine Own.iload d1_154 rfl ?_
  refine Own.bipush (10 : Int32) d1_156 rfl ?_
  refine Own.irem_ d1_158 (by decide) ?_
  refine Own.callSP [(.int (((((uh / (10 : Int32)) / (10 : Int32)) / (10 : Int32)) / (10 : Int32)) % (10 : Int32)))] [(.int (0 : Int32)), (.ref a1)] 2 (rmD l Z a0 hw [] (((((uh / (10 : Int32)) / (10 : Int32)) / (10 : Int32)) / (10 : Int32)) % (10 : Int32)) h37 n0 hn) (hw _ (List.mem_of_getElem? (i := 6) rfl)) (hw _ (List.mem_of_getElem? (i := 7) rfl)) (hw _ (List.mem_of_getElem? (i := 4) rfl)) (hw _ (List.mem_of_getElem? (i := 8) rfl)) (by decide) d1_159 pd_0 rfl rfl rfl rfl (by decide) (by decide) (by decide) (by decide) ?_
  refine Own.bastore_ V37 (i := 0) rfl (Nat.le_of_ble_eq_true rfl) g_a1 d1_162 (fun h38 W38 V38 => ?_)
  have hn : n0 ≤ h38.size := by rw [W38.size]; exact hn
  clear V37
  replace V38 : Arl Z h38 a1 ka .byte [(own_d (((((uh / (10 : Int32)) / (10 : Int32)) / (10 : Int32)) / (10 : Int32)) % (10 : Int32))), (own_d ((((uh / (10 : Int32)) / (10 : Int32)) / (10 : Int32)) % (10 : Int32))), (own_d (((uh / (10 : Int32)) / (10 : Int32)) % (10 : Int32))), (own_d ((uh / (10 : Int32)) % (10 : Int32))), (own_d (uh % (10 : Int32))), own_c, (own_d (um / (10 : Int32))), (own_d (um % (10 : Int32))), own_c, (own_d (us / (10 : Int32))), (own_d (us % (10 : Int32))), own_x, own_x, own_x, own_x, own_x] := V38
  have K := K.wr W38 (Or.inl (List.mem_of_getElem? (i := 0) rfl))
  refine Own.iload d1_163 rfl ?_
  refine Own.bipush (10 : Int32) d1_165 rfl ?_
  refine Own.idiv d1_167 (by decide) ?_
  refine Own.istore #[.val (.int p0), .val (.ref a1), .val (.int (0 : Int32)), .val (.int uh), .val (.int um), .val (.int us), .val (.int (5 : Int32)), .val (.int (11 : Int32)), .val (.int (0 : Int32)), .val (.int (((((uh / (10 : Int32)) / (10 : Int32)) / (10 : Int32)) / (10 : Int32)) / (10 : Int32)))] d1_168 rfl ?_
  refine Own.goto_ 142 d1_170 (by decide) rfl ?_
  refine Own.iload d1_142 rfl ?_
  refine Own.iloadN d1_144 rfl ?_
  refine Own.icmp_le 173 d1_145 (by decide) rfl (fun _ => ?_) (fun q => absurd q (by decide))
  refine Own.iload d1_173 rfl ?_
  refine Own.ret_int rfl d1_175 (by decide) (by decide) ?_
  exact ⟨rfl, K, V38⟩
def Q_rmF_0_6 (Z : State) (a1 : Addr) (ka : ClassId) (uh : Int32) (um : Int32) (us : Int32) (h0 : Heap) (n0 : Nat) (v : Option Value) (h : Heap) : Prop := v = some (.int (12 : Int32)) ∧ Keep h0 h [a1] ∧ Arl Z h a1 ka .byte [(own_d ((((((uh / (10 : Int32)) / (10 : Int32)) / (10 : Int32)) / (10 : Int32)) / (10 : Int32)) % (10 : Int32))), (own_d (((((uh / (10 : Int32)) / (10 : Int32)) / (10 : Int32)) / (10 : Int32)) % (10 : Int32))), (own_d ((((uh / (10 : Int32)) / (10 : Int32)) / (10 : Int32)) % (10 : Int32))), (own_d (((uh / (10 : Int32)) / (10 : Int32)) % (10 : Int32))), (own_d ((uh / (10 : Int32)) % (10 : Int32))), (own_d (uh % (10 : Int32))), own_c, (own_d (um / (10 : Int32))), (own_d (um % (10 : Int32))), own_c, (own_d (us / (10 : Int32))), (own_d (us % (10 : Int32))), own_x, own_x, own_x, own_x]
theorem ef_rmF_0_6 (m : MethodId) (p0 : Int32) (a1 : Addr)  : entryFrame m #[(.int p0), (.ref a1), (.int (0 : Int32))] 10 = mkF m 0 #[.val (.int p0), .val (.ref a1), .val (.int (0 : Int32)), .unset, .unset, .unset, .unset, .unset, .unset, .unset] [] := by first | (simp [entryFrame, mkF, argsToLocals, Value.category]; done) | rfl
set_option maxRecDepth 65536 in
set_option maxHeartbeats 40000000 in
theorem rmF_0_6 (l : Launch) (Z : State) (a0 : Array Value) (hw : ∀ d ∈ tables_1, d.before a0 Z = true) (ws : List Jvm.Cond) (p0 : Int32) (a1 : Addr) (ka : ClassId) (uh : Int32) (um : Int32) (us : Int32) (h0 : Heap) (n0 : Nat) (hn : n0 ≤ h0.size) (V_a1 : Arl Z h0 a1 ka .byte [own_x, own_x, own_x, own_x, own_x, own_x, own_x, own_x, own_x, own_x, own_x, own_x, own_x, own_x, own_x, own_x]) (g_a1 : n0 ≤ a1) (e_h : p0 / (3600 : Int32) = uh) (e_m : (p0 / (60 : Int32)) % (60 : Int32) = um) (e_s : p0 % (60 : Int32) = us) (hl : 100000 ≤ uh.toInt) (hu : uh.toInt < 1000000) :
    Met false l Z (⟨"com/example/voznired/voznired/timetable/StopTime", "formatTime", "(I[BI)I"⟩ : MethodName) prog_118_method_10_code 10 (some .int) ({ frames := 1, cells := 0, slots := 0, locals := 14 } : Room) ws #[(.int p0), (.ref a1), (.int (0 : Int32))] h0 n0 (Q_rmF_0_6 Z a1 ka uh um us h0 n0) := by
  refine Met.of pn_1 (fun m => ef_rmF_0_6 m p0 a1) ?_
  have K := Keep.refl h0 [a1]
  refine Own.iloadN d1_0 rfl ?_
  refine Own.sipush (3600 : Int32) d1_1 rfl ?_
  refine Own.idiv d1_4 (by decide) ?_
  rw [e_h]
  refine Own.istoreN #[.val (.int p0), .val (.ref a1), .val (.int (0 : Int32)), .val (.int uh), .unset, .unset, .unset, .unset, .unset, .unset] d1_5 rfl ?_
  refine Own.iloadN d1_6 rfl ?_
  refine Own.bipush (60 : Int32) d1_7 rfl ?_
  refine Own.idiv d1_9 (by decide) ?_
  refine Own.bipush (60 : Int32) d1_10 rfl ?_
  refine Own.irem_ d1_12 (by decide) ?_
  rw [e_m]
  refine Own.istore #[.val (.int p0), .val (.ref a1), .val (.int (0 : Int32)), .val (.int uh), .val (.int um), .unset, .unset, .unset, .unset, .unset] d1_13 rfl ?_
  refine Own.iloadN d1_15 rfl ?_
  refine Own.bipush (60 : Int32) d1_16 rfl ?_
  refine Own.irem_ d1_18 (by decide) ?_
  rw [e_s]
  refine Own.istore #[.val (.int p0), .val (.ref a1), .val (.int (0 : Int32)), .val (.int uh), .val (.int um), .val (.int us), .unset, .unset, .unset, .unset] d1_19 rfl ?_
  refine Own.iconst (2 : Int32) d1_21 rfl ?_
  refine Own.istore #[.val (.int p0), .val (.ref a1), .val (.int (0 : Int32)), .val (.int uh), .val (.int um), .val (.int us), .val (.int (2 : Int32)), .unset, .unset, .unset] d1_22 rfl ?_
  refine Own.iloadN d1_24 rfl ?_
  refine Own.bipush (100 : Int32) d1_25 rfl ?_
  refine Own.idiv d1_27 (by decide) ?_
  obtain ⟨ur0, e_ur0⟩ : ∃ z : Int32, z = (uh / (100 : Int32)) := ⟨_, rfl⟩
  rw [← e_ur0]
  have r_ur0 : ur0.toInt = uh.toInt / 100 := by
    rw [e_ur0]; exact own_div 100 rfl (by omega) (by omega)
  refine Own.istore #[.val (.int p0), .val (.ref a1), .val (.int (0 : Int32)), .val (.int uh), .val (.int um), .val (.int us), .val (.int (2 : Int32)), .val (.int ur0), .unset, .unset] d1_28 rfl ?_
  refine Own.iload d1_30 rfl ?_
  refine Own.if_le 48 d1_32 (by decide) rfl (fun q => absurd (by simp only [Int32.lt_iff_toInt_lt, Int32.reduceToInt]; omega) q) (fun _ => ?_)
  refine Own.iinc (1 : Int32) #[.val (.int p0), .val (.ref a1), .val (.int (0 : Int32)), .val (.int uh), .val (.int um), .val (.int us), .val (.int ((2 : Int32) + (1 : Int32))), .val (.int ur0), .unset, .unset] d1_35 rfl rfl rfl ?_
  refine OAt.castL (Ls' := #[.val (.int p0), .val (.ref a1), .val (.int (0 : Int32)), .val (.int uh), .val (.int um), .val (.int us), .val (.int (3 : Int32)), .val (.int ur0), .unset, .unset]) rfl rfl ?_
  refine Own.iload d1_38 rfl ?_
  refine Own.bipush (10 : Int32) d1_40 rfl ?_
  refine Own.idiv d1_42 (by decide) ?_
  obtain ⟨ur1, e_ur1⟩ : ∃ z : Int32, z = (ur0 / (10 : Int32)) := ⟨_, rfl⟩
  rw [← e_ur1]
  have r_ur1 : ur1.toInt = ur0.toInt / 10 := by
    rw [e_ur1]; rw [own_div 10 rfl (by omega) (by omega)]
  refine Own.istore #[.val (.int p0), .val (.ref a1), .val (.int (0 : Int32)), .val (.int uh), .val (.int um), .val (.int us), .val (.int (3 : Int32)), .val (.int ur1), .unset, .unset] d1_43 rfl ?_
  refine Own.goto_ 30 d1_45 (by decide) rfl ?_
  refine Own.iload d1_30 rfl ?_
  refine Own.if_le 48 d1_32 (by decide) rfl (fun q => absurd (by simp only [Int32.lt_iff_toInt_lt, Int32.reduceToInt]; omega) q) (fun _ => ?_)
  refine Own.iinc (1 : Int32) #[.val (.int p0), .val (.ref a1), .val (.int (0 : Int32)), .val (.int uh), .val (.int um), .val (.int us), .val (.int ((3 : Int32) + (1 : Int32))), .val (.int ur1), .unset, .unset] d1_35 rfl rfl rfl ?_
  refine OAt.castL (Ls' := #[.val (.int p0), .val (.ref a1), .val (.int (0 : Int32)), .val (.int uh), .val (.int um), .val (.int us), .val (.int (4 : Int32)), .val (.int ur1), .unset, .unset]) rfl rfl ?_
  refine Own.iload d1_38 rfl ?_
  refine Own.bipush (10 : Int32) d1_40 rfl ?_
  refine Own.idiv d1_42 (by decide) ?_
  obtain ⟨ur2, e_ur2⟩ : ∃ z : Int32, z = (ur1 / (10 : Int32)) := ⟨_, rfl⟩
  rw [← e_ur2]
  have r_ur2 : ur2.toInt = ur1.toInt / 10 := by
    rw [e_ur2]; rw [own_div 10 rfl (by omega) (by omega)]
  refine Own.istore #[.val (.int p0), .val (.ref a1), .val (.int (0 : Int32)), .val (.int uh), .val (.int um), .val (.int us), .val (.int (4 : Int32)), .val (.int ur2), .unset, .unset] d1_43 rfl ?_
  refine Own.goto_ 30 d1_45 (by decide) rfl ?_
  refine Own.iload d1_30 rfl ?_
  refine Own.if_le 48 d1_32 (by decide) rfl (fun q => absurd (by simp only [Int32.lt_iff_toInt_lt, Int32.reduceToInt]; omega) q) (fun _ => ?_)
  refine Own.iinc (1 : Int32) #[.val (.int p0), .val (.ref a1), .val (.int (0 : Int32)), .val (.int uh), .val (.int um), .val (.int us), .val (.int ((4 : Int32) + (1 : Int32))), .val (.int ur2), .unset, .unset] d1_35 rfl rfl rfl ?_
  refine OAt.castL (Ls' := #[.val (.int p0), .val (.ref a1), .val (.int (0 : Int32)), .val (.int uh), .val (.int um), .val (.int us), .val (.int (5 : Int32)), .val (.int ur2), .unset, .unset]) rfl rfl ?_
  refine Own.iload d1_38 rfl ?_
  refine Own.bipush (10 : Int32) d1_40 rfl ?_
  refine Own.idiv d1_42 (by decide) ?_
  obtain ⟨ur3, e_ur3⟩ : ∃ z : Int32, z = (ur2 / (10 : Int32)) := ⟨_, rfl⟩
  rw [← e_ur3]
  have r_ur3 : ur3.toInt = ur2.toInt / 10 := by
    rw [e_ur3]; rw [own_div 10 rfl (by omega) (by omega)]
  refine Own.istore #[.val (.int p0), .val (.ref a1), .val (.int (0 : Int32)), .val (.int uh), .val (.int um), .val (.int us), .val (.int (5 : Int32)), .val (.int ur3), .unset, .unset] d1_43 rfl ?_
  refine Own.goto_ 30 d1_45 (by decide) rfl ?_
  refine Own.iload d1_30 rfl ?_
  refine Own.if_le 48 d1_32 (by decide) rfl (fun q => absurd (by simp only [Int32.lt_iff_toInt_lt, Int32.reduceToInt]; omega) q) (fun _ => ?_)
  refine Own.iinc (1 : Int32) #[.val (.int p0), .val (.ref a1), .val (.int (0 : Int32)), .val (.int uh), .val (.int um), .val (.int us), .val (.int ((5 : Int32) + (1 : Int32))), .val (.int ur3), .unset, .unset] d1_35 rfl rfl rfl ?_
  refine OAt.castL (Ls' := #[.val (.int p0), .val (.ref a1), .val (.int (0 : Int32)), .val (.int uh), .val (.int um), .val (.int us), .val (.int (6 : Int32)), .val (.int ur3), .unset, .unset]) rfl rfl ?_
  refine Own.iload d1_38 rfl ?_
  refine Own.bipush (10 : Int32) d1_40 rfl ?_
  refine Own.idiv d1_42 (by decide) ?_
  obtain ⟨ur4, e_ur4⟩ : ∃ z : Int32, z = (ur3 / (10 : Int32)) := ⟨_, rfl⟩
  rw [← e_ur4]
  have r_ur4 : ur4.toInt = ur3.toInt / 10 := by
    rw [e_ur4]; rw [own_div 10 rfl (by omega) (by omega)]
  refine Own.istore #[.val (.int p0), .val (.ref a1), .val (.int (0 : Int32)), .val (.int uh), .val (.int um), .val (.int us), .val (.int (6 : Int32)), .val (.int ur4), .unset, .unset] d1_43 rfl ?_
  refine Own.goto_ 30 d1_45 (by decide) rfl ?_
  refine Own.iload d1_30 rfl ?_
  refine Own.if_le 48 d1_32 (by decide) rfl (fun _ => ?_) (fun q => absurd q (by simp only [Int32.lt_iff_toInt_lt, Int32.reduceToInt]; omega))
  refine Own.iloadN d1_48 rfl ?_
  refine Own.iload d1_49 rfl ?_
  refine Own.iadd d1_51 ?_
  refine OAt.cast (st' := [(.int (6 : Int32))]) rfl ?_
  refine Own.bipush (6 : Int32) d1_52 rfl ?_
  refine Own.iadd d1_54 ?_
  refine OAt.cast (st' := [(.int (12 : Int32))]) rfl ?_
  refine Own.istore #[.val (.int p0), .val (.ref a1), .val (.int (0 : Int32)), .val (.int uh), .val (.int um), .val (.int us), .val (.int (6 : Int32)), .val (.int (12 : Int32)), .unset, .unset] d1_55 rfl ?_
  refine Own.iload d1_57 rfl ?_
  refine Own.istore #[.val (.int p0), .val (.ref a1), .val (.int (0 : Int32)), .val (.int uh), .val (.int um), .val (.int us), .val (.int (6 : Int32)), .val (.int (12 : Int32)), .val (.int (12 : Int32)), .unset] d1_59 rfl ?_
  refine Own.aloadN d1_61 rfl rfl ?_
  refine Own.iinc (-1 : Int32) #[.val (.int p0), .val (.ref a1), .val (.int (0 : Int32)), .val (.int uh), .val (.int um), .val (.int us), .val (.int (6 : Int32)), .val (.int (12 : Int32)), .val (.int ((12 : Int32) + (-1 : Int32))), .unset] d1_62 rfl rfl rfl ?_
  refine OAt.castL (Ls' := #[.val (.int p0), .val (.ref a1), .val (.int (0 : Int32)), .val (.int uh), .val (.int um), .val (.int us), .val (.int (6 : Int32)), .val (.int (12 : Int32)), .val (.int (11 : Int32)), .unset]) rfl rfl ?_
  refine Own.iload d1_65 rfl ?_
  refine Own.iload d1_67 rfl ?_
  refine Own.bipush (10 : Int32) d1_69 rfl ?_
  refine Own.irem_ d1_71 (by decide) ?_
  refine Own.callSP [(.int (us % (10 : Int32)))] [(.int (11 : Int32)), (.ref a1)] 2 (rmD l Z a0 hw [] (us % (10 : Int32)) h0 n0 hn) (hw _ (List.mem_of_getElem? (i := 6) rfl)) (hw _ (List.mem_of_getElem? (i := 7) rfl)) (hw _ (List.mem_of_getElem? (i := 4) rfl)) (hw _ (List.mem_of_getElem? (i := 8) rfl)) (by decide) d1_72 pd_0 rfl rfl rfl rfl (by decide) (by decide) (by decide) (by decide) ?_
  refine Own.bastore_ V_a1 (i := 11) rfl (Nat.le_of_ble_eq_true rfl) g_a1 d1_75 (fun h39 W39 V39 => ?_)
  have hn : n0 ≤ h39.size := by rw [W39.size]; exact hn
  clear V_a1
  replace V39 : Arl Z h39 a1 ka .byte [own_x, own_x, own_x, own_x, own_x, own_x, own_x, own_x, own_x, own_x, own_x, (own_d (us % (10 : Int32))), own_x, own_x, own_x, own_x] := V39
  have K := K.wr W39 (Or.inl (List.mem_of_getElem? (i := 0) rfl))
  refine Own.aloadN d1_76 rfl rfl ?_
  refine Own.iinc (-1 : Int32) #[.val (.int p0), .val (.ref a1), .val (.int (0 : Int32)), .val (.int uh), .val (.int um), .val (.int us), .val (.int (6 : Int32)), .val (.int (12 : Int32)), .val (.int ((11 : Int32) + (-1 : Int32))), .unset] d1_77 rfl rfl rfl ?_
  refine OAt.castL (Ls' := #[.val (.int p0), .val (.ref a1), .val (.int (0 : Int32)), .val (.int uh), .val (.int um), .val (.int us), .val (.int (6 : Int32)), .val (.int (12 : Int32)), .val (.int (10 : Int32)), .unset]) rfl rfl ?_
  refine Own.iload d1_80 rfl ?_
  refine Own.iload d1_82 rfl ?_
  refine Own.bipush (10 : Int32) d1_84 rfl ?_
  refine Own.idiv d1_86 (by decide) ?_
  refine Own.callSP [(.int (us / (10 : Int32)))] [(.int (10 : Int32)), (.ref a1)] 2 (rmD l Z a0 hw [] (us / (10 : Int32)) h39 n0 hn) (hw _ (List.mem_of_getElem? (i := 6) rfl)) (hw _ (List.mem_of_getElem? (i := 7) rfl)) (hw _ (List.mem_of_getElem? (i := 4) rfl)) (hw _ (List.mem_of_getElem? (i := 8) rfl)) (by decide) d1_87 pd_0 rfl rfl rfl rfl (by decide) (by decide) (by decide) (by decide) ?_
  refine Own.bastore_ V39 (i := 10) rfl (Nat.le_of_ble_eq_true rfl) g_a1 d1_90 (fun h40 W40 V40 => ?_)
  have hn : n0 ≤ h40.size := by rw [W40.size]; exact hn
  clear V39
  replace V40 : Arl Z h40 a1 ka .byte [own_x, own_x, own_x, own_x, own_x, own_x, own_x, own_x, own_x, own_x, (own_d (us / (10 : Int32))), (own_d (us % (10 : Int32))), own_x, own_x, own_x, own_x] := V40
  have K := K.wr W40 (Or.inl (List.mem_of_getElem? (i := 0) rfl))
  refine Own.aloadN d1_91 rfl rfl ?_
  refine Own.iinc (-1 : Int32) #[.val (.int p0), .val (.ref a1), .val (.int (0 : Int32)), .val (.int uh), .val (.int um), .val (.int us), .val (.int (6 : Int32)), .val (.int (12 : Int32)), .val (.int ((10 : Int32) + (-1 : Int32))), .unset] d1_92 rfl rfl rfl ?_
  refine OAt.castL (Ls' := #[.val (.int p0), .val (.ref a1), .val (.int (0 : Int32)), .val (.int uh), .val (.int um), .val (.int us), .val (.int (6 : Int32)), .val (.int (12 : Int32)), .val (.int (9 : Int32)), .unset]) rfl rfl ?_
  refine Own.iload d1_95 rfl ?_
  refine Own.bipush (58 : Int32) d1_97 rfl ?_
  refine Own.bastore_ V40 (i := 9) rfl (Nat.le_of_ble_eq_true rfl) g_a1 d1_99 (fun h41 W41 V41 => ?_)
  have hn : n0 ≤ h41.size := by rw [W41.size]; exact hn
  clear V40
  replace V41 : Arl Z h41 a1 ka .byte [own_x, own_x, own_x, own_x, own_x, own_x, own_x, own_x, own_x, own_c, (own_d (us / (10 : Int32))), (own_d (us % (10 : Int32))), own_x, own_x, own_x, own_x] := V41
  have K := K.wr W41 (Or.inl (List.mem_of_getElem? (i := 0) rfl))
  refine Own.aloadN d1_100 rfl rfl ?_
  refine Own.iinc (-1 : Int32) #[.val (.int p0), .val (.ref a1), .val (.int (0 : Int32)), .val (.int uh), .val (.int um), .val (.int us), .val (.int (6 : Int32)), .val (.int (12 : Int32)), .val (.int ((9 : Int32) + (-1 : Int32))), .unset] d1_101 rfl rfl rfl ?_
  refine OAt.castL (Ls' := #[.val (.int p0), .val (.ref a1), .val (.int (0 : Int32)), .val (.int uh), .val (.int um), .val (.int us), .val (.int (6 : Int32)), .val (.int (12 : Int32)), .val (.int (8 : Int32)), .unset]) rfl rfl ?_
  refine Own.iload d1_104 rfl ?_
  refine Own.iload d1_106 rfl ?_
  refine Own.bipush (10 : Int32) d1_108 rfl ?_
  refine Own.irem_ d1_110 (by decide) ?_
  refine Own.callSP [(.int (um % (10 : Int32)))] [(.int (8 : Int32)), (.ref a1)] 2 (rmD l Z a0 hw [] (um % (10 : Int32)) h41 n0 hn) (hw _ (List.mem_of_getElem? (i := 6) rfl)) (hw _ (List.mem_of_getElem? (i := 7) rfl)) (hw _ (List.mem_of_getElem? (i := 4) rfl)) (hw _ (List.mem_of_getElem? (i := 8) rfl)) (by decide) d1_111 pd_0 rfl rfl rfl rfl (by decide) (by decide) (by decide) (by decide) ?_
  refine Own.bastore_ V41 (i := 8) rfl (Nat.le_of_ble_eq_true rfl) g_a1 d1_114 (fun h42 W42 V42 => ?_)
  have hn : n0 ≤ h42.size := by rw [W42.size]; exact hn
  clear V41
  replace V42 : Arl Z h42 a1 ka .byte [own_x, own_x, own_x, own_x, own_x, own_x, own_x, own_x, (own_d (um % (10 : Int32))), own_c, (own_d (us / (10 : Int32))), (own_d (us % (10 : Int32))), own_x, own_x, own_x, own_x] := V42
  have K := K.wr W42 (Or.inl (List.mem_of_getElem? (i := 0) rfl))
  refine Own.aloadN d1_115 rfl rfl ?_
  refine Own.iinc (-1 : Int32) #[.val (.int p0), .val (.ref a1), .val (.int (0 : Int32)), .val (.int uh), .val (.int um), .val (.int us), .val (.int (6 : Int32)), .val (.int (12 : Int32)), .val (.int ((8 : Int32) + (-1 : Int32))), .unset] d1_116 rfl rfl rfl ?_
  refine OAt.castL (Ls' := #[.val (.int p0), .val (.ref a1), .val (.int (0 : Int32)), .val (.int uh), .val (.int um), .val (.int us), .val (.int (6 : Int32)), .val (.int (12 : Int32)), .val (.int (7 : Int32)), .unset]) rfl rfl ?_
  refine Own.iload d1_119 rfl ?_
  refine Own.iload d1_121 rfl ?_
  refine Own.bipush (10 : Int32) d1_123 rfl ?_
  refine Own.idiv d1_125 (by decide) ?_
  refine Own.callSP [(.int (um / (10 : Int32)))] [(.int (7 : Int32)), (.ref a1)] 2 (rmD l Z a0 hw [] (um / (10 : Int32)) h42 n0 hn) (hw _ (List.mem_of_getElem? (i := 6) rfl)) (hw _ (List.mem_of_getElem? (i := 7) rfl)) (hw _ (List.mem_of_getElem? (i := 4) rfl)) (hw _ (List.mem_of_getElem? (i := 8) rfl)) (by decide) d1_126 pd_0 rfl rfl rfl rfl (by decide) (by decide) (by decide) (by decide) ?_
  refine Own.bastore_ V42 (i := 7) rfl (Nat.le_of_ble_eq_true rfl) g_a1 d1_129 (fun h43 W43 V43 => ?_)
  have hn : n0 ≤ h43.size := by rw [W43.size]; exact hn
  clear V42
  replace V43 : Arl Z h43 a1 ka .byte [own_x, own_x, own_x, own_x, own_x, own_x, own_x, (own_d (um / (10 : Int32))), (own_d (um % (10 : Int32))), own_c, (own_d (us / (10 : Int32))), (own_d (us % (10 : Int32))), own_x, own_x, own_x, own_x] := V43
  have K := K.wr W43 (Or.inl (List.mem_of_getElem? (i := 0) rfl))
  refine Own.aloadN d1_130 rfl rfl ?_
  refine Own.iinc (-1 : Int32) #[.val (.int p0), .val (.ref a1), .val (.int (0 : Int32)), .val (.int uh), .val (.int um), .val (.int us), .val (.int (6 : Int32)), .val (.int (12 : Int32)), .val (.int ((7 : Int32) + (-1 : Int32))), .unset] d1_131 rfl rfl rfl ?_
  refine OAt.castL (Ls' := #[.val (.int p0), .val (.ref a1), .val (.int (0 : Int32)), .val (.int uh), .val (.int um), .val (.int us), .val (.int (6 : Int32)), .val (.int (12 : Int32)), .val (.int (6 : Int32)), .unset]) rfl rfl ?_
  refine Own.iload d1_134 rfl ?_
  refine Own.bipush (58 : Int32) d1_136 rfl ?_
  refine Own.bastore_ V43 (i := 6) rfl (Nat.le_of_ble_eq_true rfl) g_a1 d1_138 (fun h44 W44 V44 => ?_)
  have hn : n0 ≤ h44.size := by rw [W44.size]; exact hn
  clear V43
  replace V44 : Arl Z h44 a1 ka .byte [own_x, own_x, own_x, own_x, own_x, own_x, own_c, (own_d (um / (10 : Int32))), (own_d (um % (10 : Int32))), own_c, (own_d (us / (10 : Int32))), (own_d (us % (10 : Int32))), own_x, own_x, own_x, own_x] := V44
  have K := K.wr W44 (Or.inl (List.mem_of_getElem? (i := 0) rfl))
  refine Own.iloadN d1_139 rfl ?_
  refine Own.istore #[.val (.int p0), .val (.ref a1), .val (.int (0 : Int32)), .val (.int uh), .val (.int um), .val (.int us), .val (.int (6 : Int32)), .val (.int (12 : Int32)), .val (.int (6 : Int32)), .val (.int uh)] d1_140 rfl ?_
  refine Own.iload d1_142 rfl ?_
  refine Own.iloadN d1_144 rfl ?_
  refine Own.icmp_le 173 d1_145 (by decide) rfl (fun q => absurd (by decide) q) (fun _ => ?_)
  refine Own.aloadN d1_148 rfl rfl ?_
  refine Own.iinc (-1 : Int32) #[.val (.int p0), .val (.ref a1), .val (.int (0 : Int32)), .val (.int uh), .val (.int um), .val (.int us), .val (.int (6 : Int32)), .val (.int (12 : Int32)), .val (.int ((6 : Int32) + (-1 : Int32))), .val (.int uh)] d1_149 rfl rfl rfl ?_
  refine OAt.castL (Ls' := #[.val (.int p0), .val (.ref a1), .val (.int (0 : Int32)), .val (.int uh), .val (.int um), .val (.int us), .val (.int (6 : Int32)), .val (.int (12 : Int32)), .val (.int (5 : Int32)), .val (.int uh)]) rfl rfl ?_
  refine Own.iload d1_152 rfl ?_
  refine Own.iload d1_154 rfl ?_
  refine Own.bipush (10 : Int32) d1_156 rfl ?_
  refine Own.irem_ d1_158 (by decide) ?_
  refine Own.callSP [(.int (uh % (10 : Int32)))] [(.int (5 : Int32)), (.ref a1)] 2 (rmD l Z a0 hw [] (uh % (10 : Int32)) h44 n0 hn) (hw _ (List.mem_of_getElem? (i := 6) rfl)) (hw _ (List.mem_of_getElem? (i := 7) rfl)) (hw _ (List.mem_of_getElem? (i := 4) rfl)) (hw _ (List.mem_of_getElem? (i := 8) rfl)) (by decide) d1_159 pd_0 rfl rfl rfl rfl (by decide) (by decide) (by decide) (by decide) ?_
  refine Own.bastore_ V44 (i := 5) rfl (Nat.le_of_ble_eq_true rfl) g_a1 d1_162 (fun h45 W45 V45 => ?_)
  have hn : n0 ≤ h45.size := by rw [W45.size]; exact hn
  clear V44
  replace V45 : Arl Z h45 a1 ka .byte [own_x, own_x, own_x, own_x, own_x, (own_d (uh % (10 : Int32))), own_c, (own_d (um / (10 : Int32))), (own_d (um % (10 : Int32))), own_c, (own_d (us / (10 : Int32))), (own_d (us % (10 : Int32))), own_x, own_x, own_x, own_x] := V45
  have K := K.wr W45 (Or.inl (List.mem_of_getElem? (i := 0) rfl))
  refine Own.iload d1_163 rfl ?_
  refine Own.bipush (10 : Int32) d1_165 rfl ?_
  refine Own.idiv d1_167 (by decide) ?_
  refine Own.istore #[.val (.int p0), .val (.ref a1), .val (.int (0 : Int32)), .val (.int uh), .val (.int um), .val (.int us), .val (.int (6 : Int32)), .val (.int (12 : Int32)), .val (.int (5 : Int32)), .val (.int (uh / (10 : Int32)))] d1_168 rfl ?_
  refine Own.goto_ 142 d1_170 (by decide) rfl ?_
  refine Own.iload d1_142 rfl ?_
  refine Own.iloadN d1_144 rfl ?_
  refine Own.icmp_le 173 d1_145 (by decide) rfl (fun q => absurd (by decide) q) (fun _ => ?_)
  refine Own.aloadN d1_148 rfl rfl ?_
  refine Own.iinc (-1 : Int32) #[.val (.int p0), .val (.ref a1), .val (.int (0 : Int32)), .val (.int uh), .val (.int um), .val (.int us), .val (.int (6 : Int32)), .val (.int (12 : Int32)), .val (.int ((5 : Int32) + (-1 : Int32))), .val (.int (uh / (10 : Int32)))] d1_149 rfl rfl rfl ?_
  refine OAt.castL (Ls' := #[.val (.int p0), .val (.ref a1), .val (.int (0 : Int32)), .val (.int uh), .val (.int um), .val (.int us), .val (.int (6 : Int32)), .val (.int (12 : Int32)), .val (.int (4 : Int32)), .val (.int (uh / (10 : Int32)))]) rfl rfl ?_
  refine Own.iload d1_152 rfl ?_
  refine Own.iload d1_154 rfl ?_
  refine Own.bipush (10 : Int32) d1_156 rfl ?_
  refine Own.irem_ d1_158 (by decide) ?_
  refine Own.callSP [(.int ((uh / (10 : Int32)) % (10 : Int32)))] [(.int (4 : Int32)), (.ref a1)] 2 (rmD l Z a0 hw [] ((uh / (10 : Int32)) % (10 : Int32)) h45 n0 hn) (hw _ (List.mem_of_getElem? (i := 6) rfl)) (hw _ (List.mem_of_getElem? (i := 7) rfl)) (hw _ (List.mem_of_getElem? (i := 4) rfl)) (hw _ (List.mem_of_getElem? (i := 8) rfl)) (by decide) d1_159 pd_0 rfl rfl rfl rfl (by decide) (by decide) (by decide) (by decide) ?_
  refine Own.bastore_ V45 (i := 4) rfl (Nat.le_of_ble_eq_true rfl) g_a1 d1_162 (fun h46 W46 V46 => ?_)
  have hn : n0 ≤ h46.size := by rw [W46.size]; exact hn
  clear V45
  replace V46 : Arl Z h46 a1 ka .byte [own_x, own_x, own_x, own_x, (own_d ((uh / (10 : Int32)) % (10 : Int32))), (own_d (uh % (10 : Int32))), own_c, (own_d (um / (10 : Int32))), (own_d (um % (10 : Int32))), own_c, (own_d (us / (10 : Int32))), (own_d (us % (10 : Int32))), own_x, own_x, own_x, own_x] := V46
  have K := K.wr W46 (Or.inl (List.mem_of_getElem? (i := 0) rfl))
  refine Own.iload d1_163 rfl ?_
  refine Own.bipush (10 : Int32) d1_165 rfl ?_
  refine Own.idiv d1_167 (by decide) ?_
  refine Own.istore #[.val (.int p0), .val (.ref a1), .val (.int (0 : Int32)), .val (.int uh), .val (.int um), .val (.int us), .val (.int (6 : Int32)), .val (.int (12 : Int32)), .val (.int (4 : Int32)), .val (.int ((uh / (10 : Int32)) / (10 : Int32)))] d1_168 rfl ?_
  refine Own.goto_ 142 d1_170 (by decide) rfl ?_
  refine Own.iload d1_142 rfl ?_
  refine Own.iloadN d1_144 rfl ?_
  refine Own.icmp_le 173 d1_145 (by decide) rfl (fun q => absurd (by decide) q) (fun _ => ?_)
  refine Own.aloadN d1_148 rfl rfl ?_
  refine Own.iinc (-1 : Int32) #[.val (.int p0), .val (.ref a1), .val (.int (0 : Int32)), .val (.int uh), .val (.int um), .val (.int us), .val (.int (6 : Int32)), .val (.int (12 : Int32)), .val (.int ((4 : Int32) + (-1 : Int32))), .val (.int ((uh / (10 : Int32)) / (10 : Int32)))] d1_149 rfl rfl rfl ?_
  refine OAt.castL (Ls' := #[.val (.int p0), .val (.ref a1), .val (.int (0 : Int32)), .val (.int uh), .val (.int um), .val (.int us), .val (.int (6 : Int32)), .val (.int (12 : Int32)), .val (.int (3 : Int32)), .val (.int ((uh / (10 : Int32)) / (10 : Int32)))]) rfl rfl ?_
  refine Own.iload d1_152 rfl ?_
  refine Own.iload d1_154 rfl ?_
  refine Own.bipush (10 : Int32) d1_156 rfl ?_
  refine Own.irem_ d1_158 (by decide) ?_
  refine Own.callSP [(.int (((uh / (10 : Int32)) / (10 : Int32)) % (10 : Int32)))] [(.int (3 : Int32)), (.ref a1)] 2 (rmD l Z a0 hw [] (((uh / (10 : Int32)) / (10 : Int32)) % (10 : Int32)) h46 n0 hn) (hw _ (List.mem_of_getElem? (i := 6) rfl)) (hw _ (List.mem_of_getElem? (i := 7) rfl)) (hw _ (List.mem_of_getElem? (i := 4) rfl)) (hw _ (List.mem_of_getElem? (i := 8) rfl)) (by decide) d1_159 pd_0 rfl rfl rfl rfl (by decide) (by decide) (by decide) (by decide) ?_
  refine Own.bastore_ V46 (i := 3) rfl (Nat.le_of_ble_eq_true rfl) g_a1 d1_162 (fun h47 W47 V47 => ?_)
  have hn : n0 ≤ h47.size := by rw [W47.size]; exact hn
  clear V46
  replace V47 : Arl Z h47 a1 ka .byte [own_x, own_x, own_x, (own_d (((uh / (10 : Int32)) / (10 : Int32)) % (10 : Int32))), (own_d ((uh / (10 : Int32)) % (10 : Int32))), (own_d (uh % (10 : Int32))), own_c, (own_d (um / (10 : Int32))), (own_d (um % (10 : Int32))), own_c, (own_d (us / (10 : Int32))), (own_d (us % (10 : Int32))), own_x, own_x, own_x, own_x] := V47
  have K := K.wr W47 (Or.inl (List.mem_of_getElem? (i := 0) rfl))
  refine Own.iload d1_163 rfl ?_
  refine Own.bipush (10 : Int32) d1_165 rfl ?_
  refine Own.idiv d1_167 (by decide) ?_
  refine Own.istore #[.val (.int p0), .val (.ref a1), .val (.int (0 : Int32)), .val (.int uh), .val (.int um), .val (.int us), .val (.int (6 : Int32)), .val (.int (12 : Int32)), .val (.int (3 : Int32)), .val (.int (((uh / (10 : Int32)) / (10 : Int32)) / (10 : Int32)))] d1_168 rfl ?_
  refine Own.goto_ 142 d1_170 (by decide) rfl ?_
  refine Own.iload d1_142 rfl ?_
  refine Own.iloadN d1_144 rfl ?_
  refine Own.icmp_le 173 d1_145 (by decide) rfl (fun q => absurd (by decide) q) (fun _ => ?_)
  refine Own.aloadN d1_148 rfl rfl ?_
  refine Own.iinc (-1 : Int32) #[.val (.int p0), .val (.ref a1), .val (.int (0 : Int32)), .val (.int uh), .val (.int um), .val (.int us), .val (.int (6 : Int32)), .val (.int (12 : Int32)), .val (.int ((3 : Int32) + (-1 : Int32))), .val (.int (((uh / (10 : Int32)) / (10 : Int32)) / (10 : Int32)))] d1_149 rfl rfl rfl ?_
  refine OAt.castL (Ls' := #[.val (.int p0), .val (.ref a1), .val (.int (0 : Int32)), .val (.int uh), .val (.int um), .val (.int us), .val (.int (6 : Int32)), .val (.int (12 : Int32)), .val (.int (2 : Int32)), .val (.int (((uh / (10 : Int32)) / (10 : Int32)) / (10 : Int32)))]) rfl rfl ?_
  refine Own.iload d1_152 rfl ?_
  refine Own.iload d1_154 rfl ?_
  refine Own.bipush (10 : Int32) d1_156 rfl ?_
  refine Own.irem_ d1_158 (by decide) ?_
  refine Own.callSP [(.int ((((uh / (10 : Int32)) / (10 : Int32)) / (10 : Int32)) % (10 : Int32)))] [(.int (2 : Int32)), (.ref a1)] 2 (rmD l Z a0 hw [] ((((uh / (10 : Int32)) / (10 : Int32)) / (10 : Int32)) % (10 : Int32)) h47 n0 hn) (hw _ (List.mem_of_getElem? (i := 6) rfl)) (hw _ (List.mem_of_getElem? (i := 7) rfl)) (hw _ (List.mem_of_getElem? (i := 4) rfl)) (hw _ (List.mem_of_getElem? (i := 8) rfl)) (by decide) d1_159 pd_0 rfl rfl rfl rfl (by decide) (by decide) (by decide) (by decide) ?_
  refine Own.bastore_ V47 (i := 2) rfl (Nat.le_of_ble_eq_true rfl) g_a1 d1_162 (fun h48 W48 V48 => ?_)
  have hn : n0 ≤ h48.size := by rw [W48.size]; exact hn
  clear V47
  replace V48 : Arl Z h48 a1 ka .byte [own_x, own_x, (own_d ((((uh / (10 : Int32)) / (10 : Int32)) / (10 : Int32)) % (10 : Int32))), (own_d (((uh / (10 : Int32)) / (10 : Int32)) % (10 : Int32))), (own_d ((uh / (10 : Int32)) % (10 : Int32))), (own_d (uh % (10 : Int32))), own_c, (own_d (um / (10 : Int32))), (own_d (um % (10 : Int32))), own_c, (own_d (us / (10 : Int32))), (own_d (us % (10 : Int32))), own_x, own_x, own_x, own_x] := V48
  have K := K.wr W48 (Or.inl (List.mem_of_getElem? (i := 0) rfl))
  refine Own.iload d1_163 rfl ?_
  refine Own.bipush (10 : Int32) d1_165 rfl ?_
  refine Own.idiv d1_167 (by decide) ?_
  refine Own.istore #[.val (.int p0), .val (.ref a1), .val (.int (0 : Int32)), .val (.int uh), .val (.int um), .val (.int us), .val (.int (6 : Int32)), .val (.int (12 : Int32)), .val (.int (2 : Int32)), .val (.int ((((uh / (10 : Int32)) / (10 : Int32)) / (10 : Int32)) / (10 : Int32)))] d1_168 rfl ?_
  refine Own.goto_ 142 d1_170 (by decide) rfl ?_
  refine Own.iload d1_142 rfl ?_
  refine Own.iloadN d1_144 rfl ?_
  refine Own.icmp_le 173 d1_145 (by decide) rfl (fun q => absurd (by decide) q) (fun _ => ?_)
  refine Own.aloadN d1_148 rfl rfl ?_
  refine Own.iinc (-1 : Int32) #[.val (.int p0), .val (.ref a1), .val (.int (0 : Int32)), .val (.int uh), .val (.int um), .val (.int us), .val (.int (6 : Int32)), .val (.int (12 : Int32)), .val (.int ((2 : Int32) + (-1 : Int32))), .val (.int ((((uh / (10 : Int32)) / (10 : Int32)) / (10 : Int32)) / (10 : Int32)))] d1_149 rfl rfl rfl ?_
  refine OAt.castL (Ls' := #[.val (.int p0), .val (.ref a1), .val (.int (0 : Int32)), .val (.int uh), .val (.int um), .val (.int us), .val (.int (6 : Int32)), .val (.int (12 : Int32)), .val (.int (1 : Int32)), .val (.int ((((uh / (10 : Int32)) / (10 : Int32)) / (10 : Int32)) / (10 : Int32)))]) rfl rfl ?_
  refine Own.iload d1_152 rfl ?_
  refine Own.iload d1_154 rfl ?_
  refine Own.bipush (10 : Int32) d1_156 rfl ?_
  refine Own.irem_ d1_158 (by decide) ?_
  refine Own.callSP [(.int (((((uh / (10 : Int32)) / (10 : Int32)) / (10 : Int32)) / (10 : Int32)) % (10 : Int32)))] [(.int (1 : Int32)), (.ref a1)] 2 (rmD l Z a0 hw [] (((((uh / (10 : Int32)) / (10 : Int32)) / (10 : Int32)) / (10 : Int32)) % (10 : Int32)) h48 n0 hn) (hw _ (List.mem_of_getElem? (i := 6) rfl)) (hw _ (List.mem_of_getElem? (i := 7) rfl)) (hw _ (List.mem_of_getElem? (i := 4) rfl)) (hw _ (List.mem_of_getElem? (i := 8) rfl)) (by decide) d1_159 pd_0 rfl rfl rfl rfl (by decide) (by decide) (by decide) (by decide) ?_
  refine Own.bastore_ V48 (i := 1) rfl (Nat.le_of_ble_eq_true rfl) g_a1 d1_162 (fun h49 W49 V49 => ?_)
  have hn : n0 ≤ h49.size := by rw [W49.size]; exact hn
  clear V48
  replace V49 : Arl Z h49 a1 ka .byte [own_x, (own_d (((((uh / (10 : Int32)) / (10 : Int32)) / (10 : Int32)) / (10 : Int32)) % (10 : Int32))), (own_d ((((uh / (10 : Int32)) / (10 : Int32)) / (10 : Int32)) % (10 : Int32))), (own_d (((uh / (10 : Int32)) / (10 : Int32)) % (10 : Int32))), (own_d ((uh / (10 : Int32)) % (10 : Int32))), (own_d (uh % (10 : Int32))), own_c, (own_d (um / (10 : Int32))), (own_d (um % (10 : Int32))), own_c, (own_d (us / (10 : Int32))), (own_d (us % (10 : Int32))), own_x, own_x, own_x, own_x] := V49
  have K := K.wr W49 (Or.inl (List.mem_of_getElem? (i := 0) rfl))
  refine Own.iload d1_163 rfl ?_
  refine Own.bipush (10 : Int32) d1_165 rfl ?_
  refine Own.idiv d1_167 (by decide) ?_
  refine Own.istore #[.val (.int p0), .val (.ref a1), .val (.int (0 : Int32)), .val (.int uh), .val (.int um), .val (.int us), .val (.int (6 : Int32)), .val (.int (12 : Int32)), .val (.int (1 : Int32)), .val (.int (((((uh / (10 : Int32)) / (10 : Int32)) / (10 : Int32)) / (10 : Int32)) / (10 : Int32)))] d1_168 rfl ?_
  refine Own.goto_ 142 d1_170 (by decide) rfl ?_
  refine Own.iload d1_142 rfl ?_
  refine Own.iloadN d1_144 rfl ?_
  refine Own.icmp_le 173 d1_145 (by decide) rfl (fun q => absurd (by decide) q) (fun _ => ?_)
  refine Own.aloadN d1_148 rfl rfl ?_
  refine Own.iinc (-1 : Int32) #[.val (.int p0), .val (.ref a1), .val (.int (0 : Int32)), .val (.int uh), .val (.int um), .val (.int us), .val (.int (6 : Int32)), .val (.int (12 : Int32)), .val (.int ((1 : Int32) + (-1 : Int32))), .val (.int (((((uh / (10 : Int32)) / (10 : Int32)) / (10 : Int32)) / (10 : Int32)) / (10 : Int32)))] d1_149 rfl rfl rfl ?_
  refine OAt.castL (Ls' := #[.val (.int p0), .val (.ref a1), .val (.int (0 : Int32)), .val (.int uh), .val (.int um), .val (.int us), .val (.int (6 : Int32)), .val (.int (12 : Int32)), .val (.int (0 : Int32)), .val (.int (((((uh / (10 : Int32)) / (10 : Int32)) / (10 : Int32)) / (10 : Int32)) / (10 : Int32)))]) rfl rfl ?_
  refine Own.iload d1_152 rfl ?_
  refine Own.iload d1_154 rfl ?_
  refine Own.bipush (10 : Int32) d1_156 rfl ?_
  refine Own.irem_ d1_158 (by decide) ?_
  refine Own.callSP [(.int ((((((uh / (10 : Int32)) / (10 : Int32)) / (10 : Int32)) / (10 : Int32)) / (10 : Int32)) % (10 : Int32)))] [(.int (0 : Int32)), (.ref a1)] 2 (rmD l Z a0 hw [] ((((((uh / (10 : Int32)) / (10 : Int32)) / (10 : Int32)) / (10 : Int32)) / (10 : Int32)) % (10 : Int32)) h49 n0 hn) (hw _ (List.mem_of_getElem? (i := 6) rfl)) (hw _ (List.mem_of_getElem? (i := 7) rfl)) (hw _ (List.mem_of_getElem? (i := 4) rfl)) (hw _ (List.mem_of_getElem? (i := 8) rfl)) (by decide) d1_159 pd_0 rfl rfl rfl rfl (by decide) (by decide) (by decide) (by decide) ?_
  refine Own.bastore_ V49 (i := 0) rfl (Nat.le_of_ble_eq_true rfl) g_a1 d1_162 (fun h50 W50 V50 => ?_)
  have hn : n0 ≤ h50.size := by rw [W50.size]; exact hn
  clear V49
  replace V50 : Arl Z h50 a1 ka .byte [(own_d ((((((uh / (10 : Int32)) / (10 : Int32)) / (10 : Int32)) / (10 : Int32)) / (10 : Int32)) % (10 : Int32))), (own_d (((((uh / (10 : Int32)) / (10 : Int32)) / (10 : Int32)) / (10 : Int32)) % (10 : Int32))), (own_d ((((uh / (10 : Int32)) / (10 : Int32)) / (10 : Int32)) % (10 : Int32))), (own_d (((uh / (10 : Int32)) / (10 : Int32)) % (10 : Int32))), (own_d ((uh / (10 : Int32)) % (10 : Int32))), (own_d (uh % (10 : Int32))), own_c, (own_d (um / (10 : Int32))), (own_d (um % (10 : Int32))), own_c, (own_d (us / (10 : Int32))), (own_d (us % (10 : Int32))), own_x, own_x, own_x, own_x] := V50
  have K := K.wr W50 (Or.inl (List.mem_of_getElem? (i := 0) rfl))
  refine Own.iload d1_163 rfl ?_
  refine Own.bipush (10 : Int32) d1_165 rfl ?_
  refine Own.idiv d1_167 (by decide) ?_
  refine Own.istore #[.val (.int p0), .val (.ref a1), .val (.int (0 : Int32)), .val (.int uh), .val (.int um), .val (.int us), .val (.int (6 : Int32)), .val (.int (12 : Int32)), .val (.int (0 : Int32)), .val (.int ((((((uh / (10 : Int32)) / (10 : Int32)) / (10 : Int32)) / (10 : Int32)) / (10 : Int32)) / (10 : Int32)))] d1_168 rfl ?_
  refine Own.goto_ 142 d1_170 (by decide) rfl ?_
  refine Own.iload d1_142 rfl ?_
  refine Own.iloadN d1_144 rfl ?_
  refine Own.icmp_le 173 d1_145 (by decide) rfl (fun _ => ?_) (fun q => absurd q (by decide))
  refine Own.iload d1_173 rfl ?_
  refine Own.ret_int rfl d1_175 (by decide) (by decide) ?_
  exact ⟨rfl, K, V50⟩
def Q_rmF_1_2 (Z : State) (a1 : Addr) (ka : ClassId) (uh : Int32) (um : Int32) (us : Int32) (h0 : Heap) (n0 : Nat) (v : Option Value) (h : Heap) : Prop := v = some (.int (9 : Int32)) ∧ Keep h0 h [a1] ∧ Arl Z h a1 ka .byte [own_x, (own_d ((uh / (10 : Int32)) % (10 : Int32))), (own_d (uh % (10 : Int32))), own_c, (own_d (um / (10 : Int32))), (own_d (um % (10 : Int32))), own_c, (own_d (us / (10 : Int32))), (own_d (us % (10 : Int32))), own_x, own_x, own_x, own_x, own_x, own_x, own_x]
theorem ef_rmF_1_2 (m : MethodId) (p0 : Int32) (a1 : Addr)  : entryFrame m #[(.int p0), (.ref a1), (.int (1 : Int32))] 10 = mkF m 0 #[.val (.int p0), .val (.ref a1), .val (.int (1 : Int32)), .unset, .unset, .unset, .unset, .unset, .unset, .unset] [] := by first | (simp [entryFrame, mkF, argsToLocals, Value.category]; done) | rfl
set_option maxRecDepth 65536 in
set_option maxHeartbeats 40000000 in
theorem rmF_1_2 (l : Launch) (Z : State) (a0 : Array Value) (hw : ∀ d ∈ tables_1, d.before a0 Z = true) (ws : List Jvm.Cond) (p0 : Int32) (a1 : Addr) (ka : ClassId) (uh : Int32) (um : Int32) (us : Int32) (h0 : Heap) (n0 : Nat) (hn : n0 ≤ h0.size) (V_a1 : Arl Z h0 a1 ka .byte [own_x, own_x, own_x, own_x, own_x, own_x, own_x, own_x, own_x, own_x, own_x, own_x, own_x, own_x, own_x, own_x]) (g_a1 : n0 ≤ a1) (e_h : p0 / (3600 : Int32) = uh) (e_m : (p0 / (60 : Int32)) % (60 : Int32) = um) (e_s : p0 % (60 : Int32) = us) (hl : 0 ≤ uh.toInt) (hu : uh.toInt < 100) :
    Met false l Z (⟨"com/example/voznired/voznired/timetable/StopTime", "formatTime", "(I[BI)I"⟩ : MethodName) prog_118_method_10_code 10 (some .int) ({ frames := 1, cells := 0, slots := 0, locals := 14 } : Room) ws #[(.int p0), (.ref a1), (.int (1 : Int32))] h0 n0 (Q_rmF_1_2 Z a1 ka uh um us h0 n0) := by
  refine Met.of pn_1 (fun m => ef_rmF_1_2 m p0 a1) ?_
  have K := Keep.refl h0 [a1]
  refine Own.iloadN d1_0 rfl ?_
  refine Own.sipush (3600 : Int32) d1_1 rfl ?_
  refine Own.idiv d1_4 (by decide) ?_
  rw [e_h]
  refine Own.istoreN #[.val (.int p0), .val (.ref a1), .val (.int (1 : Int32)), .val (.int uh), .unset, .unset, .unset, .unset, .unset, .unset] d1_5 rfl ?_
  refine Own.iloadN d1_6 rfl ?_
  refine Own.bipush (60 : Int32) d1_7 rfl ?_
  refine Own.idiv d1_9 (by decide) ?_
  refine Own.bipush (60 : Int32) d1_10 rfl ?_
  refine Own.irem_ d1_12 (by decide) ?_
  rw [e_m]
  refine Own.istore #[.val (.int p0), .val (.ref a1), .val (.int (1 : Int32)), .val (.int uh), .val (.int um), .unset, .unset, .unset, .unset, .unset] d1_13 rfl ?_
  refine Own.iloadN d1_15 rfl ?_
  refine Own.bipush (60 : Int32) d1_16 rfl ?_
  refine Own.irem_ d1_18 (by decide) ?_
  rw [e_s]
  refine Own.istore #[.val (.int p0), .val (.ref a1), .val (.int (1 : Int32)), .val (.int uh), .val (.int um), .val (.int us), .unset, .unset, .unset, .unset] d1_19 rfl ?_
  refine Own.iconst (2 : Int32) d1_21 rfl ?_
  refine Own.istore #[.val (.int p0), .val (.ref a1), .val (.int (1 : Int32)), .val (.int uh), .val (.int um), .val (.int us), .val (.int (2 : Int32)), .unset, .unset, .unset] d1_22 rfl ?_
  refine Own.iloadN d1_24 rfl ?_
  refine Own.bipush (100 : Int32) d1_25 rfl ?_
  refine Own.idiv d1_27 (by decide) ?_
  obtain ⟨ur0, e_ur0⟩ : ∃ z : Int32, z = (uh / (100 : Int32)) := ⟨_, rfl⟩
  rw [← e_ur0]
  have r_ur0 : ur0.toInt = uh.toInt / 100 := by
    rw [e_ur0]; exact own_div 100 rfl (by omega) (by omega)
  refine Own.istore #[.val (.int p0), .val (.ref a1), .val (.int (1 : Int32)), .val (.int uh), .val (.int um), .val (.int us), .val (.int (2 : Int32)), .val (.int ur0), .unset, .unset] d1_28 rfl ?_
  refine Own.iload d1_30 rfl ?_
  refine Own.if_le 48 d1_32 (by decide) rfl (fun _ => ?_) (fun q => absurd q (by simp only [Int32.lt_iff_toInt_lt, Int32.reduceToInt]; omega))
  refine Own.iloadN d1_48 rfl ?_
  refine Own.iload d1_49 rfl ?_
  refine Own.iadd d1_51 ?_
  refine OAt.cast (st' := [(.int (3 : Int32))]) rfl ?_
  refine Own.bipush (6 : Int32) d1_52 rfl ?_
  refine Own.iadd d1_54 ?_
  refine OAt.cast (st' := [(.int (9 : Int32))]) rfl ?_
  refine Own.istore #[.val (.int p0), .val (.ref a1), .val (.int (1 : Int32)), .val (.int uh), .val (.int um), .val (.int us), .val (.int (2 : Int32)), .val (.int (9 : Int32)), .unset, .unset] d1_55 rfl ?_
  refine Own.iload d1_57 rfl ?_
  refine Own.istore #[.val (.int p0), .val (.ref a1), .val (.int (1 : Int32)), .val (.int uh), .val (.int um), .val (.int us), .val (.int (2 : Int32)), .val (.int (9 : Int32)), .val (.int (9 : Int32)), .unset] d1_59 rfl ?_
  refine Own.aloadN d1_61 rfl rfl ?_
  refine Own.iinc (-1 : Int32) #[.val (.int p0), .val (.ref a1), .val (.int (1 : Int32)), .val (.int uh), .val (.int um), .val (.int us), .val (.int (2 : Int32)), .val (.int (9 : Int32)), .val (.int ((9 : Int32) + (-1 : Int32))), .unset] d1_62 rfl rfl rfl ?_
  refine OAt.castL (Ls' := #[.val (.int p0), .val (.ref a1), .val (.int (1 : Int32)), .val (.int uh), .val (.int um), .val (.int us), .val (.int (2 : Int32)), .val (.int (9 : Int32)), .val (.int (8 : Int32)), .unset]) rfl rfl ?_
  refine Own.iload d1_65 rfl ?_
  refine Own.iload d1_67 rfl ?_
  refine Own.bipush (10 : Int32) d1_69 rfl ?_
  refine Own.irem_ d1_71 (by decide) ?_
  refine Own.callSP [(.int (us % (10 : Int32)))] [(.int (8 : Int32)), (.ref a1)] 2 (rmD l Z a0 hw [] (us % (10 : Int32)) h0 n0 hn) (hw _ (List.mem_of_getElem? (i := 6) rfl)) (hw _ (List.mem_of_getElem? (i := 7) rfl)) (hw _ (List.mem_of_getElem? (i := 4) rfl)) (hw _ (List.mem_of_getElem? (i := 8) rfl)) (by decide) d1_72 pd_0 rfl rfl rfl rfl (by decide) (by decide) (by decide) (by decide) ?_
  refine Own.bastore_ V_a1 (i := 8) rfl (Nat.le_of_ble_eq_true rfl) g_a1 d1_75 (fun h51 W51 V51 => ?_)
  have hn : n0 ≤ h51.size := by rw [W51.size]; exact hn
  clear V_a1
  replace V51 : Arl Z h51 a1 ka .byte [own_x, own_x, own_x, own_x, own_x, own_x, own_x, own_x, (own_d (us % (10 : Int32))), own_x, own_x, own_x, own_x, own_x, own_x, own_x] := V51
  have K := K.wr W51 (Or.inl (List.mem_of_getElem? (i := 0) rfl))
  refine Own.aloadN d1_76 rfl rfl ?_
  refine Own.iinc (-1 : Int32) #[.val (.int p0), .val (.ref a1), .val (.int (1 : Int32)), .val (.int uh), .val (.int um), .val (.int us), .val (.int (2 : Int32)), .val (.int (9 : Int32)), .val (.int ((8 : Int32) + (-1 : Int32))), .unset] d1_77 rfl rfl rfl ?_
  refine OAt.castL (Ls' := #[.val (.int p0), .val (.ref a1), .val (.int (1 : Int32)), .val (.int uh), .val (.int um), .val (.int us), .val (.int (2 : Int32)), .val (.int (9 : Int32)), .val (.int (7 : Int32)), .unset]) rfl rfl ?_
  refine Own.iload d1_80 rfl ?_
  refine Own.iload d1_82 rfl ?_
  refine Own.bipush (10 : Int32) d1_84 rfl ?_
  refine Own.idiv d1_86 (by decide) ?_
  refine Own.callSP [(.int (us / (10 : Int32)))] [(.int (7 : Int32)), (.ref a1)] 2 (rmD l Z a0 hw [] (us / (10 : Int32)) h51 n0 hn) (hw _ (List.mem_of_getElem? (i := 6) rfl)) (hw _ (List.mem_of_getElem? (i := 7) rfl)) (hw _ (List.mem_of_getElem? (i := 4) rfl)) (hw _ (List.mem_of_getElem? (i := 8) rfl)) (by decide) d1_87 pd_0 rfl rfl rfl rfl (by decide) (by decide) (by decide) (by decide) ?_
  refine Own.bastore_ V51 (i := 7) rfl (Nat.le_of_ble_eq_true rfl) g_a1 d1_90 (fun h52 W52 V52 => ?_)
  have hn : n0 ≤ h52.size := by rw [W52.size]; exact hn
  clear V51
  replace V52 : Arl Z h52 a1 ka .byte [own_x, own_x, own_x, own_x, own_x, own_x, own_x, (own_d (us / (10 : Int32))), (own_d (us % (10 : Int32))), own_x, own_x, own_x, own_x, own_x, own_x, own_x] := V52
  have K := K.wr W52 (Or.inl (List.mem_of_getElem? (i := 0) rfl))
  refine Own.aloadN d1_91 rfl rfl ?_
  refine Own.iinc (-1 : Int32) #[.val (.int p0), .val (.ref a1), .val (.int (1 : Int32)), .val (.int uh), .val (.int um), .val (.int us), .val (.int (2 : Int32)), .val (.int (9 : Int32)), .val (.int ((7 : Int32) + (-1 : Int32))), .unset] d1_92 rfl rfl rfl ?_
  refine OAt.castL (Ls' := #[.val (.int p0), .val (.ref a1), .val (.int (1 : Int32)), .val (.int uh), .val (.int um), .val (.int us), .val (.int (2 : Int32)), .val (.int (9 : Int32)), .val (.int (6 : Int32)), .unset]) rfl rfl ?_
  refine Own.iload d1_95 rfl ?_
  refine Own.bipush (58 : Int32) d1_97 rfl ?_
  refine Own.bastore_ V52 (i := 6) rfl (Nat.le_of_ble_eq_true rfl) g_a1 d1_99 (fun h53 W53 V53 => ?_)
  have hn : n0 ≤ h53.size := by rw [W53.size]; exact hn
  clear V52
  replace V53 : Arl Z h53 a1 ka .byte [own_x, own_x, own_x, own_x, own_x, own_x, own_c, (own_d (us / (10 : Int32))), (own_d (us % (10 : Int32))), own_x, own_x, own_x, own_x, own_x, own_x, own_x] := V53
  have K := K.wr W53 (Or.inl (List.mem_of_getElem? (i := 0) rfl))
  refine Own.aloadN d1_100 rfl rfl ?_
  refine Own.iinc (-1 : Int32) #[.val (.int p0), .val (.ref a1), .val (.int (1 : Int32)), .val (.int uh), .val (.int um), .val (.int us), .val (.int (2 : Int32)), .val (.int (9 : Int32)), .val (.int ((6 : Int32) + (-1 : Int32))), .unset] d1_101 rfl rfl rfl ?_
  refine OAt.castL (Ls' := #[.val (.int p0), .val (.ref a1), .val (.int (1 : Int32)), .val (.int uh), .val (.int um), .val (.int us), .val (.int (2 : Int32)), .val (.int (9 : Int32)), .val (.int (5 : Int32)), .unset]) rfl rfl ?_
  refine Own.iload d1_104 rfl ?_
  refine Own.iload d1_106 rfl ?_
  refine Own.bipush (10 : Int32) d1_108 rfl ?_
  refine Own.irem_ d1_110 (by decide) ?_
  refine Own.callSP [(.int (um % (10 : Int32)))] [(.int (5 : Int32)), (.ref a1)] 2 (rmD l Z a0 hw [] (um % (10 : Int32)) h53 n0 hn) (hw _ (List.mem_of_getElem? (i := 6) rfl)) (hw _ (List.mem_of_getElem? (i := 7) rfl)) (hw _ (List.mem_of_getElem? (i := 4) rfl)) (hw _ (List.mem_of_getElem? (i := 8) rfl)) (by decide) d1_111 pd_0 rfl rfl rfl rfl (by decide) (by decide) (by decide) (by decide) ?_
  refine Own.bastore_ V53 (i := 5) rfl (Nat.le_of_ble_eq_true rfl) g_a1 d1_114 (fun h54 W54 V54 => ?_)
  have hn : n0 ≤ h54.size := by rw [W54.size]; exact hn
  clear V53
  replace V54 : Arl Z h54 a1 ka .byte [own_x, own_x, own_x, own_x, own_x, (own_d (um % (10 : Int32))), own_c, (own_d (us / (10 : Int32))), (own_d (us % (10 : Int32))), own_x, own_x, own_x, own_x, own_x, own_x, own_x] := V54
  have K := K.wr W54 (Or.inl (List.mem_of_getElem? (i := 0) rfl))
  refine Own.aloadN d1_115 rfl rfl ?_
  refine Own.iinc (-1 : Int32) #[.val (.int p0), .val (.ref a1), .val (.int (1 : Int32)), .val (.int uh), .val (.int um), .val (.int us), .val (.int (2 : Int32)), .val (.int (9 : Int32)), .val (.int ((5 : Int32) + (-1 : Int32))), .unset] d1_116 rfl rfl rfl ?_
  refine OAt.castL (Ls' := #[.val (.int p0), .val (.ref a1), .val (.int (1 : Int32)), .val (.int uh), .val (.int um), .val (.int us), .val (.int (2 : Int32)), .val (.int (9 : Int32)), .val (.int (4 : Int32)), .unset]) rfl rfl ?_
  refine Own.iload d1_119 rfl ?_
  refine Own.iload d1_121 rfl ?_
  refine Own.bipush (10 : Int32) d1_123 rfl ?_
  refine Own.idiv d1_125 (by decide) ?_
  refine Own.callSP [(.int (um / (10 : Int32)))] [(.int (4 : Int32)), (.ref a1)] 2 (rmD l Z a0 hw [] (um / (10 : Int32)) h54 n0 hn) (hw _ (List.mem_of_getElem? (i := 6) rfl)) (hw _ (List.mem_of_getElem? (i := 7) rfl)) (hw _ (List.mem_of_getElem? (i := 4) rfl)) (hw _ (List.mem_of_getElem? (i := 8) rfl)) (by decide) d1_126 pd_0 rfl rfl rfl rfl (by decide) (by decide) (by decide) (by decide) ?_
  refine Own.bastore_ V54 (i := 4) rfl (Nat.le_of_ble_eq_true rfl) g_a1 d1_129 (fun h55 W55 V55 => ?_)
  have hn : n0 ≤ h55.size := by rw [W55.size]; exact hn
  clear V54
  replace V55 : Arl Z h55 a1 ka .byte [own_x, own_x, own_x, own_x, (own_d (um / (10 : Int32))), (own_d (um % (10 : Int32))), own_c, (own_d (us / (10 : Int32))), (own_d (us % (10 : Int32))), own_x, own_x, own_x, own_x, own_x, own_x, own_x] := V55
  have K := K.wr W55 (Or.inl (List.mem_of_getElem? (i := 0) rfl))
  refine Own.aloadN d1_130 rfl rfl ?_
  refine Own.iinc (-1 : Int32) #[.val (.int p0), .val (.ref a1), .val (.int (1 : Int32)), .val (.int uh), .val (.int um), .val (.int us), .val (.int (2 : Int32)), .val (.int (9 : Int32)), .val (.int ((4 : Int32) + (-1 : Int32))), .unset] d1_131 rfl rfl rfl ?_
  refine OAt.castL (Ls' := #[.val (.int p0), .val (.ref a1), .val (.int (1 : Int32)), .val (.int uh), .val (.int um), .val (.int us), .val (.int (2 : Int32)), .val (.int (9 : Int32)), .val (.int (3 : Int32)), .unset]) rfl rfl ?_
  refine Own.iload d1_134 rfl ?_
  refine Own.bipush (58 : Int32) d1_136 rfl ?_
  refine Own.bastore_ V55 (i := 3) rfl (Nat.le_of_ble_eq_true rfl) g_a1 d1_138 (fun h56 W56 V56 => ?_)
  have hn : n0 ≤ h56.size := by rw [W56.size]; exact hn
  clear V55
  replace V56 : Arl Z h56 a1 ka .byte [own_x, own_x, own_x, own_c, (own_d (um / (10 : Int32))), (own_d (um % (10 : Int32))), own_c, (own_d (us / (10 : Int32))), (own_d (us % (10 : Int32))), own_x, own_x, own_x, own_x, own_x, own_x, own_x] := V56
  have K := K.wr W56 (Or.inl (List.mem_of_getElem? (i := 0) rfl))
  refine Own.iloadN d1_139 rfl ?_
  refine Own.istore #[.val (.int p0), .val (.ref a1), .val (.int (1 : Int32)), .val (.int uh), .val (.int um), .val (.int us), .val (.int (2 : Int32)), .val (.int (9 : Int32)), .val (.int (3 : Int32)), .val (.int uh)] d1_140 rfl ?_
  refine Own.iload d1_142 rfl ?_
  refine Own.iloadN d1_144 rfl ?_
  refine Own.icmp_le 173 d1_145 (by decide) rfl (fun q => absurd (by decide) q) (fun _ => ?_)
  refine Own.aloadN d1_148 rfl rfl ?_
  refine Own.iinc (-1 : Int32) #[.val (.int p0), .val (.ref a1), .val (.int (1 : Int32)), .val (.int uh), .val (.int um), .val (.int us), .val (.int (2 : Int32)), .val (.int (9 : Int32)), .val (.int ((3 : Int32) + (-1 : Int32))), .val (.int uh)] d1_149 rfl rfl rfl ?_
  refine OAt.castL (Ls' := #[.val (.int p0), .val (.ref a1), .val (.int (1 : Int32)), .val (.int uh), .val (.int um), .val (.int us), .val (.int (2 : Int32)), .val (.int (9 : Int32)), .val (.int (2 : Int32)), .val (.int uh)]) rfl rfl ?_
  refine Own.iload d1_152 rfl ?_
  refine Own.iload d1_154 rfl ?_
  refine Own.bipush (10 : Int32) d1_156 rfl ?_
  refine Own.irem_ d1_158 (by decide) ?_
  refine Own.callSP [(.int (uh % (10 : Int32)))] [(.int (2 : Int32)), (.ref a1)] 2 (rmD l Z a0 hw [] (uh % (10 : Int32)) h56 n0 hn) (hw _ (List.mem_of_getElem? (i := 6) rfl)) (hw _ (List.mem_of_getElem? (i := 7) rfl)) (hw _ (List.mem_of_getElem? (i := 4) rfl)) (hw _ (List.mem_of_getElem? (i := 8) rfl)) (by decide) d1_159 pd_0 rfl rfl rfl rfl (by decide) (by decide) (by decide) (by decide) ?_
  refine Own.bastore_ V56 (i := 2) rfl (Nat.le_of_ble_eq_true rfl) g_a1 d1_162 (fun h57 W57 V57 => ?_)
  have hn : n0 ≤ h57.size := by rw [W57.size]; exact hn
  clear V56
  replace V57 : Arl Z h57 a1 ka .byte [own_x, own_x, (own_d (uh % (10 : Int32))), own_c, (own_d (um / (10 : Int32))), (own_d (um % (10 : Int32))), own_c, (own_d (us / (10 : Int32))), (own_d (us % (10 : Int32))), own_x, own_x, own_x, own_x, own_x, own_x, own_x] := V57
  have K := K.wr W57 (Or.inl (List.mem_of_getElem? (i := 0) rfl))
  refine Own.iload d1_163 rfl ?_
  refine Own.bipush (10 : Int32) d1_165 rfl ?_
  refine Own.idiv d1_167 (by decide) ?_
  refine Own.istore #[.val (.int p0), .val (.ref a1), .val (.int (1 : Int32)), .val (.int uh), .val (.int um), .val (.int us), .val (.int (2 : Int32)), .val (.int (9 : Int32)), .val (.int (2 : Int32)), .val (.int (uh / (10 : Int32)))] d1_168 rfl ?_
  refine Own.goto_ 142 d1_170 (by decide) rfl ?_
  refine Own.iload d1_142 rfl ?_
  refine Own.iloadN d1_144 rfl ?_
  refine Own.icmp_le 173 d1_145 (by decide) rfl (fun q => absurd (by decide) q) (fun _ => ?_)
  refine Own.aloadN d1_148 rfl rfl ?_
  refine Own.iinc (-1 : Int32) #[.val (.int p0), .val (.ref a1), .val (.int (1 : Int32)), .val (.int uh), .val (.int um), .val (.int us), .val (.int (2 : Int32)), .val (.int (9 : Int32)), .val (.int ((2 : Int32) + (-1 : Int32))), .val (.int (uh / (10 : Int32)))] d1_149 rfl rfl rfl ?_
  refine OAt.castL (Ls' := #[.val (.int p0), .val (.ref a1), .val (.int (1 : Int32)), .val (.int uh), .val (.int um), .val (.int us), .val (.int (2 : Int32)), .val (.int (9 : Int32)), .val (.int (1 : Int32)), .val (.int (uh / (10 : Int32)))]) rfl rfl ?_
  refine Own.iload d1_152 rfl ?_
  refine Own.iload d1_154 rfl ?_
  refine Own.bipush (10 : Int32) d1_156 rfl ?_
  refine Own.irem_ d1_158 (by decide) ?_
  refine Own.callSP [(.int ((uh / (10 : Int32)) % (10 : Int32)))] [(.int (1 : Int32)), (.ref a1)] 2 (rmD l Z a0 hw [] ((uh / (10 : Int32)) % (10 : Int32)) h57 n0 hn) (hw _ (List.mem_of_getElem? (i := 6) rfl)) (hw _ (List.mem_of_getElem? (i := 7) rfl)) (hw _ (List.mem_of_getElem? (i := 4) rfl)) (hw _ (List.mem_of_getElem? (i := 8) rfl)) (by decide) d1_159 pd_0 rfl rfl rfl rfl (by decide) (by decide) (by decide) (by decide) ?_
  refine Own.bastore_ V57 (i := 1) rfl (Nat.le_of_ble_eq_true rfl) g_a1 d1_162 (fun h58 W58 V58 => ?_)
  have hn : n0 ≤ h58.size := by rw [W58.size]; exact hn
  clear V57
  replace V58 : Arl Z h58 a1 ka .byte [own_x, (own_d ((uh / (10 : Int32)) % (10 : Int32))), (own_d (uh % (10 : Int32))), own_c, (own_d (um / (10 : Int32))), (own_d (um % (10 : Int32))), own_c, (own_d (us / (10 : Int32))), (own_d (us % (10 : Int32))), own_x, own_x, own_x, own_x, own_x, own_x, own_x] := V58
  have K := K.wr W58 (Or.inl (List.mem_of_getElem? (i := 0) rfl))
  refine Own.iload d1_163 rfl ?_
  refine Own.bipush (10 : Int32) d1_165 rfl ?_
  refine Own.idiv d1_167 (by decide) ?_
  refine Own.istore #[.val (.int p0), .val (.ref a1), .val (.int (1 : Int32)), .val (.int uh), .val (.int um), .val (.int us), .val (.int (2 : Int32)), .val (.int (9 : Int32)), .val (.int (1 : Int32)), .val (.int ((uh / (10 : Int32)) / (10 : Int32)))] d1_168 rfl ?_
  refine Own.goto_ 142 d1_170 (by decide) rfl ?_
  refine Own.iload d1_142 rfl ?_
  refine Own.iloadN d1_144 rfl ?_
  refine Own.icmp_le 173 d1_145 (by decide) rfl (fun _ => ?_) (fun q => absurd q (by decide))
  refine Own.iload d1_173 rfl ?_
  refine Own.ret_int rfl d1_175 (by decide) (by decide) ?_
  exact ⟨rfl, K, V58⟩
def Q_rmF_1_3 (Z : State) (a1 : Addr) (ka : ClassId) (uh : Int32) (um : Int32) (us : Int32) (h0 : Heap) (n0 : Nat) (v : Option Value) (h : Heap) : Prop := v = some (.int (10 : Int32)) ∧ Keep h0 h [a1] ∧ Arl Z h a1 ka .byte [own_x, (own_d (((uh / (10 : Int32)) / (10 : Int32)) % (10 : Int32))), (own_d ((uh / (10 : Int32)) % (10 : Int32))), (own_d (uh % (10 : Int32))), own_c, (own_d (um / (10 : Int32))), (own_d (um % (10 : Int32))), own_c, (own_d (us / (10 : Int32))), (own_d (us % (10 : Int32))), own_x, own_x, own_x, own_x, own_x, own_x]
theorem ef_rmF_1_3 (m : MethodId) (p0 : Int32) (a1 : Addr)  : entryFrame m #[(.int p0), (.ref a1), (.int (1 : Int32))] 10 = mkF m 0 #[.val (.int p0), .val (.ref a1), .val (.int (1 : Int32)), .unset, .unset, .unset, .unset, .unset, .unset, .unset] [] := by first | (simp [entryFrame, mkF, argsToLocals, Value.category]; done) | rfl
set_option maxRecDepth 65536 in
set_option maxHeartbeats 40000000 in
theorem rmF_1_3 (l : Launch) (Z : State) (a0 : Array Value) (hw : ∀ d ∈ tables_1, d.before a0 Z = true) (ws : List Jvm.Cond) (p0 : Int32) (a1 : Addr) (ka : ClassId) (uh : Int32) (um : Int32) (us : Int32) (h0 : Heap) (n0 : Nat) (hn : n0 ≤ h0.size) (V_a1 : Arl Z h0 a1 ka .byte [own_x, own_x, own_x, own_x, own_x, own_x, own_x, own_x, own_x, own_x, own_x, own_x, own_x, own_x, own_x, own_x]) (g_a1 : n0 ≤ a1) (e_h : p0 / (3600 : Int32) = uh) (e_m : (p0 / (60 : Int32)) % (60 : Int32) = um) (e_s : p0 % (60 : Int32) = us) (hl : 100 ≤ uh.toInt) (hu : uh.toInt < 1000) :
    Met false l Z (⟨"com/example/voznired/voznired/timetable/StopTime", "formatTime", "(I[BI)I"⟩ : MethodName) prog_118_method_10_code 10 (some .int) ({ frames := 1, cells := 0, slots := 0, locals := 14 } : Room) ws #[(.int p0), (.ref a1), (.int (1 : Int32))] h0 n0 (Q_rmF_1_3 Z a1 ka uh um us h0 n0) := by
  refine Met.of pn_1 (fun m => ef_rmF_1_3 m p0 a1) ?_
  have K := Keep.refl h0 [a1]
  refine Own.iloadN d1_0 rfl ?_
  refine Own.sipush (3600 : Int32) d1_1 rfl ?_
  refine Own.idiv d1_4 (by decide) ?_
  rw [e_h]
  refine Own.istoreN #[.val (.int p0), .val (.ref a1), .val (.int (1 : Int32)), .val (.int uh), .unset, .unset, .unset, .unset, .unset, .unset] d1_5 rfl ?_
  refine Own.iloadN d1_6 rfl ?_
  refine Own.bipush (60 : Int32) d1_7 rfl ?_
  refine Own.idiv d1_9 (by decide) ?_
  refine Own.bipush (60 : Int32) d1_10 rfl ?_
  refine Own.irem_ d1_12 (by decide) ?_
  rw [e_m]
  refine Own.istore #[.val (.int p0), .val (.ref a1), .val (.int (1 : Int32)), .val (.int uh), .val (.int um), .unset, .unset, .unset, .unset, .unset] d1_13 rfl ?_
  refine Own.iloadN d1_15 rfl ?_
  refine Own.bipush (60 : Int32) d1_16 rfl ?_
  refine Own.irem_ d1_18 (by decide) ?_
  rw [e_s]
  refine Own.istore #[.val (.int p0), .val (.ref a1), .val (.int (1 : Int32)), .val (.int uh), .val (.int um), .val (.int us), .unset, .unset, .unset, .unset] d1_19 rfl ?_
  refine Own.iconst (2 : Int32) d1_21 rfl ?_
  refine Own.istore #[.val (.int p0), .val (.ref a1), .val (.int (1 : Int32)), .val (.int uh), .val (.int um), .val (.int us), .val (.int (2 : Int32)), .unset, .unset, .unset] d1_22 rfl ?_
  refine Own.iloadN d1_24 rfl ?_
  refine Own.bipush (100 : Int32) d1_25 rfl ?_
  refine Own.idiv d1_27 (by decide) ?_
  obtain ⟨ur0, e_ur0⟩ : ∃ z : Int32, z = (uh / (100 : Int32)) := ⟨_, rfl⟩
  rw [← e_ur0]
  have r_ur0 : ur0.toInt = uh.toInt / 100 := by
    rw [e_ur0]; exact own_div 100 rfl (by omega) (by omega)
  refine Own.istore #[.val (.int p0), .val (.ref a1), .val (.int (1 : Int32)), .val (.int uh), .val (.int um), .val (.int us), .val (.int (2 : Int32)), .val (.int ur0), .unset, .unset] d1_28 rfl ?_
  refine Own.iload d1_30 rfl ?_
  refine Own.if_le 48 d1_32 (by decide) rfl (fun q => absurd (by simp only [Int32.lt_iff_toInt_lt, Int32.reduceToInt]; omega) q) (fun _ => ?_)
  refine Own.iinc (1 : Int32) #[.val (.int p0), .val (.ref a1), .val (.int (1 : Int32)), .val (.int uh), .val (.int um), .val (.int us), .val (.int ((2 : Int32) + (1 : Int32))), .val (.int ur0), .unset, .unset] d1_35 rfl rfl rfl ?_
  refine OAt.castL (Ls' := #[.val (.int p0), .val (.ref a1), .val (.int (1 : Int32)), .val (.int uh), .val (.int um), .val (.int us), .val (.int (3 : Int32)), .val (.int ur0), .unset, .unset]) rfl rfl ?_
  refine Own.iload d1_38 rfl ?_
  refine Own.bipush (10 : Int32) d1_40 rfl ?_
  refine Own.idiv d1_42 (by decide) ?_
  obtain ⟨ur1, e_ur1⟩ : ∃ z : Int32, z = (ur0 / (10 : Int32)) := ⟨_, rfl⟩
  rw [← e_ur1]
  have r_ur1 : ur1.toInt = ur0.toInt / 10 := by
    rw [e_ur1]; rw [own_div 10 rfl (by omega) (by omega)]
  refine Own.istore #[.val (.int p0), .val (.ref a1), .val (.int (1 : Int32)), .val (.int uh), .val (.int um), .val (.int us), .val (.int (3 : Int32)), .val (.int ur1), .unset, .unset] d1_43 rfl ?_
  refine Own.goto_ 30 d1_45 (by decide) rfl ?_
  refine Own.iload d1_30 rfl ?_
  refine Own.if_le 48 d1_32 (by decide) rfl (fun _ => ?_) (fun q => absurd q (by simp only [Int32.lt_iff_toInt_lt, Int32.reduceToInt]; omega))
  refine Own.iloadN d1_48 rfl ?_
  refine Own.iload d1_49 rfl ?_
  refine Own.iadd d1_51 ?_
  refine OAt.cast (st' := [(.int (4 : Int32))]) rfl ?_
  refine Own.bipush (6 : Int32) d1_52 rfl ?_
  refine Own.iadd d1_54 ?_
  refine OAt.cast (st' := [(.int (10 : Int32))]) rfl ?_
  refine Own.istore #[.val (.int p0), .val (.ref a1), .val (.int (1 : Int32)), .val (.int uh), .val (.int um), .val (.int us), .val (.int (3 : Int32)), .val (.int (10 : Int32)), .unset, .unset] d1_55 rfl ?_
  refine Own.iload d1_57 rfl ?_
  refine Own.istore #[.val (.int p0), .val (.ref a1), .val (.int (1 : Int32)), .val (.int uh), .val (.int um), .val (.int us), .val (.int (3 : Int32)), .val (.int (10 : Int32)), .val (.int (10 : Int32)), .unset] d1_59 rfl ?_
  refine Own.aloadN d1_61 rfl rfl ?_
  refine Own.iinc (-1 : Int32) #[.val (.int p0), .val (.ref a1), .val (.int (1 : Int32)), .val (.int uh), .val (.int um), .val (.int us), .val (.int (3 : Int32)), .val (.int (10 : Int32)), .val (.int ((10 : Int32) + (-1 : Int32))), .unset] d1_62 rfl rfl rfl ?_
  refine OAt.castL (Ls' := #[.val (.int p0), .val (.ref a1), .val (.int (1 : Int32)), .val (.int uh), .val (.int um), .val (.int us), .val (.int (3 : Int32)), .val (.int (10 : Int32)), .val (.int (9 : Int32)), .unset]) rfl rfl ?_
  refine Own.iload d1_65 rfl ?_
  refine Own.iload d1_67 rfl ?_
  refine Own.bipush (10 : Int32) d1_69 rfl ?_
  refine Own.irem_ d1_71 (by decide) ?_
  refine Own.callSP [(.int (us % (10 : Int32)))] [(.int (9 : Int32)), (.ref a1)] 2 (rmD l Z a0 hw [] (us % (10 : Int32)) h0 n0 hn) (hw _ (List.mem_of_getElem? (i := 6) rfl)) (hw _ (List.mem_of_getElem? (i := 7) rfl)) (hw _ (List.mem_of_getElem? (i := 4) rfl)) (hw _ (List.mem_of_getElem? (i := 8) rfl)) (by decide) d1_72 pd_0 rfl rfl rfl rfl (by decide) (by decide) (by decide) (by decide) ?_
  refine Own.bastore_ V_a1 (i := 9) rfl (Nat.le_of_ble_eq_true rfl) g_a1 d1_75 (fun h59 W59 V59 => ?_)
  have hn : n0 ≤ h59.size := by rw [W59.size]; exact hn
  clear V_a1
  replace V59 : Arl Z h59 a1 ka .byte [own_x, own_x, own_x, own_x, own_x, own_x, own_x, own_x, own_x, (own_d (us % (10 : Int32))), own_x, own_x, own_x, own_x, own_x, own_x] := V59
  have K := K.wr W59 (Or.inl (List.mem_of_getElem? (i := 0) rfl))
  refine Own.aloadN d1_76 rfl rfl ?_
  refine Own.iinc (-1 : Int32) #[.val (.int p0), .val (.ref a1), .val (.int (1 : Int32)), .val (.int uh), .val (.int um), .val (.int us), .val (.int (3 : Int32)), .val (.int (10 : Int32)), .val (.int ((9 : Int32) + (-1 : Int32))), .unset] d1_77 rfl rfl rfl ?_
  refine OAt.castL (Ls' := #[.val (.int p0), .val (.ref a1), .val (.int (1 : Int32)), .val (.int uh), .val (.int um), .val (.int us), .val (.int (3 : Int32)), .val (.int (10 : Int32)), .val (.int (8 : Int32)), .unset]) rfl rfl ?_
  refine Own.iload d1_80 rfl ?_
  refine Own.iload d1_82 rfl ?_
  refine Own.bipush (10 : Int32) d1_84 rfl ?_
  refine Own.idiv d1_86 (by decide) ?_
  refine Own.callSP [(.int (us / (10 : Int32)))] [(.int (8 : Int32)), (.ref a1)] 2 (rmD l Z a0 hw [] (us / (10 : Int32)) h59 n0 hn) (hw _ (List.mem_of_getElem? (i := 6) rfl)) (hw _ (List.mem_of_getElem? (i := 7) rfl)) (hw _ (List.mem_of_getElem? (i := 4) rfl)) (hw _ (List.mem_of_getElem? (i := 8) rfl)) (by decide) d1_87 pd_0 rfl rfl rfl rfl (by decide) (by decide) (by decide) (by decide) ?_
  refine Own.bastore_ V59 (i := 8) rfl (Nat.le_of_ble_eq_true rfl) g_a1 d1_90 (fun h60 W60 V60 => ?_)
  have hn : n0 ≤ h60.size := by rw [W60.size]; exact hn
  clear V59
  replace V60 : Arl Z h60 a1 ka .byte [own_x, own_x, own_x, own_x, own_x, own_x, own_x, own_x, (own_d (us / (10 : Int32))), (own_d (us % (10 : Int32))), own_x, own_x, own_x, own_x, own_x, own_x] := V60
  have K := K.wr W60 (Or.inl (List.mem_of_getElem? (i := 0) rfl))
  refine Own.aloadN d1_91 rfl rfl ?_
  refine Own.iinc (-1 : Int32) #[.val (.int p0), .val (.ref a1), .val (.int (1 : Int32)), .val (.int uh), .val (.int um), .val (.int us), .val (.int (3 : Int32)), .val (.int (10 : Int32)), .val (.int ((8 : Int32) + (-1 : Int32))), .unset] d1_92 rfl rfl rfl ?_
  refine OAt.castL (Ls' := #[.val (.int p0), .val (.ref a1), .val (.int (1 : Int32)), .val (.int uh), .val (.int um), .val (.int us), .val (.int (3 : Int32)), .val (.int (10 : Int32)), .val (.int (7 : Int32)), .unset]) rfl rfl ?_
  refine Own.iload d1_95 rfl ?_
  refine Own.bipush (58 : Int32) d1_97 rfl ?_
  refine Own.bastore_ V60 (i := 7) rfl (Nat.le_of_ble_eq_true rfl) g_a1 d1_99 (fun h61 W61 V61 => ?_)
  have hn : n0 ≤ h61.size := by rw [W61.size]; exact hn
  clear V60
  replace V61 : Arl Z h61 a1 ka .byte [own_x, own_x, own_x, own_x, own_x, own_x, own_x, own_c, (own_d (us / (10 : Int32))), (own_d (us % (10 : Int32))), own_x, own_x, own_x, own_x, own_x, own_x] := V61
  have K := K.wr W61 (Or.inl (List.mem_of_getElem? (i := 0) rfl))
  refine Own.aloadN d1_100 rfl rfl ?_
  refine Own.iinc (-1 : Int32) #[.val (.int p0), .val (.ref a1), .val (.int (1 : Int32)), .val (.int uh), .val (.int um), .val (.int us), .val (.int (3 : Int32)), .val (.int (10 : Int32)), .val (.int ((7 : Int32) + (-1 : Int32))), .unset] d1_101 rfl rfl rfl ?_
  refine OAt.castL (Ls' := #[.val (.int p0), .val (.ref a1), .val (.int (1 : Int32)), .val (.int uh), .val (.int um), .val (.int us), .val (.int (3 : Int32)), .val (.int (10 : Int32)), .val (.int (6 : Int32)), .unset]) rfl rfl ?_
  refine Own.iload d1_104 rfl ?_
  refine Own.iload d1_106 rfl ?_
  refine Own.bipush (10 : Int32) d1_108 rfl ?_
  refine Own.irem_ d1_110 (by decide) ?_
  refine Own.callSP [(.int (um % (10 : Int32)))] [(.int (6 : Int32)), (.ref a1)] 2 (rmD l Z a0 hw [] (um % (10 : Int32)) h61 n0 hn) (hw _ (List.mem_of_getElem? (i := 6) rfl)) (hw _ (List.mem_of_getElem? (i := 7) rfl)) (hw _ (List.mem_of_getElem? (i := 4) rfl)) (hw _ (List.mem_of_getElem? (i := 8) rfl)) (by decide) d1_111 pd_0 rfl rfl rfl rfl (by decide) (by decide) (by decide) (by decide) ?_
  refine Own.bastore_ V61 (i := 6) rfl (Nat.le_of_ble_eq_true rfl) g_a1 d1_114 (fun h62 W62 V62 => ?_)
  have hn : n0 ≤ h62.size := by rw [W62.size]; exact hn
  clear V61
  replace V62 : Arl Z h62 a1 ka .byte [own_x, own_x, own_x, own_x, own_x, own_x, (own_d (um % (10 : Int32))), own_c, (own_d (us / (10 : Int32))), (own_d (us % (10 : Int32))), own_x, own_x, own_x, own_x, own_x, own_x] := V62
  have K := K.wr W62 (Or.inl (List.mem_of_getElem? (i := 0) rfl))
  refine Own.aloadN d1_115 rfl rfl ?_
  refine Own.iinc (-1 : Int32) #[.val (.int p0), .val (.ref a1), .val (.int (1 : Int32)), .val (.int uh), .val (.int um), .val (.int us), .val (.int (3 : Int32)), .val (.int (10 : Int32)), .val (.int ((6 : Int32) + (-1 : Int32))), .unset] d1_116 rfl rfl rfl ?_
  refine OAt.castL (Ls' := #[.val (.int p0), .val (.ref a1), .val (.int (1 : Int32)), .val (.int uh), .val (.int um), .val (.int us), .val (.int (3 : Int32)), .val (.int (10 : Int32)), .val (.int (5 : Int32)), .unset]) rfl rfl ?_
  refine Own.iload d1_119 rfl ?_
  refine Own.iload d1_121 rfl ?_
  refine Own.bipush (10 : Int32) d1_123 rfl ?_
  refine Own.idiv d1_125 (by decide) ?_
  refine Own.callSP [(.int (um / (10 : Int32)))] [(.int (5 : Int32)), (.ref a1)] 2 (rmD l Z a0 hw [] (um / (10 : Int32)) h62 n0 hn) (hw _ (List.mem_of_getElem? (i := 6) rfl)) (hw _ (List.mem_of_getElem? (i := 7) rfl)) (hw _ (List.mem_of_getElem? (i := 4) rfl)) (hw _ (List.mem_of_getElem? (i := 8) rfl)) (by decide) d1_126 pd_0 rfl rfl rfl rfl (by decide) (by decide) (by decide) (by decide) ?_
  refine Own.bastore_ V62 (i := 5) rfl (Nat.le_of_ble_eq_true rfl) g_a1 d1_129 (fun h63 W63 V63 => ?_)
  have hn : n0 ≤ h63.size := by rw [W63.size]; exact hn
  clear V62
  replace V63 : Arl Z h63 a1 ka .byte [own_x, own_x, own_x, own_x, own_x, (own_d (um / (10 : Int32))), (own_d (um % (10 : Int32))), own_c, (own_d (us / (10 : Int32))), (own_d (us % (10 : Int32))), own_x, own_x, own_x, own_x, own_x, own_x] := V63
  have K := K.wr W63 (Or.inl (List.mem_of_getElem? (i := 0) rfl))
  refine Own.aloadN d1_130 rfl rfl ?_
  refine Own.iinc (-1 : Int32) #[.val (.int p0), .val (.ref a1), .val (.int (1 : Int32)), .val (.int uh), .val (.int um), .val (.int us), .val (.int (3 : Int32)), .val (.int (10 : Int32)), .val (.int ((5 : Int32) + (-1 : Int32))), .unset] d1_131 rfl rfl rfl ?_
  refine OAt.castL (Ls' := #[.val (.int p0), .val (.ref a1), .val (.int (1 : Int32)), .val (.int uh), .val (.int um), .val (.int us), .val (.int (3 : Int32)), .val (.int (10 : Int32)), .val (.int (4 : Int32)), .unset]) rfl rfl ?_
  refine Own.iload d1_134 rfl ?_
  refine Own.bipush (58 : Int32) d1_136 rfl ?_
  refine Own.bastore_ V63 (i := 4) rfl (Nat.le_of_ble_eq_true rfl) g_a1 d1_138 (fun h64 W64 V64 => ?_)
  have hn : n0 ≤ h64.size := by rw [W64.size]; exact hn
  clear V63
  replace V64 : Arl Z h64 a1 ka .byte [own_x, own_x, own_x, own_x, own_c, (own_d (um / (10 : Int32))), (own_d (um % (10 : Int32))), own_c, (own_d (us / (10 : Int32))), (own_d (us % (10 : Int32))), own_x, own_x, own_x, own_x, own_x, own_x] := V64
  have K := K.wr W64 (Or.inl (List.mem_of_getElem? (i := 0) rfl))
  refine Own.iloadN d1_139 rfl ?_
  refine Own.istore #[.val (.int p0), .val (.ref a1), .val (.int (1 : Int32)), .val (.int uh), .val (.int um), .val (.int us), .val (.int (3 : Int32)), .val (.int (10 : Int32)), .val (.int (4 : Int32)), .val (.int uh)] d1_140 rfl ?_
  refine Own.iload d1_142 rfl ?_
  refine Own.iloadN d1_144 rfl ?_
  refine Own.icmp_le 173 d1_145 (by decide) rfl (fun q => absurd (by decide) q) (fun _ => ?_)
  refine Own.aloadN d1_148 rfl rfl ?_
  refine Own.iinc (-1 : Int32) #[.val (.int p0), .val (.ref a1), .val (.int (1 : Int32)), .val (.int uh), .val (.int um), .val (.int us), .val (.int (3 : Int32)), .val (.int (10 : Int32)), .val (.int ((4 : Int32) + (-1 : Int32))), .val (.int uh)] d1_149 rfl rfl rfl ?_
  refine OAt.castL (Ls' := #[.val (.int p0), .val (.ref a1), .val (.int (1 : Int32)), .val (.int uh), .val (.int um), .val (.int us), .val (.int (3 : Int32)), .val (.int (10 : Int32)), .val (.int (3 : Int32)), .val (.int uh)]) rfl rfl ?_
  refine Own.iload d1_152 rfl ?_
  refine Own.iload d1_154 rfl ?_
  refine Own.bipush (10 : Int32) d1_156 rfl ?_
  refine Own.irem_ d1_158 (by decide) ?_
  refine Own.callSP [(.int (uh % (10 : Int32)))] [(.int (3 : Int32)), (.ref a1)] 2 (rmD l Z a0 hw [] (uh % (10 : Int32)) h64 n0 hn) (hw _ (List.mem_of_getElem? (i := 6) rfl)) (hw _ (List.mem_of_getElem? (i := 7) rfl)) (hw _ (List.mem_of_getElem? (i := 4) rfl)) (hw _ (List.mem_of_getElem? (i := 8) rfl)) (by decide) d1_159 pd_0 rfl rfl rfl rfl (by decide) (by decide) (by decide) (by decide) ?_
  refine Own.bastore_ V64 (i := 3) rfl (Nat.le_of_ble_eq_true rfl) g_a1 d1_162 (fun h65 W65 V65 => ?_)
  have hn : n0 ≤ h65.size := by rw [W65.size]; exact hn
  clear V64
  replace V65 : Arl Z h65 a1 ka .byte [own_x, own_x, own_x, (own_d (uh % (10 : Int32))), own_c, (own_d (um / (10 : Int32))), (own_d (um % (10 : Int32))), own_c, (own_d (us / (10 : Int32))), (own_d (us % (10 : Int32))), own_x, own_x, own_x, own_x, own_x, own_x] := V65
  have K := K.wr W65 (Or.inl (List.mem_of_getElem? (i := 0) rfl))
  refine Own.iload d1_163 rfl ?_
  refine Own.bipush (10 : Int32) d1_165 rfl ?_
  refine Own.idiv d1_167 (by decide) ?_
  refine Own.istore #[.val (.int p0), .val (.ref a1), .val (.int (1 : Int32)), .val (.int uh), .val (.int um), .val (.int us), .val (.int (3 : Int32)), .val (.int (10 : Int32)), .val (.int (3 : Int32)), .val (.int (uh / (10 : Int32)))] d1_168 rfl ?_
  refine Own.goto_ 142 d1_170 (by decide) rfl ?_
  refine Own.iload d1_142 rfl ?_
  refine Own.iloadN d1_144 rfl ?_
  refine Own.icmp_le 173 d1_145 (by decide) rfl (fun q => absurd (by decide) q) (fun _ => ?_)
  refine Own.aloadN d1_148 rfl rfl ?_
  refine Own.iinc (-1 : Int32) #[.val (.int p0), .val (.ref a1), .val (.int (1 : Int32)), .val (.int uh), .val (.int um), .val (.int us), .val (.int (3 : Int32)), .val (.int (10 : Int32)), .val (.int ((3 : Int32) + (-1 : Int32))), .val (.int (uh / (10 : Int32)))] d1_149 rfl rfl rfl ?_
  refine OAt.castL (Ls' := #[.val (.int p0), .val (.ref a1), .val (.int (1 : Int32)), .val (.int uh), .val (.int um), .val (.int us), .val (.int (3 : Int32)), .val (.int (10 : Int32)), .val (.int (2 : Int32)), .val (.int (uh / (10 : Int32)))]) rfl rfl ?_
  refine Own.iload d1_152 rfl ?_
  refine Own.iload d1_154 rfl ?_
  refine Own.bipush (10 : Int32) d1_156 rfl ?_
  refine Own.irem_ d1_158 (by decide) ?_
  refine Own.callSP [(.int ((uh / (10 : Int32)) % (10 : Int32)))] [(.int (2 : Int32)), (.ref a1)] 2 (rmD l Z a0 hw [] ((uh / (10 : Int32)) % (10 : Int32)) h65 n0 hn) (hw _ (List.mem_of_getElem? (i := 6) rfl)) (hw _ (List.mem_of_getElem? (i := 7) rfl)) (hw _ (List.mem_of_getElem? (i := 4) rfl)) (hw _ (List.mem_of_getElem? (i := 8) rfl)) (by decide) d1_159 pd_0 rfl rfl rfl rfl (by decide) (by decide) (by decide) (by decide) ?_
  refine Own.bastore_ V65 (i := 2) rfl (Nat.le_of_ble_eq_true rfl) g_a1 d1_162 (fun h66 W66 V66 => ?_)
  have hn : n0 ≤ h66.size := by rw [W66.size]; exact hn
  clear V65
  replace V66 : Arl Z h66 a1 ka .byte [own_x, own_x, (own_d ((uh / (10 : Int32)) % (10 : Int32))), (own_d (uh % (10 : Int32))), own_c, (own_d (um / (10 : Int32))), (own_d (um % (10 : Int32))), own_c, (own_d (us / (10 : Int32))), (own_d (us % (10 : Int32))), own_x, own_x, own_x, own_x, own_x, own_x] := V66
  have K := K.wr W66 (Or.inl (List.mem_of_getElem? (i := 0) rfl))
  refine Own.iload d1_163 rfl ?_
  refine Own.bipush (10 : Int32) d1_165 rfl ?_
  refine Own.idiv d1_167 (by decide) ?_
  refine Own.istore #[.val (.int p0), .val (.ref a1), .val (.int (1 : Int32)), .val (.int uh), .val (.int um), .val (.int us), .val (.int (3 : Int32)), .val (.int (10 : Int32)), .val (.int (2 : Int32)), .val (.int ((uh / (10 : Int32)) / (10 : Int32)))] d1_168 rfl ?_
  refine Own.goto_ 142 d1_170 (by decide) rfl ?_
  refine Own.iload d1_142 rfl ?_
  refine Own.iloadN d1_144 rfl ?_
  refine Own.icmp_le 173 d1_145 (by decide) rfl (fun q => absurd (by decide) q) (fun _ => ?_)
  refine Own.aloadN d1_148 rfl rfl ?_
  refine Own.iinc (-1 : Int32) #[.val (.int p0), .val (.ref a1), .val (.int (1 : Int32)), .val (.int uh), .val (.int um), .val (.int us), .val (.int (3 : Int32)), .val (.int (10 : Int32)), .val (.int ((2 : Int32) + (-1 : Int32))), .val (.int ((uh / (10 : Int32)) / (10 : Int32)))] d1_149 rfl rfl rfl ?_
  refine OAt.castL (Ls' := #[.val (.int p0), .val (.ref a1), .val (.int (1 : Int32)), .val (.int uh), .val (.int um), .val (.int us), .val (.int (3 : Int32)), .val (.int (10 : Int32)), .val (.int (1 : Int32)), .val (.int ((uh / (10 : Int32)) / (10 : Int32)))]) rfl rfl ?_
  refine Own.iload d1_152 rfl ?_
  refine Own.iload d1_154 rfl ?_
  refine Own.bipush (10 : Int32) d1_156 rfl ?_
  refine Own.irem_ d1_158 (by decide) ?_
  refine Own.callSP [(.int (((uh / (10 : Int32)) / (10 : Int32)) % (10 : Int32)))] [(.int (1 : Int32)), (.ref a1)] 2 (rmD l Z a0 hw [] (((uh / (10 : Int32)) / (10 : Int32)) % (10 : Int32)) h66 n0 hn) (hw _ (List.mem_of_getElem? (i := 6) rfl)) (hw _ (List.mem_of_getElem? (i := 7) rfl)) (hw _ (List.mem_of_getElem? (i := 4) rfl)) (hw _ (List.mem_of_getElem? (i := 8) rfl)) (by decide) d1_159 pd_0 rfl rfl rfl rfl (by decide) (by decide) (by decide) (by decide) ?_
  refine Own.bastore_ V66 (i := 1) rfl (Nat.le_of_ble_eq_true rfl) g_a1 d1_162 (fun h67 W67 V67 => ?_)
  have hn : n0 ≤ h67.size := by rw [W67.size]; exact hn
  clear V66
  replace V67 : Arl Z h67 a1 ka .byte [own_x, (own_d (((uh / (10 : Int32)) / (10 : Int32)) % (10 : Int32))), (own_d ((uh / (10 : Int32)) % (10 : Int32))), (own_d (uh % (10 : Int32))), own_c, (own_d (um / (10 : Int32))), (own_d (um % (10 : Int32))), own_c, (own_d (us / (10 : Int32))), (own_d (us % (10 : Int32))), own_x, own_x, own_x, own_x, own_x, own_x] := V67
  have K := K.wr W67 (Or.inl (List.mem_of_getElem? (i := 0) rfl))
  refine Own.iload d1_163 rfl ?_
  refine Own.bipush (10 : Int32) d1_165 rfl ?_
  refine Own.idiv d1_167 (by decide) ?_
  refine Own.istore #[.val (.int p0), .val (.ref a1), .val (.int (1 : Int32)), .val (.int uh), .val (.int um), .val (.int us), .val (.int (3 : Int32)), .val (.int (10 : Int32)), .val (.int (1 : Int32)), .val (.int (((uh / (10 : Int32)) / (10 : Int32)) / (10 : Int32)))] d1_168 rfl ?_
  refine Own.goto_ 142 d1_170 (by decide) rfl ?_
  refine Own.iload d1_142 rfl ?_
  refine Own.iloadN d1_144 rfl ?_
  refine Own.icmp_le 173 d1_145 (by decide) rfl (fun _ => ?_) (fun q => absurd q (by decide))
  refine Own.iload d1_173 rfl ?_
  refine Own.ret_int rfl d1_175 (by decide) (by decide) ?_
  exact ⟨rfl, K, V67⟩
def Q_rmF_1_4 (Z : State) (a1 : Addr) (ka : ClassId) (uh : Int32) (um : Int32) (us : Int32) (h0 : Heap) (n0 : Nat) (v : Option Value) (h : Heap) : Prop := v = some (.int (11 : Int32)) ∧ Keep h0 h [a1] ∧ Arl Z h a1 ka .byte [own_x, (own_d ((((uh / (10 : Int32)) / (10 : Int32)) / (10 : Int32)) % (10 : Int32))), (own_d (((uh / (10 : Int32)) / (10 : Int32)) % (10 : Int32))), (own_d ((uh / (10 : Int32)) % (10 : Int32))), (own_d (uh % (10 : Int32))), own_c, (own_d (um / (10 : Int32))), (own_d (um % (10 : Int32))), own_c, (own_d (us / (10 : Int32))), (own_d (us % (10 : Int32))), own_x, own_x, own_x, own_x, own_x]
theorem ef_rmF_1_4 (m : MethodId) (p0 : Int32) (a1 : Addr)  : entryFrame m #[(.int p0), (.ref a1), (.int (1 : Int32))] 10 = mkF m 0 #[.val (.int p0), .val (.ref a1), .val (.int (1 : Int32)), .unset, .unset, .unset, .unset, .unset, .unset, .unset] [] := by first | (simp [entryFrame, mkF, argsToLocals, Value.category]; done) | rfl
set_option maxRecDepth 65536 in
set_option maxHeartbeats 40000000 in
theorem rmF_1_4 (l : Launch) (Z : State) (a0 : Array Value) (hw : ∀ d ∈ tables_1, d.before a0 Z = true) (ws : List Jvm.Cond) (p0 : Int32) (a1 : Addr) (ka : ClassId) (uh : Int32) (um : Int32) (us : Int32) (h0 : Heap) (n0 : Nat) (hn : n0 ≤ h0.size) (V_a1 : Arl Z h0 a1 ka .byte [own_x, own_x, own_x, own_x, own_x, own_x, own_x, own_x, own_x, own_x, own_x, own_x, own_x, own_x, own_x, own_x]) (g_a1 : n0 ≤ a1) (e_h : p0 / (3600 : Int32) = uh) (e_m : (p0 / (60 : Int32)) % (60 : Int32) = um) (e_s : p0 % (60 : Int32) = us) (hl : 1000 ≤ uh.toInt) (hu : uh.toInt < 10000) :
    Met false l Z (⟨"com/example/voznired/voznired/timetable/StopTime", "formatTime", "(I[BI)I"⟩ : MethodName) prog_118_method_10_code 10 (some .int) ({ frames := 1, cells := 0, slots := 0, locals := 14 } : Room) ws #[(.int p0), (.ref a1), (.int (1 : Int32))] h0 n0 (Q_rmF_1_4 Z a1 ka uh um us h0 n0) := by
  refine Met.of pn_1 (fun m => ef_rmF_1_4 m p0 a1) ?_
  have K := Keep.refl h0 [a1]
  refine Own.iloadN d1_0 rfl ?_
  refine Own.sipush (3600 : Int32) d1_1 rfl ?_
  refine Own.idiv d1_4 (by decide) ?_
  rw [e_h]
  refine Own.istoreN #[.val (.int p0), .val (.ref a1), .val (.int (1 : Int32)), .val (.int uh), .unset, .unset, .unset, .unset, .unset, .unset] d1_5 rfl ?_
  refine Own.iloadN d1_6 rfl ?_
  refine Own.bipush (60 : Int32) d1_7 rfl ?_
  refine Own.idiv d1_9 (by decide) ?_
  refine Own.bipush (60 : Int32) d1_10 rfl ?_
  refine Own.irem_ d1_12 (by decide) ?_
  rw [e_m]
  refine Own.istore #[.val (.int p0), .val (.ref a1), .val (.int (1 : Int32)), .val (.int uh), .val (.int um), .unset, .unset, .unset, .unset, .unset] d1_13 rfl ?_
  refine Own.iloadN d1_15 rfl ?_
  refine Own.bipush (60 : Int32) d1_16 rfl ?_
  refine Own.irem_ d1_18 (by decide) ?_
  rw [e_s]
  refine Own.istore #[.val (.int p0), .val (.ref a1), .val (.int (1 : Int32)), .val (.int uh), .val (.int um), .val (.int us), .unset, .unset, .unset, .unset] d1_19 rfl ?_
  refine Own.iconst (2 : Int32) d1_21 rfl ?_
  refine Own.istore #[.val (.int p0), .val (.ref a1), .val (.int (1 : Int32)), .val (.int uh), .val (.int um), .val (.int us), .val (.int (2 : Int32)), .unset, .unset, .unset] d1_22 rfl ?_
  refine Own.iloadN d1_24 rfl ?_
  refine Own.bipush (100 : Int32) d1_25 rfl ?_
  refine Own.idiv d1_27 (by decide) ?_
  obtain ⟨ur0, e_ur0⟩ : ∃ z : Int32, z = (uh / (100 : Int32)) := ⟨_, rfl⟩
  rw [← e_ur0]
  have r_ur0 : ur0.toInt = uh.toInt / 100 := by
    rw [e_ur0]; exact own_div 100 rfl (by omega) (by omega)
  refine Own.istore #[.val (.int p0), .val (.ref a1), .val (.int (1 : Int32)), .val (.int uh), .val (.int um), .val (.int us), .val (.int (2 : Int32)), .val (.int ur0), .unset, .unset] d1_28 rfl ?_
  refine Own.iload d1_30 rfl ?_
  refine Own.if_le 48 d1_32 (by decide) rfl (fun q => absurd (by simp only [Int32.lt_iff_toInt_lt, Int32.reduceToInt]; omega) q) (fun _ => ?_)
  refine Own.iinc (1 : Int32) #[.val (.int p0), .val (.ref a1), .val (.int (1 : Int32)), .val (.int uh), .val (.int um), .val (.int us), .val (.int ((2 : Int32) + (1 : Int32))), .val (.int ur0), .unset, .unset] d1_35 rfl rfl rfl ?_
  refine OAt.castL (Ls' := #[.val (.int p0), .val (.ref a1), .val (.int (1 : Int32)), .val (.int uh), .val (.int um), .val (.int us), .val (.int (3 : Int32)), .val (.int ur0), .unset, .unset]) rfl rfl ?_
  refine Own.iload d1_38 rfl ?_
  refine Own.bipush (10 : Int32) d1_40 rfl ?_
  refine Own.idiv d1_42 (by decide) ?_
  obtain ⟨ur1, e_ur1⟩ : ∃ z : Int32, z = (ur0 / (10 : Int32)) := ⟨_, rfl⟩
  rw [← e_ur1]
  have r_ur1 : ur1.toInt = ur0.toInt / 10 := by
    rw [e_ur1]; rw [own_div 10 rfl (by omega) (by omega)]
  refine Own.istore #[.val (.int p0), .val (.ref a1), .val (.int (1 : Int32)), .val (.int uh), .val (.int um), .val (.int us), .val (.int (3 : Int32)), .val (.int ur1), .unset, .unset] d1_43 rfl ?_
  refine Own.goto_ 30 d1_45 (by decide) rfl ?_
  refine Own.iload d1_30 rfl ?_
  refine Own.if_le 48 d1_32 (by decide) rfl (fun q => absurd (by simp only [Int32.lt_iff_toInt_lt, Int32.reduceToInt]; omega) q) (fun _ => ?_)
  refine Own.iinc (1 : Int32) #[.val (.int p0), .val (.ref a1), .val (.int (1 : Int32)), .val (.int uh), .val (.int um), .val (.int us), .val (.int ((3 : Int32) + (1 : Int32))), .val (.int ur1), .unset, .unset] d1_35 rfl rfl rfl ?_
  refine OAt.castL (Ls' := #[.val (.int p0), .val (.ref a1), .val (.int (1 : Int32)), .val (.int uh), .val (.int um), .val (.int us), .val (.int (4 : Int32)), .val (.int ur1), .unset, .unset]) rfl rfl ?_
  refine Own.iload d1_38 rfl ?_
  refine Own.bipush (10 : Int32) d1_40 rfl ?_
  refine Own.idiv d1_42 (by decide) ?_
  obtain ⟨ur2, e_ur2⟩ : ∃ z : Int32, z = (ur1 / (10 : Int32)) := ⟨_, rfl⟩
  rw [← e_ur2]
  have r_ur2 : ur2.toInt = ur1.toInt / 10 := by
    rw [e_ur2]; rw [own_div 10 rfl (by omega) (by omega)]
  refine Own.istore #[.val (.int p0), .val (.ref a1), .val (.int (1 : Int32)), .val (.int uh), .val (.int um), .val (.int us), .val (.int (4 : Int32)), .val (.int ur2), .unset, .unset] d1_43 rfl ?_
  refine Own.goto_ 30 d1_45 (by decide) rfl ?_
  refine Own.iload d1_30 rfl ?_
  refine Own.if_le 48 d1_32 (by decide) rfl (fun _ => ?_) (fun q => absurd q (by simp only [Int32.lt_iff_toInt_lt, Int32.reduceToInt]; omega))
  refine Own.iloadN d1_48 rfl ?_
  refine Own.iload d1_49 rfl ?_
  refine Own.iadd d1_51 ?_
  refine OAt.cast (st' := [(.int (5 : Int32))]) rfl ?_
  refine Own.bipush (6 : Int32) d1_52 rfl ?_
  refine Own.iadd d1_54 ?_
  refine OAt.cast (st' := [(.int (11 : Int32))]) rfl ?_
  refine Own.istore #[.val (.int p0), .val (.ref a1), .val (.int (1 : Int32)), .val (.int uh), .val (.int um), .val (.int us), .val (.int (4 : Int32)), .val (.int (11 : Int32)), .unset, .unset] d1_55 rfl ?_
  refine Own.iload d1_57 rfl ?_
  refine Own.istore #[.val (.int p0), .val (.ref a1), .val (.int (1 : Int32)), .val (.int uh), .val (.int um), .val (.int us), .val (.int (4 : Int32)), .val (.int (11 : Int32)), .val (.int (11 : Int32)), .unset] d1_59 rfl ?_
  refine Own.aloadN d1_61 rfl rfl ?_
  refine Own.iinc (-1 : Int32) #[.val (.int p0), .val (.ref a1), .val (.int (1 : Int32)), .val (.int uh), .val (.int um), .val (.int us), .val (.int (4 : Int32)), .val (.int (11 : Int32)), .val (.int ((11 : Int32) + (-1 : Int32))), .unset] d1_62 rfl rfl rfl ?_
  refine OAt.castL (Ls' := #[.val (.int p0), .val (.ref a1), .val (.int (1 : Int32)), .val (.int uh), .val (.int um), .val (.int us), .val (.int (4 : Int32)), .val (.int (11 : Int32)), .val (.int (10 : Int32)), .unset]) rfl rfl ?_
  refine Own.iload d1_65 rfl ?_
  refine Own.iload d1_67 rfl ?_
  refine Own.bipush (10 : Int32) d1_69 rfl ?_
  refine Own.irem_ d1_71 (by decide) ?_
  refine Own.callSP [(.int (us % (10 : Int32)))] [(.int (10 : Int32)), (.ref a1)] 2 (rmD l Z a0 hw [] (us % (10 : Int32)) h0 n0 hn) (hw _ (List.mem_of_getElem? (i := 6) rfl)) (hw _ (List.mem_of_getElem? (i := 7) rfl)) (hw _ (List.mem_of_getElem? (i := 4) rfl)) (hw _ (List.mem_of_getElem? (i := 8) rfl)) (by decide) d1_72 pd_0 rfl rfl rfl rfl (by decide) (by decide) (by decide) (by decide) ?_
  refine Own.bastore_ V_a1 (i := 10) rfl (Nat.le_of_ble_eq_true rfl) g_a1 d1_75 (fun h68 W68 V68 => ?_)
  have hn : n0 ≤ h68.size := by rw [W68.size]; exact hn
  clear V_a1
  replace V68 : Arl Z h68 a1 ka .byte [own_x, own_x, own_x, own_x, own_x, own_x, own_x, own_x, own_x, own_x, (own_d (us % (10 : Int32))), own_x, own_x, own_x, own_x, own_x] := V68
  have K := K.wr W68 (Or.inl (List.mem_of_getElem? (i := 0) rfl))
  refine Own.aloadN d1_76 rfl rfl ?_
  refine Own.iinc (-1 : Int32) #[.val (.int p0), .val (.ref a1), .val (.int (1 : Int32)), .val (.int uh), .val (.int um), .val (.int us), .val (.int (4 : Int32)), .val (.int (11 : Int32)), .val (.int ((10 : Int32) + (-1 : Int32))), .unset] d1_77 rfl rfl rfl ?_
  refine OAt.castL (Ls' := #[.val (.int p0), .val (.ref a1), .val (.int (1 : Int32)), .val (.int uh), .val (.int um), .val (.int us), .val (.int (4 : Int32)), .val (.int (11 : Int32)), .val (.int (9 : Int32)), .unset]) rfl rfl ?_
  refine Own.iload d1_80 rfl ?_
  refine Own.iload d1_82 rfl ?_
  refine Own.bipush (10 : Int32) d1_84 rfl ?_
  refine Own.idiv d1_86 (by decide) ?_
  refine Own.callSP [(.int (us / (10 : Int32)))] [(.int (9 : Int32)), (.ref a1)] 2 (rmD l Z a0 hw [] (us / (10 : Int32)) h68 n0 hn) (hw _ (List.mem_of_getElem? (i := 6) rfl)) (hw _ (List.mem_of_getElem? (i := 7) rfl)) (hw _ (List.mem_of_getElem? (i := 4) rfl)) (hw _ (List.mem_of_getElem? (i := 8) rfl)) (by decide) d1_87 pd_0 rfl rfl rfl rfl (by decide) (by decide) (by decide) (by decide) ?_
  refine Own.bastore_ V68 (i := 9) rfl (Nat.le_of_ble_eq_true rfl) g_a1 d1_90 (fun h69 W69 V69 => ?_)
  have hn : n0 ≤ h69.size := by rw [W69.size]; exact hn
  clear V68
  replace V69 : Arl Z h69 a1 ka .byte [own_x, own_x, own_x, own_x, own_x, own_x, own_x, own_x, own_x, (own_d (us / (10 : Int32))), (own_d (us % (10 : Int32))), own_x, own_x, own_x, own_x, own_x] := V69
  have K := K.wr W69 (Or.inl (List.mem_of_getElem? (i := 0) rfl))
  refine Own.aloadN d1_91 rfl rfl ?_
  refine Own.iinc (-1 : Int32) #[.val (.int p0), .val (.ref a1), .val (.int (1 : Int32)), .val (.int uh), .val (.int um), .val (.int us), .val (.int (4 : Int32)), .val (.int (11 : Int32)), .val (.int ((9 : Int32) + (-1 : Int32))), .unset] d1_92 rfl rfl rfl ?_
  refine OAt.castL (Ls' := #[.val (.int p0), .val (.ref a1), .val (.int (1 : Int32)), .val (.int uh), .val (.int um), .val (.int us), .val (.int (4 : Int32)), .val (.int (11 : Int32)), .val (.int (8 : Int32)), .unset]) rfl rfl ?_
  refine Own.iload d1_95 rfl ?_
  refine Own.bipush (58 : Int32) d1_97 rfl ?_
  refine Own.bastore_ V69 (i := 8) rfl (Nat.le_of_ble_eq_true rfl) g_a1 d1_99 (fun h70 W70 V70 => ?_)
  have hn : n0 ≤ h70.size := by rw [W70.size]; exact hn
  clear V69
  replace V70 : Arl Z h70 a1 ka .byte [own_x, own_x, own_x, own_x, own_x, own_x, own_x, own_x, own_c, (own_d (us / (10 : Int32))), (own_d (us % (10 : Int32))), own_x, own_x, own_x, own_x, own_x] := V70
  have K := K.wr W70 (Or.inl (List.mem_of_getElem? (i := 0) rfl))
  refine Own.aloadN d1_100 rfl rfl ?_
  refine Own.iinc (-1 : Int32) #[.val (.int p0), .val (.ref a1), .val (.int (1 : Int32)), .val (.int uh), .val (.int um), .val (.int us), .val (.int (4 : Int32)), .val (.int (11 : Int32)), .val (.int ((8 : Int32) + (-1 : Int32))), .unset] d1_101 rfl rfl rfl ?_
  refine OAt.castL (Ls' := #[.val (.int p0), .val (.ref a1), .val (.int (1 : Int32)), .val (.int uh), .val (.int um), .val (.int us), .val (.int (4 : Int32)), .val (.int (11 : Int32)), .val (.int (7 : Int32)), .unset]) rfl rfl ?_
  refine Own.iload d1_104 rfl ?_
  refine Own.iload d1_106 rfl ?_
  refine Own.bipush (10 : Int32) d1_108 rfl ?_
  refine Own.irem_ d1_110 (by decide) ?_
  refine Own.callSP [(.int (um % (10 : Int32)))] [(.int (7 : Int32)), (.ref a1)] 2 (rmD l Z a0 hw [] (um % (10 : Int32)) h70 n0 hn) (hw _ (List.mem_of_getElem? (i := 6) rfl)) (hw _ (List.mem_of_getElem? (i := 7) rfl)) (hw _ (List.mem_of_getElem? (i := 4) rfl)) (hw _ (List.mem_of_getElem? (i := 8) rfl)) (by decide) d1_111 pd_0 rfl rfl rfl rfl (by decide) (by decide) (by decide) (by decide) ?_
  refine Own.bastore_ V70 (i := 7) rfl (Nat.le_of_ble_eq_true rfl) g_a1 d1_114 (fun h71 W71 V71 => ?_)
  have hn : n0 ≤ h71.size := by rw [W71.size]; exact hn
  clear V70
  replace V71 : Arl Z h71 a1 ka .byte [own_x, own_x, own_x, own_x, own_x, own_x, own_x, (own_d (um % (10 : Int32))), own_c, (own_d (us / (10 : Int32))), (own_d (us % (10 : Int32))), own_x, own_x, own_x, own_x, own_x] := V71
  have K := K.wr W71 (Or.inl (List.mem_of_getElem? (i := 0) rfl))
  refine Own.aloadN d1_115 rfl rfl ?_
  refine Own.iinc (-1 : Int32) #[.val (.int p0), .val (.ref a1), .val (.int (1 : Int32)), .val (.int uh), .val (.int um), .val (.int us), .val (.int (4 : Int32)), .val (.int (11 : Int32)), .val (.int ((7 : Int32) + (-1 : Int32))), .unset] d1_116 rfl rfl rfl ?_
  refine OAt.castL (Ls' := #[.val (.int p0), .val (.ref a1), .val (.int (1 : Int32)), .val (.int uh), .val (.int um), .val (.int us), .val (.int (4 : Int32)), .val (.int (11 : Int32)), .val (.int (6 : Int32)), .unset]) rfl rfl ?_
  refine Own.iload d1_119 rfl ?_
  refine Own.iload d1_121 rfl ?_
  refine Own.bipush (10 : Int32) d1_123 rfl ?_
  refine Own.idiv d1_125 (by decide) ?_
  refine Own.callSP [(.int (um / (10 : Int32)))] [(.int (6 : Int32)), (.ref a1)] 2 (rmD l Z a0 hw [] (um / (10 : Int32)) h71 n0 hn) (hw _ (List.mem_of_getElem? (i := 6) rfl)) (hw _ (List.mem_of_getElem? (i := 7) rfl)) (hw _ (List.mem_of_getElem? (i := 4) rfl)) (hw _ (List.mem_of_getElem? (i := 8) rfl)) (by decide) d1_126 pd_0 rfl rfl rfl rfl (by decide) (by decide) (by decide) (by decide) ?_
  refine Own.bastore_ V71 (i := 6) rfl (Nat.le_of_ble_eq_true rfl) g_a1 d1_129 (fun h72 W72 V72 => ?_)
  have hn : n0 ≤ h72.size := by rw [W72.size]; exact hn
  clear V71
  replace V72 : Arl Z h72 a1 ka .byte [own_x, own_x, own_x, own_x, own_x, own_x, (own_d (um / (10 : Int32))), (own_d (um % (10 : Int32))), own_c, (own_d (us / (10 : Int32))), (own_d (us % (10 : Int32))), own_x, own_x, own_x, own_x, own_x] := V72
  have K := K.wr W72 (Or.inl (List.mem_of_getElem? (i := 0) rfl))
  refine Own.aloadN d1_130 rfl rfl ?_
  refine Own.iinc (-1 : Int32) #[.val (.int p0), .val (.ref a1), .val (.int (1 : Int32)), .val (.int uh), .val (.int um), .val (.int us), .val (.int (4 : Int32)), .val (.int (11 : Int32)), .val (.int ((6 : Int32) + (-1 : Int32))), .unset] d1_131 rfl rfl rfl ?_
  refine OAt.castL (Ls' := #[.val (.int p0), .val (.ref a1), .val (.int (1 : Int32)), .val (.int uh), .val (.int um), .val (.int us), .val (.int (4 : Int32)), .val (.int (11 : Int32)), .val (.int (5 : Int32)), .unset]) rfl rfl ?_
  refine Own.iload d1_134 rfl ?_
  refine Own.bipush (58 : Int32) d1_136 rfl ?_
  refine Own.bastore_ V72 (i := 5) rfl (Nat.le_of_ble_eq_true rfl) g_a1 d1_138 (fun h73 W73 V73 => ?_)
  have hn : n0 ≤ h73.size := by rw [W73.size]; exact hn
  clear V72
  replace V73 : Arl Z h73 a1 ka .byte [own_x, own_x, own_x, own_x, own_x, own_c, (own_d (um / (10 : Int32))), (own_d (um % (10 : Int32))), own_c, (own_d (us / (10 : Int32))), (own_d (us % (10 : Int32))), own_x, own_x, own_x, own_x, own_x] := V73
  have K := K.wr W73 (Or.inl (List.mem_of_getElem? (i := 0) rfl))
  refine Own.iloadN d1_139 rfl ?_
  refine Own.istore #[.val (.int p0), .val (.ref a1), .val (.int (1 : Int32)), .val (.int uh), .val (.int um), .val (.int us), .val (.int (4 : Int32)), .val (.int (11 : Int32)), .val (.int (5 : Int32)), .val (.int uh)] d1_140 rfl ?_
  refine Own.iload d1_142 rfl ?_
  refine Own.iloadN d1_144 rfl ?_
  refine Own.icmp_le 173 d1_145 (by decide) rfl (fun q => absurd (by decide) q) (fun _ => ?_)
  refine Own.aloadN d1_148 rfl rfl ?_
  refine Own.iinc (-1 : Int32) #[.val (.int p0), .val (.ref a1), .val (.int (1 : Int32)), .val (.int uh), .val (.int um), .val (.int us), .val (.int (4 : Int32)), .val (.int (11 : Int32)), .val (.int ((5 : Int32) + (-1 : Int32))), .val (.int uh)] d1_149 rfl rfl rfl ?_
  refine OAt.castL (Ls' := #[.val (.int p0), .val (.ref a1), .val (.int (1 : Int32)), .val (.int uh), .val (.int um), .val (.int us), .val (.int (4 : Int32)), .val (.int (11 : Int32)), .val (.int (4 : Int32)), .val (.int uh)]) rfl rfl ?_
  refine Own.iload d1_152 rfl ?_
  refine Own.iload d1_154 rfl ?_
  refine Own.bipush (10 : Int32) d1_156 rfl ?_
  refine Own.irem_ d1_158 (by decide) ?_
  refine Own.callSP [(.int (uh % (10 : Int32)))] [(.int (4 : Int32)), (.ref a1)] 2 (rmD l Z a0 hw [] (uh % (10 : Int32)) h73 n0 hn) (hw _ (List.mem_of_getElem? (i := 6) rfl)) (hw _ (List.mem_of_getElem? (i := 7) rfl)) (hw _ (List.mem_of_getElem? (i := 4) rfl)) (hw _ (List.mem_of_getElem? (i := 8) rfl)) (by decide) d1_159 pd_0 rfl rfl rfl rfl (by decide) (by decide) (by decide) (by decide) ?_
  refine Own.bastore_ V73 (i := 4) rfl (Nat.le_of_ble_eq_true rfl) g_a1 d1_162 (fun h74 W74 V74 => ?_)
  have hn : n0 ≤ h74.size := by rw [W74.size]; exact hn
  clear V73
  replace V74 : Arl Z h74 a1 ka .byte [own_x, own_x, own_x, own_x, (own_d (uh % (10 : Int32))), own_c, (own_d (um / (10 : Int32))), (own_d (um % (10 : Int32))), own_c, (own_d (us / (10 : Int32))), (own_d (us % (10 : Int32))), own_x, own_x, own_x, own_x, own_x] := V74
  have K := K.wr W74 (Or.inl (List.mem_of_getElem? (i := 0) rfl))
  refine Own.iload d1_163 rfl ?_
  refine Own.bipush (10 : Int32) d1_165 rfl ?_
  refine Own.idiv d1_167 (by decide) ?_
  refine Own.istore #[.val (.int p0), .val (.ref a1), .val (.int (1 : Int32)), .val (.int uh), .val (.int um), .val (.int us), .val (.int (4 : Int32)), .val (.int (11 : Int32)), .val (.int (4 : Int32)), .val (.int (uh / (10 : Int32)))] d1_168 rfl ?_
  refine Own.goto_ 142 d1_170 (by decide) rfl ?_
  refine Own.iload d1_142 rfl ?_
  refine Own.iloadN d1_144 rfl ?_
  refine Own.icmp_le 173 d1_145 (by decide) rfl (fun q => absurd (by decide) q) (fun _ => ?_)
  refine Own.aloadN d1_148 rfl rfl ?_
  refine Own.iinc (-1 : Int32) #[.val (.int p0), .val (.ref a1), .val (.int (1 : Int32)), .val (.int uh), .val (.int um), .val (.int us), .val (.int (4 : Int32)), .val (.int (11 : Int32)), .val (.int ((4 : Int32) + (-1 : Int32))), .val (.int (uh / (10 : Int32)))] d1_149 rfl rfl rfl ?_
  refine OAt.castL (Ls' := #[.val (.int p0), .val (.ref a1), .val (.int (1 : Int32)), .val (.int uh), .val (.int um), .val (.int us), .val (.int (4 : Int32)), .val (.int (11 : Int32)), .val (.int (3 : Int32)), .val (.int (uh / (10 : Int32)))]) rfl rfl ?_
  refine Own.iload d1_152 rfl ?_
  refine Own.iload d1_154 rfl ?_
  refine Own.bipush (10 : Int32) d1_156 rfl ?_
  refine Own.irem_ d1_158 (by decide) ?_
  refine Own.callSP [(.int ((uh / (10 : Int32)) % (10 : Int32)))] [(.int (3 : Int32)), (.ref a1)] 2 (rmD l Z a0 hw [] ((uh / (10 : Int32)) % (10 : Int32)) h74 n0 hn) (hw _ (List.mem_of_getElem? (i := 6) rfl)) (hw _ (List.mem_of_getElem? (i := 7) rfl)) (hw _ (List.mem_of_getElem? (i := 4) rfl)) (hw _ (List.mem_of_getElem? (i := 8) rfl)) (by decide) d1_159 pd_0 rfl rfl rfl rfl (by decide) (by decide) (by decide) (by decide) ?_
  refine Own.bastore_ V74 (i := 3) rfl (Nat.le_of_ble_eq_true rfl) g_a1 d1_162 (fun h75 W75 V75 => ?_)
  have hn : n0 ≤ h75.size := by rw [W75.size]; exact hn
  clear V74
  replace V75 : Arl Z h75 a1 ka .byte [own_x, own_x, own_x, (own_d ((uh / (10 : Int32)) % (10 : Int32))), (own_d (uh % (10 : Int32))), own_c, (own_d (um / (10 : Int32))), (own_d (um % (10 : Int32))), own_c, (own_d (us / (10 : Int32))), (own_d (us % (10 : Int32))), own_x, own_x, own_x, own_x, own_x] := V75
  have K := K.wr W75 (Or.inl (List.mem_of_getElem? (i := 0) rfl))
  refine Own.iload d1_163 rfl ?_
  refine Own.bipush (10 : Int32) d1_165 rfl ?_
  refine Own.idiv d1_167 (by decide) ?_
  refine Own.istore #[.val (.int p0), .val (.ref a1), .val (.int (1 : Int32)), .val (.int uh), .val (.int um), .val (.int us), .val (.int (4 : Int32)), .val (.int (11 : Int32)), .val (.int (3 : Int32)), .val (.int ((uh / (10 : Int32)) / (10 : Int32)))] d1_168 rfl ?_
  refine Own.goto_ 142 d1_170 (by decide) rfl ?_
  refine Own.iload d1_142 rfl ?_
  refine Own.iloadN d1_144 rfl ?_
  refine Own.icmp_le 173 d1_145 (by decide) rfl (fun q => absurd (by decide) q) (fun _ => ?_)
  refine Own.aloadN d1_148 rfl rfl ?_
  refine Own.iinc (-1 : Int32) #[.val (.int p0), .val (.ref a1), .val (.int (1 : Int32)), .val (.int uh), .val (.int um), .val (.int us), .val (.int (4 : Int32)), .val (.int (11 : Int32)), .val (.int ((3 : Int32) + (-1 : Int32))), .val (.int ((uh / (10 : Int32)) / (10 : Int32)))] d1_149 rfl rfl rfl ?_
  refine OAt.castL (Ls' := #[.val (.int p0), .val (.ref a1), .val (.int (1 : Int32)), .val (.int uh), .val (.int um), .val (.int us), .val (.int (4 : Int32)), .val (.int (11 : Int32)), .val (.int (2 : Int32)), .val (.int ((uh / (10 : Int32)) / (10 : Int32)))]) rfl rfl ?_
  refine Own.iload d1_152 rfl ?_
  refine Own.iload d1_154 rfl ?_
  refine Own.bipush (10 : Int32) d1_156 rfl ?_
  refine Own.irem_ d1_158 (by decide) ?_
  refine Own.callSP [(.int (((uh / (10 : Int32)) / (10 : Int32)) % (10 : Int32)))] [(.int (2 : Int32)), (.ref a1)] 2 (rmD l Z a0 hw [] (((uh / (10 : Int32)) / (10 : Int32)) % (10 : Int32)) h75 n0 hn) (hw _ (List.mem_of_getElem? (i := 6) rfl)) (hw _ (List.mem_of_getElem? (i := 7) rfl)) (hw _ (List.mem_of_getElem? (i := 4) rfl)) (hw _ (List.mem_of_getElem? (i := 8) rfl)) (by decide) d1_159 pd_0 rfl rfl rfl rfl (by decide) (by decide) (by decide) (by decide) ?_
  refine Own.bastore_ V75 (i := 2) rfl (Nat.le_of_ble_eq_true rfl) g_a1 d1_162 (fun h76 W76 V76 => ?_)
  have hn : n0 ≤ h76.size := by rw [W76.size]; exact hn
  clear V75
  replace V76 : Arl Z h76 a1 ka .byte [own_x, own_x, (own_d (((uh / (10 : Int32)) / (10 : Int32)) % (10 : Int32))), (own_d ((uh / (10 : Int32)) % (10 : Int32))), (own_d (uh % (10 : Int32))), own_c, (own_d (um / (10 : Int32))), (own_d (um % (10 : Int32))), own_c, (own_d (us / (10 : Int32))), (own_d (us % (10 : Int32))), own_x, own_x, own_x, own_x, own_x] := V76
  have K := K.wr W76 (Or.inl (List.mem_of_getElem? (i := 0) rfl))
  refine Own.iload d1_163 rfl ?_
  refine Own.bipush (10 : Int32) d1_165 rfl ?_
  refine Own.idiv d1_167 (by decide) ?_
  refine Own.istore #[.val (.int p0), .val (.ref a1), .val (.int (1 : Int32)), .val (.int uh), .val (.int um), .val (.int us), .val (.int (4 : Int32)), .val (.int (11 : Int32)), .val (.int (2 : Int32)), .val (.int (((uh / (10 : Int32)) / (10 : Int32)) / (10 : Int32)))] d1_168 rfl ?_
  refine Own.goto_ 142 d1_170 (by decide) rfl ?_
  refine Own.iload d1_142 rfl ?_
  refine Own.iloadN d1_144 rfl ?_
  refine Own.icmp_le 173 d1_145 (by decide) rfl (fun q => absurd (by decide) q) (fun _ => ?_)
  refine Own.aloadN d1_148 rfl rfl ?_
  refine Own.iinc (-1 : Int32) #[.val (.int p0), .val (.ref a1), .val (.int (1 : Int32)), .val (.int uh), .val (.int um), .val (.int us), .val (.int (4 : Int32)), .val (.int (11 : Int32)), .val (.int ((2 : Int32) + (-1 : Int32))), .val (.int (((uh / (10 : Int32)) / (10 : Int32)) / (10 : Int32)))] d1_149 rfl rfl rfl ?_
  refine OAt.castL (Ls' := #[.val (.int p0), .val (.ref a1), .val (.int (1 : Int32)), .val (.int uh), .val (.int um), .val (.int us), .val (.int (4 : Int32)), .val (.int (11 : Int32)), .val (.int (1 : Int32)), .val (.int (((uh / (10 : Int32)) / (10 : Int32)) / (10 : Int32)))]) rfl rfl ?_
  refine Own.iload d1_152 rfl ?_
  refine Own.iload d1_154 rfl ?_
  refine Own.bipush (10 : Int32) d1_156 rfl ?_
  refine Own.irem_ d1_158 (by decide) ?_
  refine Own.callSP [(.int ((((uh / (10 : Int32)) / (10 : Int32)) / (10 : Int32)) % (10 : Int32)))] [(.int (1 : Int32)), (.ref a1)] 2 (rmD l Z a0 hw [] ((((uh / (10 : Int32)) / (10 : Int32)) / (10 : Int32)) % (10 : Int32)) h76 n0 hn) (hw _ (List.mem_of_getElem? (i := 6) rfl)) (hw _ (List.mem_of_getElem? (i := 7) rfl)) (hw _ (List.mem_of_getElem? (i := 4) rfl)) (hw _ (List.mem_of_getElem? (i := 8) rfl)) (by decide) d1_159 pd_0 rfl rfl rfl rfl (by decide) (by decide) (by decide) (by decide) ?_
  refine Own.bastore_ V76 (i := 1) rfl (Nat.le_of_ble_eq_true rfl) g_a1 d1_162 (fun h77 W77 V77 => ?_)
  have hn : n0 ≤ h77.size := by rw [W77.size]; exact hn
  clear V76
  replace V77 : Arl Z h77 a1 ka .byte [own_x, (own_d ((((uh / (10 : Int32)) / (10 : Int32)) / (10 : Int32)) % (10 : Int32))), (own_d (((uh / (10 : Int32)) / (10 : Int32)) % (10 : Int32))), (own_d ((uh / (10 : Int32)) % (10 : Int32))), (own_d (uh % (10 : Int32))), own_c, (own_d (um / (10 : Int32))), (own_d (um % (10 : Int32))), own_c, (own_d (us / (10 : Int32))), (own_d (us % (10 : Int32))), own_x, own_x, own_x, own_x, own_x] := V77
  have K := K.wr W77 (Or.inl (List.mem_of_getElem? (i := 0) rfl))
  refine Own.iload d1_163 rfl ?_
  refine Own.bipush (10 : Int32) d1_165 rfl ?_
  refine Own.idiv d1_167 (by decide) ?_
  refine Own.istore #[.val (.int p0), .val (.ref a1), .val (.int (1 : Int32)), .val (.int uh), .val (.int um), .val (.int us), .val (.int (4 : Int32)), .val (.int (11 : Int32)), .val (.int (1 : Int32)), .val (.int ((((uh / (10 : Int32)) / (10 : Int32)) / (10 : Int32)) / (10 : Int32)))] d1_168 rfl ?_
  refine Own.goto_ 142 d1_170 (by decide) rfl ?_
  refine Own.iload d1_142 rfl ?_
  refine Own.iloadN d1_144 rfl ?_
  refine Own.icmp_le 173 d1_145 (by decide) rfl (fun _ => ?_) (fun q => absurd q (by decide))
  refine Own.iload d1_173 rfl ?_
  refine Own.ret_int rfl d1_175 (by decide) (by decide) ?_
  exact ⟨rfl, K, V77⟩
def Q_rmF_1_5 (Z : State) (a1 : Addr) (ka : ClassId) (uh : Int32) (um : Int32) (us : Int32) (h0 : Heap) (n0 : Nat) (v : Option Value) (h : Heap) : Prop := v = some (.int (12 : Int32)) ∧ Keep h0 h [a1] ∧ Arl Z h a1 ka .byte [own_x, (own_d (((((uh / (10 : Int32)) / (10 : Int32)) / (10 : Int32)) / (10 : Int32)) % (10 : Int32))), (own_d ((((uh / (10 : Int32)) / (10 : Int32)) / (10 : Int32)) % (10 : Int32))), (own_d (((uh / (10 : Int32)) / (10 : Int32)) % (10 : Int32))), (own_d ((uh / (10 : Int32)) % (10 : Int32))), (own_d (uh % (10 : Int32))), own_c, (own_d (um / (10 : Int32))), (own_d (um % (10 : Int32))), own_c, (own_d (us / (10 : Int32))), (own_d (us % (10 : Int32))), own_x, own_x, own_x, own_x]
theorem ef_rmF_1_5 (m : MethodId) (p0 : Int32) (a1 : Addr)  : entryFrame m #[(.int p0), (.ref a1), (.int (1 : Int32))] 10 = mkF m 0 #[.val (.int p0), .val (.ref a1), .val (.int (1 : Int32)), .unset, .unset, .unset, .unset, .unset, .unset, .unset] [] := by first | (simp [entryFrame, mkF, argsToLocals, Value.category]; done) | rfl
set_option maxRecDepth 65536 in
set_option maxHeartbeats 40000000 in
theorem rmF_1_5 (l : Launch) (Z : State) (a0 : Array Value) (hw : ∀ d ∈ tables_1, d.before a0 Z = true) (ws : List Jvm.Cond) (p0 : Int32) (a1 : Addr) (ka : ClassId) (uh : Int32) (um : Int32) (us : Int32) (h0 : Heap) (n0 : Nat) (hn : n0 ≤ h0.size) (V_a1 : Arl Z h0 a1 ka .byte [own_x, own_x, own_x, own_x, own_x, own_x, own_x, own_x, own_x, own_x, own_x, own_x, own_x, own_x, own_x, own_x]) (g_a1 : n0 ≤ a1) (e_h : p0 / (3600 : Int32) = uh) (e_m : (p0 / (60 : Int32)) % (60 : Int32) = um) (e_s : p0 % (60 : Int32) = us) (hl : 10000 ≤ uh.toInt) (hu : uh.toInt < 100000) :
    Met false l Z (⟨"com/example/voznired/voznired/timetable/StopTime", "formatTime", "(I[BI)I"⟩ : MethodName) prog_118_method_10_code 10 (some .int) ({ frames := 1, cells := 0, slots := 0, locals := 14 } : Room) ws #[(.int p0), (.ref a1), (.int (1 : Int32))] h0 n0 (Q_rmF_1_5 Z a1 ka uh um us h0 n0) := by
  refine Met.of pn_1 (fun m => ef_rmF_1_5 m p0 a1) ?_
  have K := Keep.refl h0 [a1]
  refine Own.iloadN d1_0 rfl ?_
  refine Own.sipush (3600 : Int32) d1_1 rfl ?_
  refine Own.idiv d1_4 (by decide) ?_
  rw [e_h]
  refine Own.istoreN #[.val (.int p0), .val (.ref a1), .val (.int (1 : Int32)), .val (.int uh), .unset, .unset, .unset, .unset, .unset, .unset] d1_5 rfl ?_
  refine Own.iloadN d1_6 rfl ?_
  refine Own.bipush (60 : Int32) d1_7 rfl ?_
  refine Own.idiv d1_9 (by decide) ?_
  refine Own.bipush (60 : Int32) d1_10 rfl ?_
  refine Own.irem_ d1_12 (by decide) ?_
  rw [e_m]
  refine Own.istore #[.val (.int p0), .val (.ref a1), .val (.int (1 : Int32)), .val (.int uh), .val (.int um), .unset, .unset, .unset, .unset, .unset] d1_13 rfl ?_
  refine Own.iloadN d1_15 rfl ?_
  refine Own.bipush (60 : Int32) d1_16 rfl ?_
  refine Own.irem_ d1_18 (by decide) ?_
  rw [e_s]
  refine Own.istore #[.val (.int p0), .val (.ref a1), .val (.int (1 : Int32)), .val (.int uh), .val (.int um), .val (.int us), .unset, .unset, .unset, .unset] d1_19 rfl ?_
  refine Own.iconst (2 : Int32) d1_21 rfl ?_
  refine Own.istore #[.val (.int p0), .val (.ref a1), .val (.int (1 : Int32)), .val (.int uh), .val (.int um), .val (.int us), .val (.int (2 : Int32)), .unset, .unset, .unset] d1_22 rfl ?_
  refine Own.iloadN d1_24 rfl ?_
  refine Own.bipush (100 : Int32) d1_25 rfl ?_
  refine Own.idiv d1_27 (by decide) ?_
  obtain ⟨ur0, e_ur0⟩ : ∃ z : Int32, z = (uh / (100 : Int32)) := ⟨_, rfl⟩
  rw [← e_ur0]
  have r_ur0 : ur0.toInt = uh.toInt / 100 := by
    rw [e_ur0]; exact own_div 100 rfl (by omega) (by omega)
  refine Own.istore #[.val (.int p0), .val (.ref a1), .val (.int (1 : Int32)), .val (.int uh), .val (.int um), .val (.int us), .val (.int (2 : Int32)), .val (.int ur0), .unset, .unset] d1_28 rfl ?_
  refine Own.iload d1_30 rfl ?_
  refine Own.if_le 48 d1_32 (by decide) rfl (fun q => absurd (by simp only [Int32.lt_iff_toInt_lt, Int32.reduceToInt]; omega) q) (fun _ => ?_)
  refine Own.iinc (1 : Int32) #[.val (.int p0), .val (.ref a1), .val (.int (1 : Int32)), .val (.int uh), .val (.int um), .val (.int us), .val (.int ((2 : Int32) + (1 : Int32))), .val (.int ur0), .unset, .unset] d1_35 rfl rfl rfl ?_
  refine OAt.castL (Ls' := #[.val (.int p0), .val (.ref a1), .val (.int (1 : Int32)), .val (.int uh), .val (.int um), .val (.int us), .val (.int (3 : Int32)), .val (.int ur0), .unset, .unset]) rfl rfl ?_
  refine Own.iload d1_38 rfl ?_
  refine Own.bipush (10 : Int32) d1_40 rfl ?_
  refine Own.idiv d1_42 (by decide) ?_
  obtain ⟨ur1, e_ur1⟩ : ∃ z : Int32, z = (ur0 / (10 : Int32)) := ⟨_, rfl⟩
  rw [← e_ur1]
  have r_ur1 : ur1.toInt = ur0.toInt / 10 := by
    rw [e_ur1]; rw [own_div 10 rfl (by omega) (by omega)]
  refine Own.istore #[.val (.int p0), .val (.ref a1), .val (.int (1 : Int32)), .val (.int uh), .val (.int um), .val (.int us), .val (.int (3 : Int32)), .val (.int ur1), .unset, .unset] d1_43 rfl ?_
  refine Own.goto_ 30 d1_45 (by decide) rfl ?_
  refine Own.iload d1_30 rfl ?_
  refine Own.if_le 48 d1_32 (by decide) rfl (fun q => absurd (by simp only [Int32.lt_iff_toInt_lt, Int32.reduceToInt]; omega) q) (fun _ => ?_)
  refine Own.iinc (1 : Int32) #[.val (.int p0), .val (.ref a1), .val (.int (1 : Int32)), .val (.int uh), .val (.int um), .val (.int us), .val (.int ((3 : Int32) + (1 : Int32))), .val (.int ur1), .unset, .unset] d1_35 rfl rfl rfl ?_
  refine OAt.castL (Ls' := #[.val (.int p0), .val (.ref a1), .val (.int (1 : Int32)), .val (.int uh), .val (.int um), .val (.int us), .val (.int (4 : Int32)), .val (.int ur1), .unset, .unset]) rfl rfl ?_
  refine Own.iload d1_38 rfl ?_
  refine Own.bipush (10 : Int32) d1_40 rfl ?_
  refine Own.idiv d1_42 (by decide) ?_
  obtain ⟨ur2, e_ur2⟩ : ∃ z : Int32, z = (ur1 / (10 : Int32)) := ⟨_, rfl⟩
  rw [← e_ur2]
  have r_ur2 : ur2.toInt = ur1.toInt / 10 := by
    rw [e_ur2]; rw [own_div 10 rfl (by omega) (by omega)]
  refine Own.istore #[.val (.int p0), .val (.ref a1), .val (.int (1 : Int32)), .val (.int uh), .val (.int um), .val (.int us), .val (.int (4 : Int32)), .val (.int ur2), .unset, .unset] d1_43 rfl ?_
  refine Own.goto_ 30 d1_45 (by decide) rfl ?_
  refine Own.iload d1_30 rfl ?_
  refine Own.if_le 48 d1_32 (by decide) rfl (fun q => absurd (by simp only [Int32.lt_iff_toInt_lt, Int32.reduceToInt]; omega) q) (fun _ => ?_)
  refine Own.iinc (1 : Int32) #[.val (.int p0), .val (.ref a1), .val (.int (1 : Int32)), .val (.int uh), .val (.int um), .val (.int us), .val (.int ((4 : Int32) + (1 : Int32))), .val (.int ur2), .unset, .unset] d1_35 rfl rfl rfl ?_
  refine OAt.castL (Ls' := #[.val (.int p0), .val (.ref a1), .val (.int (1 : Int32)), .val (.int uh), .val (.int um), .val (.int us), .val (.int (5 : Int32)), .val (.int ur2), .unset, .unset]) rfl rfl ?_
  refine Own.iload d1_38 rfl ?_
  refine Own.bipush (10 : Int32) d1_40 rfl ?_
  refine Own.idiv d1_42 (by decide) ?_
  obtain ⟨ur3, e_ur3⟩ : ∃ z : Int32, z = (ur2 / (10 : Int32)) := ⟨_, rfl⟩
  rw [← e_ur3]
  have r_ur3 : ur3.toInt = ur2.toInt / 10 := by
    rw [e_ur3]; rw [own_div 10 rfl (by omega) (by omega)]
  refine Own.istore #[.val (.int p0), .val (.ref a1), .val (.int (1 : Int32)), .val (.int uh), .val (.int um), .val (.int us), .val (.int (5 : Int32)), .val (.int ur3), .unset, .unset] d1_43 rfl ?_
  refine Own.goto_ 30 d1_45 (by decide) rfl ?_
  refine Own.iload d1_30 rfl ?_
  refine Own.if_le 48 d1_32 (by decide) rfl (fun _ => ?_) (fun q => absurd q (by simp only [Int32.lt_iff_toInt_lt, Int32.reduceToInt]; omega))
  refine Own.iloadN d1_48 rfl ?_
  refine Own.iload d1_49 rfl ?_
  refine Own.iadd d1_51 ?_
  refine OAt.cast (st' := [(.int (6 : Int32))]) rfl ?_
  refine Own.bipush (6 : Int32) d1_52 rfl ?_
  refine Own.iadd d1_54 ?_
  refine OAt.cast (st' := [(.int (12 : Int32))]) rfl ?_
  refine Own.istore #[.val (.int p0), .val (.ref a1), .val (.int (1 : Int32)), .val (.int uh), .val (.int um), .val (.int us), .val (.int (5 : Int32)), .val (.int (12 : Int32)), .unset, .unset] d1_55 rfl ?_
  refine Own.iload d1_57 rfl ?_
  refine Own.istore #[.val (.int p0), .val (.ref a1), .val (.int (1 : Int32)), .val (.int uh), .val (.int um), .val (.int us), .val (.int (5 : Int32)), .val (.int (12 : Int32)), .val (.int (12 : Int32)), .unset] d1_59 rfl ?_
  refine Own.aloadN d1_61 rfl rfl ?_
  refine Own.iinc (-1 : Int32) #[.val (.int p0), .val (.ref a1), .val (.int (1 : Int32)), .val (.int uh), .val (.int um), .val (.int us), .val (.int (5 : Int32)), .val (.int (12 : Int32)), .val (.int ((12 : Int32) + (-1 : Int32))), .unset] d1_62 rfl rfl rfl ?_
  refine OAt.castL (Ls' := #[.val (.int p0), .val (.ref a1), .val (.int (1 : Int32)), .val (.int uh), .val (.int um), .val (.int us), .val (.int (5 : Int32)), .val (.int (12 : Int32)), .val (.int (11 : Int32)), .unset]) rfl rfl ?_
  refine Own.iload d1_65 rfl ?_
  refine Own.iload d1_67 rfl ?_
  refine Own.bipush (10 : Int32) d1_69 rfl ?_
  refine Own.irem_ d1_71 (by decide) ?_
  refine Own.callSP [(.int (us % (10 : Int32)))] [(.int (11 : Int32)), (.ref a1)] 2 (rmD l Z a0 hw [] (us % (10 : Int32)) h0 n0 hn) (hw _ (List.mem_of_getElem? (i := 6) rfl)) (hw _ (List.mem_of_getElem? (i := 7) rfl)) (hw _ (List.mem_of_getElem? (i := 4) rfl)) (hw _ (List.mem_of_getElem? (i := 8) rfl)) (by decide) d1_72 pd_0 rfl rfl rfl rfl (by decide) (by decide) (by decide) (by decide) ?_
  refine Own.bastore_ V_a1 (i := 11) rfl (Nat.le_of_ble_eq_true rfl) g_a1 d1_75 (fun h78 W78 V78 => ?_)
  have hn : n0 ≤ h78.size := by rw [W78.size]; exact hn
  clear V_a1
  replace V78 : Arl Z h78 a1 ka .byte [own_x, own_x, own_x, own_x, own_x, own_x, own_x, own_x, own_x, own_x, own_x, (own_d (us % (10 : Int32))), own_x, own_x, own_x, own_x] := V78
  have K := K.wr W78 (Or.inl (List.mem_of_getElem? (i := 0) rfl))
  refine Own.aloadN d1_76 rfl rfl ?_
  refine Own.iinc (-1 : Int32) #[.val (.int p0), .val (.ref a1), .val (.int (1 : Int32)), .val (.int uh), .val (.int um), .val (.int us), .val (.int (5 : Int32)), .val (.int (12 : Int32)), .val (.int ((11 : Int32) + (-1 : Int32))), .unset] d1_77 rfl rfl rfl ?_
  refine OAt.castL (Ls' := #[.val (.int p0), .val (.ref a1), .val (.int (1 : Int32)), .val (.int uh), .val (.int um), .val (.int us), .val (.int (5 : Int32)), .val (.int (12 : Int32)), .val (.int (10 : Int32)), .unset]) rfl rfl ?_
  refine Own.iload d1_80 rfl ?_
  refine Own.iload d1_82 rfl ?_
  refine Own.bipush (10 : Int32) d1_84 rfl ?_
  refine Own.idiv d1_86 (by decide) ?_
  refine Own.callSP [(.int (us / (10 : Int32)))] [(.int (10 : Int32)), (.ref a1)] 2 (rmD l Z a0 hw [] (us / (10 : Int32)) h78 n0 hn) (hw _ (List.mem_of_getElem? (i := 6) rfl)) (hw _ (List.mem_of_getElem? (i := 7) rfl)) (hw _ (List.mem_of_getElem? (i := 4) rfl)) (hw _ (List.mem_of_getElem? (i := 8) rfl)) (by decide) d1_87 pd_0 rfl rfl rfl rfl (by decide) (by decide) (by decide) (by decide) ?_
  refine Own.bastore_ V78 (i := 10) rfl (Nat.le_of_ble_eq_true rfl) g_a1 d1_90 (fun h79 W79 V79 => ?_)
  have hn : n0 ≤ h79.size := by rw [W79.size]; exact hn
  clear V78
  replace V79 : Arl Z h79 a1 ka .byte [own_x, own_x, own_x, own_x, own_x, own_x, own_x, own_x, own_x, own_x, (own_d (us / (10 : Int32))), (own_d (us % (10 : Int32))), own_x, own_x, own_x, own_x] := V79
  have K := K.wr W79 (Or.inl (List.mem_of_getElem? (i := 0) rfl))
  refine Own.aloadN d1_91 rfl rfl ?_
  refine Own.iinc (-1 : Int32) #[.val (.int p0), .val (.ref a1), .val (.int (1 : Int32)), .val (.int uh), .val (.int um), .val (.int us), .val (.int (5 : Int32)), .val (.int (12 : Int32)), .val (.int ((10 : Int32) + (-1 : Int32))), .unset] d1_92 rfl rfl rfl ?_
  refine OAt.castL (Ls' := #[.val (.int p0), .val (.ref a1), .val (.int (1 : Int32)), .val (.int uh), .val (.int um), .val (.int us), .val (.int (5 : Int32)), .val (.int (12 : Int32)), .val (.int (9 : Int32)), .unset]) rfl rfl ?_
  refine Own.iload d1_95 rfl ?_
  refine Own.bipush (58 : Int32) d1_97 rfl ?_
  refine Own.bastore_ V79 (i := 9) rfl (Nat.le_of_ble_eq_true rfl) g_a1 d1_99 (fun h80 W80 V80 => ?_)
  have hn : n0 ≤ h80.size := by rw [W80.size]; exact hn
  clear V79
  replace V80 : Arl Z h80 a1 ka .byte [own_x, own_x, own_x, own_x, own_x, own_x, own_x, own_x, own_x, own_c, (own_d (us / (10 : Int32))), (own_d (us % (10 : Int32))), own_x, own_x, own_x, own_x] := V80
  have K := K.wr W80 (Or.inl (List.mem_of_getElem? (i := 0) rfl))
  refine Own.aloadN d1_100 rfl rfl ?_
  refine Own.iinc (-1 : Int32) #[.val (.int p0), .val (.ref a1), .val (.int (1 : Int32)), .val (.int uh), .val (.int um), .val (.int us), .val (.int (5 : Int32)), .val (.int (12 : Int32)), .val (.int ((9 : Int32) + (-1 : Int32))), .unset] d1_101 rfl rfl rfl ?_
  refine OAt.castL (Ls' := #[.val (.int p0), .val (.ref a1), .val (.int (1 : Int32)), .val (.int uh), .val (.int um), .val (.int us), .val (.int (5 : Int32)), .val (.int (12 : Int32)), .val (.int (8 : Int32)), .unset]) rfl rfl ?_
  refine Own.iload d1_104 rfl ?_
  refine Own.iload d1_106 rfl ?_
  refine Own.bipush (10 : Int32) d1_108 rfl ?_
  refine Own.irem_ d1_110 (by decide) ?_
  refine Own.callSP [(.int (um % (10 : Int32)))] [(.int (8 : Int32)), (.ref a1)] 2 (rmD l Z a0 hw [] (um % (10 : Int32)) h80 n0 hn) (hw _ (List.mem_of_getElem? (i := 6) rfl)) (hw _ (List.mem_of_getElem? (i := 7) rfl)) (hw _ (List.mem_of_getElem? (i := 4) rfl)) (hw _ (List.mem_of_getElem? (i := 8) rfl)) (by decide) d1_111 pd_0 rfl rfl rfl rfl (by decide) (by decide) (by decide) (by decide) ?_
  refine Own.bastore_ V80 (i := 8) rfl (Nat.le_of_ble_eq_true rfl) g_a1 d1_114 (fun h81 W81 V81 => ?_)
  have hn : n0 ≤ h81.size := by rw [W81.size]; exact hn
  clear V80
  replace V81 : Arl Z h81 a1 ka .byte [own_x, own_x, own_x, own_x, own_x, own_x, own_x, own_x, (own_d (um % (10 : Int32))), own_c, (own_d (us / (10 : Int32))), (own_d (us % (10 : Int32))), own_x, own_x, own_x, own_x] := V81
  have K := K.wr W81 (Or.inl (List.mem_of_getElem? (i := 0) rfl))
  refine Own.aloadN d1_115 rfl rfl ?_
  refine Own.iinc (-1 : Int32) #[.val (.int p0), .val (.ref a1), .val (.int (1 : Int32)), .val (.int uh), .val (.int um), .val (.int us), .val (.int (5 : Int32)), .val (.int (12 : Int32)), .val (.int ((8 : Int32) + (-1 : Int32))), .unset] d1_116 rfl rfl rfl ?_
  refine OAt.castL (Ls' := #[.val (.int p0), .val (.ref a1), .val (.int (1 : Int32)), .val (.int uh), .val (.int um), .val (.int us), .val (.int (5 : Int32)), .val (.int (12 : Int32)), .val (.int (7 : Int32)), .unset]) rfl rfl ?_
  refine Own.iload d1_119 rfl ?_
  refine Own.iload d1_121 rfl ?_
  refine Own.bipush (10 : Int32) d1_123 rfl ?_
  refine Own.idiv d1_125 (by decide) ?_
  refine Own.callSP [(.int (um / (10 : Int32)))] [(.int (7 : Int32)), (.ref a1)] 2 (rmD l Z a0 hw [] (um / (10 : Int32)) h81 n0 hn) (hw _ (List.mem_of_getElem? (i := 6) rfl)) (hw _ (List.mem_of_getElem? (i := 7) rfl)) (hw _ (List.mem_of_getElem? (i := 4) rfl)) (hw _ (List.mem_of_getElem? (i := 8) rfl)) (by decide) d1_126 pd_0 rfl rfl rfl rfl (by decide) (by decide) (by decide) (by decide) ?_
  refine Own.bastore_ V81 (i := 7) rfl (Nat.le_of_ble_eq_true rfl) g_a1 d1_129 (fun h82 W82 V82 => ?_)
  have hn : n0 ≤ h82.size := by rw [W82.size]; exact hn
  clear V81
  replace V82 : Arl Z h82 a1 ka .byte [own_x, own_x, own_x, own_x, own_x, own_x, own_x, (own_d (um / (10 : Int32))), (own_d (um % (10 : Int32))), own_c, (own_d (us / (10 : Int32))), (own_d (us % (10 : Int32))), own_x, own_x, own_x, own_x] := V82
  have K := K.wr W82 (Or.inl (List.mem_of_getElem? (i := 0) rfl))
  refine Own.aloadN d1_130 rfl rfl ?_
  refine Own.iinc (-1 : Int32) #[.val (.int p0), .val (.ref a1), .val (.int (1 : Int32)), .val (.int uh), .val (.int um), .val (.int us), .val (.int (5 : Int32)), .val (.int (12 : Int32)), .val (.int ((7 : Int32) + (-1 : Int32))), .unset] d1_131 rfl rfl rfl ?_
  refine OAt.castL (Ls' := #[.val (.int p0), .val (.ref a1), .val (.int (1 : Int32)), .val (.int uh), .val (.int um), .val (.int us), .val (.int (5 : Int32)), .val (.int (12 : Int32)), .val (.int (6 : Int32)), .unset]) rfl rfl ?_
  refine Own.iload d1_134 rfl ?_
  refine Own.bipush (58 : Int32) d1_136 rfl ?_
  refine Own.bastore_ V82 (i := 6) rfl (Nat.le_of_ble_eq_true rfl) g_a1 d1_138 (fun h83 W83 V83 => ?_)
  have hn : n0 ≤ h83.size := by rw [W83.size]; exact hn
  clear V82
  replace V83 : Arl Z h83 a1 ka .byte [own_x, own_x, own_x, own_x, own_x, own_x, own_c, (own_d (um / (10 : Int32))), (own_d (um % (10 : Int32))), own_c, (own_d (us / (10 : Int32))), (own_d (us % (10 : Int32))), own_x, own_x, own_x, own_x] := V83
  have K := K.wr W83 (Or.inl (List.mem_of_getElem? (i := 0) rfl))
  refine Own.iloadN d1_139 rfl ?_
  refine Own.istore #[.val (.int p0), .val (.ref a1), .val (.int (1 : Int32)), .val (.int uh), .val (.int um), .val (.int us), .val (.int (5 : Int32)), .val (.int (12 : Int32)), .val (.int (6 : Int32)), .val (.int uh)] d1_140 rfl ?_
  refine Own.iload d1_142 rfl ?_
  refine Own.iloadN d1_144 rfl ?_
  refine Own.icmp_le 173 d1_145 (by decide) rfl (fun q => absurd (by decide) q) (fun _ => ?_)
  refine Own.aloadN d1_148 rfl rfl ?_
  refine Own.iinc (-1 : Int32) #[.val (.int p0), .val (.ref a1), .val (.int (1 : Int32)), .val (.int uh), .val (.int um), .val (.int us), .val (.int (5 : Int32)), .val (.int (12 : Int32)), .val (.int ((6 : Int32) + (-1 : Int32))), .val (.int uh)] d1_149 rfl rfl rfl ?_
  refine OAt.castL (Ls' := #[.val (.int p0), .val (.ref a1), .val (.int (1 : Int32)), .val (.int uh), .val (.int um), .val (.int us), .val (.int (5 : Int32)), .val (.int (12 : Int32)), .val (.int (5 : Int32)), .val (.int uh)]) rfl rfl ?_
  refine Own.iload d1_152 rfl ?_
  refine Own.iload d1_154 rfl ?_
  refine Own.bipush (10 : Int32) d1_156 rfl ?_
  refine Own.irem_ d1_158 (by decide) ?_
  refine Own.callSP [(.int (uh % (10 : Int32)))] [(.int (5 : Int32)), (.ref a1)] 2 (rmD l Z a0 hw [] (uh % (10 : Int32)) h83 n0 hn) (hw _ (List.mem_of_getElem? (i := 6) rfl)) (hw _ (List.mem_of_getElem? (i := 7) rfl)) (hw _ (List.mem_of_getElem? (i := 4) rfl)) (hw _ (List.mem_of_getElem? (i := 8) rfl)) (by decide) d1_159 pd_0 rfl rfl rfl rfl (by decide) (by decide) (by decide) (by decide) ?_
  refine Own.bastore_ V83 (i := 5) rfl (Nat.le_of_ble_eq_true rfl) g_a1 d1_162 (fun h84 W84 V84 => ?_)
  have hn : n0 ≤ h84.size := by rw [W84.size]; exact hn
  clear V83
  replace V84 : Arl Z h84 a1 ka .byte [own_x, own_x, own_x, own_x, own_x, (own_d (uh % (10 : Int32))), own_c, (own_d (um / (10 : Int32))), (own_d (um % (10 : Int32))), own_c, (own_d (us / (10 : Int32))), (own_d (us % (10 : Int32))), own_x, own_x, own_x, own_x] := V84
  have K := K.wr W84 (Or.inl (List.mem_of_getElem? (i := 0) rfl))
  refine Own.iload d1_163 rfl ?_
  refine Own.bipush (10 : Int32) d1_165 rfl ?_
  refine Own.idiv d1_167 (by decide) ?_
  refine Own.istore #[.val (.int p0), .val (.ref a1), .val (.int (1 : Int32)), .val (.int uh), .val (.int um), .val (.int us), .val (.int (5 : Int32)), .val (.int (12 : Int32)), .val (.int (5 : Int32)), .val (.int (uh / (10 : Int32)))] d1_168 rfl ?_
  refine Own.goto_ 142 d1_170 (by decide) rfl ?_
  refine Own.iload d1_142 rfl ?_
  refine Own.iloadN d1_144 rfl ?_
  refine Own.icmp_le 173 d1_145 (by decide) rfl (fun q => absurd (by decide) q) (fun _ => ?_)
  refine Own.aloadN d1_148 rfl rfl ?_
  refine Own.iinc (-1 : Int32) #[.val (.int p0), .val (.ref a1), .val (.int (1 : Int32)), .val (.int uh), .val (.int um), .val (.int us), .val (.int (5 : Int32)), .val (.int (12 : Int32)), .val (.int ((5 : Int32) + (-1 : Int32))), .val (.int (uh / (10 : Int32)))] d1_149 rfl rfl rfl ?_
  refine OAt.castL (Ls' := #[.val (.int p0), .val (.ref a1), .val (.int (1 : Int32)), .val (.int uh), .val (.int um), .val (.int us), .val (.int (5 : Int32)), .val (.int (12 : Int32)), .val (.int (4 : Int32)), .val (.int (uh / (10 : Int32)))]) rfl rfl ?_
  refine Own.iload d1_152 rfl ?_
  refine Own.iload d1_154 rfl ?_
  refine Own.bipush (10 : Int32) d1_156 rfl ?_
  refine Own.irem_ d1_158 (by decide) ?_
  refine Own.callSP [(.int ((uh / (10 : Int32)) % (10 : Int32)))] [(.int (4 : Int32)), (.ref a1)] 2 (rmD l Z a0 hw [] ((uh / (10 : Int32)) % (10 : Int32)) h84 n0 hn) (hw _ (List.mem_of_getElem? (i := 6) rfl)) (hw _ (List.mem_of_getElem? (i := 7) rfl)) (hw _ (List.mem_of_getElem? (i := 4) rfl)) (hw _ (List.mem_of_getElem? (i := 8) rfl)) (by decide) d1_159 pd_0 rfl rfl rfl rfl (by decide) (by decide) (by decide) (by decide) ?_
  refine Own.bastore_ V84 (i := 4) rfl (Nat.le_of_ble_eq_true rfl) g_a1 d1_162 (fun h85 W85 V85 => ?_)
  have hn : n0 ≤ h85.size := by rw [W85.size]; exact hn
  clear V84
  replace V85 : Arl Z h85 a1 ka .byte [own_x, own_x, own_x, own_x, (own_d ((uh / (10 : Int32)) % (10 : Int32))), (own_d (uh % (10 : Int32))), own_c, (own_d (um / (10 : Int32))), (own_d (um % (10 : Int32))), own_c, (own_d (us / (10 : Int32))), (own_d (us % (10 : Int32))), own_x, own_x, own_x, own_x] := V85
  have K := K.wr W85 (Or.inl (List.mem_of_getElem? (i := 0) rfl))
  refine Own.iload d1_163 rfl ?_
  refine Own.bipush (10 : Int32) d1_165 rfl ?_
  refine Own.idiv d1_167 (by decide) ?_
  refine Own.istore #[.val (.int p0), .val (.ref a1), .val (.int (1 : Int32)), .val (.int uh), .val (.int um), .val (.int us), .val (.int (5 : Int32)), .val (.int (12 : Int32)), .val (.int (4 : Int32)), .val (.int ((uh / (10 : Int32)) / (10 : Int32)))] d1_168 rfl ?_
  refine Own.goto_ 142 d1_170 (by decide) rfl ?_
  refine Own.iload d1_142 rfl ?_
  refine Own.iloadN d1_144 rfl ?_
  refine Own.icmp_le 173 d1_145 (by decide) rfl (fun q => absurd (by decide) q) (fun _ => ?_)
  refine Own.aloadN d1_148 rfl rfl ?_
  refine Own.iinc (-1 : Int32) #[.val (.int p0), .val (.ref a1), .val (.int (1 : Int32)), .val (.int uh), .val (.int um), .val (.int us), .val (.int (5 : Int32)), .val (.int (12 : Int32)), .val (.int ((4 : Int32) + (-1 : Int32))), .val (.int ((uh / (10 : Int32)) / (10 : Int32)))] d1_149 rfl rfl rfl ?_
  refine OAt.castL (Ls' := #[.val (.int p0), .val (.ref a1), .val (.int (1 : Int32)), .val (.int uh), .val (.int um), .val (.int us), .val (.int (5 : Int32)), .val (.int (12 : Int32)), .val (.int (3 : Int32)), .val (.int ((uh / (10 : Int32)) / (10 : Int32)))]) rfl rfl ?_
  refine Own.iload d1_152 rfl ?_
  refine Own.iload d1_154 rfl ?_
  refine Own.bipush (10 : Int32) d1_156 rfl ?_
  refine Own.irem_ d1_158 (by decide) ?_
  refine Own.callSP [(.int (((uh / (10 : Int32)) / (10 : Int32)) % (10 : Int32)))] [(.int (3 : Int32)), (.ref a1)] 2 (rmD l Z a0 hw [] (((uh / (10 : Int32)) / (10 : Int32)) % (10 : Int32)) h85 n0 hn) (hw _ (List.mem_of_getElem? (i := 6) rfl)) (hw _ (List.mem_of_getElem? (i := 7) rfl)) (hw _ (List.mem_of_getElem? (i := 4) rfl)) (hw _ (List.mem_of_getElem? (i := 8) rfl)) (by decide) d1_159 pd_0 rfl rfl rfl rfl (by decide) (by decide) (by decide) (by decide) ?_
  refine Own.bastore_ V85 (i := 3) rfl (Nat.le_of_ble_eq_true rfl) g_a1 d1_162 (fun h86 W86 V86 => ?_)
  have hn : n0 ≤ h86.size := by rw [W86.size]; exact hn
  clear V85
  replace V86 : Arl Z h86 a1 ka .byte [own_x, own_x, own_x, (own_d (((uh / (10 : Int32)) / (10 : Int32)) % (10 : Int32))), (own_d ((uh / (10 : Int32)) % (10 : Int32))), (own_d (uh % (10 : Int32))), own_c, (own_d (um / (10 : Int32))), (own_d (um % (10 : Int32))), own_c, (own_d (us / (10 : Int32))), (own_d (us % (10 : Int32))), own_x, own_x, own_x, own_x] := V86
  have K := K.wr W86 (Or.inl (List.mem_of_getElem? (i := 0) rfl))
  refine Own.iload d1_163 rfl ?_
  refine Own.bipush (10 : Int32) d1_165 rfl ?_
  refine Own.idiv d1_167 (by decide) ?_
  refine Own.istore #[.val (.int p0), .val (.ref a1), .val (.int (1 : Int32)), .val (.int uh), .val (.int um), .val (.int us), .val (.int (5 : Int32)), .val (.int (12 : Int32)), .val (.int (3 : Int32)), .val (.int (((uh / (10 : Int32)) / (10 : Int32)) / (10 : Int32)))] d1_168 rfl ?_
  refine Own.goto_ 142 d1_170 (by decide) rfl ?_
  refine Own.iload d1_142 rfl ?_
  refine Own.iloadN d1_144 rfl ?_
  refine Own.icmp_le 173 d1_145 (by decide) rfl (fun q => absurd (by decide) q) (fun _ => ?_)
  refine Own.aloadN d1_148 rfl rfl ?_
  refine Own.iinc (-1 : Int32) #[.val (.int p0), .val (.ref a1), .val (.int (1 : Int32)), .val (.int uh), .val (.int um), .val (.int us), .val (.int (5 : Int32)), .val (.int (12 : Int32)), .val (.int ((3 : Int32) + (-1 : Int32))), .val (.int (((uh / (10 : Int32)) / (10 : Int32)) / (10 : Int32)))] d1_149 rfl rfl rfl ?_
  refine OAt.castL (Ls' := #[.val (.int p0), .val (.ref a1), .val (.int (1 : Int32)), .val (.int uh), .val (.int um), .val (.int us), .val (.int (5 : Int32)), .val (.int (12 : Int32)), .val (.int (2 : Int32)), .val (.int (((uh / (10 : Int32)) / (10 : Int32)) / (10 : Int32)))]) rfl rfl ?_
  refine Own.iload d1_152 rfl ?_
  refine Own.iload d1_154 rfl ?_
  refine Own.bipush (10 : Int32) d1_156 rfl ?_
  refine Own.irem_ d1_158 (by decide) ?_
  refine Own.callSP [(.int ((((uh / (10 : Int32)) / (10 : Int32)) / (10 : Int32)) % (10 : Int32)))] [(.int (2 : Int32)), (.ref a1)] 2 (rmD l Z a0 hw [] ((((uh / (10 : Int32)) / (10 : Int32)) / (10 : Int32)) % (10 : Int32)) h86 n0 hn) (hw _ (List.mem_of_getElem? (i := 6) rfl)) (hw _ (List.mem_of_getElem? (i := 7) rfl)) (hw _ (List.mem_of_getElem? (i := 4) rfl)) (hw _ (List.mem_of_getElem? (i := 8) rfl)) (by decide) d1_159 pd_0 rfl rfl rfl rfl (by decide) (by decide) (by decide) (by decide) ?_
  refine Own.bastore_ V86 (i := 2) rfl (Nat.le_of_ble_eq_true rfl) g_a1 d1_162 (fun h87 W87 V87 => ?_)
  have hn : n0 ≤ h87.size := by rw [W87.size]; exact hn
  clear V86
  replace V87 : Arl Z h87 a1 ka .byte [own_x, own_x, (own_d ((((uh / (10 : Int32)) / (10 : Int32)) / (10 : Int32)) % (10 : Int32))), (own_d (((uh / (10 : Int32)) / (10 : Int32)) % (10 : Int32))), (own_d ((uh / (10 : Int32)) % (10 : Int32))), (own_d (uh % (10 : Int32))), own_c, (own_d (um / (10 : Int32))), (own_d (um % (10 : Int32))), own_c, (own_d (us / (10 : Int32))), (own_d (us % (10 : Int32))), own_x, own_x, own_x, own_x] := V87
  have K := K.wr W87 (Or.inl (List.mem_of_getElem? (i := 0) rfl))
  refine Own.iload d1_163 rfl ?_
  refine Own.bipush (10 : Int32) d1_165 rfl ?_
  refine Own.idiv d1_167 (by decide) ?_
  refine Own.istore #[.val (.int p0), .val (.ref a1), .val (.int (1 : Int32)), .val (.int uh), .val (.int um), .val (.int us), .val (.int (5 : Int32)), .val (.int (12 : Int32)), .val (.int (2 : Int32)), .val (.int ((((uh / (10 : Int32)) / (10 : Int32)) / (10 : Int32)) / (10 : Int32)))] d1_168 rfl ?_
  refine Own.goto_ 142 d1_170 (by decide) rfl ?_
  refine Own.iload d1_142 rfl ?_
  refine Own.iloadN d1_144 rfl ?_
  refine Own.icmp_le 173 d1_145 (by decide) rfl (fun q => absurd (by decide) q) (fun _ => ?_)
  refine Own.aloadN d1_148 rfl rfl ?_
  refine Own.iinc (-1 : Int32) #[.val (.int p0), .val (.ref a1), .val (.int (1 : Int32)), .val (.int uh), .val (.int um), .val (.int us), .val (.int (5 : Int32)), .val (.int (12 : Int32)), .val (.int ((2 : Int32) + (-1 : Int32))), .val (.int ((((uh / (10 : Int32)) / (10 : Int32)) / (10 : Int32)) / (10 : Int32)))] d1_149 rfl rfl rfl ?_
  refine OAt.castL (Ls' := #[.val (.int p0), .val (.ref a1), .val (.int (1 : Int32)), .val (.int uh), .val (.int um), .val (.int us), .val (.int (5 : Int32)), .val (.int (12 : Int32)), .val (.int (1 : Int32)), .val (.int ((((uh / (10 : Int32)) / (10 : Int32)) / (10 : Int32)) / (10 : Int32)))]) rfl rfl ?_
  refine Own.iload d1_152 rfl ?_
  refine Own.iload d1_154 rfl ?_
  refine Own.bipush (10 : Int32) d1_156 rfl ?_
  refine Own.irem_ d1_158 (by decide) ?_
  refine Own.callSP [(.int (((((uh / (10 : Int32)) / (10 : Int32)) / (10 : Int32)) / (10 : Int32)) % (10 : Int32)))] [(.int (1 : Int32)), (.ref a1)] 2 (rmD l Z a0 hw [] (((((uh / (10 : Int32)) / (10 : Int32)) / (10 : Int32)) / (10 : Int32)) % (10 : Int32)) h87 n0 hn) (hw _ (List.mem_of_getElem? (i := 6) rfl)) (hw _ (List.mem_of_getElem? (i := 7) rfl)) (hw _ (List.mem_of_getElem? (i := 4) rfl)) (hw _ (List.mem_of_getElem? (i := 8) rfl)) (by decide) d1_159 pd_0 rfl rfl rfl rfl (by decide) (by decide) (by decide) (by decide) ?_
  refine Own.bastore_ V87 (i := 1) rfl (Nat.le_of_ble_eq_true rfl) g_a1 d1_162 (fun h88 W88 V88 => ?_)
  have hn : n0 ≤ h88.size := by rw [W88.size]; exact hn
  clear V87
  replace V88 : Arl Z h88 a1 ka .byte [own_x, (own_d (((((uh / (10 : Int32)) / (10 : Int32)) / (10 : Int32)) / (10 : Int32)) % (10 : Int32))), (own_d ((((uh / (10 : Int32)) / (10 : Int32)) / (10 : Int32)) % (10 : Int32))), (own_d (((uh / (10 : Int32)) / (10 : Int32)) % (10 : Int32))), (own_d ((uh / (10 : Int32)) % (10 : Int32))), (own_d (uh % (10 : Int32))), own_c, (own_d (um / (10 : Int32))), (own_d (um % (10 : Int32))), own_c, (own_d (us / (10 : Int32))), (own_d (us % (10 : Int32))), own_x, own_x, own_x, own_x] := V88
  have K := K.wr W88 (Or.inl (List.mem_of_getElem? (i := 0) rfl))
  refine Own.iload d1_163 rfl ?_
  refine Own.bipush (10 : Int32) d1_165 rfl ?_
  refine Own.idiv d1_167 (by decide) ?_
  refine Own.istore #[.val (.int p0), .val (.ref a1), .val (.int (1 : Int32)), .val (.int uh), .val (.int um), .val (.int us), .val (.int (5 : Int32)), .val (.int (12 : Int32)), .val (.int (1 : Int32)), .val (.int (((((uh / (10 : Int32)) / (10 : Int32)) / (10 : Int32)) / (10 : Int32)) / (10 : Int32)))] d1_168 rfl ?_
  refine Own.goto_ 142 d1_170 (by decide) rfl ?_
  refine Own.iload d1_142 rfl ?_
  refine Own.iloadN d1_144 rfl ?_
  refine Own.icmp_le 173 d1_145 (by decide) rfl (fun _ => ?_) (fun q => absurd q (by decide))
  refine Own.iload d1_173 rfl ?_
  refine Own.ret_int rfl d1_175 (by decide) (by decide) ?_
  exact ⟨rfl, K, V88⟩
def Q_rmF_1_6 (Z : State) (a1 : Addr) (ka : ClassId) (uh : Int32) (um : Int32) (us : Int32) (h0 : Heap) (n0 : Nat) (v : Option Value) (h : Heap) : Prop := v = some (.int (13 : Int32)) ∧ Keep h0 h [a1] ∧ Arl Z h a1 ka .byte [own_x, (own_d ((((((uh / (10 : Int32)) / (10 : Int32)) / (10 : Int32)) / (10 : Int32)) / (10 : Int32)) % (10 : Int32))), (own_d (((((uh / (10 : Int32)) / (10 : Int32)) / (10 : Int32)) / (10 : Int32)) % (10 : Int32))), (own_d ((((uh / (10 : Int32)) / (10 : Int32)) / (10 : Int32)) % (10 : Int32))), (own_d (((uh / (10 : Int32)) / (10 : Int32)) % (10 : Int32))), (own_d ((uh / (10 : Int32)) % (10 : Int32))), (own_d (uh % (10 : Int32))), own_c, (own_d (um / (10 : Int32))), (own_d (um % (10 : Int32))), own_c, (own_d (us / (10 : Int32))), (own_d (us % (10 : Int32))), own_x, own_x, own_x]
theorem ef_rmF_1_6 (m : MethodId) (p0 : Int32) (a1 : Addr)  : entryFrame m #[(.int p0), (.ref a1), (.int (1 : Int32))] 10 = mkF m 0 #[.val (.int p0), .val (.ref a1), .val (.int (1 : Int32)), .unset, .unset, .unset, .unset, .unset, .unset, .unset] [] := by first | (simp [entryFrame, mkF, argsToLocals, Value.category]; done) | rfl
set_option maxRecDepth 65536 in
set_option maxHeartbeats 40000000 in
theorem rmF_1_6 (l : Launch) (Z : State) (a0 : Array Value) (hw : ∀ d ∈ tables_1, d.before a0 Z = true) (ws : List Jvm.Cond) (p0 : Int32) (a1 : Addr) (ka : ClassId) (uh : Int32) (um : Int32) (us : Int32) (h0 : Heap) (n0 : Nat) (hn : n0 ≤ h0.size) (V_a1 : Arl Z h0 a1 ka .byte [own_x, own_x, own_x, own_x, own_x, own_x, own_x, own_x, own_x, own_x, own_x, own_x, own_x, own_x, own_x, own_x]) (g_a1 : n0 ≤ a1) (e_h : p0 / (3600 : Int32) = uh) (e_m : (p0 / (60 : Int32)) % (60 : Int32) = um) (e_s : p0 % (60 : Int32) = us) (hl : 100000 ≤ uh.toInt) (hu : uh.toInt < 1000000) :
    Met false l Z (⟨"com/example/voznired/voznired/timetable/StopTime", "formatTime", "(I[BI)I"⟩ : MethodName) prog_118_method_10_code 10 (some .int) ({ frames := 1, cells := 0, slots := 0, locals := 14 } : Room) ws #[(.int p0), (.ref a1), (.int (1 : Int32))] h0 n0 (Q_rmF_1_6 Z a1 ka uh um us h0 n0) := by
  refine Met.of pn_1 (fun m => ef_rmF_1_6 m p0 a1) ?_
  have K := Keep.refl h0 [a1]
  refine Own.iloadN d1_0 rfl ?_
  refine Own.sipush (3600 : Int32) d1_1 rfl ?_
  refine Own.idiv d1_4 (by decide) ?_
  rw [e_h]
  refine Own.istoreN #[.val (.int p0), .val (.ref a1), .val (.int (1 : Int32)), .val (.int uh), .unset, .unset, .unset, .unset, .unset, .unset] d1_5 rfl ?_
  refine Own.iloadN d1_6 rfl ?_
  refine Own.bipush (60 : Int32) d1_7 rfl ?_
  refine Own.idiv d1_9 (by decide) ?_
  refine Own.bipush (60 : Int32) d1_10 rfl ?_
  refine Own.irem_ d1_12 (by decide) ?_
  rw [e_m]
  refine Own.istore #[.val (.int p0), .val (.ref a1), .val (.int (1 : Int32)), .val (.int uh), .val (.int um), .unset, .unset, .unset, .unset, .unset] d1_13 rfl ?_
  refine Own.iloadN d1_15 rfl ?_
  refine Own.bipush (60 : Int32) d1_16 rfl ?_
  refine Own.irem_ d1_18 (by decide) ?_
  rw [e_s]
  refine Own.istore #[.val (.int p0), .val (.ref a1), .val (.int (1 : Int32)), .val (.int uh), .val (.int um), .val (.int us), .unset, .unset, .unset, .unset] d1_19 rfl ?_
  refine Own.iconst (2 : Int32) d1_21 rfl ?_
  refine Own.istore #[.val (.int p0), .val (.ref a1), .val (.int (1 : Int32)), .val (.int uh), .val (.int um), .val (.int us), .val (.int (2 : Int32)), .unset, .unset, .unset] d1_22 rfl ?_
  refine Own.iloadN d1_24 rfl ?_
  refine Own.bipush (100 : Int32) d1_25 rfl ?_
  refine Own.idiv d1_27 (by decide) ?_
  obtain ⟨ur0, e_ur0⟩ : ∃ z : Int32, z = (uh / (100 : Int32)) := ⟨_, rfl⟩
  rw [← e_ur0]
  have r_ur0 : ur0.toInt = uh.toInt / 100 := by
    rw [e_ur0]; exact own_div 100 rfl (by omega) (by omega)
  refine Own.istore #[.val (.int p0), .val (.ref a1), .val (.int (1 : Int32)), .val (.int uh), .val (.int um), .val (.int us), .val (.int (2 : Int32)), .val (.int ur0), .unset, .unset] d1_28 rfl ?_
  refine Own.iload d1_30 rfl ?_
  refine Own.if_le 48 d1_32 (by decide) rfl (fun q => absurd (by simp only [Int32.lt_iff_toInt_lt, Int32.reduceToInt]; omega) q) (fun _ => ?_)
  refine Own.iinc (1 : Int32) #[.val (.int p0), .val (.ref a1), .val (.int (1 : Int32)), .val (.int uh), .val (.int um), .val (.int us), .val (.int ((2 : Int32) + (1 : Int32))), .val (.int ur0), .unset, .unset] d1_35 rfl rfl rfl ?_
  refine OAt.castL (Ls' := #[.val (.int p0), .val (.ref a1), .val (.int (1 : Int32)), .val (.int uh), .val (.int um), .val (.int us), .val (.int (3 : Int32)), .val (.int ur0), .unset, .unset]) rfl rfl ?_
  refine Own.iload d1_38 rfl ?_
  refine Own.bipush (10 : Int32) d1_40 rfl ?_
  refine Own.idiv d1_42 (by decide) ?_
  obtain ⟨ur1, e_ur1⟩ : ∃ z : Int32, z = (ur0 / (10 : Int32)) := ⟨_, rfl⟩
  rw [← e_ur1]
  have r_ur1 : ur1.toInt = ur0.toInt / 10 := by
    rw [e_ur1]; rw [own_div 10 rfl (by omega) (by omega)]
  refine Own.istore #[.val (.int p0), .val (.ref a1), .val (.int (1 : Int32)), .val (.int uh), .val (.int um), .val (.int us), .val (.int (3 : Int32)), .val (.int ur1), .unset, .unset] d1_43 rfl ?_
  refine Own.goto_ 30 d1_45 (by decide) rfl ?_
  refine Own.iload d1_30 rfl ?_
  refine Own.if_le 48 d1_32 (by decide) rfl (fun q => absurd (by simp only [Int32.lt_iff_toInt_lt, Int32.reduceToInt]; omega) q) (fun _ => ?_)
  refine Own.iinc (1 : Int32) #[.val (.int p0), .val (.ref a1), .val (.int (1 : Int32)), .val (.int uh), .val (.int um), .val (.int us), .val (.int ((3 : Int32) + (1 : Int32))), .val (.int ur1), .unset, .unset] d1_35 rfl rfl rfl ?_
  refine OAt.castL (Ls' := #[.val (.int p0), .val (.ref a1), .val (.int (1 : Int32)), .val (.int uh), .val (.int um), .val (.int us), .val (.int (4 : Int32)), .val (.int ur1), .unset, .unset]) rfl rfl ?_
  refine Own.iload d1_38 rfl ?_
  refine Own.bipush (10 : Int32) d1_40 rfl ?_
  refine Own.idiv d1_42 (by decide) ?_
  obtain ⟨ur2, e_ur2⟩ : ∃ z : Int32, z = (ur1 / (10 : Int32)) := ⟨_, rfl⟩
  rw [← e_ur2]
  have r_ur2 : ur2.toInt = ur1.toInt / 10 := by
    rw [e_ur2]; rw [own_div 10 rfl (by omega) (by omega)]
  refine Own.istore #[.val (.int p0), .val (.ref a1), .val (.int (1 : Int32)), .val (.int uh), .val (.int um), .val (.int us), .val (.int (4 : Int32)), .val (.int ur2), .unset, .unset] d1_43 rfl ?_
  refine Own.goto_ 30 d1_45 (by decide) rfl ?_
  refine Own.iload d1_30 rfl ?_
  refine Own.if_le 48 d1_32 (by decide) rfl (fun q => absurd (by simp only [Int32.lt_iff_toInt_lt, Int32.reduceToInt]; omega) q) (fun _ => ?_)
  refine Own.iinc (1 : Int32) #[.val (.int p0), .val (.ref a1), .val (.int (1 : Int32)), .val (.int uh), .val (.int um), .val (.int us), .val (.int ((4 : Int32) + (1 : Int32))), .val (.int ur2), .unset, .unset] d1_35 rfl rfl rfl ?_
  refine OAt.castL (Ls' := #[.val (.int p0), .val (.ref a1), .val (.int (1 : Int32)), .val (.int uh), .val (.int um), .val (.int us), .val (.int (5 : Int32)), .val (.int ur2), .unset, .unset]) rfl rfl ?_
  refine Own.iload d1_38 rfl ?_
  refine Own.bipush (10 : Int32) d1_40 rfl ?_
  refine Own.idiv d1_42 (by decide) ?_
  obtain ⟨ur3, e_ur3⟩ : ∃ z : Int32, z = (ur2 / (10 : Int32)) := ⟨_, rfl⟩
  rw [← e_ur3]
  have r_ur3 : ur3.toInt = ur2.toInt / 10 := by
    rw [e_ur3]; rw [own_div 10 rfl (by omega) (by omega)]
  refine Own.istore #[.val (.int p0), .val (.ref a1), .val (.int (1 : Int32)), .val (.int uh), .val (.int um), .val (.int us), .val (.int (5 : Int32)), .val (.int ur3), .unset, .unset] d1_43 rfl ?_
  refine Own.goto_ 30 d1_45 (by decide) rfl ?_
  refine Own.iload d1_30 rfl ?_
  refine Own.if_le 48 d1_32 (by decide) rfl (fun q => absurd (by simp only [Int32.lt_iff_toInt_lt, Int32.reduceToInt]; omega) q) (fun _ => ?_)
  refine Own.iinc (1 : Int32) #[.val (.int p0), .val (.ref a1), .val (.int (1 : Int32)), .val (.int uh), .val (.int um), .val (.int us), .val (.int ((5 : Int32) + (1 : Int32))), .val (.int ur3), .unset, .unset] d1_35 rfl rfl rfl ?_
  refine OAt.castL (Ls' := #[.val (.int p0), .val (.ref a1), .val (.int (1 : Int32)), .val (.int uh), .val (.int um), .val (.int us), .val (.int (6 : Int32)), .val (.int ur3), .unset, .unset]) rfl rfl ?_
  refine Own.iload d1_38 rfl ?_
  refine Own.bipush (10 : Int32) d1_40 rfl ?_
  refine Own.idiv d1_42 (by decide) ?_
  obtain ⟨ur4, e_ur4⟩ : ∃ z : Int32, z = (ur3 / (10 : Int32)) := ⟨_, rfl⟩
  rw [← e_ur4]
  have r_ur4 : ur4.toInt = ur3.toInt / 10 := by
    rw [e_ur4]; rw [own_div 10 rfl (by omega) (by omega)]
  refine Own.istore #[.val (.int p0), .val (.ref a1), .val (.int (1 : Int32)), .val (.int uh), .val (.int um), .val (.int us), .val (.int (6 : Int32)), .val (.int ur4), .unset, .unset] d1_43 rfl ?_
  refine Own.goto_ 30 d1_45 (by decide) rfl ?_
  refine Own.iload d1_30 rfl ?_
  refine Own.if_le 48 d1_32 (by decide) rfl (fun _ => ?_) (fun q => absurd q (by simp only [Int32.lt_iff_toInt_lt, Int32.reduceToInt]; omega))
  refine Own.iloadN d1_48 rfl ?_
  refine Own.iload d1_49 rfl ?_
  refine Own.iadd d1_51 ?_
  refine OAt.cast (st' := [(.int (7 : Int32))]) rfl ?_
  refine Own.bipush (6 : Int32) d1_52 rfl ?_
  refine Own.iadd d1_54 ?_
  refine OAt.cast (st' := [(.int (13 : Int32))]) rfl ?_
  refine Own.istore #[.val (.int p0), .val (.ref a1), .val (.int (1 : Int32)), .val (.int uh), .val (.int um), .val (.int us), .val (.int (6 : Int32)), .val (.int (13 : Int32)), .unset, .unset] d1_55 rfl ?_
  refine Own.iload d1_57 rfl ?_
  refine Own.istore #[.val (.int p0), .val (.ref a1), .val (.int (1 : Int32)), .val (.int uh), .val (.int um), .val (.int us), .val (.int (6 : Int32)), .val (.int (13 : Int32)), .val (.int (13 : Int32)), .unset] d1_59 rfl ?_
  refine Own.aloadN d1_61 rfl rfl ?_
  refine Own.iinc (-1 : Int32) #[.val (.int p0), .val (.ref a1), .val (.int (1 : Int32)), .val (.int uh), .val (.int um), .val (.int us), .val (.int (6 : Int32)), .val (.int (13 : Int32)), .val (.int ((13 : Int32) + (-1 : Int32))), .unset] d1_62 rfl rfl rfl ?_
  refine OAt.castL (Ls' := #[.val (.int p0), .val (.ref a1), .val (.int (1 : Int32)), .val (.int uh), .val (.int um), .val (.int us), .val (.int (6 : Int32)), .val (.int (13 : Int32)), .val (.int (12 : Int32)), .unset]) rfl rfl ?_
  refine Own.iload d1_65 rfl ?_
  refine Own.iload d1_67 rfl ?_
  refine Own.bipush (10 : Int32) d1_69 rfl ?_
  refine Own.irem_ d1_71 (by decide) ?_
  refine Own.callSP [(.int (us % (10 : Int32)))] [(.int (12 : Int32)), (.ref a1)] 2 (rmD l Z a0 hw [] (us % (10 : Int32)) h0 n0 hn) (hw _ (List.mem_of_getElem? (i := 6) rfl)) (hw _ (List.mem_of_getElem? (i := 7) rfl)) (hw _ (List.mem_of_getElem? (i := 4) rfl)) (hw _ (List.mem_of_getElem? (i := 8) rfl)) (by decide) d1_72 pd_0 rfl rfl rfl rfl (by decide) (by decide) (by decide) (by decide) ?_
  refine Own.bastore_ V_a1 (i := 12) rfl (Nat.le_of_ble_eq_true rfl) g_a1 d1_75 (fun h89 W89 V89 => ?_)
  have hn : n0 ≤ h89.size := by rw [W89.size]; exact hn
  clear V_a1
  replace V89 : Arl Z h89 a1 ka .byte [own_x, own_x, own_x, own_x, own_x, own_x, own_x, own_x, own_x, own_x, own_x, own_x, (own_d (us % (10 : Int32))), own_x, own_x, own_x] := V89
  have K := K.wr W89 (Or.inl (List.mem_of_getElem? (i := 0) rfl))
  refine Own.aloadN d1_76 rfl rfl ?_
  refine Own.iinc (-1 : Int32) #[.val (.int p0), .val (.ref a1), .val (.int (1 : Int32)), .val (.int uh), .val (.int um), .val (.int us), .val (.int (6 : Int32)), .val (.int (13 : Int32)), .val (.int ((12 : Int32) + (-1 : Int32))), .unset] d1_77 rfl rfl rfl ?_
  refine OAt.castL (Ls' := #[.val (.int p0), .val (.ref a1), .val (.int (1 : Int32)), .val (.int uh), .val (.int um), .val (.int us), .val (.int (6 : Int32)), .val (.int (13 : Int32)), .val (.int (11 : Int32)), .unset]) rfl rfl ?_
  refine Own.iload d1_80 rfl ?_
  refine Own.iload d1_82 rfl ?_
  refine Own.bipush (10 : Int32) d1_84 rfl ?_
  refine Own.idiv d1_86 (by decide) ?_
  refine Own.callSP [(.int (us / (10 : Int32)))] [(.int (11 : Int32)), (.ref a1)] 2 (rmD l Z a0 hw [] (us / (10 : Int32)) h89 n0 hn) (hw _ (List.mem_of_getElem? (i := 6) rfl)) (hw _ (List.mem_of_getElem? (i := 7) rfl)) (hw _ (List.mem_of_getElem? (i := 4) rfl)) (hw _ (List.mem_of_getElem? (i := 8) rfl)) (by decide) d1_87 pd_0 rfl rfl rfl rfl (by decide) (by decide) (by decide) (by decide) ?_
  refine Own.bastore_ V89 (i := 11) rfl (Nat.le_of_ble_eq_true rfl) g_a1 d1_90 (fun h90 W90 V90 => ?_)
  have hn : n0 ≤ h90.size := by rw [W90.size]; exact hn
  clear V89
  replace V90 : Arl Z h90 a1 ka .byte [own_x, own_x, own_x, own_x, own_x, own_x, own_x, own_x, own_x, own_x, own_x, (own_d (us / (10 : Int32))), (own_d (us % (10 : Int32))), own_x, own_x, own_x] := V90
  have K := K.wr W90 (Or.inl (List.mem_of_getElem? (i := 0) rfl))
  refine Own.aloadN d1_91 rfl rfl ?_
  refine Own.iinc (-1 : Int32) #[.val (.int p0), .val (.ref a1), .val (.int (1 : Int32)), .val (.int uh), .val (.int um), .val (.int us), .val (.int (6 : Int32)), .val (.int (13 : Int32)), .val (.int ((11 : Int32) + (-1 : Int32))), .unset] d1_92 rfl rfl rfl ?_
  refine OAt.castL (Ls' := #[.val (.int p0), .val (.ref a1), .val (.int (1 : Int32)), .val (.int uh), .val (.int um), .val (.int us), .val (.int (6 : Int32)), .val (.int (13 : Int32)), .val (.int (10 : Int32)), .unset]) rfl rfl ?_
  refine Own.iload d1_95 rfl ?_
  refine Own.bipush (58 : Int32) d1_97 rfl ?_
  refine Own.bastore_ V90 (i := 10) rfl (Nat.le_of_ble_eq_true rfl) g_a1 d1_99 (fun h91 W91 V91 => ?_)
  have hn : n0 ≤ h91.size := by rw [W91.size]; exact hn
  clear V90
  replace V91 : Arl Z h91 a1 ka .byte [own_x, own_x, own_x, own_x, own_x, own_x, own_x, own_x, own_x, own_x, own_c, (own_d (us / (10 : Int32))), (own_d (us % (10 : Int32))), own_x, own_x, own_x] := V91
  have K := K.wr W91 (Or.inl (List.mem_of_getElem? (i := 0) rfl))
  refine Own.aloadN d1_100 rfl rfl ?_
  refine Own.iinc (-1 : Int32) #[.val (.int p0), .val (.ref a1), .val (.int (1 : Int32)), .val (.int uh), .val (.int um), .val (.int us), .val (.int (6 : Int32)), .val (.int (13 : Int32)), .val (.int ((10 : Int32) + (-1 : Int32))), .unset] d1_101 rfl rfl rfl ?_
  refine OAt.castL (Ls' := #[.val (.int p0), .val (.ref a1), .val (.int (1 : Int32)), .val (.int uh), .val (.int um), .val (.int us), .val (.int (6 : Int32)), .val (.int (13 : Int32)), .val (.int (9 : Int32)), .unset]) rfl rfl ?_
  refine Own.iload d1_104 rfl ?_
  refine Own.iload d1_106 rfl ?_
  refine Own.bipush (10 : Int32) d1_108 rfl ?_
  refine Own.irem_ d1_110 (by decide) ?_
  refine Own.callSP [(.int (um % (10 : Int32)))] [(.int (9 : Int32)), (.ref a1)] 2 (rmD l Z a0 hw [] (um % (10 : Int32)) h91 n0 hn) (hw _ (List.mem_of_getElem? (i := 6) rfl)) (hw _ (List.mem_of_getElem? (i := 7) rfl)) (hw _ (List.mem_of_getElem? (i := 4) rfl)) (hw _ (List.mem_of_getElem? (i := 8) rfl)) (by decide) d1_111 pd_0 rfl rfl rfl rfl (by decide) (by decide) (by decide) (by decide) ?_
  refine Own.bastore_ V91 (i := 9) rfl (Nat.le_of_ble_eq_true rfl) g_a1 d1_114 (fun h92 W92 V92 => ?_)
  have hn : n0 ≤ h92.size := by rw [W92.size]; exact hn
  clear V91
  replace V92 : Arl Z h92 a1 ka .byte [own_x, own_x, own_x, own_x, own_x, own_x, own_x, own_x, own_x, (own_d (um % (10 : Int32))), own_c, (own_d (us / (10 : Int32))), (own_d (us % (10 : Int32))), own_x, own_x, own_x] := V92
  have K := K.wr W92 (Or.inl (List.mem_of_getElem? (i := 0) rfl))
  refine Own.aloadN d1_115 rfl rfl ?_
  refine Own.iinc (-1 : Int32) #[.val (.int p0), .val (.ref a1), .val (.int (1 : Int32)), .val (.int uh), .val (.int um), .val (.int us), .val (.int (6 : Int32)), .val (.int (13 : Int32)), .val (.int ((9 : Int32) + (-1 : Int32))), .unset] d1_116 rfl rfl rfl ?_
  refine OAt.castL (Ls' := #[.val (.int p0), .val (.ref a1), .val (.int (1 : Int32)), .val (.int uh), .val (.int um), .val (.int us), .val (.int (6 : Int32)), .val (.int (13 : Int32)), .val (.int (8 : Int32)), .unset]) rfl rfl ?_
  refine Own.iload d1_119 rfl ?_
  refine Own.iload d1_121 rfl ?_
  refine Own.bipush (10 : Int32) d1_123 rfl ?_
  refine Own.idiv d1_125 (by decide) ?_
  refine Own.callSP [(.int (um / (10 : Int32)))] [(.int (8 : Int32)), (.ref a1)] 2 (rmD l Z a0 hw [] (um / (10 : Int32)) h92 n0 hn) (hw _ (List.mem_of_getElem? (i := 6) rfl)) (hw _ (List.mem_of_getElem? (i := 7) rfl)) (hw _ (List.mem_of_getElem? (i := 4) rfl)) (hw _ (List.mem_of_getElem? (i := 8) rfl)) (by decide) d1_126 pd_0 rfl rfl rfl rfl (by decide) (by decide) (by decide) (by decide) ?_
  refine Own.bastore_ V92 (i := 8) rfl (Nat.le_of_ble_eq_true rfl) g_a1 d1_129 (fun h93 W93 V93 => ?_)
  have hn : n0 ≤ h93.size := by rw [W93.size]; exact hn
  clear V92
  replace V93 : Arl Z h93 a1 ka .byte [own_x, own_x, own_x, own_x, own_x, own_x, own_x, own_x, (own_d (um / (10 : Int32))), (own_d (um % (10 : Int32))), own_c, (own_d (us / (10 : Int32))), (own_d (us % (10 : Int32))), own_x, own_x, own_x] := V93
  have K := K.wr W93 (Or.inl (List.mem_of_getElem? (i := 0) rfl))
  refine Own.aloadN d1_130 rfl rfl ?_
  refine Own.iinc (-1 : Int32) #[.val (.int p0), .val (.ref a1), .val (.int (1 : Int32)), .val (.int uh), .val (.int um), .val (.int us), .val (.int (6 : Int32)), .val (.int (13 : Int32)), .val (.int ((8 : Int32) + (-1 : Int32))), .unset] d1_131 rfl rfl rfl ?_
  refine OAt.castL (Ls' := #[.val (.int p0), .val (.ref a1), .val (.int (1 : Int32)), .val (.int uh), .val (.int um), .val (.int us), .val (.int (6 : Int32)), .val (.int (13 : Int32)), .val (.int (7 : Int32)), .unset]) rfl rfl ?_
  refine Own.iload d1_134 rfl ?_
  refine Own.bipush (58 : Int32) d1_136 rfl ?_
  refine Own.bastore_ V93 (i := 7) rfl (Nat.le_of_ble_eq_true rfl) g_a1 d1_138 (fun h94 W94 V94 => ?_)
  have hn : n0 ≤ h94.size := by rw [W94.size]; exact hn
  clear V93
  replace V94 : Arl Z h94 a1 ka .byte [own_x, own_x, own_x, own_x, own_x, own_x, own_x, own_c, (own_d (um / (10 : Int32))), (own_d (um % (10 : Int32))), own_c, (own_d (us / (10 : Int32))), (own_d (us % (10 : Int32))), own_x, own_x, own_x] := V94
  have K := K.wr W94 (Or.inl (List.mem_of_getElem? (i := 0) rfl))
  refine Own.iloadN d1_139 rfl ?_
  refine Own.istore #[.val (.int p0), .val (.ref a1), .val (.int (1 : Int32)), .val (.int uh), .val (.int um), .val (.int us), .val (.int (6 : Int32)), .val (.int (13 : Int32)), .val (.int (7 : Int32)), .val (.int uh)] d1_140 rfl ?_
  refine Own.iload d1_142 rfl ?_
  refine Own.iloadN d1_144 rfl ?_
  refine Own.icmp_le 173 d1_145 (by decide) rfl (fun q => absurd (by decide) q) (fun _ => ?_)
  refine Own.aloadN d1_148 rfl rfl ?_
  refine Own.iinc (-1 : Int32) #[.val (.int p0), .val (.ref a1), .val (.int (1 : Int32)), .val (.int uh), .val (.int um), .val (.int us), .val (.int (6 : Int32)), .val (.int (13 : Int32)), .val (.int ((7 : Int32) + (-1 : Int32))), .val (.int uh)] d1_149 rfl rfl rfl ?_
  refine OAt.castL (Ls' := #[.val (.int p0), .val (.ref a1), .val (.int (1 : Int32)), .val (.int uh), .val (.int um), .val (.int us), .val (.int (6 : Int32)), .val (.int (13 : Int32)), .val (.int (6 : Int32)), .val (.int uh)]) rfl rfl ?_
  refine Own.iload d1_152 rfl ?_
  refine Own.iload d1_154 rfl ?_
  refine Own.bipush (10 : Int32) d1_156 rfl ?_
  refine Own.irem_ d1_158 (by decide) ?_
  refine Own.callSP [(.int (uh % (10 : Int32)))] [(.int (6 : Int32)), (.ref a1)] 2 (rmD l Z a0 hw [] (uh % (10 : Int32)) h94 n0 hn) (hw _ (List.mem_of_getElem? (i := 6) rfl)) (hw _ (List.mem_of_getElem? (i := 7) rfl)) (hw _ (List.mem_of_getElem? (i := 4) rfl)) (hw _ (List.mem_of_getElem? (i := 8) rfl)) (by decide) d1_159 pd_0 rfl rfl rfl rfl (by decide) (by decide) (by decide) (by decide) ?_
  refine Own.bastore_ V94 (i := 6) rfl (Nat.le_of_ble_eq_true rfl) g_a1 d1_162 (fun h95 W95 V95 => ?_)
  have hn : n0 ≤ h95.size := by rw [W95.size]; exact hn
  clear V94
  replace V95 : Arl Z h95 a1 ka .byte [own_x, own_x, own_x, own_x, own_x, own_x, (own_d (uh % (10 : Int32))), own_c, (own_d (um / (10 : Int32))), (own_d (um % (10 : Int32))), own_c, (own_d (us / (10 : Int32))), (own_d (us % (10 : Int32))), own_x, own_x, own_x] := V95
  have K := K.wr W95 (Or.inl (List.mem_of_getElem? (i := 0) rfl))
  refine Own.iload d1_163 rfl ?_
  refine Own.bipush (10 : Int32) d1_165 rfl ?_
  refine Own.idiv d1_167 (by decide) ?_
  refine Own.istore #[.val (.int p0), .val (.ref a1), .val (.int (1 : Int32)), .val (.int uh), .val (.int um), .val (.int us), .val (.int (6 : Int32)), .val (.int (13 : Int32)), .val (.int (6 : Int32)), .val (.int (uh / (10 : Int32)))] d1_168 rfl ?_
  refine Own.goto_ 142 d1_170 (by decide) rfl ?_
  refine Own.iload d1_142 rfl ?_
  refine Own.iloadN d1_144 rfl ?_
  refine Own.icmp_le 173 d1_145 (by decide) rfl (fun q => absurd (by decide) q) (fun _ => ?_)
  refine Own.aloadN d1_148 rfl rfl ?_
  refine Own.iinc (-1 : Int32) #[.val (.int p0), .val (.ref a1), .val (.int (1 : Int32)), .val (.int uh), .val (.int um), .val (.int us), .val (.int (6 : Int32)), .val (.int (13 : Int32)), .val (.int ((6 : Int32) + (-1 : Int32))), .val (.int (uh / (10 : Int32)))] d1_149 rfl rfl rfl ?_
  refine OAt.castL (Ls' := #[.val (.int p0), .val (.ref a1), .val (.int (1 : Int32)), .val (.int uh), .val (.int um), .val (.int us), .val (.int (6 : Int32)), .val (.int (13 : Int32)), .val (.int (5 : Int32)), .val (.int (uh / (10 : Int32)))]) rfl rfl ?_
  refine Own.iload d1_152 rfl ?_
  refine Own.iload d1_154 rfl ?_
  refine Own.bipush (10 : Int32) d1_156 rfl ?_
  refine Own.irem_ d1_158 (by decide) ?_
  refine Own.callSP [(.int ((uh / (10 : Int32)) % (10 : Int32)))] [(.int (5 : Int32)), (.ref a1)] 2 (rmD l Z a0 hw [] ((uh / (10 : Int32)) % (10 : Int32)) h95 n0 hn) (hw _ (List.mem_of_getElem? (i := 6) rfl)) (hw _ (List.mem_of_getElem? (i := 7) rfl)) (hw _ (List.mem_of_getElem? (i := 4) rfl)) (hw _ (List.mem_of_getElem? (i := 8) rfl)) (by decide) d1_159 pd_0 rfl rfl rfl rfl (by decide) (by decide) (by decide) (by decide) ?_
  refine Own.bastore_ V95 (i := 5) rfl (Nat.le_of_ble_eq_true rfl) g_a1 d1_162 (fun h96 W96 V96 => ?_)
  have hn : n0 ≤ h96.size := by rw [W96.size]; exact hn
  clear V95
  replace V96 : Arl Z h96 a1 ka .byte [own_x, own_x, own_x, own_x, own_x, (own_d ((uh / (10 : Int32)) % (10 : Int32))), (own_d (uh % (10 : Int32))), own_c, (own_d (um / (10 : Int32))), (own_d (um % (10 : Int32))), own_c, (own_d (us / (10 : Int32))), (own_d (us % (10 : Int32))), own_x, own_x, own_x] := V96
  have K := K.wr W96 (Or.inl (List.mem_of_getElem? (i := 0) rfl))
  refine Own.iload d1_163 rfl ?_
  refine Own.bipush (10 : Int32) d1_165 rfl ?_
  refine Own.idiv d1_167 (by decide) ?_
  refine Own.istore #[.val (.int p0), .val (.ref a1), .val (.int (1 : Int32)), .val (.int uh), .val (.int um), .val (.int us), .val (.int (6 : Int32)), .val (.int (13 : Int32)), .val (.int (5 : Int32)), .val (.int ((uh / (10 : Int32)) / (10 : Int32)))] d1_168 rfl ?_
  refine Own.goto_ 142 d1_170 (by decide) rfl ?_
  refine Own.iload d1_142 rfl ?_
  refine Own.iloadN d1_144 rfl ?_
  refine Own.icmp_le 173 d1_145 (by decide) rfl (fun q => absurd (by decide) q) (fun _ => ?_)
  refine Own.aloadN d1_148 rfl rfl ?_
  refine Own.iinc (-1 : Int32) #[.val (.int p0), .val (.ref a1), .val (.int (1 : Int32)), .val (.int uh), .val (.int um), .val (.int us), .val (.int (6 : Int32)), .val (.int (13 : Int32)), .val (.int ((5 : Int32) + (-1 : Int32))), .val (.int ((uh / (10 : Int32)) / (10 : Int32)))] d1_149 rfl rfl rfl ?_
  refine OAt.castL (Ls' := #[.val (.int p0), .val (.ref a1), .val (.int (1 : Int32)), .val (.int uh), .val (.int um), .val (.int us), .val (.int (6 : Int32)), .val (.int (13 : Int32)), .val (.int (4 : Int32)), .val (.int ((uh / (10 : Int32)) / (10 : Int32)))]) rfl rfl ?_
  refine Own.iload d1_152 rfl ?_
  refine Own.iload d1_154 rfl ?_
  refine Own.bipush (10 : Int32) d1_156 rfl ?_
  refine Own.irem_ d1_158 (by decide) ?_
  refine Own.callSP [(.int (((uh / (10 : Int32)) / (10 : Int32)) % (10 : Int32)))] [(.int (4 : Int32)), (.ref a1)] 2 (rmD l Z a0 hw [] (((uh / (10 : Int32)) / (10 : Int32)) % (10 : Int32)) h96 n0 hn) (hw _ (List.mem_of_getElem? (i := 6) rfl)) (hw _ (List.mem_of_getElem? (i := 7) rfl)) (hw _ (List.mem_of_getElem? (i := 4) rfl)) (hw _ (List.mem_of_getElem? (i := 8) rfl)) (by decide) d1_159 pd_0 rfl rfl rfl rfl (by decide) (by decide) (by decide) (by decide) ?_
  refine Own.bastore_ V96 (i := 4) rfl (Nat.le_of_ble_eq_true rfl) g_a1 d1_162 (fun h97 W97 V97 => ?_)
  have hn : n0 ≤ h97.size := by rw [W97.size]; exact hn
  clear V96
  replace V97 : Arl Z h97 a1 ka .byte [own_x, own_x, own_x, own_x, (own_d (((uh / (10 : Int32)) / (10 : Int32)) % (10 : Int32))), (own_d ((uh / (10 : Int32)) % (10 : Int32))), (own_d (uh % (10 : Int32))), own_c, (own_d (um / (10 : Int32))), (own_d (um % (10 : Int32))), own_c, (own_d (us / (10 : Int32))), (own_d (us % (10 : Int32))), own_x, own_x, own_x] := V97
  have K := K.wr W97 (Or.inl (List.mem_of_getElem? (i := 0) rfl))
  refine Own.iload d1_163 rfl ?_
  refine Own.bipush (10 : Int32) d1_165 rfl ?_
  refine Own.idiv d1_167 (by decide) ?_
  refine Own.istore #[.val (.int p0), .val (.ref a1), .val (.int (1 : Int32)), .val (.int uh), .val (.int um), .val (.int us), .val (.int (6 : Int32)), .val (.int (13 : Int32)), .val (.int (4 : Int32)), .val (.int (((uh / (10 : Int32)) / (10 : Int32)) / (10 : Int32)))] d1_168 rfl ?_
  refine Own.goto_ 142 d1_170 (by decide) rfl ?_
  refine Own.iload d1_142 rfl ?_
  refine Own.iloadN d1_144 rfl ?_
  refine Own.icmp_le 173 d1_145 (by decide) rfl (fun q => absurd (by decide) q) (fun _ => ?_)
  refine Own.aloadN d1_148 rfl rfl ?_
  refine Own.iinc (-1 : Int32) #[.val (.int p0), .val (.ref a1), .val (.int (1 : Int32)), .val (.int uh), .val (.int um), .val (.int us), .val (.int (6 : Int32)), .val (.int (13 : Int32)), .val (.int ((4 : Int32) + (-1 : Int32))), .val (.int (((uh / (10 : Int32)) / (10 : Int32)) / (10 : Int32)))] d1_149 rfl rfl rfl ?_
  refine OAt.castL (Ls' := #[.val (.int p0), .val (.ref a1), .val (.int (1 : Int32)), .val (.int uh), .val (.int um), .val (.int us), .val (.int (6 : Int32)), .val (.int (13 : Int32)), .val (.int (3 : Int32)), .val (.int (((uh / (10 : Int32)) / (10 : Int32)) / (10 : Int32)))]) rfl rfl ?_
  refine Own.iload d1_152 rfl ?_
  refine Own.iload d1_154 rfl ?_
  refine Own.bipush (10 : Int32) d1_156 rfl ?_
  refine Own.irem_ d1_158 (by decide) ?_
  refine Own.callSP [(.int ((((uh / (10 : Int32)) / (10 : Int32)) / (10 : Int32)) % (10 : Int32)))] [(.int (3 : Int32)), (.ref a1)] 2 (rmD l Z a0 hw [] ((((uh / (10 : Int32)) / (10 : Int32)) / (10 : Int32)) % (10 : Int32)) h97 n0 hn) (hw _ (List.mem_of_getElem? (i := 6) rfl)) (hw _ (List.mem_of_getElem? (i := 7) rfl)) (hw _ (List.mem_of_getElem? (i := 4) rfl)) (hw _ (List.mem_of_getElem? (i := 8) rfl)) (by decide) d1_159 pd_0 rfl rfl rfl rfl (by decide) (by decide) (by decide) (by decide) ?_
  refine Own.bastore_ V97 (i := 3) rfl (Nat.le_of_ble_eq_true rfl) g_a1 d1_162 (fun h98 W98 V98 => ?_)
  have hn : n0 ≤ h98.size := by rw [W98.size]; exact hn
  clear V97
  replace V98 : Arl Z h98 a1 ka .byte [own_x, own_x, own_x, (own_d ((((uh / (10 : Int32)) / (10 : Int32)) / (10 : Int32)) % (10 : Int32))), (own_d (((uh / (10 : Int32)) / (10 : Int32)) % (10 : Int32))), (own_d ((uh / (10 : Int32)) % (10 : Int32))), (own_d (uh % (10 : Int32))), own_c, (own_d (um / (10 : Int32))), (own_d (um % (10 : Int32))), own_c, (own_d (us / (10 : Int32))), (own_d (us % (10 : Int32))), own_x, own_x, own_x] := V98
  have K := K.wr W98 (Or.inl (List.mem_of_getElem? (i := 0) rfl))
  refine Own.iload d1_163 rfl ?_
  refine Own.bipush (10 : Int32) d1_165 rfl ?_
  refine Own.idiv d1_167 (by decide) ?_
  refine Own.istore #[.val (.int p0), .val (.ref a1), .val (.int (1 : Int32)), .val (.int uh), .val (.int um), .val (.int us), .val (.int (6 : Int32)), .val (.int (13 : Int32)), .val (.int (3 : Int32)), .val (.int ((((uh / (10 : Int32)) / (10 : Int32)) / (10 : Int32)) / (10 : Int32)))] d1_168 rfl ?_
  refine Own.goto_ 142 d1_170 (by decide) rfl ?_
  refine Own.iload d1_142 rfl ?_
  refine Own.iloadN d1_144 rfl ?_
  refine Own.icmp_le 173 d1_145 (by decide) rfl (fun q => absurd (by decide) q) (fun _ => ?_)
  refine Own.aloadN d1_148 rfl rfl ?_
  refine Own.iinc (-1 : Int32) #[.val (.int p0), .val (.ref a1), .val (.int (1 : Int32)), .val (.int uh), .val (.int um), .val (.int us), .val (.int (6 : Int32)), .val (.int (13 : Int32)), .val (.int ((3 : Int32) + (-1 : Int32))), .val (.int ((((uh / (10 : Int32)) / (10 : Int32)) / (10 : Int32)) / (10 : Int32)))] d1_149 rfl rfl rfl ?_
  refine OAt.castL (Ls' := #[.val (.int p0), .val (.ref a1), .val (.int (1 : Int32)), .val (.int uh), .val (.int um), .val (.int us), .val (.int (6 : Int32)), .val (.int (13 : Int32)), .val (.int (2 : Int32)), .val (.int ((((uh / (10 : Int32)) / (10 : Int32)) / (10 : Int32)) / (10 : Int32)))]) rfl rfl ?_
  refine Own.iload d1_152 rfl ?_
  refine Own.iload d1_154 rfl ?_
  refine Own.bipush (10 : Int32) d1_156 rfl ?_
  refine Own.irem_ d1_158 (by decide) ?_
  refine Own.callSP [(.int (((((uh / (10 : Int32)) / (10 : Int32)) / (10 : Int32)) / (10 : Int32)) % (10 : Int32)))] [(.int (2 : Int32)), (.ref a1)] 2 (rmD l Z a0 hw [] (((((uh / (10 : Int32)) / (10 : Int32)) / (10 : Int32)) / (10 : Int32)) % (10 : Int32)) h98 n0 hn) (hw _ (List.mem_of_getElem? (i := 6) rfl)) (hw _ (List.mem_of_getElem? (i := 7) rfl)) (hw _ (List.mem_of_getElem? (i := 4) rfl)) (hw _ (List.mem_of_getElem? (i := 8) rfl)) (by decide) d1_159 pd_0 rfl rfl rfl rfl (by decide) (by decide) (by decide) (by decide) ?_
  refine Own.bastore_ V98 (i := 2) rfl (Nat.le_of_ble_eq_true rfl) g_a1 d1_162 (fun h99 W99 V99 => ?_)
  have hn : n0 ≤ h99.size := by rw [W99.size]; exact hn
  clear V98
  replace V99 : Arl Z h99 a1 ka .byte [own_x, own_x, (own_d (((((uh / (10 : Int32)) / (10 : Int32)) / (10 : Int32)) / (10 : Int32)) % (10 : Int32))), (own_d ((((uh / (10 : Int32)) / (10 : Int32)) / (10 : Int32)) % (10 : Int32))), (own_d (((uh / (10 : Int32)) / (10 : Int32)) % (10 : Int32))), (own_d ((uh / (10 : Int32)) % (10 : Int32))), (own_d (uh % (10 : Int32))), own_c, (own_d (um / (10 : Int32))), (own_d (um % (10 : Int32))), own_c, (own_d (us / (10 : Int32))), (own_d (us % (10 : Int32))), own_x, own_x, own_x] := V99
  have K := K.wr W99 (Or.inl (List.mem_of_getElem? (i := 0) rfl))
  refine Own.iload d1_163 rfl ?_
  refine Own.bipush (10 : Int32) d1_165 rfl ?_
  refine Own.idiv d1_167 (by decide) ?_
  refine Own.istore #[.val (.int p0), .val (.ref a1), .val (.int (1 : Int32)), .val (.int uh), .val (.int um), .val (.int us), .val (.int (6 : Int32)), .val (.int (13 : Int32)), .val (.int (2 : Int32)), .val (.int (((((uh / (10 : Int32)) / (10 : Int32)) / (10 : Int32)) / (10 : Int32)) / (10 : Int32)))] d1_168 rfl ?_
  refine Own.goto_ 142 d1_170 (by decide) rfl ?_
  refine Own.iload d1_142 rfl ?_
  refine Own.iloadN d1_144 rfl ?_
  refine Own.icmp_le 173 d1_145 (by decide) rfl (fun q => absurd (by decide) q) (fun _ => ?_)
  refine Own.aloadN d1_148 rfl rfl ?_
  refine Own.iinc (-1 : Int32) #[.val (.int p0), .val (.ref a1), .val (.int (1 : Int32)), .val (.int uh), .val (.int um), .val (.int us), .val (.int (6 : Int32)), .val (.int (13 : Int32)), .val (.int ((2 : Int32) + (-1 : Int32))), .val (.int (((((uh / (10 : Int32)) / (10 : Int32)) / (10 : Int32)) / (10 : Int32)) / (10 : Int32)))] d1_149 rfl rfl rfl ?_
  refine OAt.castL (Ls' := #[.val (.int p0), .val (.ref a1), .val (.int (1 : Int32)), .val (.int uh), .val (.int um), .val (.int us), .val (.int (6 : Int32)), .val (.int (13 : Int32)), .val (.int (1 : Int32)), .val (.int (((((uh / (10 : Int32)) / (10 : Int32)) / (10 : Int32)) / (10 : Int32)) / (10 : Int32)))]) rfl rfl ?_
  refine Own.iload d1_152 rfl ?_
  refine Own.iload d1_154 rfl ?_
  refine Own.bipush (10 : Int32) d1_156 rfl ?_
  refine Own.irem_ d1_158 (by decide) ?_
  refine Own.callSP [(.int ((((((uh / (10 : Int32)) / (10 : Int32)) / (10 : Int32)) / (10 : Int32)) / (10 : Int32)) % (10 : Int32)))] [(.int (1 : Int32)), (.ref a1)] 2 (rmD l Z a0 hw [] ((((((uh / (10 : Int32)) / (10 : Int32)) / (10 : Int32)) / (10 : Int32)) / (10 : Int32)) % (10 : Int32)) h99 n0 hn) (hw _ (List.mem_of_getElem? (i := 6) rfl)) (hw _ (List.mem_of_getElem? (i := 7) rfl)) (hw _ (List.mem_of_getElem? (i := 4) rfl)) (hw _ (List.mem_of_getElem? (i := 8) rfl)) (by decide) d1_159 pd_0 rfl rfl rfl rfl (by decide) (by decide) (by decide) (by decide) ?_
  refine Own.bastore_ V99 (i := 1) rfl (Nat.le_of_ble_eq_true rfl) g_a1 d1_162 (fun h100 W100 V100 => ?_)
  have hn : n0 ≤ h100.size := by rw [W100.size]; exact hn
  clear V99
  replace V100 : Arl Z h100 a1 ka .byte [own_x, (own_d ((((((uh / (10 : Int32)) / (10 : Int32)) / (10 : Int32)) / (10 : Int32)) / (10 : Int32)) % (10 : Int32))), (own_d (((((uh / (10 : Int32)) / (10 : Int32)) / (10 : Int32)) / (10 : Int32)) % (10 : Int32))), (own_d ((((uh / (10 : Int32)) / (10 : Int32)) / (10 : Int32)) % (10 : Int32))), (own_d (((uh / (10 : Int32)) / (10 : Int32)) % (10 : Int32))), (own_d ((uh / (10 : Int32)) % (10 : Int32))), (own_d (uh % (10 : Int32))), own_c, (own_d (um / (10 : Int32))), (own_d (um % (10 : Int32))), own_c, (own_d (us / (10 : Int32))), (own_d (us % (10 : Int32))), own_x, own_x, own_x] := V100
  have K := K.wr W100 (Or.inl (List.mem_of_getElem? (i := 0) rfl))
  refine Own.iload d1_163 rfl ?_
  refine Own.bipush (10 : Int32) d1_165 rfl ?_
  refine Own.idiv d1_167 (by decide) ?_
  refine Own.istore #[.val (.int p0), .val (.ref a1), .val (.int (1 : Int32)), .val (.int uh), .val (.int um), .val (.int us), .val (.int (6 : Int32)), .val (.int (13 : Int32)), .val (.int (1 : Int32)), .val (.int ((((((uh / (10 : Int32)) / (10 : Int32)) / (10 : Int32)) / (10 : Int32)) / (10 : Int32)) / (10 : Int32)))] d1_168 rfl ?_
  refine Own.goto_ 142 d1_170 (by decide) rfl ?_
  refine Own.iload d1_142 rfl ?_
  refine Own.iloadN d1_144 rfl ?_
  refine Own.icmp_le 173 d1_145 (by decide) rfl (fun _ => ?_) (fun q => absurd q (by decide))
  refine Own.iload d1_173 rfl ?_
  refine Own.ret_int rfl d1_175 (by decide) (by decide) ?_
  exact ⟨rfl, K, V100⟩
def Q_rmF_2_2 (Z : State) (a1 : Addr) (ka : ClassId) (uh : Int32) (um : Int32) (us : Int32) (h0 : Heap) (n0 : Nat) (v : Option Value) (h : Heap) : Prop := v = some (.int (10 : Int32)) ∧ Keep h0 h [a1] ∧ Arl Z h a1 ka .byte [own_x, own_x, (own_d ((uh / (10 : Int32)) % (10 : Int32))), (own_d (uh % (10 : Int32))), own_c, (own_d (um / (10 : Int32))), (own_d (um % (10 : Int32))), own_c, (own_d (us / (10 : Int32))), (own_d (us % (10 : Int32))), own_x, own_x, own_x, own_x, own_x, own_x]
theorem ef_rmF_2_2 (m : MethodId) (p0 : Int32) (a1 : Addr)  : entryFrame m #[(.int p0), (.ref a1), (.int (2 : Int32))] 10 = mkF m 0 #[.val (.int p0), .val (.ref a1), .val (.int (2 : Int32)), .unset, .unset, .unset, .unset, .unset, .unset, .unset] [] := by first | (simp [entryFrame, mkF, argsToLocals, Value.category]; done) | rfl
set_option maxRecDepth 65536 in
set_option maxHeartbeats 40000000 in
theorem rmF_2_2 (l : Launch) (Z : State) (a0 : Array Value) (hw : ∀ d ∈ tables_1, d.before a0 Z = true) (ws : List Jvm.Cond) (p0 : Int32) (a1 : Addr) (ka : ClassId) (uh : Int32) (um : Int32) (us : Int32) (h0 : Heap) (n0 : Nat) (hn : n0 ≤ h0.size) (V_a1 : Arl Z h0 a1 ka .byte [own_x, own_x, own_x, own_x, own_x, own_x, own_x, own_x, own_x, own_x, own_x, own_x, own_x, own_x, own_x, own_x]) (g_a1 : n0 ≤ a1) (e_h : p0 / (3600 : Int32) = uh) (e_m : (p0 / (60 : Int32)) % (60 : Int32) = um) (e_s : p0 % (60 : Int32) = us) (hl : 0 ≤ uh.toInt) (hu : uh.toInt < 100) :
    Met false l Z (⟨"com/example/voznired/voznired/timetable/StopTime", "formatTime", "(I[BI)I"⟩ : MethodName) prog_118_method_10_code 10 (some .int) ({ frames := 1, cells := 0, slots := 0, locals := 14 } : Room) ws #[(.int p0), (.ref a1), (.int (2 : Int32))] h0 n0 (Q_rmF_2_2 Z a1 ka uh um us h0 n0) := by
  refine Met.of pn_1 (fun m => ef_rmF_2_2 m p0 a1) ?_
  have K := Keep.refl h0 [a1]
  refine Own.iloadN d1_0 rfl ?_
  refine Own.sipush (3600 : Int32) d1_1 rfl ?_
  refine Own.idiv d1_4 (by decide) ?_
  rw [e_h]
  refine Own.istoreN #[.val (.int p0), .val (.ref a1), .val (.int (2 : Int32)), .val (.int uh), .unset, .unset, .unset, .unset, .unset, .unset] d1_5 rfl ?_
  refine Own.iloadN d1_6 rfl ?_
  refine Own.bipush (60 : Int32) d1_7 rfl ?_
  refine Own.idiv d1_9 (by decide) ?_
  refine Own.bipush (60 : Int32) d1_10 rfl ?_
  refine Own.irem_ d1_12 (by decide) ?_
  rw [e_m]
  refine Own.istore #[.val (.int p0), .val (.ref a1), .val (.int (2 : Int32)), .val (.int uh), .val (.int um), .unset, .unset, .unset, .unset, .unset] d1_13 rfl ?_
  refine Own.iloadN d1_15 rfl ?_
  refine Own.bipush (60 : Int32) d1_16 rfl ?_
  refine Own.irem_ d1_18 (by decide) ?_
  rw [e_s]
  refine Own.istore #[.val (.int p0), .val (.ref a1), .val (.int (2 : Int32)), .val (.int uh), .val (.int um), .val (.int us), .unset, .unset, .unset, .unset] d1_19 rfl ?_
  refine Own.iconst (2 : Int32) d1_21 rfl ?_
  refine Own.istore #[.val (.int p0), .val (.ref a1), .val (.int (2 : Int32)), .val (.int uh), .val (.int um), .val (.int us), .val (.int (2 : Int32)), .unset, .unset, .unset] d1_22 rfl ?_
  refine Own.iloadN d1_24 rfl ?_
  refine Own.bipush (100 : Int32) d1_25 rfl ?_
  refine Own.idiv d1_27 (by decide) ?_
  obtain ⟨ur0, e_ur0⟩ : ∃ z : Int32, z = (uh / (100 : Int32)) := ⟨_, rfl⟩
  rw [← e_ur0]
  have r_ur0 : ur0.toInt = uh.toInt / 100 := by
    rw [e_ur0]; exact own_div 100 rfl (by omega) (by omega)
  refine Own.istore #[.val (.int p0), .val (.ref a1), .val (.int (2 : Int32)), .val (.int uh), .val (.int um), .val (.int us), .val (.int (2 : Int32)), .val (.int ur0), .unset, .unset] d1_28 rfl ?_
  refine Own.iload d1_30 rfl ?_
  refine Own.if_le 48 d1_32 (by decide) rfl (fun _ => ?_) (fun q => absurd q (by simp only [Int32.lt_iff_toInt_lt, Int32.reduceToInt]; omega))
  refine Own.iloadN d1_48 rfl ?_
  refine Own.iload d1_49 rfl ?_
  refine Own.iadd d1_51 ?_
  refine OAt.cast (st' := [(.int (4 : Int32))]) rfl ?_
  refine Own.bipush (6 : Int32) d1_52 rfl ?_
  refine Own.iadd d1_54 ?_
  refine OAt.cast (st' := [(.int (10 : Int32))]) rfl ?_
  refine Own.istore #[.val (.int p0), .val (.ref a1), .val (.int (2 : Int32)), .val (.int uh), .val (.int um), .val (.int us), .val (.int (2 : Int32)), .val (.int (10 : Int32)), .unset, .unset] d1_55 rfl ?_
  refine Own.iload d1_57 rfl ?_
  refine Own.istore #[.val (.int p0), .val (.ref a1), .val (.int (2 : Int32)), .val (.int uh), .val (.int um), .val (.int us), .val (.int (2 : Int32)), .val (.int (10 : Int32)), .val (.int (10 : Int32)), .unset] d1_59 rfl ?_
  refine Own.aloadN d1_61 rfl rfl ?_
  refine Own.iinc (-1 : Int32) #[.val (.int p0), .val (.ref a1), .val (.int (2 : Int32)), .val (.int uh), .val (.int um), .val (.int us), .val (.int (2 : Int32)), .val (.int (10 : Int32)), .val (.int ((10 : Int32) + (-1 : Int32))), .unset] d1_62 rfl rfl rfl ?_
  refine OAt.castL (Ls' := #[.val (.int p0), .val (.ref a1), .val (.int (2 : Int32)), .val (.int uh), .val (.int um), .val (.int us), .val (.int (2 : Int32)), .val (.int (10 : Int32)), .val (.int (9 : Int32)), .unset]) rfl rfl ?_
  refine Own.iload d1_65 rfl ?_
  refine Own.iload d1_67 rfl ?_
  refine Own.bipush (10 : Int32) d1_69 rfl ?_
  refine Own.irem_ d1_71 (by decide) ?_
  refine Own.callSP [(.int (us % (10 : Int32)))] [(.int (9 : Int32)), (.ref a1)] 2 (rmD l Z a0 hw [] (us % (10 : Int32)) h0 n0 hn) (hw _ (List.mem_of_getElem? (i := 6) rfl)) (hw _ (List.mem_of_getElem? (i := 7) rfl)) (hw _ (List.mem_of_getElem? (i := 4) rfl)) (hw _ (List.mem_of_getElem? (i := 8) rfl)) (by decide) d1_72 pd_0 rfl rfl rfl rfl (by decide) (by decide) (by decide) (by decide) ?_
  refine Own.bastore_ V_a1 (i := 9) rfl (Nat.le_of_ble_eq_true rfl) g_a1 d1_75 (fun h101 W101 V101 => ?_)
  have hn : n0 ≤ h101.size := by rw [W101.size]; exact hn
  clear V_a1
  replace V101 : Arl Z h101 a1 ka .byte [own_x, own_x, own_x, own_x, own_x, own_x, own_x, own_x, own_x, (own_d (us % (10 : Int32))), own_x, own_x, own_x, own_x, own_x, own_x] := V101
  have K := K.wr W101 (Or.inl (List.mem_of_getElem? (i := 0) rfl))
  refine Own.aloadN d1_76 rfl rfl ?_
  refine Own.iinc (-1 : Int32) #[.val (.int p0), .val (.ref a1), .val (.int (2 : Int32)), .val (.int uh), .val (.int um), .val (.int us), .val (.int (2 : Int32)), .val (.int (10 : Int32)), .val (.int ((9 : Int32) + (-1 : Int32))), .unset] d1_77 rfl rfl rfl ?_
  refine OAt.castL (Ls' := #[.val (.int p0), .val (.ref a1), .val (.int (2 : Int32)), .val (.int uh), .val (.int um), .val (.int us), .val (.int (2 : Int32)), .val (.int (10 : Int32)), .val (.int (8 : Int32)), .unset]) rfl rfl ?_
  refine Own.iload d1_80 rfl ?_
  refine Own.iload d1_82 rfl ?_
  refine Own.bipush (10 : Int32) d1_84 rfl ?_
  refine Own.idiv d1_86 (by decide) ?_
  refine Own.callSP [(.int (us / (10 : Int32)))] [(.int (8 : Int32)), (.ref a1)] 2 (rmD l Z a0 hw [] (us / (10 : Int32)) h101 n0 hn) (hw _ (List.mem_of_getElem? (i := 6) rfl)) (hw _ (List.mem_of_getElem? (i := 7) rfl)) (hw _ (List.mem_of_getElem? (i := 4) rfl)) (hw _ (List.mem_of_getElem? (i := 8) rfl)) (by decide) d1_87 pd_0 rfl rfl rfl rfl (by decide) (by decide) (by decide) (by decide) ?_
  refine Own.bastore_ V101 (i := 8) rfl (Nat.le_of_ble_eq_true rfl) g_a1 d1_90 (fun h102 W102 V102 => ?_)
  have hn : n0 ≤ h102.size := by rw [W102.size]; exact hn
  clear V101
  replace V102 : Arl Z h102 a1 ka .byte [own_x, own_x, own_x, own_x, own_x, own_x, own_x, own_x, (own_d (us / (10 : Int32))), (own_d (us % (10 : Int32))), own_x, own_x, own_x, own_x, own_x, own_x] := V102
  have K := K.wr W102 (Or.inl (List.mem_of_getElem? (i := 0) rfl))
  refine Own.aloadN d1_91 rfl rfl ?_
  refine Own.iinc (-1 : Int32) #[.val (.int p0), .val (.ref a1), .val (.int (2 : Int32)), .val (.int uh), .val (.int um), .val (.int us), .val (.int (2 : Int32)), .val (.int (10 : Int32)), .val (.int ((8 : Int32) + (-1 : Int32))), .unset] d1_92 rfl rfl rfl ?_
  refine OAt.castL (Ls' := #[.val (.int p0), .val (.ref a1), .val (.int (2 : Int32)), .val (.int uh), .val (.int um), .val (.int us), .val (.int (2 : Int32)), .val (.int (10 : Int32)), .val (.int (7 : Int32)), .unset]) rfl rfl ?_
  refine Own.iload d1_95 rfl ?_
  refine Own.bipush (58 : Int32) d1_97 rfl ?_
  refine Own.bastore_ V102 (i := 7) rfl (Nat.le_of_ble_eq_true rfl) g_a1 d1_99 (fun h103 W103 V103 => ?_)
  have hn : n0 ≤ h103.size := by rw [W103.size]; exact hn
  clear V102
  replace V103 : Arl Z h103 a1 ka .byte [own_x, own_x, own_x, own_x, own_x, own_x, own_x, own_c, (own_d (us / (10 : Int32))), (own_d (us % (10 : Int32))), own_x, own_x, own_x, own_x, own_x, own_x] := V103
  have K := K.wr W103 (Or.inl (List.mem_of_getElem? (i := 0) rfl))
  refine Own.aloadN d1_100 rfl rfl ?_
  refine Own.iinc (-1 : Int32) #[.val (.int p0), .val (.ref a1), .val (.int (2 : Int32)), .val (.int uh), .val (.int um), .val (.int us), .val (.int (2 : Int32)), .val (.int (10 : Int32)), .val (.int ((7 : Int32) + (-1 : Int32))), .unset] d1_101 rfl rfl rfl ?_
  refine OAt.castL (Ls' := #[.val (.int p0), .val (.ref a1), .val (.int (2 : Int32)), .val (.int uh), .val (.int um), .val (.int us), .val (.int (2 : Int32)), .val (.int (10 : Int32)), .val (.int (6 : Int32)), .unset]) rfl rfl ?_
  refine Own.iload d1_104 rfl ?_
  refine Own.iload d1_106 rfl ?_
  refine Own.bipush (10 : Int32) d1_108 rfl ?_
  refine Own.irem_ d1_110 (by decide) ?_
  refine Own.callSP [(.int (um % (10 : Int32)))] [(.int (6 : Int32)), (.ref a1)] 2 (rmD l Z a0 hw [] (um % (10 : Int32)) h103 n0 hn) (hw _ (List.mem_of_getElem? (i := 6) rfl)) (hw _ (List.mem_of_getElem? (i := 7) rfl)) (hw _ (List.mem_of_getElem? (i := 4) rfl)) (hw _ (List.mem_of_getElem? (i := 8) rfl)) (by decide) d1_111 pd_0 rfl rfl rfl rfl (by decide) (by decide) (by decide) (by decide) ?_
  refine Own.bastore_ V103 (i := 6) rfl (Nat.le_of_ble_eq_true rfl) g_a1 d1_114 (fun h104 W104 V104 => ?_)
  have hn : n0 ≤ h104.size := by rw [W104.size]; exact hn
  clear V103
  replace V104 : Arl Z h104 a1 ka .byte [own_x, own_x, own_x, own_x, own_x, own_x, (own_d (um % (10 : Int32))), own_c, (own_d (us / (10 : Int32))), (own_d (us % (10 : Int32))), own_x, own_x, own_x, own_x, own_x, own_x] := V104
  have K := K.wr W104 (Or.inl (List.mem_of_getElem? (i := 0) rfl))
  refine Own.aloadN d1_115 rfl rfl ?_
  refine Own.iinc (-1 : Int32) #[.val (.int p0), .val (.ref a1), .val (.int (2 : Int32)), .val (.int uh), .val (.int um), .val (.int us), .val (.int (2 : Int32)), .val (.int (10 : Int32)), .val (.int ((6 : Int32) + (-1 : Int32))), .unset] d1_116 rfl rfl rfl ?_
  refine OAt.castL (Ls' := #[.val (.int p0), .val (.ref a1), .val (.int (2 : Int32)), .val (.int uh), .val (.int um), .val (.int us), .val (.int (2 : Int32)), .val (.int (10 : Int32)), .val (.int (5 : Int32)), .unset]) rfl rfl ?_
  refine Own.iload d1_119 rfl ?_
  refine Own.iload d1_121 rfl ?_
  refine Own.bipush (10 : Int32) d1_123 rfl ?_
  refine Own.idiv d1_125 (by decide) ?_
  refine Own.callSP [(.int (um / (10 : Int32)))] [(.int (5 : Int32)), (.ref a1)] 2 (rmD l Z a0 hw [] (um / (10 : Int32)) h104 n0 hn) (hw _ (List.mem_of_getElem? (i := 6) rfl)) (hw _ (List.mem_of_getElem? (i := 7) rfl)) (hw _ (List.mem_of_getElem? (i := 4) rfl)) (hw _ (List.mem_of_getElem? (i := 8) rfl)) (by decide) d1_126 pd_0 rfl rfl rfl rfl (by decide) (by decide) (by decide) (by decide) ?_
  refine Own.bastore_ V104 (i := 5) rfl (Nat.le_of_ble_eq_true rfl) g_a1 d1_129 (fun h105 W105 V105 => ?_)
  have hn : n0 ≤ h105.size := by rw [W105.size]; exact hn
  clear V104
  replace V105 : Arl Z h105 a1 ka .byte [own_x, own_x, own_x, own_x, own_x, (own_d (um / (10 : Int32))), (own_d (um % (10 : Int32))), own_c, (own_d (us / (10 : Int32))), (own_d (us % (10 : Int32))), own_x, own_x, own_x, own_x, own_x, own_x] := V105
  have K := K.wr W105 (Or.inl (List.mem_of_getElem? (i := 0) rfl))
  refine Own.aloadN d1_130 rfl rfl ?_
  refine Own.iinc (-1 : Int32) #[.val (.int p0), .val (.ref a1), .val (.int (2 : Int32)), .val (.int uh), .val (.int um), .val (.int us), .val (.int (2 : Int32)), .val (.int (10 : Int32)), .val (.int ((5 : Int32) + (-1 : Int32))), .unset] d1_131 rfl rfl rfl ?_
  refine OAt.castL (Ls' := #[.val (.int p0), .val (.ref a1), .val (.int (2 : Int32)), .val (.int uh), .val (.int um), .val (.int us), .val (.int (2 : Int32)), .val (.int (10 : Int32)), .val (.int (4 : Int32)), .unset]) rfl rfl ?_
  refine Own.iload d1_134 rfl ?_
  refine Own.bipush (58 : Int32) d1_136 rfl ?_
  refine Own.bastore_ V105 (i := 4) rfl (Nat.le_of_ble_eq_true rfl) g_a1 d1_138 (fun h106 W106 V106 => ?_)
  have hn : n0 ≤ h106.size := by rw [W106.size]; exact hn
  clear V105
  replace V106 : Arl Z h106 a1 ka .byte [own_x, own_x, own_x, own_x, own_c, (own_d (um / (10 : Int32))), (own_d (um % (10 : Int32))), own_c, (own_d (us / (10 : Int32))), (own_d (us % (10 : Int32))), own_x, own_x, own_x, own_x, own_x, own_x] := V106
  have K := K.wr W106 (Or.inl (List.mem_of_getElem? (i := 0) rfl))
  refine Own.iloadN d1_139 rfl ?_
  refine Own.istore #[.val (.int p0), .val (.ref a1), .val (.int (2 : Int32)), .val (.int uh), .val (.int um), .val (.int us), .val (.int (2 : Int32)), .val (.int (10 : Int32)), .val (.int (4 : Int32)), .val (.int uh)] d1_140 rfl ?_
  refine Own.iload d1_142 rfl ?_
  refine Own.iloadN d1_144 rfl ?_
  refine Own.icmp_le 173 d1_145 (by decide) rfl (fun q => absurd (by decide) q) (fun _ => ?_)
  refine Own.aloadN d1_148 rfl rfl ?_
  refine Own.iinc (-1 : Int32) #[.val (.int p0), .val (.ref a1), .val (.int (2 : Int32)), .val (.int uh), .val (.int um), .val (.int us), .val (.int (2 : Int32)), .val (.int (10 : Int32)), .val (.int ((4 : Int32) + (-1 : Int32))), .val (.int uh)] d1_149 rfl rfl rfl ?_
  refine OAt.castL (Ls' := #[.val (.int p0), .val (.ref a1), .val (.int (2 : Int32)), .val (.int uh), .val (.int um), .val (.int us), .val (.int (2 : Int32)), .val (.int (10 : Int32)), .val (.int (3 : Int32)), .val (.int uh)]) rfl rfl ?_
  refine Own.iload d1_152 rfl ?_
  refine Own.iload d1_154 rfl ?_
  refine Own.bipush (10 : Int32) d1_156 rfl ?_
  refine Own.irem_ d1_158 (by decide) ?_
  refine Own.callSP [(.int (uh % (10 : Int32)))] [(.int (3 : Int32)), (.ref a1)] 2 (rmD l Z a0 hw [] (uh % (10 : Int32)) h106 n0 hn) (hw _ (List.mem_of_getElem? (i := 6) rfl)) (hw _ (List.mem_of_getElem? (i := 7) rfl)) (hw _ (List.mem_of_getElem? (i := 4) rfl)) (hw _ (List.mem_of_getElem? (i := 8) rfl)) (by decide) d1_159 pd_0 rfl rfl rfl rfl (by decide) (by decide) (by decide) (by decide) ?_
  refine Own.bastore_ V106 (i := 3) rfl (Nat.le_of_ble_eq_true rfl) g_a1 d1_162 (fun h107 W107 V107 => ?_)
  have hn : n0 ≤ h107.size := by rw [W107.size]; exact hn
  clear V106
  replace V107 : Arl Z h107 a1 ka .byte [own_x, own_x, own_x, (own_d (uh % (10 : Int32))), own_c, (own_d (um / (10 : Int32))), (own_d (um % (10 : Int32))), own_c, (own_d (us / (10 : Int32))), (own_d (us % (10 : Int32))), own_x, own_x, own_x, own_x, own_x, own_x] := V107
  have K := K.wr W107 (Or.inl (List.mem_of_getElem? (i := 0) rfl))
  refine Own.iload d1_163 rfl ?_
  refine Own.bipush (10 : Int32) d1_165 rfl ?_
  refine Own.idiv d1_167 (by decide) ?_
  refine Own.istore #[.val (.int p0), .val (.ref a1), .val (.int (2 : Int32)), .val (.int uh), .val (.int um), .val (.int us), .val (.int (2 : Int32)), .val (.int (10 : Int32)), .val (.int (3 : Int32)), .val (.int (uh / (10 : Int32)))] d1_168 rfl ?_
  refine Own.goto_ 142 d1_170 (by decide) rfl ?_
  refine Own.iload d1_142 rfl ?_
  refine Own.iloadN d1_144 rfl ?_
  refine Own.icmp_le 173 d1_145 (by decide) rfl (fun q => absurd (by decide) q) (fun _ => ?_)
  refine Own.aloadN d1_148 rfl rfl ?_
  refine Own.iinc (-1 : Int32) #[.val (.int p0), .val (.ref a1), .val (.int (2 : Int32)), .val (.int uh), .val (.int um), .val (.int us), .val (.int (2 : Int32)), .val (.int (10 : Int32)), .val (.int ((3 : Int32) + (-1 : Int32))), .val (.int (uh / (10 : Int32)))] d1_149 rfl rfl rfl ?_
  refine OAt.castL (Ls' := #[.val (.int p0), .val (.ref a1), .val (.int (2 : Int32)), .val (.int uh), .val (.int um), .val (.int us), .val (.int (2 : Int32)), .val (.int (10 : Int32)), .val (.int (2 : Int32)), .val (.int (uh / (10 : Int32)))]) rfl rfl ?_
  refine Own.iload d1_152 rfl ?_
  refine Own.iload d1_154 rfl ?_
  refine Own.bipush (10 : Int32) d1_156 rfl ?_
  refine Own.irem_ d1_158 (by decide) ?_
  refine Own.callSP [(.int ((uh / (10 : Int32)) % (10 : Int32)))] [(.int (2 : Int32)), (.ref a1)] 2 (rmD l Z a0 hw [] ((uh / (10 : Int32)) % (10 : Int32)) h107 n0 hn) (hw _ (List.mem_of_getElem? (i := 6) rfl)) (hw _ (List.mem_of_getElem? (i := 7) rfl)) (hw _ (List.mem_of_getElem? (i := 4) rfl)) (hw _ (List.mem_of_getElem? (i := 8) rfl)) (by decide) d1_159 pd_0 rfl rfl rfl rfl (by decide) (by decide) (by decide) (by decide) ?_
  refine Own.bastore_ V107 (i := 2) rfl (Nat.le_of_ble_eq_true rfl) g_a1 d1_162 (fun h108 W108 V108 => ?_)
  have hn : n0 ≤ h108.size := by rw [W108.size]; exact hn
  clear V107
  replace V108 : Arl Z h108 a1 ka .byte [own_x, own_x, (own_d ((uh / (10 : Int32)) % (10 : Int32))), (own_d (uh % (10 : Int32))), own_c, (own_d (um / (10 : Int32))), (own_d (um % (10 : Int32))), own_c, (own_d (us / (10 : Int32))), (own_d (us % (10 : Int32))), own_x, own_x, own_x, own_x, own_x, own_x] := V108
  have K := K.wr W108 (Or.inl (List.mem_of_getElem? (i := 0) rfl))
  refine Own.iload d1_163 rfl ?_
  refine Own.bipush (10 : Int32) d1_165 rfl ?_
  refine Own.idiv d1_167 (by decide) ?_
  refine Own.istore #[.val (.int p0), .val (.ref a1), .val (.int (2 : Int32)), .val (.int uh), .val (.int um), .val (.int us), .val (.int (2 : Int32)), .val (.int (10 : Int32)), .val (.int (2 : Int32)), .val (.int ((uh / (10 : Int32)) / (10 : Int32)))] d1_168 rfl ?_
  refine Own.goto_ 142 d1_170 (by decide) rfl ?_
  refine Own.iload d1_142 rfl ?_
  refine Own.iloadN d1_144 rfl ?_
  refine Own.icmp_le 173 d1_145 (by decide) rfl (fun _ => ?_) (fun q => absurd q (by decide))
  refine Own.iload d1_173 rfl ?_
  refine Own.ret_int rfl d1_175 (by decide) (by decide) ?_
  exact ⟨rfl, K, V108⟩
def Q_rmF_2_3 (Z : State) (a1 : Addr) (ka : ClassId) (uh : Int32) (um : Int32) (us : Int32) (h0 : Heap) (n0 : Nat) (v : Option Value) (h : Heap) : Prop := v = some (.int (11 : Int32)) ∧ Keep h0 h [a1] ∧ Arl Z h a1 ka .byte [own_x, own_x, (own_d (((uh / (10 : Int32)) / (10 : Int32)) % (10 : Int32))), (own_d ((uh / (10 : Int32)) % (10 : Int32))), (own_d (uh % (10 : Int32))), own_c, (own_d (um / (10 : Int32))), (own_d (um % (10 : Int32))), own_c, (own_d (us / (10 : Int32))), (own_d (us % (10 : Int32))), own_x, own_x, own_x, own_x, own_x]
theorem ef_rmF_2_3 (m : MethodId) (p0 : Int32) (a1 : Addr)  : entryFrame m #[(.int p0), (.ref a1), (.int (2 : Int32))] 10 = mkF m 0 #[.val (.int p0), .val (.ref a1), .val (.int (2 : Int32)), .unset, .unset, .unset, .unset, .unset, .unset, .unset] [] := by first | (simp [entryFrame, mkF, argsToLocals, Value.category]; done) | rfl
set_option maxRecDepth 65536 in
set_option maxHeartbeats 40000000 in
theorem rmF_2_3 (l : Launch) (Z : State) (a0 : Array Value) (hw : ∀ d ∈ tables_1, d.before a0 Z = true) (ws : List Jvm.Cond) (p0 : Int32) (a1 : Addr) (ka : ClassId) (uh : Int32) (um : Int32) (us : Int32) (h0 : Heap) (n0 : Nat) (hn : n0 ≤ h0.size) (V_a1 : Arl Z h0 a1 ka .byte [own_x, own_x, own_x, own_x, own_x, own_x, own_x, own_x, own_x, own_x, own_x, own_x, own_x, own_x, own_x, own_x]) (g_a1 : n0 ≤ a1) (e_h : p0 / (3600 : Int32) = uh) (e_m : (p0 / (60 : Int32)) % (60 : Int32) = um) (e_s : p0 % (60 : Int32) = us) (hl : 100 ≤ uh.toInt) (hu : uh.toInt < 1000) :
    Met false l Z (⟨"com/example/voznired/voznired/timetable/StopTime", "formatTime", "(I[BI)I"⟩ : MethodName) prog_118_method_10_code 10 (some .int) ({ frames := 1, cells := 0, slots := 0, locals := 14 } : Room) ws #[(.int p0), (.ref a1), (.int (2 : Int32))] h0 n0 (Q_rmF_2_3 Z a1 ka uh um us h0 n0) := by
  refine Met.of pn_1 (fun m => ef_rmF_2_3 m p0 a1) ?_
  have K := Keep.refl h0 [a1]
  refine Own.iloadN d1_0 rfl ?_
  refine Own.sipush (3600 : Int32) d1_1 rfl ?_
  refine Own.idiv d1_4 (by decide) ?_
  rw [e_h]
  refine Own.istoreN #[.val (.int p0), .val (.ref a1), .val (.int (2 : Int32)), .val (.int uh), .unset, .unset, .unset, .unset, .unset, .unset] d1_5 rfl ?_
  refine Own.iloadN d1_6 rfl ?_
  refine Own.bipush (60 : Int32) d1_7 rfl ?_
  refine Own.idiv d1_9 (by decide) ?_
  refine Own.bipush (60 : Int32) d1_10 rfl ?_
  refine Own.irem_ d1_12 (by decide) ?_
  rw [e_m]
  refine Own.istore #[.val (.int p0), .val (.ref a1), .val (.int (2 : Int32)), .val (.int uh), .val (.int um), .unset, .unset, .unset, .unset, .unset] d1_13 rfl ?_
  refine Own.iloadN d1_15 rfl ?_
  refine Own.bipush (60 : Int32) d1_16 rfl ?_
  refine Own.irem_ d1_18 (by decide) ?_
  rw [e_s]
  refine Own.istore #[.val (.int p0), .val (.ref a1), .val (.int (2 : Int32)), .val (.int uh), .val (.int um), .val (.int us), .unset, .unset, .unset, .unset] d1_19 rfl ?_
  refine Own.iconst (2 : Int32) d1_21 rfl ?_
  refine Own.istore #[.val (.int p0), .val (.ref a1), .val (.int (2 : Int32)), .val (.int uh), .val (.int um), .val (.int us), .val (.int (2 : Int32)), .unset, .unset, .unset] d1_22 rfl ?_
  refine Own.iloadN d1_24 rfl ?_
  refine Own.bipush (100 : Int32) d1_25 rfl ?_
  refine Own.idiv d1_27 (by decide) ?_
  obtain ⟨ur0, e_ur0⟩ : ∃ z : Int32, z = (uh / (100 : Int32)) := ⟨_, rfl⟩
  rw [← e_ur0]
  have r_ur0 : ur0.toInt = uh.toInt / 100 := by
    rw [e_ur0]; exact own_div 100 rfl (by omega) (by omega)
  refine Own.istore #[.val (.int p0), .val (.ref a1), .val (.int (2 : Int32)), .val (.int uh), .val (.int um), .val (.int us), .val (.int (2 : Int32)), .val (.int ur0), .unset, .unset] d1_28 rfl ?_
  refine Own.iload d1_30 rfl ?_
  refine Own.if_le 48 d1_32 (by decide) rfl (fun q => absurd (by simp only [Int32.lt_iff_toInt_lt, Int32.reduceToInt]; omega) q) (fun _ => ?_)
  refine Own.iinc (1 : Int32) #[.val (.int p0), .val (.ref a1), .val (.int (2 : Int32)), .val (.int uh), .val (.int um), .val (.int us), .val (.int ((2 : Int32) + (1 : Int32))), .val (.int ur0), .unset, .unset] d1_35 rfl rfl rfl ?_
  refine OAt.castL (Ls' := #[.val (.int p0), .val (.ref a1), .val (.int (2 : Int32)), .val (.int uh), .val (.int um), .val (.int us), .val (.int (3 : Int32)), .val (.int ur0), .unset, .unset]) rfl rfl ?_
  refine Own.iload d1_38 rfl ?_
  refine Own.bipush (10 : Int32) d1_40 rfl ?_
  refine Own.idiv d1_42 (by decide) ?_
  obtain ⟨ur1, e_ur1⟩ : ∃ z : Int32, z = (ur0 / (10 : Int32)) := ⟨_, rfl⟩
  rw [← e_ur1]
  have r_ur1 : ur1.toInt = ur0.toInt / 10 := by
    rw [e_ur1]; rw [own_div 10 rfl (by omega) (by omega)]
  refine Own.istore #[.val (.int p0), .val (.ref a1), .val (.int (2 : Int32)), .val (.int uh), .val (.int um), .val (.int us), .val (.int (3 : Int32)), .val (.int ur1), .unset, .unset] d1_43 rfl ?_
  refine Own.goto_ 30 d1_45 (by decide) rfl ?_
  refine Own.iload d1_30 rfl ?_
  refine Own.if_le 48 d1_32 (by decide) rfl (fun _ => ?_) (fun q => absurd q (by simp only [Int32.lt_iff_toInt_lt, Int32.reduceToInt]; omega))
  refine Own.iloadN d1_48 rfl ?_
  refine Own.iload d1_49 rfl ?_
  refine Own.iadd d1_51 ?_
  refine OAt.cast (st' := [(.int (5 : Int32))]) rfl ?_
  refine Own.bipush (6 : Int32) d1_52 rfl ?_
  refine Own.iadd d1_54 ?_
  refine OAt.cast (st' := [(.int (11 : Int32))]) rfl ?_
  refine Own.istore #[.val (.int p0), .val (.ref a1), .val (.int (2 : Int32)), .val (.int uh), .val (.int um), .val (.int us), .val (.int (3 : Int32)), .val (.int (11 : Int32)), .unset, .unset] d1_55 rfl ?_
  refine Own.iload d1_57 rfl ?_
  refine Own.istore #[.val (.int p0), .val (.ref a1), .val (.int (2 : Int32)), .val (.int uh), .val (.int um), .val (.int us), .val (.int (3 : Int32)), .val (.int (11 : Int32)), .val (.int (11 : Int32)), .unset] d1_59 rfl ?_
  refine Own.aloadN d1_61 rfl rfl ?_
  refine Own.iinc (-1 : Int32) #[.val (.int p0), .val (.ref a1), .val (.int (2 : Int32)), .val (.int uh), .val (.int um), .val (.int us), .val (.int (3 : Int32)), .val (.int (11 : Int32)), .val (.int ((11 : Int32) + (-1 : Int32))), .unset] d1_62 rfl rfl rfl ?_
  refine OAt.castL (Ls' := #[.val (.int p0), .val (.ref a1), .val (.int (2 : Int32)), .val (.int uh), .val (.int um), .val (.int us), .val (.int (3 : Int32)), .val (.int (11 : Int32)), .val (.int (10 : Int32)), .unset]) rfl rfl ?_
  refine Own.iload d1_65 rfl ?_
  refine Own.iload d1_67 rfl ?_
  refine Own.bipush (10 : Int32) d1_69 rfl ?_
  refine Own.irem_ d1_71 (by decide) ?_
  refine Own.callSP [(.int (us % (10 : Int32)))] [(.int (10 : Int32)), (.ref a1)] 2 (rmD l Z a0 hw [] (us % (10 : Int32)) h0 n0 hn) (hw _ (List.mem_of_getElem? (i := 6) rfl)) (hw _ (List.mem_of_getElem? (i := 7) rfl)) (hw _ (List.mem_of_getElem? (i := 4) rfl)) (hw _ (List.mem_of_getElem? (i := 8) rfl)) (by decide) d1_72 pd_0 rfl rfl rfl rfl (by decide) (by decide) (by decide) (by decide) ?_
  refine Own.bastore_ V_a1 (i := 10) rfl (Nat.le_of_ble_eq_true rfl) g_a1 d1_75 (fun h109 W109 V109 => ?_)
  have hn : n0 ≤ h109.size := by rw [W109.size]; exact hn
  clear V_a1
  replace V109 : Arl Z h109 a1 ka .byte [own_x, own_x, own_x, own_x, own_x, own_x, own_x, own_x, own_x, own_x, (own_d (us % (10 : Int32))), own_x, own_x, own_x, own_x, own_x] := V109
  have K := K.wr W109 (Or.inl (List.mem_of_getElem? (i := 0) rfl))
  refine Own.aloadN d1_76 rfl rfl ?_
  refine Own.iinc (-1 : Int32) #[.val (.int p0), .val (.ref a1), .val (.int (2 : Int32)), .val (.int uh), .val (.int um), .val (.int us), .val (.int (3 : Int32)), .val (.int (11 : Int32)), .val (.int ((10 : Int32) + (-1 : Int32))), .unset] d1_77 rfl rfl rfl ?_
  refine OAt.castL (Ls' := #[.val (.int p0), .val (.ref a1), .val (.int (2 : Int32)), .val (.int uh), .val (.int um), .val (.int us), .val (.int (3 : Int32)), .val (.int (11 : Int32)), .val (.int (9 : Int32)), .unset]) rfl rfl ?_
  refine Own.iload d1_80 rfl ?_
  refine Own.iload d1_82 rfl ?_
  refine Own.bipush (10 : Int32) d1_84 rfl ?_
  refine Own.idiv d1_86 (by decide) ?_
  refine Own.callSP [(.int (us / (10 : Int32)))] [(.int (9 : Int32)), (.ref a1)] 2 (rmD l Z a0 hw [] (us / (10 : Int32)) h109 n0 hn) (hw _ (List.mem_of_getElem? (i := 6) rfl)) (hw _ (List.mem_of_getElem? (i := 7) rfl)) (hw _ (List.mem_of_getElem? (i := 4) rfl)) (hw _ (List.mem_of_getElem? (i := 8) rfl)) (by decide) d1_87 pd_0 rfl rfl rfl rfl (by decide) (by decide) (by decide) (by decide) ?_
  refine Own.bastore_ V109 (i := 9) rfl (Nat.le_of_ble_eq_true rfl) g_a1 d1_90 (fun h110 W110 V110 => ?_)
  have hn : n0 ≤ h110.size := by rw [W110.size]; exact hn
  clear V109
  replace V110 : Arl Z h110 a1 ka .byte [own_x, own_x, own_x, own_x, own_x, own_x, own_x, own_x, own_x, (own_d (us / (10 : Int32))), (own_d (us % (10 : Int32))), own_x, own_x, own_x, own_x, own_x] := V110
  have K := K.wr W110 (Or.inl (List.mem_of_getElem? (i := 0) rfl))
  refine Own.aloadN d1_91 rfl rfl ?_
  refine Own.iinc (-1 : Int32) #[.val (.int p0), .val (.ref a1), .val (.int (2 : Int32)), .val (.int uh), .val (.int um), .val (.int us), .val (.int (3 : Int32)), .val (.int (11 : Int32)), .val (.int ((9 : Int32) + (-1 : Int32))), .unset] d1_92 rfl rfl rfl ?_
  refine OAt.castL (Ls' := #[.val (.int p0), .val (.ref a1), .val (.int (2 : Int32)), .val (.int uh), .val (.int um), .val (.int us), .val (.int (3 : Int32)), .val (.int (11 : Int32)), .val (.int (8 : Int32)), .unset]) rfl rfl ?_
  refine Own.iload d1_95 rfl ?_
  refine Own.bipush (58 : Int32) d1_97 rfl ?_
  refine Own.bastore_ V110 (i := 8) rfl (Nat.le_of_ble_eq_true rfl) g_a1 d1_99 (fun h111 W111 V111 => ?_)
  have hn : n0 ≤ h111.size := by rw [W111.size]; exact hn
  clear V110
  replace V111 : Arl Z h111 a1 ka .byte [own_x, own_x, own_x, own_x, own_x, own_x, own_x, own_x, own_c, (own_d (us / (10 : Int32))), (own_d (us % (10 : Int32))), own_x, own_x, own_x, own_x, own_x] := V111
  have K := K.wr W111 (Or.inl (List.mem_of_getElem? (i := 0) rfl))
  refine Own.aloadN d1_100 rfl rfl ?_
  refine Own.iinc (-1 : Int32) #[.val (.int p0), .val (.ref a1), .val (.int (2 : Int32)), .val (.int uh), .val (.int um), .val (.int us), .val (.int (3 : Int32)), .val (.int (11 : Int32)), .val (.int ((8 : Int32) + (-1 : Int32))), .unset] d1_101 rfl rfl rfl ?_
  refine OAt.castL (Ls' := #[.val (.int p0), .val (.ref a1), .val (.int (2 : Int32)), .val (.int uh), .val (.int um), .val (.int us), .val (.int (3 : Int32)), .val (.int (11 : Int32)), .val (.int (7 : Int32)), .unset]) rfl rfl ?_
  refine Own.iload d1_104 rfl ?_
  refine Own.iload d1_106 rfl ?_
  refine Own.bipush (10 : Int32) d1_108 rfl ?_
  refine Own.irem_ d1_110 (by decide) ?_
  refine Own.callSP [(.int (um % (10 : Int32)))] [(.int (7 : Int32)), (.ref a1)] 2 (rmD l Z a0 hw [] (um % (10 : Int32)) h111 n0 hn) (hw _ (List.mem_of_getElem? (i := 6) rfl)) (hw _ (List.mem_of_getElem? (i := 7) rfl)) (hw _ (List.mem_of_getElem? (i := 4) rfl)) (hw _ (List.mem_of_getElem? (i := 8) rfl)) (by decide) d1_111 pd_0 rfl rfl rfl rfl (by decide) (by decide) (by decide) (by decide) ?_
  refine Own.bastore_ V111 (i := 7) rfl (Nat.le_of_ble_eq_true rfl) g_a1 d1_114 (fun h112 W112 V112 => ?_)
  have hn : n0 ≤ h112.size := by rw [W112.size]; exact hn
  clear V111
  replace V112 : Arl Z h112 a1 ka .byte [own_x, own_x, own_x, own_x, own_x, own_x, own_x, (own_d (um % (10 : Int32))), own_c, (own_d (us / (10 : Int32))), (own_d (us % (10 : Int32))), own_x, own_x, own_x, own_x, own_x] := V112
  have K := K.wr W112 (Or.inl (List.mem_of_getElem? (i := 0) rfl))
  refine Own.aloadN d1_115 rfl rfl ?_
  refine Own.iinc (-1 : Int32) #[.val (.int p0), .val (.ref a1), .val (.int (2 : Int32)), .val (.int uh), .val (.int um), .val (.int us), .val (.int (3 : Int32)), .val (.int (11 : Int32)), .val (.int ((7 : Int32) + (-1 : Int32))), .unset] d1_116 rfl rfl rfl ?_
  refine OAt.castL (Ls' := #[.val (.int p0), .val (.ref a1), .val (.int (2 : Int32)), .val (.int uh), .val (.int um), .val (.int us), .val (.int (3 : Int32)), .val (.int (11 : Int32)), .val (.int (6 : Int32)), .unset]) rfl rfl ?_
  refine Own.iload d1_119 rfl ?_
  refine Own.iload d1_121 rfl ?_
  refine Own.bipush (10 : Int32) d1_123 rfl ?_
  refine Own.idiv d1_125 (by decide) ?_
  refine Own.callSP [(.int (um / (10 : Int32)))] [(.int (6 : Int32)), (.ref a1)] 2 (rmD l Z a0 hw [] (um / (10 : Int32)) h112 n0 hn) (hw _ (List.mem_of_getElem? (i := 6) rfl)) (hw _ (List.mem_of_getElem? (i := 7) rfl)) (hw _ (List.mem_of_getElem? (i := 4) rfl)) (hw _ (List.mem_of_getElem? (i := 8) rfl)) (by decide) d1_126 pd_0 rfl rfl rfl rfl (by decide) (by decide) (by decide) (by decide) ?_
  refine Own.bastore_ V112 (i := 6) rfl (Nat.le_of_ble_eq_true rfl) g_a1 d1_129 (fun h113 W113 V113 => ?_)
  have hn : n0 ≤ h113.size := by rw [W113.size]; exact hn
  clear V112
  replace V113 : Arl Z h113 a1 ka .byte [own_x, own_x, own_x, own_x, own_x, own_x, (own_d (um / (10 : Int32))), (own_d (um % (10 : Int32))), own_c, (own_d (us / (10 : Int32))), (own_d (us % (10 : Int32))), own_x, own_x, own_x, own_x, own_x] := V113
  have K := K.wr W113 (Or.inl (List.mem_of_getElem? (i := 0) rfl))
  refine Own.aloadN d1_130 rfl rfl ?_
  refine Own.iinc (-1 : Int32) #[.val (.int p0), .val (.ref a1), .val (.int (2 : Int32)), .val (.int uh), .val (.int um), .val (.int us), .val (.int (3 : Int32)), .val (.int (11 : Int32)), .val (.int ((6 : Int32) + (-1 : Int32))), .unset] d1_131 rfl rfl rfl ?_
  refine OAt.castL (Ls' := #[.val (.int p0), .val (.ref a1), .val (.int (2 : Int32)), .val (.int uh), .val (.int um), .val (.int us), .val (.int (3 : Int32)), .val (.int (11 : Int32)), .val (.int (5 : Int32)), .unset]) rfl rfl ?_
  refine Own.iload d1_134 rfl ?_
  refine Own.bipush (58 : Int32) d1_136 rfl ?_
  refine Own.bastore_ V113 (i := 5) rfl (Nat.le_of_ble_eq_true rfl) g_a1 d1_138 (fun h114 W114 V114 => ?_)
  have hn : n0 ≤ h114.size := by rw [W114.size]; exact hn
  clear V113
  replace V114 : Arl Z h114 a1 ka .byte [own_x, own_x, own_x, own_x, own_x, own_c, (own_d (um / (10 : Int32))), (own_d (um % (10 : Int32))), own_c, (own_d (us / (10 : Int32))), (own_d (us % (10 : Int32))), own_x, own_x, own_x, own_x, own_x] := V114
  have K := K.wr W114 (Or.inl (List.mem_of_getElem? (i := 0) rfl))
  refine Own.iloadN d1_139 rfl ?_
  refine Own.istore #[.val (.int p0), .val (.ref a1), .val (.int (2 : Int32)), .val (.int uh), .val (.int um), .val (.int us), .val (.int (3 : Int32)), .val (.int (11 : Int32)), .val (.int (5 : Int32)), .val (.int uh)] d1_140 rfl ?_
  refine Own.iload d1_142 rfl ?_
  refine Own.iloadN d1_144 rfl ?_
  refine Own.icmp_le 173 d1_145 (by decide) rfl (fun q => absurd (by decide) q) (fun _ => ?_)
  refine Own.aloadN d1_148 rfl rfl ?_
  refine Own.iinc (-1 : Int32) #[.val (.int p0), .val (.ref a1), .val (.int (2 : Int32)), .val (.int uh), .val (.int um), .val (.int us), .val (.int (3 : Int32)), .val (.int (11 : Int32)), .val (.int ((5 : Int32) + (-1 : Int32))), .val (.int uh)] d1_149 rfl rfl rfl ?_
  refine OAt.castL (Ls' := #[.val (.int p0), .val (.ref a1), .val (.int (2 : Int32)), .val (.int uh), .val (.int um), .val (.int us), .val (.int (3 : Int32)), .val (.int (11 : Int32)), .val (.int (4 : Int32)), .val (.int uh)]) rfl rfl ?_
  refine Own.iload d1_152 rfl ?_
  refine Own.iload d1_154 rfl ?_
  refine Own.bipush (10 : Int32) d1_156 rfl ?_
  refine Own.irem_ d1_158 (by decide) ?_
  refine Own.callSP [(.int (uh % (10 : Int32)))] [(.int (4 : Int32)), (.ref a1)] 2 (rmD l Z a0 hw [] (uh % (10 : Int32)) h114 n0 hn) (hw _ (List.mem_of_getElem? (i := 6) rfl)) (hw _ (List.mem_of_getElem? (i := 7) rfl)) (hw _ (List.mem_of_getElem? (i := 4) rfl)) (hw _ (List.mem_of_getElem? (i := 8) rfl)) (by decide) d1_159 pd_0 rfl rfl rfl rfl (by decide) (by decide) (by decide) (by decide) ?_
  refine Own.bastore_ V114 (i := 4) rfl (Nat.le_of_ble_eq_true rfl) g_a1 d1_162 (fun h115 W115 V115 => ?_)
  have hn : n0 ≤ h115.size := by rw [W115.size]; exact hn
  clear V114
  replace V115 : Arl Z h115 a1 ka .byte [own_x, own_x, own_x, own_x, (own_d (uh % (10 : Int32))), own_c, (own_d (um / (10 : Int32))), (own_d (um % (10 : Int32))), own_c, (own_d (us / (10 : Int32))), (own_d (us % (10 : Int32))), own_x, own_x, own_x, own_x, own_x] := V115
  have K := K.wr W115 (Or.inl (List.mem_of_getElem? (i := 0) rfl))
  refine Own.iload d1_163 rfl ?_
  refine Own.bipush (10 : Int32) d1_165 rfl ?_
  refine Own.idiv d1_167 (by decide) ?_
  refine Own.istore #[.val (.int p0), .val (.ref a1), .val (.int (2 : Int32)), .val (.int uh), .val (.int um), .val (.int us), .val (.int (3 : Int32)), .val (.int (11 : Int32)), .val (.int (4 : Int32)), .val (.int (uh / (10 : Int32)))] d1_168 rfl ?_
  refine Own.goto_ 142 d1_170 (by decide) rfl ?_
  refine Own.iload d1_142 rfl ?_
  refine Own.iloadN d1_144 rfl ?_
  refine Own.icmp_le 173 d1_145 (by decide) rfl (fun q => absurd (by decide) q) (fun _ => ?_)
  refine Own.aloadN d1_148 rfl rfl ?_
  refine Own.iinc (-1 : Int32) #[.val (.int p0), .val (.ref a1), .val (.int (2 : Int32)), .val (.int uh), .val (.int um), .val (.int us), .val (.int (3 : Int32)), .val (.int (11 : Int32)), .val (.int ((4 : Int32) + (-1 : Int32))), .val (.int (uh / (10 : Int32)))] d1_149 rfl rfl rfl ?_
  refine OAt.castL (Ls' := #[.val (.int p0), .val (.ref a1), .val (.int (2 : Int32)), .val (.int uh), .val (.int um), .val (.int us), .val (.int (3 : Int32)), .val (.int (11 : Int32)), .val (.int (3 : Int32)), .val (.int (uh / (10 : Int32)))]) rfl rfl ?_
  refine Own.iload d1_152 rfl ?_
  refine Own.iload d1_154 rfl ?_
  refine Own.bipush (10 : Int32) d1_156 rfl ?_
  refine Own.irem_ d1_158 (by decide) ?_
  refine Own.callSP [(.int ((uh / (10 : Int32)) % (10 : Int32)))] [(.int (3 : Int32)), (.ref a1)] 2 (rmD l Z a0 hw [] ((uh / (10 : Int32)) % (10 : Int32)) h115 n0 hn) (hw _ (List.mem_of_getElem? (i := 6) rfl)) (hw _ (List.mem_of_getElem? (i := 7) rfl)) (hw _ (List.mem_of_getElem? (i := 4) rfl)) (hw _ (List.mem_of_getElem? (i := 8) rfl)) (by decide) d1_159 pd_0 rfl rfl rfl rfl (by decide) (by decide) (by decide) (by decide) ?_
  refine Own.bastore_ V115 (i := 3) rfl (Nat.le_of_ble_eq_true rfl) g_a1 d1_162 (fun h116 W116 V116 => ?_)
  have hn : n0 ≤ h116.size := by rw [W116.size]; exact hn
  clear V115
  replace V116 : Arl Z h116 a1 ka .byte [own_x, own_x, own_x, (own_d ((uh / (10 : Int32)) % (10 : Int32))), (own_d (uh % (10 : Int32))), own_c, (own_d (um / (10 : Int32))), (own_d (um % (10 : Int32))), own_c, (own_d (us / (10 : Int32))), (own_d (us % (10 : Int32))), own_x, own_x, own_x, own_x, own_x] := V116
  have K := K.wr W116 (Or.inl (List.mem_of_getElem? (i := 0) rfl))
  refine Own.iload d1_163 rfl ?_
  refine Own.bipush (10 : Int32) d1_165 rfl ?_
  refine Own.idiv d1_167 (by decide) ?_
  refine Own.istore #[.val (.int p0), .val (.ref a1), .val (.int (2 : Int32)), .val (.int uh), .val (.int um), .val (.int us), .val (.int (3 : Int32)), .val (.int (11 : Int32)), .val (.int (3 : Int32)), .val (.int ((uh / (10 : Int32)) / (10 : Int32)))] d1_168 rfl ?_
  refine Own.goto_ 142 d1_170 (by decide) rfl ?_
  refine Own.iload d1_142 rfl ?_
  refine Own.iloadN d1_144 rfl ?_
  refine Own.icmp_le 173 d1_145 (by decide) rfl (fun q => absurd (by decide) q) (fun _ => ?_)
  refine Own.aloadN d1_148 rfl rfl ?_
  refine Own.iinc (-1 : Int32) #[.val (.int p0), .val (.ref a1), .val (.int (2 : Int32)), .val (.int uh), .val (.int um), .val (.int us), .val (.int (3 : Int32)), .val (.int (11 : Int32)), .val (.int ((3 : Int32) + (-1 : Int32))), .val (.int ((uh / (10 : Int32)) / (10 : Int32)))] d1_149 rfl rfl rfl ?_
  refine OAt.castL (Ls' := #[.val (.int p0), .val (.ref a1), .val (.int (2 : Int32)), .val (.int uh), .val (.int um), .val (.int us), .val (.int (3 : Int32)), .val (.int (11 : Int32)), .val (.int (2 : Int32)), .val (.int ((uh / (10 : Int32)) / (10 : Int32)))]) rfl rfl ?_
  refine Own.iload d1_152 rfl ?_
  refine Own.iload d1_154 rfl ?_
  refine Own.bipush (10 : Int32) d1_156 rfl ?_
  refine Own.irem_ d1_158 (by decide) ?_
  refine Own.callSP [(.int (((uh / (10 : Int32)) / (10 : Int32)) % (10 : Int32)))] [(.int (2 : Int32)), (.ref a1)] 2 (rmD l Z a0 hw [] (((uh / (10 : Int32)) / (10 : Int32)) % (10 : Int32)) h116 n0 hn) (hw _ (List.mem_of_getElem? (i := 6) rfl)) (hw _ (List.mem_of_getElem? (i := 7) rfl)) (hw _ (List.mem_of_getElem? (i := 4) rfl)) (hw _ (List.mem_of_getElem? (i := 8) rfl)) (by decide) d1_159 pd_0 rfl rfl rfl rfl (by decide) (by decide) (by decide) (by decide) ?_
  refine Own.bastore_ V116 (i := 2) rfl (Nat.le_of_ble_eq_true rfl) g_a1 d1_162 (fun h117 W117 V117 => ?_)
  have hn : n0 ≤ h117.size := by rw [W117.size]; exact hn
  clear V116
  replace V117 : Arl Z h117 a1 ka .byte [own_x, own_x, (own_d (((uh / (10 : Int32)) / (10 : Int32)) % (10 : Int32))), (own_d ((uh / (10 : Int32)) % (10 : Int32))), (own_d (uh % (10 : Int32))), own_c, (own_d (um / (10 : Int32))), (own_d (um % (10 : Int32))), own_c, (own_d (us / (10 : Int32))), (own_d (us % (10 : Int32))), own_x, own_x, own_x, own_x, own_x] := V117
  have K := K.wr W117 (Or.inl (List.mem_of_getElem? (i := 0) rfl))
  refine Own.iload d1_163 rfl ?_
  refine Own.bipush (10 : Int32) d1_165 rfl ?_
  refine Own.idiv d1_167 (by decide) ?_
  refine Own.istore #[.val (.int p0), .val (.ref a1), .val (.int (2 : Int32)), .val (.int uh), .val (.int um), .val (.int us), .val (.int (3 : Int32)), .val (.int (11 : Int32)), .val (.int (2 : Int32)), .val (.int (((uh / (10 : Int32)) / (10 : Int32)) / (10 : Int32)))] d1_168 rfl ?_
  refine Own.goto_ 142 d1_170 (by decide) rfl ?_
  refine Own.iload d1_142 rfl ?_
  refine Own.iloadN d1_144 rfl ?_
  refine Own.icmp_le 173 d1_145 (by decide) rfl (fun _ => ?_) (fun q => absurd q (by decide))
  refine Own.iload d1_173 rfl ?_
  refine Own.ret_int rfl d1_175 (by decide) (by decide) ?_
  exact ⟨rfl, K, V117⟩
def Q_rmF_2_4 (Z : State) (a1 : Addr) (ka : ClassId) (uh : Int32) (um : Int32) (us : Int32) (h0 : Heap) (n0 : Nat) (v : Option Value) (h : Heap) : Prop := v = some (.int (12 : Int32)) ∧ Keep h0 h [a1] ∧ Arl Z h a1 ka .byte [own_x, own_x, (own_d ((((uh / (10 : Int32)) / (10 : Int32)) / (10 : Int32)) % (10 : Int32))), (own_d (((uh / (10 : Int32)) / (10 : Int32)) % (10 : Int32))), (own_d ((uh / (10 : Int32)) % (10 : Int32))), (own_d (uh % (10 : Int32))), own_c, (own_d (um / (10 : Int32))), (own_d (um % (10 : Int32))), own_c, (own_d (us / (10 : Int32))), (own_d (us % (10 : Int32))), own_x, own_x, own_x, own_x]
theorem ef_rmF_2_4 (m : MethodId) (p0 : Int32) (a1 : Addr)  : entryFrame m #[(.int p0), (.ref a1), (.int (2 : Int32))] 10 = mkF m 0 #[.val (.int p0), .val (.ref a1), .val (.int (2 : Int32)), .unset, .unset, .unset, .unset, .unset, .unset, .unset] [] := by first | (simp [entryFrame, mkF, argsToLocals, Value.category]; done) | rfl
set_option maxRecDepth 65536 in
set_option maxHeartbeats 40000000 in
theorem rmF_2_4 (l : Launch) (Z : State) (a0 : Array Value) (hw : ∀ d ∈ tables_1, d.before a0 Z = true) (ws : List Jvm.Cond) (p0 : Int32) (a1 : Addr) (ka : ClassId) (uh : Int32) (um : Int32) (us : Int32) (h0 : Heap) (n0 : Nat) (hn : n0 ≤ h0.size) (V_a1 : Arl Z h0 a1 ka .byte [own_x, own_x, own_x, own_x, own_x, own_x, own_x, own_x, own_x, own_x, own_x, own_x, own_x, own_x, own_x, own_x]) (g_a1 : n0 ≤ a1) (e_h : p0 / (3600 : Int32) = uh) (e_m : (p0 / (60 : Int32)) % (60 : Int32) = um) (e_s : p0 % (60 : Int32) = us) (hl : 1000 ≤ uh.toInt) (hu : uh.toInt < 10000) :
    Met false l Z (⟨"com/example/voznired/voznired/timetable/StopTime", "formatTime", "(I[BI)I"⟩ : MethodName) prog_118_method_10_code 10 (some .int) ({ frames := 1, cells := 0, slots := 0, locals := 14 } : Room) ws #[(.int p0), (.ref a1), (.int (2 : Int32))] h0 n0 (Q_rmF_2_4 Z a1 ka uh um us h0 n0) := by
  refine Met.of pn_1 (fun m => ef_rmF_2_4 m p0 a1) ?_
  have K := Keep.refl h0 [a1]
  refine Own.iloadN d1_0 rfl ?_
  refine Own.sipush (3600 : Int32) d1_1 rfl ?_
  refine Own.idiv d1_4 (by decide) ?_
  rw [e_h]
  refine Own.istoreN #[.val (.int p0), .val (.ref a1), .val (.int (2 : Int32)), .val (.int uh), .unset, .unset, .unset, .unset, .unset, .unset] d1_5 rfl ?_
  refine Own.iloadN d1_6 rfl ?_
  refine Own.bipush (60 : Int32) d1_7 rfl ?_
  refine Own.idiv d1_9 (by decide) ?_
  refine Own.bipush (60 : Int32) d1_10 rfl ?_
  refine Own.irem_ d1_12 (by decide) ?_
  rw [e_m]
  refine Own.istore #[.val (.int p0), .val (.ref a1), .val (.int (2 : Int32)), .val (.int uh), .val (.int um), .unset, .unset, .unset, .unset, .unset] d1_13 rfl ?_
  refine Own.iloadN d1_15 rfl ?_
  refine Own.bipush (60 : Int32) d1_16 rfl ?_
  refine Own.irem_ d1_18 (by decide) ?_
  rw [e_s]
  refine Own.istore #[.val (.int p0), .val (.ref a1), .val (.int (2 : Int32)), .val (.int uh), .val (.int um), .val (.int us), .unset, .unset, .unset, .unset] d1_19 rfl ?_
  refine Own.iconst (2 : Int32) d1_21 rfl ?_
  refine Own.istore #[.val (.int p0), .val (.ref a1), .val (.int (2 : Int32)), .val (.int uh), .val (.int um), .val (.int us), .val (.int (2 : Int32)), .unset, .unset, .unset] d1_22 rfl ?_
  refine Own.iloadN d1_24 rfl ?_
  refine Own.bipush (100 : Int32) d1_25 rfl ?_
  refine Own.idiv d1_27 (by decide) ?_
  obtain ⟨ur0, e_ur0⟩ : ∃ z : Int32, z = (uh / (100 : Int32)) := ⟨_, rfl⟩
  rw [← e_ur0]
  have r_ur0 : ur0.toInt = uh.toInt / 100 := by
    rw [e_ur0]; exact own_div 100 rfl (by omega) (by omega)
  refine Own.istore #[.val (.int p0), .val (.ref a1), .val (.int (2 : Int32)), .val (.int uh), .val (.int um), .val (.int us), .val (.int (2 : Int32)), .val (.int ur0), .unset, .unset] d1_28 rfl ?_
  refine Own.iload d1_30 rfl ?_
  refine Own.if_le 48 d1_32 (by decide) rfl (fun q => absurd (by simp only [Int32.lt_iff_toInt_lt, Int32.reduceToInt]; omega) q) (fun _ => ?_)
  refine Own.iinc (1 : Int32) #[.val (.int p0), .val (.ref a1), .val (.int (2 : Int32)), .val (.int uh), .val (.int um), .val (.int us), .val (.int ((2 : Int32) + (1 : Int32))), .val (.int ur0), .unset, .unset] d1_35 rfl rfl rfl ?_
  refine OAt.castL (Ls' := #[.val (.int p0), .val (.ref a1), .val (.int (2 : Int32)), .val (.int uh), .val (.int um), .val (.int us), .val (.int (3 : Int32)), .val (.int ur0), .unset, .unset]) rfl rfl ?_
  refine Own.iload d1_38 rfl ?_
  refine Own.bipush (10 : Int32) d1_40 rfl ?_
  refine Own.idiv d1_42 (by decide) ?_
  obtain ⟨ur1, e_ur1⟩ : ∃ z : Int32, z = (ur0 / (10 : Int32)) := ⟨_, rfl⟩
  rw [← e_ur1]
  have r_ur1 : ur1.toInt = ur0.toInt / 10 := by
    rw [e_ur1]; rw [own_div 10 rfl (by omega) (by omega)]
  refine Own.istore #[.val (.int p0), .val (.ref a1), .val (.int (2 : Int32)), .val (.int uh), .val (.int um), .val (.int us), .val (.int (3 : Int32)), .val (.int ur1), .unset, .unset] d1_43 rfl ?_
  refine Own.goto_ 30 d1_45 (by decide) rfl ?_
  refine Own.iload d1_30 rfl ?_
  refine Own.if_le 48 d1_32 (by decide) rfl (fun q => absurd (by simp only [Int32.lt_iff_toInt_lt, Int32.reduceToInt]; omega) q) (fun _ => ?_)
  refine Own.iinc (1 : Int32) #[.val (.int p0), .val (.ref a1), .val (.int (2 : Int32)), .val (.int uh), .val (.int um), .val (.int us), .val (.int ((3 : Int32) + (1 : Int32))), .val (.int ur1), .unset, .unset] d1_35 rfl rfl rfl ?_
  refine OAt.castL (Ls' := #[.val (.int p0), .val (.ref a1), .val (.int (2 : Int32)), .val (.int uh), .val (.int um), .val (.int us), .val (.int (4 : Int32)), .val (.int ur1), .unset, .unset]) rfl rfl ?_
  refine Own.iload d1_38 rfl ?_
  refine Own.bipush (10 : Int32) d1_40 rfl ?_
  refine Own.idiv d1_42 (by decide) ?_
  obtain ⟨ur2, e_ur2⟩ : ∃ z : Int32, z = (ur1 / (10 : Int32)) := ⟨_, rfl⟩
  rw [← e_ur2]
  have r_ur2 : ur2.toInt = ur1.toInt / 10 := by
    rw [e_ur2]; rw [own_div 10 rfl (by omega) (by omega)]
  refine Own.istore #[.val (.int p0), .val (.ref a1), .val (.int (2 : Int32)), .val (.int uh), .val (.int um), .val (.int us), .val (.int (4 : Int32)), .val (.int ur2), .unset, .unset] d1_43 rfl ?_
  refine Own.goto_ 30 d1_45 (by decide) rfl ?_
  refine Own.iload d1_30 rfl ?_
  refine Own.if_le 48 d1_32 (by decide) rfl (fun _ => ?_) (fun q => absurd q (by simp only [Int32.lt_iff_toInt_lt, Int32.reduceToInt]; omega))
  refine Own.iloadN d1_48 rfl ?_
  refine Own.iload d1_49 rfl ?_
  refine Own.iadd d1_51 ?_
  refine OAt.cast (st' := [(.int (6 : Int32))]) rfl ?_
  refine Own.bipush (6 : Int32) d1_52 rfl ?_
  refine Own.iadd d1_54 ?_
  refine OAt.cast (st' := [(.int (12 : Int32))]) rfl ?_
  refine Own.istore #[.val (.int p0), .val (.ref a1), .val (.int (2 : Int32)), .val (.int uh), .val (.int um), .val (.int us), .val (.int (4 : Int32)), .val (.int (12 : Int32)), .unset, .unset] d1_55 rfl ?_
  refine Own.iload d1_57 rfl ?_
  refine Own.istore #[.val (.int p0), .val (.ref a1), .val (.int (2 : Int32)), .val (.int uh), .val (.int um), .val (.int us), .val (.int (4 : Int32)), .val (.int (12 : Int32)), .val (.int (12 : Int32)), .unset] d1_59 rfl ?_
  refine Own.aloadN d1_61 rfl rfl ?_
  refine Own.iinc (-1 : Int32) #[.val (.int p0), .val (.ref a1), .val (.int (2 : Int32)), .val (.int uh), .val (.int um), .val (.int us), .val (.int (4 : Int32)), .val (.int (12 : Int32)), .val (.int ((12 : Int32) + (-1 : Int32))), .unset] d1_62 rfl rfl rfl ?_
  refine OAt.castL (Ls' := #[.val (.int p0), .val (.ref a1), .val (.int (2 : Int32)), .val (.int uh), .val (.int um), .val (.int us), .val (.int (4 : Int32)), .val (.int (12 : Int32)), .val (.int (11 : Int32)), .unset]) rfl rfl ?_
  refine Own.iload d1_65 rfl ?_
  refine Own.iload d1_67 rfl ?_
  refine Own.bipush (10 : Int32) d1_69 rfl ?_
  refine Own.irem_ d1_71 (by decide) ?_
  refine Own.callSP [(.int (us % (10 : Int32)))] [(.int (11 : Int32)), (.ref a1)] 2 (rmD l Z a0 hw [] (us % (10 : Int32)) h0 n0 hn) (hw _ (List.mem_of_getElem? (i := 6) rfl)) (hw _ (List.mem_of_getElem? (i := 7) rfl)) (hw _ (List.mem_of_getElem? (i := 4) rfl)) (hw _ (List.mem_of_getElem? (i := 8) rfl)) (by decide) d1_72 pd_0 rfl rfl rfl rfl (by decide) (by decide) (by decide) (by decide) ?_
  refine Own.bastore_ V_a1 (i := 11) rfl (Nat.le_of_ble_eq_true rfl) g_a1 d1_75 (fun h118 W118 V118 => ?_)
  have hn : n0 ≤ h118.size := by rw [W118.size]; exact hn
  clear V_a1
  replace V118 : Arl Z h118 a1 ka .byte [own_x, own_x, own_x, own_x, own_x, own_x, own_x, own_x, own_x, own_x, own_x, (own_d (us % (10 : Int32))), own_x, own_x, own_x, own_x] := V118
  have K := K.wr W118 (Or.inl (List.mem_of_getElem? (i := 0) rfl))
  refine Own.aloadN d1_76 rfl rfl ?_
  refine Own.iinc (-1 : Int32) #[.val (.int p0), .val (.ref a1), .val (.int (2 : Int32)), .val (.int uh), .val (.int um), .val (.int us), .val (.int (4 : Int32)), .val (.int (12 : Int32)), .val (.int ((11 : Int32) + (-1 : Int32))), .unset] d1_77 rfl rfl rfl ?_
  refine OAt.castL (Ls' := #[.val (.int p0), .val (.ref a1), .val (.int (2 : Int32)), .val (.int uh), .val (.int um), .val (.int us), .val (.int (4 : Int32)), .val (.int (12 : Int32)), .val (.int (10 : Int32)), .unset]) rfl rfl ?_
  refine Own.iload d1_80 rfl ?_
  refine Own.iload d1_82 rfl ?_
  refine Own.bipush (10 : Int32) d1_84 rfl ?_
  refine Own.idiv d1_86 (by decide) ?_
  refine Own.callSP [(.int (us / (10 : Int32)))] [(.int (10 : Int32)), (.ref a1)] 2 (rmD l Z a0 hw [] (us / (10 : Int32)) h118 n0 hn) (hw _ (List.mem_of_getElem? (i := 6) rfl)) (hw _ (List.mem_of_getElem? (i := 7) rfl)) (hw _ (List.mem_of_getElem? (i := 4) rfl)) (hw _ (List.mem_of_getElem? (i := 8) rfl)) (by decide) d1_87 pd_0 rfl rfl rfl rfl (by decide) (by decide) (by decide) (by decide) ?_
  refine Own.bastore_ V118 (i := 10) rfl (Nat.le_of_ble_eq_true rfl) g_a1 d1_90 (fun h119 W119 V119 => ?_)
  have hn : n0 ≤ h119.size := by rw [W119.size]; exact hn
  clear V118
  replace V119 : Arl Z h119 a1 ka .byte [own_x, own_x, own_x, own_x, own_x, own_x, own_x, own_x, own_x, own_x, (own_d (us / (10 : Int32))), (own_d (us % (10 : Int32))), own_x, own_x, own_x, own_x] := V119
  have K := K.wr W119 (Or.inl (List.mem_of_getElem? (i := 0) rfl))
  refine Own.aloadN d1_91 rfl rfl ?_
  refine Own.iinc (-1 : Int32) #[.val (.int p0), .val (.ref a1), .val (.int (2 : Int32)), .val (.int uh), .val (.int um), .val (.int us), .val (.int (4 : Int32)), .val (.int (12 : Int32)), .val (.int ((10 : Int32) + (-1 : Int32))), .unset] d1_92 rfl rfl rfl ?_
  refine OAt.castL (Ls' := #[.val (.int p0), .val (.ref a1), .val (.int (2 : Int32)), .val (.int uh), .val (.int um), .val (.int us), .val (.int (4 : Int32)), .val (.int (12 : Int32)), .val (.int (9 : Int32)), .unset]) rfl rfl ?_
  refine Own.iload d1_95 rfl ?_
  refine Own.bipush (58 : Int32) d1_97 rfl ?_
  refine Own.bastore_ V119 (i := 9) rfl (Nat.le_of_ble_eq_true rfl) g_a1 d1_99 (fun h120 W120 V120 => ?_)
  have hn : n0 ≤ h120.size := by rw [W120.size]; exact hn
  clear V119
  replace V120 : Arl Z h120 a1 ka .byte [own_x, own_x, own_x, own_x, own_x, own_x, own_x, own_x, own_x, own_c, (own_d (us / (10 : Int32))), (own_d (us % (10 : Int32))), own_x, own_x, own_x, own_x] := V120
  have K := K.wr W120 (Or.inl (List.mem_of_getElem? (i := 0) rfl))
  refine Own.aloadN d1_100 rfl rfl ?_
  refine Own.iinc (-1 : Int32) #[.val (.int p0), .val (.ref a1), .val (.int (2 : Int32)), .val (.int uh), .val (.int um), .val (.int us), .val (.int (4 : Int32)), .val (.int (12 : Int32)), .val (.int ((9 : Int32) + (-1 : Int32))), .unset] d1_101 rfl rfl rfl ?_
  refine OAt.castL (Ls' := #[.val (.int p0), .val (.ref a1), .val (.int (2 : Int32)), .val (.int uh), .val (.int um), .val (.int us), .val (.int (4 : Int32)), .val (.int (12 : Int32)), .val (.int (8 : Int32)), .unset]) rfl rfl ?_
  refine Own.iload d1_104 rfl ?_
  refine Own.iload d1_106 rfl ?_
  refine Own.bipush (10 : Int32) d1_108 rfl ?_
  refine Own.irem_ d1_110 (by decide) ?_
  refine Own.callSP [(.int (um % (10 : Int32)))] [(.int (8 : Int32)), (.ref a1)] 2 (rmD l Z a0 hw [] (um % (10 : Int32)) h120 n0 hn) (hw _ (List.mem_of_getElem? (i := 6) rfl)) (hw _ (List.mem_of_getElem? (i := 7) rfl)) (hw _ (List.mem_of_getElem? (i := 4) rfl)) (hw _ (List.mem_of_getElem? (i := 8) rfl)) (by decide) d1_111 pd_0 rfl rfl rfl rfl (by decide) (by decide) (by decide) (by decide) ?_
  refine Own.bastore_ V120 (i := 8) rfl (Nat.le_of_ble_eq_true rfl) g_a1 d1_114 (fun h121 W121 V121 => ?_)
  have hn : n0 ≤ h121.size := by rw [W121.size]; exact hn
  clear V120
  replace V121 : Arl Z h121 a1 ka .byte [own_x, own_x, own_x, own_x, own_x, own_x, own_x, own_x, (own_d (um % (10 : Int32))), own_c, (own_d (us / (10 : Int32))), (own_d (us % (10 : Int32))), own_x, own_x, own_x, own_x] := V121
  have K := K.wr W121 (Or.inl (List.mem_of_getElem? (i := 0) rfl))
  refine Own.aloadN d1_115 rfl rfl ?_
  refine Own.iinc (-1 : Int32) #[.val (.int p0), .val (.ref a1), .val (.int (2 : Int32)), .val (.int uh), .val (.int um), .val (.int us), .val (.int (4 : Int32)), .val (.int (12 : Int32)), .val (.int ((8 : Int32) + (-1 : Int32))), .unset] d1_116 rfl rfl rfl ?_
  refine OAt.castL (Ls' := #[.val (.int p0), .val (.ref a1), .val (.int (2 : Int32)), .val (.int uh), .val (.int um), .val (.int us), .val (.int (4 : Int32)), .val (.int (12 : Int32)), .val (.int (7 : Int32)), .unset]) rfl rfl ?_
  refine Own.iload d1_119 rfl ?_
  refine Own.iload d1_121 rfl ?_
  refine Own.bipush (10 : Int32) d1_123 rfl ?_
  refine Own.idiv d1_125 (by decide) ?_
  refine Own.callSP [(.int (um / (10 : Int32)))] [(.int (7 : Int32)), (.ref a1)] 2 (rmD l Z a0 hw [] (um / (10 : Int32)) h121 n0 hn) (hw _ (List.mem_of_getElem? (i := 6) rfl)) (hw _ (List.mem_of_getElem? (i := 7) rfl)) (hw _ (List.mem_of_getElem? (i := 4) rfl)) (hw _ (List.mem_of_getElem? (i := 8) rfl)) (by decide) d1_126 pd_0 rfl rfl rfl rfl (by decide) (by decide) (by decide) (by decide) ?_
  refine Own.bastore_ V121 (i := 7) rfl (Nat.le_of_ble_eq_true rfl) g_a1 d1_129 (fun h122 W122 V122 => ?_)
  have hn : n0 ≤ h122.size := by rw [W122.size]; exact hn
  clear V121
  replace V122 : Arl Z h122 a1 ka .byte [own_x, own_x, own_x, own_x, own_x, own_x, own_x, (own_d (um / (10 : Int32))), (own_d (um % (10 : Int32))), own_c, (own_d (us / (10 : Int32))), (own_d (us % (10 : Int32))), own_x, own_x, own_x, own_x] := V122
  have K := K.wr W122 (Or.inl (List.mem_of_getElem? (i := 0) rfl))
  refine Own.aloadN d1_130 rfl rfl ?_
  refine Own.iinc (-1 : Int32) #[.val (.int p0), .val (.ref a1), .val (.int (2 : Int32)), .val (.int uh), .val (.int um), .val (.int us), .val (.int (4 : Int32)), .val (.int (12 : Int32)), .val (.int ((7 : Int32) + (-1 : Int32))), .unset] d1_131 rfl rfl rfl ?_
  refine OAt.castL (Ls' := #[.val (.int p0), .val (.ref a1), .val (.int (2 : Int32)), .val (.int uh), .val (.int um), .val (.int us), .val (.int (4 : Int32)), .val (.int (12 : Int32)), .val (.int (6 : Int32)), .unset]) rfl rfl ?_
  refine Own.iload d1_134 rfl ?_
  refine Own.bipush (58 : Int32) d1_136 rfl ?_
  refine Own.bastore_ V122 (i := 6) rfl (Nat.le_of_ble_eq_true rfl) g_a1 d1_138 (fun h123 W123 V123 => ?_)
  have hn : n0 ≤ h123.size := by rw [W123.size]; exact hn
  clear V122
  replace V123 : Arl Z h123 a1 ka .byte [own_x, own_x, own_x, own_x, own_x, own_x, own_c, (own_d (um / (10 : Int32))), (own_d (um % (10 : Int32))), own_c, (own_d (us / (10 : Int32))), (own_d (us % (10 : Int32))), own_x, own_x, own_x, own_x] := V123
  have K := K.wr W123 (Or.inl (List.mem_of_getElem? (i := 0) rfl))
  refine Own.iloadN d1_139 rfl ?_
  refine Own.istore #[.val (.int p0), .val (.ref a1), .val (.int (2 : Int32)), .val (.int uh), .val (.int um), .val (.int us), .val (.int (4 : Int32)), .val (.int (12 : Int32)), .val (.int (6 : Int32)), .val (.int uh)] d1_140 rfl ?_
  refine Own.iload d1_142 rfl ?_
  refine Own.iloadN d1_144 rfl ?_
  refine Own.icmp_le 173 d1_145 (by decide) rfl (fun q => absurd (by decide) q) (fun _ => ?_)
  refine Own.aloadN d1_148 rfl rfl ?_
  refine Own.iinc (-1 : Int32) #[.val (.int p0), .val (.ref a1), .val (.int (2 : Int32)), .val (.int uh), .val (.int um), .val (.int us), .val (.int (4 : Int32)), .val (.int (12 : Int32)), .val (.int ((6 : Int32) + (-1 : Int32))), .val (.int uh)] d1_149 rfl rfl rfl ?_
  refine OAt.castL (Ls' := #[.val (.int p0), .val (.ref a1), .val (.int (2 : Int32)), .val (.int uh), .val (.int um), .val (.int us), .val (.int (4 : Int32)), .val (.int (12 : Int32)), .val (.int (5 : Int32)), .val (.int uh)]) rfl rfl ?_
  refine Own.iload d1_152 rfl ?_
  refine Own.iload d1_154 rfl ?_
  refine Own.bipush (10 : Int32) d1_156 rfl ?_
  refine Own.irem_ d1_158 (by decide) ?_
  refine Own.callSP [(.int (uh % (10 : Int32)))] [(.int (5 : Int32)), (.ref a1)] 2 (rmD l Z a0 hw [] (uh % (10 : Int32)) h123 n0 hn) (hw _ (List.mem_of_getElem? (i := 6) rfl)) (hw _ (List.mem_of_getElem? (i := 7) rfl)) (hw _ (List.mem_of_getElem? (i := 4) rfl)) (hw _ (List.mem_of_getElem? (i := 8) rfl)) (by decide) d1_159 pd_0 rfl rfl rfl rfl (by decide) (by decide) (by decide) (by decide) ?_
  refine Own.bastore_ V123 (i := 5) rfl (Nat.le_of_ble_eq_true rfl) g_a1 d1_162 (fun h124 W124 V124 => ?_)
  have hn : n0 ≤ h124.size := by rw [W124.size]; exact hn
  clear V123
  replace V124 : Arl Z h124 a1 ka .byte [own_x, own_x, own_x, own_x, own_x, (own_d (uh % (10 : Int32))), own_c, (own_d (um / (10 : Int32))), (own_d (um % (10 : Int32))), own_c, (own_d (us / (10 : Int32))), (own_d (us % (10 : Int32))), own_x, own_x, own_x, own_x] := V124
  have K := K.wr W124 (Or.inl (List.mem_of_getElem? (i := 0) rfl))
  refine Own.iload d1_163 rfl ?_
  refine Own.bipush (10 : Int32) d1_165 rfl ?_
  refine Own.idiv d1_167 (by decide) ?_
  refine Own.istore #[.val (.int p0), .val (.ref a1), .val (.int (2 : Int32)), .val (.int uh), .val (.int um), .val (.int us), .val (.int (4 : Int32)), .val (.int (12 : Int32)), .val (.int (5 : Int32)), .val (.int (uh / (10 : Int32)))] d1_168 rfl ?_
  refine Own.goto_ 142 d1_170 (by decide) rfl ?_
  refine Own.iload d1_142 rfl ?_
  refine Own.iloadN d1_144 rfl ?_
  refine Own.icmp_le 173 d1_145 (by decide) rfl (fun q => absurd (by decide) q) (fun _ => ?_)
  refine Own.aloadN d1_148 rfl rfl ?_
  refine Own.iinc (-1 : Int32) #[.val (.int p0), .val (.ref a1), .val (.int (2 : Int32)), .val (.int uh), .val (.int um), .val (.int us), .val (.int (4 : Int32)), .val (.int (12 : Int32)), .val (.int ((5 : Int32) + (-1 : Int32))), .val (.int (uh / (10 : Int32)))] d1_149 rfl rfl rfl ?_
  refine OAt.castL (Ls' := #[.val (.int p0), .val (.ref a1), .val (.int (2 : Int32)), .val (.int uh), .val (.int um), .val (.int us), .val (.int (4 : Int32)), .val (.int (12 : Int32)), .val (.int (4 : Int32)), .val (.int (uh / (10 : Int32)))]) rfl rfl ?_
  refine Own.iload d1_152 rfl ?_
  refine Own.iload d1_154 rfl ?_
  refine Own.bipush (10 : Int32) d1_156 rfl ?_
  refine Own.irem_ d1_158 (by decide) ?_
  refine Own.callSP [(.int ((uh / (10 : Int32)) % (10 : Int32)))] [(.int (4 : Int32)), (.ref a1)] 2 (rmD l Z a0 hw [] ((uh / (10 : Int32)) % (10 : Int32)) h124 n0 hn) (hw _ (List.mem_of_getElem? (i := 6) rfl)) (hw _ (List.mem_of_getElem? (i := 7) rfl)) (hw _ (List.mem_of_getElem? (i := 4) rfl)) (hw _ (List.mem_of_getElem? (i := 8) rfl)) (by decide) d1_159 pd_0 rfl rfl rfl rfl (by decide) (by decide) (by decide) (by decide) ?_
  refine Own.bastore_ V124 (i := 4) rfl (Nat.le_of_ble_eq_true rfl) g_a1 d1_162 (fun h125 W125 V125 => ?_)
  have hn : n0 ≤ h125.size := by rw [W125.size]; exact hn
  clear V124
  replace V125 : Arl Z h125 a1 ka .byte [own_x, own_x, own_x, own_x, (own_d ((uh / (10 : Int32)) % (10 : Int32))), (own_d (uh % (10 : Int32))), own_c, (own_d (um / (10 : Int32))), (own_d (um % (10 : Int32))), own_c, (own_d (us / (10 : Int32))), (own_d (us % (10 : Int32))), own_x, own_x, own_x, own_x] := V125
  have K := K.wr W125 (Or.inl (List.mem_of_getElem? (i := 0) rfl))
  refine Own.iload d1_163 rfl ?_
  refine Own.bipush (10 : Int32) d1_165 rfl ?_
  refine Own.idiv d1_167 (by decide) ?_
  refine Own.istore #[.val (.int p0), .val (.ref a1), .val (.int (2 : Int32)), .val (.int uh), .val (.int um), .val (.int us), .val (.int (4 : Int32)), .val (.int (12 : Int32)), .val (.int (4 : Int32)), .val (.int ((uh / (10 : Int32)) / (10 : Int32)))] d1_168 rfl ?_
  refine Own.goto_ 142 d1_170 (by decide) rfl ?_
  refine Own.iload d1_142 rfl ?_
  refine Own.iloadN d1_144 rfl ?_
  refine Own.icmp_le 173 d1_145 (by decide) rfl (fun q => absurd (by decide) q) (fun _ => ?_)
  refine Own.aloadN d1_148 rfl rfl ?_
  refine Own.iinc (-1 : Int32) #[.val (.int p0), .val (.ref a1), .val (.int (2 : Int32)), .val (.int uh), .val (.int um), .val (.int us), .val (.int (4 : Int32)), .val (.int (12 : Int32)), .val (.int ((4 : Int32) + (-1 : Int32))), .val (.int ((uh / (10 : Int32)) / (10 : Int32)))] d1_149 rfl rfl rfl ?_
  refine OAt.castL (Ls' := #[.val (.int p0), .val (.ref a1), .val (.int (2 : Int32)), .val (.int uh), .val (.int um), .val (.int us), .val (.int (4 : Int32)), .val (.int (12 : Int32)), .val (.int (3 : Int32)), .val (.int ((uh / (10 : Int32)) / (10 : Int32)))]) rfl rfl ?_
  refine Own.iload d1_152 rfl ?_
  refine Own.iload d1_154 rfl ?_
  refine Own.bipush (10 : Int32) d1_156 rfl ?_
  refine Own.irem_ d1_158 (by decide) ?_
  refine Own.callSP [(.int (((uh / (10 : Int32)) / (10 : Int32)) % (10 : Int32)))] [(.int (3 : Int32)), (.ref a1)] 2 (rmD l Z a0 hw [] (((uh / (10 : Int32)) / (10 : Int32)) % (10 : Int32)) h125 n0 hn) (hw _ (List.mem_of_getElem? (i := 6) rfl)) (hw _ (List.mem_of_getElem? (i := 7) rfl)) (hw _ (List.mem_of_getElem? (i := 4) rfl)) (hw _ (List.mem_of_getElem? (i := 8) rfl)) (by decide) d1_159 pd_0 rfl rfl rfl rfl (by decide) (by decide) (by decide) (by decide) ?_
  refine Own.bastore_ V125 (i := 3) rfl (Nat.le_of_ble_eq_true rfl) g_a1 d1_162 (fun h126 W126 V126 => ?_)
  have hn : n0 ≤ h126.size := by rw [W126.size]; exact hn
  clear V125
  replace V126 : Arl Z h126 a1 ka .byte [own_x, own_x, own_x, (own_d (((uh / (10 : Int32)) / (10 : Int32)) % (10 : Int32))), (own_d ((uh / (10 : Int32)) % (10 : Int32))), (own_d (uh % (10 : Int32))), own_c, (own_d (um / (10 : Int32))), (own_d (um % (10 : Int32))), own_c, (own_d (us / (10 : Int32))), (own_d (us % (10 : Int32))), own_x, own_x, own_x, own_x] := V126
  have K := K.wr W126 (Or.inl (List.mem_of_getElem? (i := 0) rfl))
  refine Own.iload d1_163 rfl ?_
  refine Own.bipush (10 : Int32) d1_165 rfl ?_
  refine Own.idiv d1_167 (by decide) ?_
  refine Own.istore #[.val (.int p0), .val (.ref a1), .val (.int (2 : Int32)), .val (.int uh), .val (.int um), .val (.int us), .val (.int (4 : Int32)), .val (.int (12 : Int32)), .val (.int (3 : Int32)), .val (.int (((uh / (10 : Int32)) / (10 : Int32)) / (10 : Int32)))] d1_168 rfl ?_
  refine Own.goto_ 142 d1_170 (by decide) rfl ?_
  refine Own.iload d1_142 rfl ?_
  refine Own.iloadN d1_144 rfl ?_
  refine Own.icmp_le 173 d1_145 (by decide) rfl (fun q => absurd (by decide) q) (fun _ => ?_)
  refine Own.aloadN d1_148 rfl rfl ?_
  refine Own.iinc (-1 : Int32) #[.val (.int p0), .val (.ref a1), .val (.int (2 : Int32)), .val (.int uh), .val (.int um), .val (.int us), .val (.int (4 : Int32)), .val (.int (12 : Int32)), .val (.int ((3 : Int32) + (-1 : Int32))), .val (.int (((uh / (10 : Int32)) / (10 : Int32)) / (10 : Int32)))] d1_149 rfl rfl rfl ?_
  refine OAt.castL (Ls' := #[.val (.int p0), .val (.ref a1), .val (.int (2 : Int32)), .val (.int uh), .val (.int um), .val (.int us), .val (.int (4 : Int32)), .val (.int (12 : Int32)), .val (.int (2 : Int32)), .val (.int (((uh / (10 : Int32)) / (10 : Int32)) / (10 : Int32)))]) rfl rfl ?_
  refine Own.iload d1_152 rfl ?_
  refine Own.iload d1_154 rfl ?_
  refine Own.bipush (10 : Int32) d1_156 rfl ?_
  refine Own.irem_ d1_158 (by decide) ?_
  refine Own.callSP [(.int ((((uh / (10 : Int32)) / (10 : Int32)) / (10 : Int32)) % (10 : Int32)))] [(.int (2 : Int32)), (.ref a1)] 2 (rmD l Z a0 hw [] ((((uh / (10 : Int32)) / (10 : Int32)) / (10 : Int32)) % (10 : Int32)) h126 n0 hn) (hw _ (List.mem_of_getElem? (i := 6) rfl)) (hw _ (List.mem_of_getElem? (i := 7) rfl)) (hw _ (List.mem_of_getElem? (i := 4) rfl)) (hw _ (List.mem_of_getElem? (i := 8) rfl)) (by decide) d1_159 pd_0 rfl rfl rfl rfl (by decide) (by decide) (by decide) (by decide) ?_
  refine Own.bastore_ V126 (i := 2) rfl (Nat.le_of_ble_eq_true rfl) g_a1 d1_162 (fun h127 W127 V127 => ?_)
  have hn : n0 ≤ h127.size := by rw [W127.size]; exact hn
  clear V126
  replace V127 : Arl Z h127 a1 ka .byte [own_x, own_x, (own_d ((((uh / (10 : Int32)) / (10 : Int32)) / (10 : Int32)) % (10 : Int32))), (own_d (((uh / (10 : Int32)) / (10 : Int32)) % (10 : Int32))), (own_d ((uh / (10 : Int32)) % (10 : Int32))), (own_d (uh % (10 : Int32))), own_c, (own_d (um / (10 : Int32))), (own_d (um % (10 : Int32))), own_c, (own_d (us / (10 : Int32))), (own_d (us % (10 : Int32))), own_x, own_x, own_x, own_x] := V127
  have K := K.wr W127 (Or.inl (List.mem_of_getElem? (i := 0) rfl))
  refine Own.iload d1_163 rfl ?_
  refine Own.bipush (10 : Int32) d1_165 rfl ?_
  refine Own.idiv d1_167 (by decide) ?_
  refine Own.istore #[.val (.int p0), .val (.ref a1), .val (.int (2 : Int32)), .val (.int uh), .val (.int um), .val (.int us), .val (.int (4 : Int32)), .val (.int (12 : Int32)), .val (.int (2 : Int32)), .val (.int ((((uh / (10 : Int32)) / (10 : Int32)) / (10 : Int32)) / (10 : Int32)))] d1_168 rfl ?_
  refine Own.goto_ 142 d1_170 (by decide) rfl ?_
  refine Own.iload d1_142 rfl ?_
  refine Own.iloadN d1_144 rfl ?_
  refine Own.icmp_le 173 d1_145 (by decide) rfl (fun _ => ?_) (fun q => absurd q (by decide))
  refine Own.iload d1_173 rfl ?_
  refine Own.ret_int rfl d1_175 (by decide) (by decide) ?_
  exact ⟨rfl, K, V127⟩
def Q_rmF_2_5 (Z : State) (a1 : Addr) (ka : ClassId) (uh : Int32) (um : Int32) (us : Int32) (h0 : Heap) (n0 : Nat) (v : Option Value) (h : Heap) : Prop := v = some (.int (13 : Int32)) ∧ Keep h0 h [a1] ∧ Arl Z h a1 ka .byte [own_x, own_x, (own_d (((((uh / (10 : Int32)) / (10 : Int32)) / (10 : Int32)) / (10 : Int32)) % (10 : Int32))), (own_d ((((uh / (10 : Int32)) / (10 : Int32)) / (10 : Int32)) % (10 : Int32))), (own_d (((uh / (10 : Int32)) / (10 : Int32)) % (10 : Int32))), (own_d ((uh / (10 : Int32)) % (10 : Int32))), (own_d (uh % (10 : Int32))), own_c, (own_d (um / (10 : Int32))), (own_d (um % (10 : Int32))), own_c, (own_d (us / (10 : Int32))), (own_d (us % (10 : Int32))), own_x, own_x, own_x]
theorem ef_rmF_2_5 (m : MethodId) (p0 : Int32) (a1 : Addr)  : entryFrame m #[(.int p0), (.ref a1), (.int (2 : Int32))] 10 = mkF m 0 #[.val (.int p0), .val (.ref a1), .val (.int (2 : Int32)), .unset, .unset, .unset, .unset, .unset, .unset, .unset] [] := by first | (simp [entryFrame, mkF, argsToLocals, Value.category]; done) | rfl
set_option maxRecDepth 65536 in
set_option maxHeartbeats 40000000 in
theorem rmF_2_5 (l : Launch) (Z : State) (a0 : Array Value) (hw : ∀ d ∈ tables_1, d.before a0 Z = true) (ws : List Jvm.Cond) (p0 : Int32) (a1 : Addr) (ka : ClassId) (uh : Int32) (um : Int32) (us : Int32) (h0 : Heap) (n0 : Nat) (hn : n0 ≤ h0.size) (V_a1 : Arl Z h0 a1 ka .byte [own_x, own_x, own_x, own_x, own_x, own_x, own_x, own_x, own_x, own_x, own_x, own_x, own_x, own_x, own_x, own_x]) (g_a1 : n0 ≤ a1) (e_h : p0 / (3600 : Int32) = uh) (e_m : (p0 / (60 : Int32)) % (60 : Int32) = um) (e_s : p0 % (60 : Int32) = us) (hl : 10000 ≤ uh.toInt) (hu : uh.toInt < 100000) :
    Met false l Z (⟨"com/example/voznired/voznired/timetable/StopTime", "formatTime", "(I[BI)I"⟩ : MethodName) prog_118_method_10_code 10 (some .int) ({ frames := 1, cells := 0, slots := 0, locals := 14 } : Room) ws #[(.int p0), (.ref a1), (.int (2 : Int32))] h0 n0 (Q_rmF_2_5 Z a1 ka uh um us h0 n0) := by
  refine Met.of pn_1 (fun m => ef_rmF_2_5 m p0 a1) ?_
  have K := Keep.refl h0 [a1]
  refine Own.iloadN d1_0 rfl ?_
  refine Own.sipush (3600 : Int32) d1_1 rfl ?_
  refine Own.idiv d1_4 (by decide) ?_
  rw [e_h]
  refine Own.istoreN #[.val (.int p0), .val (.ref a1), .val (.int (2 : Int32)), .val (.int uh), .unset, .unset, .unset, .unset, .unset, .unset] d1_5 rfl ?_
  refine Own.iloadN d1_6 rfl ?_
  refine Own.bipush (60 : Int32) d1_7 rfl ?_
  refine Own.idiv d1_9 (by decide) ?_
  refine Own.bipush (60 : Int32) d1_10 rfl ?_
  refine Own.irem_ d1_12 (by decide) ?_
  rw [e_m]
  refine Own.istore #[.val (.int p0), .val (.ref a1), .val (.int (2 : Int32)), .val (.int uh), .val (.int um), .unset, .unset, .unset, .unset, .unset] d1_13 rfl ?_
  refine Own.iloadN d1_15 rfl ?_
  refine Own.bipush (60 : Int32) d1_16 rfl ?_
  refine Own.irem_ d1_18 (by decide) ?_
  rw [e_s]
  refine Own.istore #[.val (.int p0), .val (.ref a1), .val (.int (2 : Int32)), .val (.int uh), .val (.int um), .val (.int us), .unset, .unset, .unset, .unset] d1_19 rfl ?_
  refine Own.iconst (2 : Int32) d1_21 rfl ?_
  refine Own.istore #[.val (.int p0), .val (.ref a1), .val (.int (2 : Int32)), .val (.int uh), .val (.int um), .val (.int us), .val (.int (2 : Int32)), .unset, .unset, .unset] d1_22 rfl ?_
  refine Own.iloadN d1_24 rfl ?_
  refine Own.bipush (100 : Int32) d1_25 rfl ?_
  refine Own.idiv d1_27 (by decide) ?_
  obtain ⟨ur0, e_ur0⟩ : ∃ z : Int32, z = (uh / (100 : Int32)) := ⟨_, rfl⟩
  rw [← e_ur0]
  have r_ur0 : ur0.toInt = uh.toInt / 100 := by
    rw [e_ur0]; exact own_div 100 rfl (by omega) (by omega)
  refine Own.istore #[.val (.int p0), .val (.ref a1), .val (.int (2 : Int32)), .val (.int uh), .val (.int um), .val (.int us), .val (.int (2 : Int32)), .val (.int ur0), .unset, .unset] d1_28 rfl ?_
  refine Own.iload d1_30 rfl ?_
  refine Own.if_le 48 d1_32 (by decide) rfl (fun q => absurd (by simp only [Int32.lt_iff_toInt_lt, Int32.reduceToInt]; omega) q) (fun _ => ?_)
  refine Own.iinc (1 : Int32) #[.val (.int p0), .val (.ref a1), .val (.int (2 : Int32)), .val (.int uh), .val (.int um), .val (.int us), .val (.int ((2 : Int32) + (1 : Int32))), .val (.int ur0), .unset, .unset] d1_35 rfl rfl rfl ?_
  refine OAt.castL (Ls' := #[.val (.int p0), .val (.ref a1), .val (.int (2 : Int32)), .val (.int uh), .val (.int um), .val (.int us), .val (.int (3 : Int32)), .val (.int ur0), .unset, .unset]) rfl rfl ?_
  refine Own.iload d1_38 rfl ?_
  refine Own.bipush (10 : Int32) d1_40 rfl ?_
  refine Own.idiv d1_42 (by decide) ?_
  obtain ⟨ur1, e_ur1⟩ : ∃ z : Int32, z = (ur0 / (10 : Int32)) := ⟨_, rfl⟩
  rw [← e_ur1]
  have r_ur1 : ur1.toInt = ur0.toInt / 10 := by
    rw [e_ur1]; rw [own_div 10 rfl (by omega) (by omega)]
  refine Own.istore #[.val (.int p0), .val (.ref a1), .val (.int (2 : Int32)), .val (.int uh), .val (.int um), .val (.int us), .val (.int (3 : Int32)), .val (.int ur1), .unset, .unset] d1_43 rfl ?_
  refine Own.goto_ 30 d1_45 (by decide) rfl ?_
  refine Own.iload d1_30 rfl ?_
  refine Own.if_le 48 d1_32 (by decide) rfl (fun q => absurd (by simp only [Int32.lt_iff_toInt_lt, Int32.reduceToInt]; omega) q) (fun _ => ?_)
  refine Own.iinc (1 : Int32) #[.val (.int p0), .val (.ref a1), .val (.int (2 : Int32)), .val (.int uh), .val (.int um), .val (.int us), .val (.int ((3 : Int32) + (1 : Int32))), .val (.int ur1), .unset, .unset] d1_35 rfl rfl rfl ?_
  refine OAt.castL (Ls' := #[.val (.int p0), .val (.ref a1), .val (.int (2 : Int32)), .val (.int uh), .val (.int um), .val (.int us), .val (.int (4 : Int32)), .val (.int ur1), .unset, .unset]) rfl rfl ?_
  refine Own.iload d1_38 rfl ?_
  refine Own.bipush (10 : Int32) d1_40 rfl ?_
  refine Own.idiv d1_42 (by decide) ?_
  obtain ⟨ur2, e_ur2⟩ : ∃ z : Int32, z = (ur1 / (10 : Int32)) := ⟨_, rfl⟩
  rw [← e_ur2]
  have r_ur2 : ur2.toInt = ur1.toInt / 10 := by
    rw [e_ur2]; rw [own_div 10 rfl (by omega) (by omega)]
  refine Own.istore #[.val (.int p0), .val (.ref a1), .val (.int (2 : Int32)), .val (.int uh), .val (.int um), .val (.int us), .val (.int (4 : Int32)), .val (.int ur2), .unset, .unset] d1_43 rfl ?_
  refine Own.goto_ 30 d1_45 (by decide) rfl ?_
  refine Own.iload d1_30 rfl ?_
  refine Own.if_le 48 d1_32 (by decide) rfl (fun q => absurd (by simp only [Int32.lt_iff_toInt_lt, Int32.reduceToInt]; omega) q) (fun _ => ?_)
  refine Own.iinc (1 : Int32) #[.val (.int p0), .val (.ref a1), .val (.int (2 : Int32)), .val (.int uh), .val (.int um), .val (.int us), .val (.int ((4 : Int32) + (1 : Int32))), .val (.int ur2), .unset, .unset] d1_35 rfl rfl rfl ?_
  refine OAt.castL (Ls' := #[.val (.int p0), .val (.ref a1), .val (.int (2 : Int32)), .val (.int uh), .val (.int um), .val (.int us), .val (.int (5 : Int32)), .val (.int ur2), .unset, .unset]) rfl rfl ?_
  refine Own.iload d1_38 rfl ?_
  refine Own.bipush (10 : Int32) d1_40 rfl ?_
  refine Own.idiv d1_42 (by decide) ?_
  obtain ⟨ur3, e_ur3⟩ : ∃ z : Int32, z = (ur2 / (10 : Int32)) := ⟨_, rfl⟩
  rw [← e_ur3]
  have r_ur3 : ur3.toInt = ur2.toInt / 10 := by
    rw [e_ur3]; rw [own_div 10 rfl (by omega) (by omega)]
  refine Own.istore #[.val (.int p0), .val (.ref a1), .val (.int (2 : Int32)), .val (.int uh), .val (.int um), .val (.int us), .val (.int (5 : Int32)), .val (.int ur3), .unset, .unset] d1_43 rfl ?_
  refine Own.goto_ 30 d1_45 (by decide) rfl ?_
  refine Own.iload d1_30 rfl ?_
  refine Own.if_le 48 d1_32 (by decide) rfl (fun _ => ?_) (fun q => absurd q (by simp only [Int32.lt_iff_toInt_lt, Int32.reduceToInt]; omega))
  refine Own.iloadN d1_48 rfl ?_
  refine Own.iload d1_49 rfl ?_
  refine Own.iadd d1_51 ?_
  refine OAt.cast (st' := [(.int (7 : Int32))]) rfl ?_
  refine Own.bipush (6 : Int32) d1_52 rfl ?_
  refine Own.iadd d1_54 ?_
  refine OAt.cast (st' := [(.int (13 : Int32))]) rfl ?_
  refine Own.istore #[.val (.int p0), .val (.ref a1), .val (.int (2 : Int32)), .val (.int uh), .val (.int um), .val (.int us), .val (.int (5 : Int32)), .val (.int (13 : Int32)), .unset, .unset] d1_55 rfl ?_
  refine Own.iload d1_57 rfl ?_
  refine Own.istore #[.val (.int p0), .val (.ref a1), .val (.int (2 : Int32)), .val (.int uh), .val (.int um), .val (.int us), .val (.int (5 : Int32)), .val (.int (13 : Int32)), .val (.int (13 : Int32)), .unset] d1_59 rfl ?_
  refine Own.aloadN d1_61 rfl rfl ?_
  refine Own.iinc (-1 : Int32) #[.val (.int p0), .val (.ref a1), .val (.int (2 : Int32)), .val (.int uh), .val (.int um), .val (.int us), .val (.int (5 : Int32)), .val (.int (13 : Int32)), .val (.int ((13 : Int32) + (-1 : Int32))), .unset] d1_62 rfl rfl rfl ?_
  refine OAt.castL (Ls' := #[.val (.int p0), .val (.ref a1), .val (.int (2 : Int32)), .val (.int uh), .val (.int um), .val (.int us), .val (.int (5 : Int32)), .val (.int (13 : Int32)), .val (.int (12 : Int32)), .unset]) rfl rfl ?_
  refine Own.iload d1_65 rfl ?_
  refine Own.iload d1_67 rfl ?_
  refine Own.bipush (10 : Int32) d1_69 rfl ?_
  refine Own.irem_ d1_71 (by decide) ?_
  refine Own.callSP [(.int (us % (10 : Int32)))] [(.int (12 : Int32)), (.ref a1)] 2 (rmD l Z a0 hw [] (us % (10 : Int32)) h0 n0 hn) (hw _ (List.mem_of_getElem? (i := 6) rfl)) (hw _ (List.mem_of_getElem? (i := 7) rfl)) (hw _ (List.mem_of_getElem? (i := 4) rfl)) (hw _ (List.mem_of_getElem? (i := 8) rfl)) (by decide) d1_72 pd_0 rfl rfl rfl rfl (by decide) (by decide) (by decide) (by decide) ?_
  refine Own.bastore_ V_a1 (i := 12) rfl (Nat.le_of_ble_eq_true rfl) g_a1 d1_75 (fun h128 W128 V128 => ?_)
  have hn : n0 ≤ h128.size := by rw [W128.size]; exact hn
  clear V_a1
  replace V128 : Arl Z h128 a1 ka .byte [own_x, own_x, own_x, own_x, own_x, own_x, own_x, own_x, own_x, own_x, own_x, own_x, (own_d (us % (10 : Int32))), own_x, own_x, own_x] := V128
  have K := K.wr W128 (Or.inl (List.mem_of_getElem? (i := 0) rfl))
  refine Own.aloadN d1_76 rfl rfl ?_
  refine Own.iinc (-1 : Int32) #[.val (.int p0), .val (.ref a1), .val (.int (2 : Int32)), .val (.int uh), .val (.int um), .val (.int us), .val (.int (5 : Int32)), .val (.int (13 : Int32)), .val (.int ((12 : Int32) + (-1 : Int32))), .unset] d1_77 rfl rfl rfl ?_
  refine OAt.castL (Ls' := #[.val (.int p0), .val (.ref a1), .val (.int (2 : Int32)), .val (.int uh), .val (.int um), .val (.int us), .val (.int (5 : Int32)), .val (.int (13 : Int32)), .val (.int (11 : Int32)), .unset]) rfl rfl ?_
  refine Own.iload d1_80 rfl ?_
  refine Own.iload d1_82 rfl ?_
  refine Own.bipush (10 : Int32) d1_84 rfl ?_
  refine Own.idiv d1_86 (by decide) ?_
  refine Own.callSP [(.int (us / (10 : Int32)))] [(.int (11 : Int32)), (.ref a1)] 2 (rmD l Z a0 hw [] (us / (10 : Int32)) h128 n0 hn) (hw _ (List.mem_of_getElem? (i := 6) rfl)) (hw _ (List.mem_of_getElem? (i := 7) rfl)) (hw _ (List.mem_of_getElem? (i := 4) rfl)) (hw _ (List.mem_of_getElem? (i := 8) rfl)) (by decide) d1_87 pd_0 rfl rfl rfl rfl (by decide) (by decide) (by decide) (by decide) ?_
  refine Own.bastore_ V128 (i := 11) rfl (Nat.le_of_ble_eq_true rfl) g_a1 d1_90 (fun h129 W129 V129 => ?_)
  have hn : n0 ≤ h129.size := by rw [W129.size]; exact hn
  clear V128
  replace V129 : Arl Z h129 a1 ka .byte [own_x, own_x, own_x, own_x, own_x, own_x, own_x, own_x, own_x, own_x, own_x, (own_d (us / (10 : Int32))), (own_d (us % (10 : Int32))), own_x, own_x, own_x] := V129
  have K := K.wr W129 (Or.inl (List.mem_of_getElem? (i := 0) rfl))
  refine Own.aloadN d1_91 rfl rfl ?_
  refine Own.iinc (-1 : Int32) #[.val (.int p0), .val (.ref a1), .val (.int (2 : Int32)), .val (.int uh), .val (.int um), .val (.int us), .val (.int (5 : Int32)), .val (.int (13 : Int32)), .val (.int ((11 : Int32) + (-1 : Int32))), .unset] d1_92 rfl rfl rfl ?_
  refine OAt.castL (Ls' := #[.val (.int p0), .val (.ref a1), .val (.int (2 : Int32)), .val (.int uh), .val (.int um), .val (.int us), .val (.int (5 : Int32)), .val (.int (13 : Int32)), .val (.int (10 : Int32)), .unset]) rfl rfl ?_
  refine Own.iload d1_95 rfl ?_
  refine Own.bipush (58 : Int32) d1_97 rfl ?_
  refine Own.bastore_ V129 (i := 10) rfl (Nat.le_of_ble_eq_true rfl) g_a1 d1_99 (fun h130 W130 V130 => ?_)
  have hn : n0 ≤ h130.size := by rw [W130.size]; exact hn
  clear V129
  replace V130 : Arl Z h130 a1 ka .byte [own_x, own_x, own_x, own_x, own_x, own_x, own_x, own_x, own_x, own_x, own_c, (own_d (us / (10 : Int32))), (own_d (us % (10 : Int32))), own_x, own_x, own_x] := V130
  have K := K.wr W130 (Or.inl (List.mem_of_getElem? (i := 0) rfl))
  refine Own.aloadN d1_100 rfl rfl ?_
  refine Own.iinc (-1 : Int32) #[.val (.int p0), .val (.ref a1), .val (.int (2 : Int32)), .val (.int uh), .val (.int um), .val (.int us), .val (.int (5 : Int32)), .val (.int (13 : Int32)), .val (.int ((10 : Int32) + (-1 : Int32))), .unset] d1_101 rfl rfl rfl ?_
  refine OAt.castL (Ls' := #[.val (.int p0), .val (.ref a1), .val (.int (2 : Int32)), .val (.int uh), .val (.int um), .val (.int us), .val (.int (5 : Int32)), .val (.int (13 : Int32)), .val (.int (9 : Int32)), .unset]) rfl rfl ?_
  refine Own.iload d1_104 rfl ?_
  refine Own.iload d1_106 rfl ?_
  refine Own.bipush (10 : Int32) d1_108 rfl ?_
  refine Own.irem_ d1_110 (by decide) ?_
  refine Own.callSP [(.int (um % (10 : Int32)))] [(.int (9 : Int32)), (.ref a1)] 2 (rmD l Z a0 hw [] (um % (10 : Int32)) h130 n0 hn) (hw _ (List.mem_of_getElem? (i := 6) rfl)) (hw _ (List.mem_of_getElem? (i := 7) rfl)) (hw _ (List.mem_of_getElem? (i := 4) rfl)) (hw _ (List.mem_of_getElem? (i := 8) rfl)) (by decide) d1_111 pd_0 rfl rfl rfl rfl (by decide) (by decide) (by decide) (by decide) ?_
  refine Own.bastore_ V130 (i := 9) rfl (Nat.le_of_ble_eq_true rfl) g_a1 d1_114 (fun h131 W131 V131 => ?_)
  have hn : n0 ≤ h131.size := by rw [W131.size]; exact hn
  clear V130
  replace V131 : Arl Z h131 a1 ka .byte [own_x, own_x, own_x, own_x, own_x, own_x, own_x, own_x, own_x, (own_d (um % (10 : Int32))), own_c, (own_d (us / (10 : Int32))), (own_d (us % (10 : Int32))), own_x, own_x, own_x] := V131
  have K := K.wr W131 (Or.inl (List.mem_of_getElem? (i := 0) rfl))
  refine Own.aloadN d1_115 rfl rfl ?_
  refine Own.iinc (-1 : Int32) #[.val (.int p0), .val (.ref a1), .val (.int (2 : Int32)), .val (.int uh), .val (.int um), .val (.int us), .val (.int (5 : Int32)), .val (.int (13 : Int32)), .val (.int ((9 : Int32) + (-1 : Int32))), .unset] d1_116 rfl rfl rfl ?_
  refine OAt.castL (Ls' := #[.val (.int p0), .val (.ref a1), .val (.int (2 : Int32)), .val (.int uh), .val (.int um), .val (.int us), .val (.int (5 : Int32)), .val (.int (13 : Int32)), .val (.int (8 : Int32)), .unset]) rfl rfl ?_
  refine Own.iload d1_119 rfl ?_
  refine Own.iload d1_121 rfl ?_
  refine Own.bipush (10 : Int32) d1_123 rfl ?_
  refine Own.idiv d1_125 (by decide) ?_
  refine Own.callSP [(.int (um / (10 : Int32)))] [(.int (8 : Int32)), (.ref a1)] 2 (rmD l Z a0 hw [] (um / (10 : Int32)) h131 n0 hn) (hw _ (List.mem_of_getElem? (i := 6) rfl)) (hw _ (List.mem_of_getElem? (i := 7) rfl)) (hw _ (List.mem_of_getElem? (i := 4) rfl)) (hw _ (List.mem_of_getElem? (i := 8) rfl)) (by decide) d1_126 pd_0 rfl rfl rfl rfl (by decide) (by decide) (by decide) (by decide) ?_
  refine Own.bastore_ V131 (i := 8) rfl (Nat.le_of_ble_eq_true rfl) g_a1 d1_129 (fun h132 W132 V132 => ?_)
  have hn : n0 ≤ h132.size := by rw [W132.size]; exact hn
  clear V131
  replace V132 : Arl Z h132 a1 ka .byte [own_x, own_x, own_x, own_x, own_x, own_x, own_x, own_x, (own_d (um / (10 : Int32))), (own_d (um % (10 : Int32))), own_c, (own_d (us / (10 : Int32))), (own_d (us % (10 : Int32))), own_x, own_x, own_x] := V132
  have K := K.wr W132 (Or.inl (List.mem_of_getElem? (i := 0) rfl))
  refine Own.aloadN d1_130 rfl rfl ?_
  refine Own.iinc (-1 : Int32) #[.val (.int p0), .val (.ref a1), .val (.int (2 : Int32)), .val (.int uh), .val (.int um), .val (.int us), .val (.int (5 : Int32)), .val (.int (13 : Int32)), .val (.int ((8 : Int32) + (-1 : Int32))), .unset] d1_131 rfl rfl rfl ?_
  refine OAt.castL (Ls' := #[.val (.int p0), .val (.ref a1), .val (.int (2 : Int32)), .val (.int uh), .val (.int um), .val (.int us), .val (.int (5 : Int32)), .val (.int (13 : Int32)), .val (.int (7 : Int32)), .unset]) rfl rfl ?_
  refine Own.iload d1_134 rfl ?_
  refine Own.bipush (58 : Int32) d1_136 rfl ?_
  refine Own.bastore_ V132 (i := 7) rfl (Nat.le_of_ble_eq_true rfl) g_a1 d1_138 (fun h133 W133 V133 => ?_)
  have hn : n0 ≤ h133.size := by rw [W133.size]; exact hn
  clear V132
  replace V133 : Arl Z h133 a1 ka .byte [own_x, own_x, own_x, own_x, own_x, own_x, own_x, own_c, (own_d (um / (10 : Int32))), (own_d (um % (10 : Int32))), own_c, (own_d (us / (10 : Int32))), (own_d (us % (10 : Int32))), own_x, own_x, own_x] := V133
  have K := K.wr W133 (Or.inl (List.mem_of_getElem? (i := 0) rfl))
  refine Own.iloadN d1_139 rfl ?_
  refine Own.istore #[.val (.int p0), .val (.ref a1), .val (.int (2 : Int32)), .val (.int uh), .val (.int um), .val (.int us), .val (.int (5 : Int32)), .val (.int (13 : Int32)), .val (.int (7 : Int32)), .val (.int uh)] d1_140 rfl ?_
  refine Own.iload d1_142 rfl ?_
  refine Own.iloadN d1_144 rfl ?_
  refine Own.icmp_le 173 d1_145 (by decide) rfl (fun q => absurd (by decide) q) (fun _ => ?_)
  refine Own.aloadN d1_148 rfl rfl ?_
  refine Own.iinc (-1 : Int32) #[.val (.int p0), .val (.ref a1), .val (.int (2 : Int32)), .val (.int uh), .val (.int um), .val (.int us), .val (.int (5 : Int32)), .val (.int (13 : Int32)), .val (.int ((7 : Int32) + (-1 : Int32))), .val (.int uh)] d1_149 rfl rfl rfl ?_
  refine OAt.castL (Ls' := #[.val (.int p0), .val (.ref a1), .val (.int (2 : Int32)), .val (.int uh), .val (.int um), .val (.int us), .val (.int (5 : Int32)), .val (.int (13 : Int32)), .val (.int (6 : Int32)), .val (.int uh)]) rfl rfl ?_
  refine Own.iload d1_152 rfl ?_
  refine Own.iload d1_154 rfl ?_
  refine Own.bipush (10 : Int32) d1_156 rfl ?_
  refine Own.irem_ d1_158 (by decide) ?_
  refine Own.callSP [(.int (uh % (10 : Int32)))] [(.int (6 : Int32)), (.ref a1)] 2 (rmD l Z a0 hw [] (uh % (10 : Int32)) h133 n0 hn) (hw _ (List.mem_of_getElem? (i := 6) rfl)) (hw _ (List.mem_of_getElem? (i := 7) rfl)) (hw _ (List.mem_of_getElem? (i := 4) rfl)) (hw _ (List.mem_of_getElem? (i := 8) rfl)) (by decide) d1_159 pd_0 rfl rfl rfl rfl (by decide) (by decide) (by decide) (by decide) ?_
  refine Own.bastore_ V133 (i := 6) rfl (Nat.le_of_ble_eq_true rfl) g_a1 d1_162 (fun h134 W134 V134 => ?_)
  have hn : n0 ≤ h134.size := by rw [W134.size]; exact hn
  clear V133
  replace V134 : Arl Z h134 a1 ka .byte [own_x, own_x, own_x, own_x, own_x, own_x, (own_d (uh % (10 : Int32))), own_c, (own_d (um / (10 : Int32))), (own_d (um % (10 : Int32))), own_c, (own_d (us / (10 : Int32))), (own_d (us % (10 : Int32))), own_x, own_x, own_x] := V134
  have K := K.wr W134 (Or.inl (List.mem_of_getElem? (i := 0) rfl))
  refine Own.iload d1_163 rfl ?_
  refine Own.bipush (10 : Int32) d1_165 rfl ?_
  refine Own.idiv d1_167 (by decide) ?_
  refine Own.istore #[.val (.int p0), .val (.ref a1), .val (.int (2 : Int32)), .val (.int uh), .val (.int um), .val (.int us), .val (.int (5 : Int32)), .val (.int (13 : Int32)), .val (.int (6 : Int32)), .val (.int (uh / (10 : Int32)))] d1_168 rfl ?_
  refine Own.goto_ 142 d1_170 (by decide) rfl ?_
  refine Own.iload d1_142 rfl ?_
  refine Own.iloadN d1_144 rfl ?_
  refine Own.icmp_le 173 d1_145 (by decide) rfl (fun q => absurd (by decide) q) (fun _ => ?_)
  refine Own.aloadN d1_148 rfl rfl ?_
  refine Own.iinc (-1 : Int32) #[.val (.int p0), .val (.ref a1), .val (.int (2 : Int32)), .val (.int uh), .val (.int um), .val (.int us), .val (.int (5 : Int32)), .val (.int (13 : Int32)), .val (.int ((6 : Int32) + (-1 : Int32))), .val (.int (uh / (10 : Int32)))] d1_149 rfl rfl rfl ?_
  refine OAt.castL (Ls' := #[.val (.int p0), .val (.ref a1), .val (.int (2 : Int32)), .val (.int uh), .val (.int um), .val (.int us), .val (.int (5 : Int32)), .val (.int (13 : Int32)), .val (.int (5 : Int32)), .val (.int (uh / (10 : Int32)))]) rfl rfl ?_
  refine Own.iload d1_152 rfl ?_
  refine Own.iload d1_154 rfl ?_
  refine Own.bipush (10 : Int32) d1_156 rfl ?_
  refine Own.irem_ d1_158 (by decide) ?_
  refine Own.callSP [(.int ((uh / (10 : Int32)) % (10 : Int32)))] [(.int (5 : Int32)), (.ref a1)] 2 (rmD l Z a0 hw [] ((uh / (10 : Int32)) % (10 : Int32)) h134 n0 hn) (hw _ (List.mem_of_getElem? (i := 6) rfl)) (hw _ (List.mem_of_getElem? (i := 7) rfl)) (hw _ (List.mem_of_getElem? (i := 4) rfl)) (hw _ (List.mem_of_getElem? (i := 8) rfl)) (by decide) d1_159 pd_0 rfl rfl rfl rfl (by decide) (by decide) (by decide) (by decide) ?_
  refine Own.bastore_ V134 (i := 5) rfl (Nat.le_of_ble_eq_true rfl) g_a1 d1_162 (fun h135 W135 V135 => ?_)
  have hn : n0 ≤ h135.size := by rw [W135.size]; exact hn
  clear V134
  replace V135 : Arl Z h135 a1 ka .byte [own_x, own_x, own_x, own_x, own_x, (own_d ((uh / (10 : Int32)) % (10 : Int32))), (own_d (uh % (10 : Int32))), own_c, (own_d (um / (10 : Int32))), (own_d (um % (10 : Int32))), own_c, (own_d (us / (10 : Int32))), (own_d (us % (10 : Int32))), own_x, own_x, own_x] := V135
  have K := K.wr W135 (Or.inl (List.mem_of_getElem? (i := 0) rfl))
  refine Own.iload d1_163 rfl ?_
  refine Own.bipush (10 : Int32) d1_165 rfl ?_
  refine Own.idiv d1_167 (by decide) ?_
  refine Own.istore #[.val (.int p0), .val (.ref a1), .val (.int (2 : Int32)), .val (.int uh), .val (.int um), .val (.int us), .val (.int (5 : Int32)), .val (.int (13 : Int32)), .val (.int (5 : Int32)), .val (.int ((uh / (10 : Int32)) / (10 : Int32)))] d1_168 rfl ?_
  refine Own.goto_ 142 d1_170 (by decide) rfl ?_
  refine Own.iload d1_142 rfl ?_
  refine Own.iloadN d1_144 rfl ?_
  refine Own.icmp_le 173 d1_145 (by decide) rfl (fun q => absurd (by decide) q) (fun _ => ?_)
  refine Own.aloadN d1_148 rfl rfl ?_
  refine Own.iinc (-1 : Int32) #[.val (.int p0), .val (.ref a1), .val (.int (2 : Int32)), .val (.int uh), .val (.int um), .val (.int us), .val (.int (5 : Int32)), .val (.int (13 : Int32)), .val (.int ((5 : Int32) + (-1 : Int32))), .val (.int ((uh / (10 : Int32)) / (10 : Int32)))] d1_149 rfl rfl rfl ?_
  refine OAt.castL (Ls' := #[.val (.int p0), .val (.ref a1), .val (.int (2 : Int32)), .val (.int uh), .val (.int um), .val (.int us), .val (.int (5 : Int32)), .val (.int (13 : Int32)), .val (.int (4 : Int32)), .val (.int ((uh / (10 : Int32)) / (10 : Int32)))]) rfl rfl ?_
  refine Own.iload d1_152 rfl ?_
  refine Own.iload d1_154 rfl ?_
  refine Own.bipush (10 : Int32) d1_156 rfl ?_
  refine Own.irem_ d1_158 (by decide) ?_
  refine Own.callSP [(.int (((uh / (10 : Int32)) / (10 : Int32)) % (10 : Int32)))] [(.int (4 : Int32)), (.ref a1)] 2 (rmD l Z a0 hw [] (((uh / (10 : Int32)) / (10 : Int32)) % (10 : Int32)) h135 n0 hn) (hw _ (List.mem_of_getElem? (i := 6) rfl)) (hw _ (List.mem_of_getElem? (i := 7) rfl)) (hw _ (List.mem_of_getElem? (i := 4) rfl)) (hw _ (List.mem_of_getElem? (i := 8) rfl)) (by decide) d1_159 pd_0 rfl rfl rfl rfl (by decide) (by decide) (by decide) (by decide) ?_
  refine Own.bastore_ V135 (i := 4) rfl (Nat.le_of_ble_eq_true rfl) g_a1 d1_162 (fun h136 W136 V136 => ?_)
  have hn : n0 ≤ h136.size := by rw [W136.size]; exact hn
  clear V135
  replace V136 : Arl Z h136 a1 ka .byte [own_x, own_x, own_x, own_x, (own_d (((uh / (10 : Int32)) / (10 : Int32)) % (10 : Int32))), (own_d ((uh / (10 : Int32)) % (10 : Int32))), (own_d (uh % (10 : Int32))), own_c, (own_d (um / (10 : Int32))), (own_d (um % (10 : Int32))), own_c, (own_d (us / (10 : Int32))), (own_d (us % (10 : Int32))), own_x, own_x, own_x] := V136
  have K := K.wr W136 (Or.inl (List.mem_of_getElem? (i := 0) rfl))
  refine Own.iload d1_163 rfl ?_
  refine Own.bipush (10 : Int32) d1_165 rfl ?_
  refine Own.idiv d1_167 (by decide) ?_
  refine Own.istore #[.val (.int p0), .val (.ref a1), .val (.int (2 : Int32)), .val (.int uh), .val (.int um), .val (.int us), .val (.int (5 : Int32)), .val (.int (13 : Int32)), .val (.int (4 : Int32)), .val (.int (((uh / (10 : Int32)) / (10 : Int32)) / (10 : Int32)))] d1_168 rfl ?_
  refine Own.goto_ 142 d1_170 (by decide) rfl ?_
  refine Own.iload d1_142 rfl ?_
  refine Own.iloadN d1_144 rfl ?_
  refine Own.icmp_le 173 d1_145 (by decide) rfl (fun q => absurd (by decide) q) (fun _ => ?_)
  refine Own.aloadN d1_148 rfl rfl ?_
  refine Own.iinc (-1 : Int32) #[.val (.int p0), .val (.ref a1), .val (.int (2 : Int32)), .val (.int uh), .val (.int um), .val (.int us), .val (.int (5 : Int32)), .val (.int (13 : Int32)), .val (.int ((4 : Int32) + (-1 : Int32))), .val (.int (((uh / (10 : Int32)) / (10 : Int32)) / (10 : Int32)))] d1_149 rfl rfl rfl ?_
  refine OAt.castL (Ls' := #[.val (.int p0), .val (.ref a1), .val (.int (2 : Int32)), .val (.int uh), .val (.int um), .val (.int us), .val (.int (5 : Int32)), .val (.int (13 : Int32)), .val (.int (3 : Int32)), .val (.int (((uh / (10 : Int32)) / (10 : Int32)) / (10 : Int32)))]) rfl rfl ?_
  refine Own.iload d1_152 rfl ?_
  refine Own.iload d1_154 rfl ?_
  refine Own.bipush (10 : Int32) d1_156 rfl ?_
  refine Own.irem_ d1_158 (by decide) ?_
  refine Own.callSP [(.int ((((uh / (10 : Int32)) / (10 : Int32)) / (10 : Int32)) % (10 : Int32)))] [(.int (3 : Int32)), (.ref a1)] 2 (rmD l Z a0 hw [] ((((uh / (10 : Int32)) / (10 : Int32)) / (10 : Int32)) % (10 : Int32)) h136 n0 hn) (hw _ (List.mem_of_getElem? (i := 6) rfl)) (hw _ (List.mem_of_getElem? (i := 7) rfl)) (hw _ (List.mem_of_getElem? (i := 4) rfl)) (hw _ (List.mem_of_getElem? (i := 8) rfl)) (by decide) d1_159 pd_0 rfl rfl rfl rfl (by decide) (by decide) (by decide) (by decide) ?_
  refine Own.bastore_ V136 (i := 3) rfl (Nat.le_of_ble_eq_true rfl) g_a1 d1_162 (fun h137 W137 V137 => ?_)
  have hn : n0 ≤ h137.size := by rw [W137.size]; exact hn
  clear V136
  replace V137 : Arl Z h137 a1 ka .byte [own_x, own_x, own_x, (own_d ((((uh / (10 : Int32)) / (10 : Int32)) / (10 : Int32)) % (10 : Int32))), (own_d (((uh / (10 : Int32)) / (10 : Int32)) % (10 : Int32))), (own_d ((uh / (10 : Int32)) % (10 : Int32))), (own_d (uh % (10 : Int32))), own_c, (own_d (um / (10 : Int32))), (own_d (um % (10 : Int32))), own_c, (own_d (us / (10 : Int32))), (own_d (us % (10 : Int32))), own_x, own_x, own_x] := V137
  have K := K.wr W137 (Or.inl (List.mem_of_getElem? (i := 0) rfl))
  refine Own.iload d1_163 rfl ?_
  refine Own.bipush (10 : Int32) d1_165 rfl ?_
  refine Own.idiv d1_167 (by decide) ?_
  refine Own.istore #[.val (.int p0), .val (.ref a1), .val (.int (2 : Int32)), .val (.int uh), .val (.int um), .val (.int us), .val (.int (5 : Int32)), .val (.int (13 : Int32)), .val (.int (3 : Int32)), .val (.int ((((uh / (10 : Int32)) / (10 : Int32)) / (10 : Int32)) / (10 : Int32)))] d1_168 rfl ?_
  refine Own.goto_ 142 d1_170 (by decide) rfl ?_
  refine Own.iload d1_142 rfl ?_
  refine Own.iloadN d1_144 rfl ?_
  refine Own.icmp_le 173 d1_145 (by decide) rfl (fun q => absurd (by decide) q) (fun _ => ?_)
  refine Own.aloadN d1_148 rfl rfl ?_
  refine Own.iinc (-1 : Int32) #[.val (.int p0), .val (.ref a1), .val (.int (2 : Int32)), .val (.int uh), .val (.int um), .val (.int us), .val (.int (5 : Int32)), .val (.int (13 : Int32)), .val (.int ((3 : Int32) + (-1 : Int32))), .val (.int ((((uh / (10 : Int32)) / (10 : Int32)) / (10 : Int32)) / (10 : Int32)))] d1_149 rfl rfl rfl ?_
  refine OAt.castL (Ls' := #[.val (.int p0), .val (.ref a1), .val (.int (2 : Int32)), .val (.int uh), .val (.int um), .val (.int us), .val (.int (5 : Int32)), .val (.int (13 : Int32)), .val (.int (2 : Int32)), .val (.int ((((uh / (10 : Int32)) / (10 : Int32)) / (10 : Int32)) / (10 : Int32)))]) rfl rfl ?_
  refine Own.iload d1_152 rfl ?_
  refine Own.iload d1_154 rfl ?_
  refine Own.bipush (10 : Int32) d1_156 rfl ?_
  refine Own.irem_ d1_158 (by decide) ?_
  refine Own.callSP [(.int (((((uh / (10 : Int32)) / (10 : Int32)) / (10 : Int32)) / (10 : Int32)) % (10 : Int32)))] [(.int (2 : Int32)), (.ref a1)] 2 (rmD l Z a0 hw [] (((((uh / (10 : Int32)) / (10 : Int32)) / (10 : Int32)) / (10 : Int32)) % (10 : Int32)) h137 n0 hn) (hw _ (List.mem_of_getElem? (i := 6) rfl)) (hw _ (List.mem_of_getElem? (i := 7) rfl)) (hw _ (List.mem_of_getElem? (i := 4) rfl)) (hw _ (List.mem_of_getElem? (i := 8) rfl)) (by decide) d1_159 pd_0 rfl rfl rfl rfl (by decide) (by decide) (by decide) (by decide) ?_
  refine Own.bastore_ V137 (i := 2) rfl (Nat.le_of_ble_eq_true rfl) g_a1 d1_162 (fun h138 W138 V138 => ?_)
  have hn : n0 ≤ h138.size := by rw [W138.size]; exact hn
  clear V137
  replace V138 : Arl Z h138 a1 ka .byte [own_x, own_x, (own_d (((((uh / (10 : Int32)) / (10 : Int32)) / (10 : Int32)) / (10 : Int32)) % (10 : Int32))), (own_d ((((uh / (10 : Int32)) / (10 : Int32)) / (10 : Int32)) % (10 : Int32))), (own_d (((uh / (10 : Int32)) / (10 : Int32)) % (10 : Int32))), (own_d ((uh / (10 : Int32)) % (10 : Int32))), (own_d (uh % (10 : Int32))), own_c, (own_d (um / (10 : Int32))), (own_d (um % (10 : Int32))), own_c, (own_d (us / (10 : Int32))), (own_d (us % (10 : Int32))), own_x, own_x, own_x] := V138
  have K := K.wr W138 (Or.inl (List.mem_of_getElem? (i := 0) rfl))
  refine Own.iload d1_163 rfl ?_
  refine Own.bipush (10 : Int32) d1_165 rfl ?_
  refine Own.idiv d1_167 (by decide) ?_
  refine Own.istore #[.val (.int p0), .val (.ref a1), .val (.int (2 : Int32)), .val (.int uh), .val (.int um), .val (.int us), .val (.int (5 : Int32)), .val (.int (13 : Int32)), .val (.int (2 : Int32)), .val (.int (((((uh / (10 : Int32)) / (10 : Int32)) / (10 : Int32)) / (10 : Int32)) / (10 : Int32)))] d1_168 rfl ?_
  refine Own.goto_ 142 d1_170 (by decide) rfl ?_
  refine Own.iload d1_142 rfl ?_
  refine Own.iloadN d1_144 rfl ?_
  refine Own.icmp_le 173 d1_145 (by decide) rfl (fun _ => ?_) (fun q => absurd q (by decide))
  refine Own.iload d1_173 rfl ?_
  refine Own.ret_int rfl d1_175 (by decide) (by decide) ?_
  exact ⟨rfl, K, V138⟩
def Q_rmF_2_6 (Z : State) (a1 : Addr) (ka : ClassId) (uh : Int32) (um : Int32) (us : Int32) (h0 : Heap) (n0 : Nat) (v : Option Value) (h : Heap) : Prop := v = some (.int (14 : Int32)) ∧ Keep h0 h [a1] ∧ Arl Z h a1 ka .byte [own_x, own_x, (own_d ((((((uh / (10 : Int32)) / (10 : Int32)) / (10 : Int32)) / (10 : Int32)) / (10 : Int32)) % (10 : Int32))), (own_d (((((uh / (10 : Int32)) / (10 : Int32)) / (10 : Int32)) / (10 : Int32)) % (10 : Int32))), (own_d ((((uh / (10 : Int32)) / (10 : Int32)) / (10 : Int32)) % (10 : Int32))), (own_d (((uh / (10 : Int32)) / (10 : Int32)) % (10 : Int32))), (own_d ((uh / (10 : Int32)) % (10 : Int32))), (own_d (uh % (10 : Int32))), own_c, (own_d (um / (10 : Int32))), (own_d (um % (10 : Int32))), own_c, (own_d (us / (10 : Int32))), (own_d (us % (10 : Int32))), own_x, own_x]
theorem ef_rmF_2_6 (m : MethodId) (p0 : Int32) (a1 : Addr)  : entryFrame m #[(.int p0), (.ref a1), (.int (2 : Int32))] 10 = mkF m 0 #[.val (.int p0), .val (.ref a1), .val (.int (2 : Int32)), .unset, .unset, .unset, .unset, .unset, .unset, .unset] [] := by first | (simp [entryFrame, mkF, argsToLocals, Value.category]; done) | rfl
set_option maxRecDepth 65536 in
set_option maxHeartbeats 40000000 in
theorem rmF_2_6 (l : Launch) (Z : State) (a0 : Array Value) (hw : ∀ d ∈ tables_1, d.before a0 Z = true) (ws : List Jvm.Cond) (p0 : Int32) (a1 : Addr) (ka : ClassId) (uh : Int32) (um : Int32) (us : Int32) (h0 : Heap) (n0 : Nat) (hn : n0 ≤ h0.size) (V_a1 : Arl Z h0 a1 ka .byte [own_x, own_x, own_x, own_x, own_x, own_x, own_x, own_x, own_x, own_x, own_x, own_x, own_x, own_x, own_x, own_x]) (g_a1 : n0 ≤ a1) (e_h : p0 / (3600 : Int32) = uh) (e_m : (p0 / (60 : Int32)) % (60 : Int32) = um) (e_s : p0 % (60 : Int32) = us) (hl : 100000 ≤ uh.toInt) (hu : uh.toInt < 1000000) :
    Met false l Z (⟨"com/example/voznired/voznired/timetable/StopTime", "formatTime", "(I[BI)I"⟩ : MethodName) prog_118_method_10_code 10 (some .int) ({ frames := 1, cells := 0, slots := 0, locals := 14 } : Room) ws #[(.int p0), (.ref a1), (.int (2 : Int32))] h0 n0 (Q_rmF_2_6 Z a1 ka uh um us h0 n0) := by
  refine Met.of pn_1 (fun m => ef_rmF_2_6 m p0 a1) ?_
  have K := Keep.refl h0 [a1]
  refine Own.iloadN d1_0 rfl ?_
  refine Own.sipush (3600 : Int32) d1_1 rfl ?_
  refine Own.idiv d1_4 (by decide) ?_
  rw [e_h]
  refine Own.istoreN #[.val (.int p0), .val (.ref a1), .val (.int (2 : Int32)), .val (.int uh), .unset, .unset, .unset, .unset, .unset, .unset] d1_5 rfl ?_
  refine Own.iloadN d1_6 rfl ?_
  refine Own.bipush (60 : Int32) d1_7 rfl ?_
  refine Own.idiv d1_9 (by decide) ?_
  refine Own.bipush (60 : Int32) d1_10 rfl ?_
  refine Own.irem_ d1_12 (by decide) ?_
  rw [e_m]
  refine Own.istore #[.val (.int p0), .val (.ref a1), .val (.int (2 : Int32)), .val (.int uh), .val (.int um), .unset, .unset, .unset, .unset, .unset] d1_13 rfl ?_
  refine Own.iloadN d1_15 rfl ?_
  refine Own.bipush (60 : Int32) d1_16 rfl ?_
  refine Own.irem_ d1_18 (by decide) ?_
  rw [e_s]
  refine Own.istore #[.val (.int p0), .val (.ref a1), .val (.int (2 : Int32)), .val (.int uh), .val (.int um), .val (.int us), .unset, .unset, .unset, .unset] d1_19 rfl ?_
  refine Own.iconst (2 : Int32) d1_21 rfl ?_
  refine Own.istore #[.val (.int p0), .val (.ref a1), .val (.int (2 : Int32)), .val (.int uh), .val (.int um), .val (.int us), .val (.int (2 : Int32)), .unset, .unset, .unset] d1_22 rfl ?_
  refine Own.iloadN d1_24 rfl ?_
  refine Own.bipush (100 : Int32) d1_25 rfl ?_
  refine Own.idiv d1_27 (by decide) ?_
  obtain ⟨ur0, e_ur0⟩ : ∃ z : Int32, z = (uh / (100 : Int32)) := ⟨_, rfl⟩
  rw [← e_ur0]
  have r_ur0 : ur0.toInt = uh.toInt / 100 := by
    rw [e_ur0]; exact own_div 100 rfl (by omega) (by omega)
  refine Own.istore #[.val (.int p0), .val (.ref a1), .val (.int (2 : Int32)), .val (.int uh), .val (.int um), .val (.int us), .val (.int (2 : Int32)), .val (.int ur0), .unset, .unset] d1_28 rfl ?_
  refine Own.iload d1_30 rfl ?_
  refine Own.if_le 48 d1_32 (by decide) rfl (fun q => absurd (by simp only [Int32.lt_iff_toInt_lt, Int32.reduceToInt]; omega) q) (fun _ => ?_)
  refine Own.iinc (1 : Int32) #[.val (.int p0), .val (.ref a1), .val (.int (2 : Int32)), .val (.int uh), .val (.int um), .val (.int us), .val (.int ((2 : Int32) + (1 : Int32))), .val (.int ur0), .unset, .unset] d1_35 rfl rfl rfl ?_
  refine OAt.castL (Ls' := #[.val (.int p0), .val (.ref a1), .val (.int (2 : Int32)), .val (.int uh), .val (.int um), .val (.int us), .val (.int (3 : Int32)), .val (.int ur0), .unset, .unset]) rfl rfl ?_
  refine Own.iload d1_38 rfl ?_
  refine Own.bipush (10 : Int32) d1_40 rfl ?_
  refine Own.idiv d1_42 (by decide) ?_
  obtain ⟨ur1, e_ur1⟩ : ∃ z : Int32, z = (ur0 / (10 : Int32)) := ⟨_, rfl⟩
  rw [← e_ur1]
  have r_ur1 : ur1.toInt = ur0.toInt / 10 := by
    rw [e_ur1]; rw [own_div 10 rfl (by omega) (by omega)]
  refine Own.istore #[.val (.int p0), .val (.ref a1), .val (.int (2 : Int32)), .val (.int uh), .val (.int um), .val (.int us), .val (.int (3 : Int32)), .val (.int ur1), .unset, .unset] d1_43 rfl ?_
  refine Own.goto_ 30 d1_45 (by decide) rfl ?_
  refine Own.iload d1_30 rfl ?_
  refine Own.if_le 48 d1_32 (by decide) rfl (fun q => absurd (by simp only [Int32.lt_iff_toInt_lt, Int32.reduceToInt]; omega) q) (fun _ => ?_)
  refine Own.iinc (1 : Int32) #[.val (.int p0), .val (.ref a1), .val (.int (2 : Int32)), .val (.int uh), .val (.int um), .val (.int us), .val (.int ((3 : Int32) + (1 : Int32))), .val (.int ur1), .unset, .unset] d1_35 rfl rfl rfl ?_
  refine OAt.castL (Ls' := #[.val (.int p0), .val (.ref a1), .val (.int (2 : Int32)), .val (.int uh), .val (.int um), .val (.int us), .val (.int (4 : Int32)), .val (.int ur1), .unset, .unset]) rfl rfl ?_
  refine Own.iload d1_38 rfl ?_
  refine Own.bipush (10 : Int32) d1_40 rfl ?_
  refine Own.idiv d1_42 (by decide) ?_
  obtain ⟨ur2, e_ur2⟩ : ∃ z : Int32, z = (ur1 / (10 : Int32)) := ⟨_, rfl⟩
  rw [← e_ur2]
  have r_ur2 : ur2.toInt = ur1.toInt / 10 := by
    rw [e_ur2]; rw [own_div 10 rfl (by omega) (by omega)]
  refine Own.istore #[.val (.int p0), .val (.ref a1), .val (.int (2 : Int32)), .val (.int uh), .val (.int um), .val (.int us), .val (.int (4 : Int32)), .val (.int ur2), .unset, .unset] d1_43 rfl ?_
  refine Own.goto_ 30 d1_45 (by decide) rfl ?_
  refine Own.iload d1_30 rfl ?_
  refine Own.if_le 48 d1_32 (by decide) rfl (fun q => absurd (by simp only [Int32.lt_iff_toInt_lt, Int32.reduceToInt]; omega) q) (fun _ => ?_)
  refine Own.iinc (1 : Int32) #[.val (.int p0), .val (.ref a1), .val (.int (2 : Int32)), .val (.int uh), .val (.int um), .val (.int us), .val (.int ((4 : Int32) + (1 : Int32))), .val (.int ur2), .unset, .unset] d1_35 rfl rfl rfl ?_
  refine OAt.castL (Ls' := #[.val (.int p0), .val (.ref a1), .val (.int (2 : Int32)), .val (.int uh), .val (.int um), .val (.int us), .val (.int (5 : Int32)), .val (.int ur2), .unset, .unset]) rfl rfl ?_
  refine Own.iload d1_38 rfl ?_
  refine Own.bipush (10 : Int32) d1_40 rfl ?_
  refine Own.idiv d1_42 (by decide) ?_
  obtain ⟨ur3, e_ur3⟩ : ∃ z : Int32, z = (ur2 / (10 : Int32)) := ⟨_, rfl⟩
  rw [← e_ur3]
  have r_ur3 : ur3.toInt = ur2.toInt / 10 := by
    rw [e_ur3]; rw [own_div 10 rfl (by omega) (by omega)]
  refine Own.istore #[.val (.int p0), .val (.ref a1), .val (.int (2 : Int32)), .val (.int uh), .val (.int um), .val (.int us), .val (.int (5 : Int32)), .val (.int ur3), .unset, .unset] d1_43 rfl ?_
  refine Own.goto_ 30 d1_45 (by decide) rfl ?_
  refine Own.iload d1_30 rfl ?_
  refine Own.if_le 48 d1_32 (by decide) rfl (fun q => absurd (by simp only [Int32.lt_iff_toInt_lt, Int32.reduceToInt]; omega) q) (fun _ => ?_)
  refine Own.iinc (1 : Int32) #[.val (.int p0), .val (.ref a1), .val (.int (2 : Int32)), .val (.int uh), .val (.int um), .val (.int us), .val (.int ((5 : Int32) + (1 : Int32))), .val (.int ur3), .unset, .unset] d1_35 rfl rfl rfl ?_
  refine OAt.castL (Ls' := #[.val (.int p0), .val (.ref a1), .val (.int (2 : Int32)), .val (.int uh), .val (.int um), .val (.int us), .val (.int (6 : Int32)), .val (.int ur3), .unset, .unset]) rfl rfl ?_
  refine Own.iload d1_38 rfl ?_
  refine Own.bipush (10 : Int32) d1_40 rfl ?_
  refine Own.idiv d1_42 (by decide) ?_
  obtain ⟨ur4, e_ur4⟩ : ∃ z : Int32, z = (ur3 / (10 : Int32)) := ⟨_, rfl⟩
  rw [← e_ur4]
  have r_ur4 : ur4.toInt = ur3.toInt / 10 := by
    rw [e_ur4]; rw [own_div 10 rfl (by omega) (by omega)]
  refine Own.istore #[.val (.int p0), .val (.ref a1), .val (.int (2 : Int32)), .val (.int uh), .val (.int um), .val (.int us), .val (.int (6 : Int32)), .val (.int ur4), .unset, .unset] d1_43 rfl ?_
  refine Own.goto_ 30 d1_45 (by decide) rfl ?_
  refine Own.iload d1_30 rfl ?_
  refine Own.if_le 48 d1_32 (by decide) rfl (fun _ => ?_) (fun q => absurd q (by simp only [Int32.lt_iff_toInt_lt, Int32.reduceToInt]; omega))
  refine Own.iloadN d1_48 rfl ?_
  refine Own.iload d1_49 rfl ?_
  refine Own.iadd d1_51 ?_
  refine OAt.cast (st' := [(.int (8 : Int32))]) rfl ?_
  refine Own.bipush (6 : Int32) d1_52 rfl ?_
  refine Own.iadd d1_54 ?_
  refine OAt.cast (st' := [(.int (14 : Int32))]) rfl ?_
  refine Own.istore #[.val (.int p0), .val (.ref a1), .val (.int (2 : Int32)), .val (.int uh), .val (.int um), .val (.int us), .val (.int (6 : Int32)), .val (.int (14 : Int32)), .unset, .unset] d1_55 rfl ?_
  refine Own.iload d1_57 rfl ?_
  refine Own.istore #[.val (.int p0), .val (.ref a1), .val (.int (2 : Int32)), .val (.int uh), .val (.int um), .val (.int us), .val (.int (6 : Int32)), .val (.int (14 : Int32)), .val (.int (14 : Int32)), .unset] d1_59 rfl ?_
  refine Own.aloadN d1_61 rfl rfl ?_
  refine Own.iinc (-1 : Int32) #[.val (.int p0), .val (.ref a1), .val (.int (2 : Int32)), .val (.int uh), .val (.int um), .val (.int us), .val (.int (6 : Int32)), .val (.int (14 : Int32)), .val (.int ((14 : Int32) + (-1 : Int32))), .unset] d1_62 rfl rfl rfl ?_
  refine OAt.castL (Ls' := #[.val (.int p0), .val (.ref a1), .val (.int (2 : Int32)), .val (.int uh), .val (.int um), .val (.int us), .val (.int (6 : Int32)), .val (.int (14 : Int32)), .val (.int (13 : Int32)), .unset]) rfl rfl ?_
  refine Own.iload d1_65 rfl ?_
  refine Own.iload d1_67 rfl ?_
  refine Own.bipush (10 : Int32) d1_69 rfl ?_
  refine Own.irem_ d1_71 (by decide) ?_
  refine Own.callSP [(.int (us % (10 : Int32)))] [(.int (13 : Int32)), (.ref a1)] 2 (rmD l Z a0 hw [] (us % (10 : Int32)) h0 n0 hn) (hw _ (List.mem_of_getElem? (i := 6) rfl)) (hw _ (List.mem_of_getElem? (i := 7) rfl)) (hw _ (List.mem_of_getElem? (i := 4) rfl)) (hw _ (List.mem_of_getElem? (i := 8) rfl)) (by decide) d1_72 pd_0 rfl rfl rfl rfl (by decide) (by decide) (by decide) (by decide) ?_
  refine Own.bastore_ V_a1 (i := 13) rfl (Nat.le_of_ble_eq_true rfl) g_a1 d1_75 (fun h139 W139 V139 => ?_)
  have hn : n0 ≤ h139.size := by rw [W139.size]; exact hn
  clear V_a1
  replace V139 : Arl Z h139 a1 ka .byte [own_x, own_x, own_x, own_x, own_x, own_x, own_x, own_x, own_x, own_x, own_x, own_x, own_x, (own_d (us % (10 : Int32))), own_x, own_x] := V139
  have K := K.wr W139 (Or.inl (List.mem_of_getElem? (i := 0) rfl))
  refine Own.aloadN d1_76 rfl rfl ?_
  refine Own.iinc (-1 : Int32) #[.val (.int p0), .val (.ref a1), .val (.int (2 : Int32)), .val (.int uh), .val (.int um), .val (.int us), .val (.int (6 : Int32)), .val (.int (14 : Int32)), .val (.int ((13 : Int32) + (-1 : Int32))), .unset] d1_77 rfl rfl rfl ?_
  refine OAt.castL (Ls' := #[.val (.int p0), .val (.ref a1), .val (.int (2 : Int32)), .val (.int uh), .val (.int um), .val (.int us), .val (.int (6 : Int32)), .val (.int (14 : Int32)), .val (.int (12 : Int32)), .unset]) rfl rfl ?_
  refine Own.iload d1_80 rfl ?_
  refine Own.iload d1_82 rfl ?_
  refine Own.bipush (10 : Int32) d1_84 rfl ?_
  refine Own.idiv d1_86 (by decide) ?_
  refine Own.callSP [(.int (us / (10 : Int32)))] [(.int (12 : Int32)), (.ref a1)] 2 (rmD l Z a0 hw [] (us / (10 : Int32)) h139 n0 hn) (hw _ (List.mem_of_getElem? (i := 6) rfl)) (hw _ (List.mem_of_getElem? (i := 7) rfl)) (hw _ (List.mem_of_getElem? (i := 4) rfl)) (hw _ (List.mem_of_getElem? (i := 8) rfl)) (by decide) d1_87 pd_0 rfl rfl rfl rfl (by decide) (by decide) (by decide) (by decide) ?_
  refine Own.bastore_ V139 (i := 12) rfl (Nat.le_of_ble_eq_true rfl) g_a1 d1_90 (fun h140 W140 V140 => ?_)
  have hn : n0 ≤ h140.size := by rw [W140.size]; exact hn
  clear V139
  replace V140 : Arl Z h140 a1 ka .byte [own_x, own_x, own_x, own_x, own_x, own_x, own_x, own_x, own_x, own_x, own_x, own_x, (own_d (us / (10 : Int32))), (own_d (us % (10 : Int32))), own_x, own_x] := V140
  have K := K.wr W140 (Or.inl (List.mem_of_getElem? (i := 0) rfl))
  refine Own.aloadN d1_91 rfl rfl ?_
  refine Own.iinc (-1 : Int32) #[.val (.int p0), .val (.ref a1), .val (.int (2 : Int32)), .val (.int uh), .val (.int um), .val (.int us), .val (.int (6 : Int32)), .val (.int (14 : Int32)), .val (.int ((12 : Int32) + (-1 : Int32))), .unset] d1_92 rfl rfl rfl ?_
  refine OAt.castL (Ls' := #[.val (.int p0), .val (.ref a1), .val (.int (2 : Int32)), .val (.int uh), .val (.int um), .val (.int us), .val (.int (6 : Int32)), .val (.int (14 : Int32)), .val (.int (11 : Int32)), .unset]) rfl rfl ?_
  refine Own.iload d1_95 rfl ?_
  refine Own.bipush (58 : Int32) d1_97 rfl ?_
  refine Own.bastore_ V140 (i := 11) rfl (Nat.le_of_ble_eq_true rfl) g_a1 d1_99 (fun h141 W141 V141 => ?_)
  have hn : n0 ≤ h141.size := by rw [W141.size]; exact hn
  clear V140
  replace V141 : Arl Z h141 a1 ka .byte [own_x, own_x, own_x, own_x, own_x, own_x, own_x, own_x, own_x, own_x, own_x, own_c, (own_d (us / (10 : Int32))), (own_d (us % (10 : Int32))), own_x, own_x] := V141
  have K := K.wr W141 (Or.inl (List.mem_of_getElem? (i := 0) rfl))
  refine Own.aloadN d1_100 rfl rfl ?_
  refine Own.iinc (-1 : Int32) #[.val (.int p0), .val (.ref a1), .val (.int (2 : Int32)), .val (.int uh), .val (.int um), .val (.int us), .val (.int (6 : Int32)), .val (.int (14 : Int32)), .val (.int ((11 : Int32) + (-1 : Int32))), .unset] d1_101 rfl rfl rfl ?_
  refine OAt.castL (Ls' := #[.val (.int p0), .val (.ref a1), .val (.int (2 : Int32)), .val (.int uh), .val (.int um), .val (.int us), .val (.int (6 : Int32)), .val (.int (14 : Int32)), .val (.int (10 : Int32)), .unset]) rfl rfl ?_
  refine Own.iload d1_104 rfl ?_
  refine Own.iload d1_106 rfl ?_
  refine Own.bipush (10 : Int32) d1_108 rfl ?_
  refine Own.irem_ d1_110 (by decide) ?_
  refine Own.callSP [(.int (um % (10 : Int32)))] [(.int (10 : Int32)), (.ref a1)] 2 (rmD l Z a0 hw [] (um % (10 : Int32)) h141 n0 hn) (hw _ (List.mem_of_getElem? (i := 6) rfl)) (hw _ (List.mem_of_getElem? (i := 7) rfl)) (hw _ (List.mem_of_getElem? (i := 4) rfl)) (hw _ (List.mem_of_getElem? (i := 8) rfl)) (by decide) d1_111 pd_0 rfl rfl rfl rfl (by decide) (by decide) (by decide) (by decide) ?_
  refine Own.bastore_ V141 (i := 10) rfl (Nat.le_of_ble_eq_true rfl) g_a1 d1_114 (fun h142 W142 V142 => ?_)
  have hn : n0 ≤ h142.size := by rw [W142.size]; exact hn
  clear V141
  replace V142 : Arl Z h142 a1 ka .byte [own_x, own_x, own_x, own_x, own_x, own_x, own_x, own_x, own_x, own_x, (own_d (um % (10 : Int32))), own_c, (own_d (us / (10 : Int32))), (own_d (us % (10 : Int32))), own_x, own_x] := V142
  have K := K.wr W142 (Or.inl (List.mem_of_getElem? (i := 0) rfl))
  refine Own.aloadN d1_115 rfl rfl ?_
  refine Own.iinc (-1 : Int32) #[.val (.int p0), .val (.ref a1), .val (.int (2 : Int32)), .val (.int uh), .val (.int um), .val (.int us), .val (.int (6 : Int32)), .val (.int (14 : Int32)), .val (.int ((10 : Int32) + (-1 : Int32))), .unset] d1_116 rfl rfl rfl ?_
  refine OAt.castL (Ls' := #[.val (.int p0), .val (.ref a1), .val (.int (2 : Int32)), .val (.int uh), .val (.int um), .val (.int us), .val (.int (6 : Int32)), .val (.int (14 : Int32)), .val (.int (9 : Int32)), .unset]) rfl rfl ?_
  refine Own.iload d1_119 rfl ?_
  refine Own.iload d1_121 rfl ?_
  refine Own.bipush (10 : Int32) d1_123 rfl ?_
  refine Own.idiv d1_125 (by decide) ?_
  refine Own.callSP [(.int (um / (10 : Int32)))] [(.int (9 : Int32)), (.ref a1)] 2 (rmD l Z a0 hw [] (um / (10 : Int32)) h142 n0 hn) (hw _ (List.mem_of_getElem? (i := 6) rfl)) (hw _ (List.mem_of_getElem? (i := 7) rfl)) (hw _ (List.mem_of_getElem? (i := 4) rfl)) (hw _ (List.mem_of_getElem? (i := 8) rfl)) (by decide) d1_126 pd_0 rfl rfl rfl rfl (by decide) (by decide) (by decide) (by decide) ?_
  refine Own.bastore_ V142 (i := 9) rfl (Nat.le_of_ble_eq_true rfl) g_a1 d1_129 (fun h143 W143 V143 => ?_)
  have hn : n0 ≤ h143.size := by rw [W143.size]; exact hn
  clear V142
  replace V143 : Arl Z h143 a1 ka .byte [own_x, own_x, own_x, own_x, own_x, own_x, own_x, own_x, own_x, (own_d (um / (10 : Int32))), (own_d (um % (10 : Int32))), own_c, (own_d (us / (10 : Int32))), (own_d (us % (10 : Int32))), own_x, own_x] := V143
  have K := K.wr W143 (Or.inl (List.mem_of_getElem? (i := 0) rfl))
  refine Own.aloadN d1_130 rfl rfl ?_
  refine Own.iinc (-1 : Int32) #[.val (.int p0), .val (.ref a1), .val (.int (2 : Int32)), .val (.int uh), .val (.int um), .val (.int us), .val (.int (6 : Int32)), .val (.int (14 : Int32)), .val (.int ((9 : Int32) + (-1 : Int32))), .unset] d1_131 rfl rfl rfl ?_
  refine OAt.castL (Ls' := #[.val (.int p0), .val (.ref a1), .val (.int (2 : Int32)), .val (.int uh), .val (.int um), .val (.int us), .val (.int (6 : Int32)), .val (.int (14 : Int32)), .val (.int (8 : Int32)), .unset]) rfl rfl ?_
  refine Own.iload d1_134 rfl ?_
  refine Own.bipush (58 : Int32) d1_136 rfl ?_
  refine Own.bastore_ V143 (i := 8) rfl (Nat.le_of_ble_eq_true rfl) g_a1 d1_138 (fun h144 W144 V144 => ?_)
  have hn : n0 ≤ h144.size := by rw [W144.size]; exact hn
  clear V143
  replace V144 : Arl Z h144 a1 ka .byte [own_x, own_x, own_x, own_x, own_x, own_x, own_x, own_x, own_c, (own_d (um / (10 : Int32))), (own_d (um % (10 : Int32))), own_c, (own_d (us / (10 : Int32))), (own_d (us % (10 : Int32))), own_x, own_x] := V144
  have K := K.wr W144 (Or.inl (List.mem_of_getElem? (i := 0) rfl))
  refine Own.iloadN d1_139 rfl ?_
  refine Own.istore #[.val (.int p0), .val (.ref a1), .val (.int (2 : Int32)), .val (.int uh), .val (.int um), .val (.int us), .val (.int (6 : Int32)), .val (.int (14 : Int32)), .val (.int (8 : Int32)), .val (.int uh)] d1_140 rfl ?_
  refine Own.iload d1_142 rfl ?_
  refine Own.iloadN d1_144 rfl ?_
  refine Own.icmp_le 173 d1_145 (by decide) rfl (fun q => absurd (by decide) q) (fun _ => ?_)
  refine Own.aloadN d1_148 rfl rfl ?_
  refine Own.iinc (-1 : Int32) #[.val (.int p0), .val (.ref a1), .val (.int (2 : Int32)), .val (.int uh), .val (.int um), .val (.int us), .val (.int (6 : Int32)), .val (.int (14 : Int32)), .val (.int ((8 : Int32) + (-1 : Int32))), .val (.int uh)] d1_149 rfl rfl rfl ?_
  refine OAt.castL (Ls' := #[.val (.int p0), .val (.ref a1), .val (.int (2 : Int32)), .val (.int uh), .val (.int um), .val (.int us), .val (.int (6 : Int32)), .val (.int (14 : Int32)), .val (.int (7 : Int32)), .val (.int uh)]) rfl rfl ?_
  refine Own.iload d1_152 rfl ?_
  refine Own.iload d1_154 rfl ?_
  refine Own.bipush (10 : Int32) d1_156 rfl ?_
  refine Own.irem_ d1_158 (by decide) ?_
  refine Own.callSP [(.int (uh % (10 : Int32)))] [(.int (7 : Int32)), (.ref a1)] 2 (rmD l Z a0 hw [] (uh % (10 : Int32)) h144 n0 hn) (hw _ (List.mem_of_getElem? (i := 6) rfl)) (hw _ (List.mem_of_getElem? (i := 7) rfl)) (hw _ (List.mem_of_getElem? (i := 4) rfl)) (hw _ (List.mem_of_getElem? (i := 8) rfl)) (by decide) d1_159 pd_0 rfl rfl rfl rfl (by decide) (by decide) (by decide) (by decide) ?_
  refine Own.bastore_ V144 (i := 7) rfl (Nat.le_of_ble_eq_true rfl) g_a1 d1_162 (fun h145 W145 V145 => ?_)
  have hn : n0 ≤ h145.size := by rw [W145.size]; exact hn
  clear V144
  replace V145 : Arl Z h145 a1 ka .byte [own_x, own_x, own_x, own_x, own_x, own_x, own_x, (own_d (uh % (10 : Int32))), own_c, (own_d (um / (10 : Int32))), (own_d (um % (10 : Int32))), own_c, (own_d (us / (10 : Int32))), (own_d (us % (10 : Int32))), own_x, own_x] := V145
  have K := K.wr W145 (Or.inl (List.mem_of_getElem? (i := 0) rfl))
  refine Own.iload d1_163 rfl ?_
  refine Own.bipush (10 : Int32) d1_165 rfl ?_
  refine Own.idiv d1_167 (by decide) ?_
  refine Own.istore #[.val (.int p0), .val (.ref a1), .val (.int (2 : Int32)), .val (.int uh), .val (.int um), .val (.int us), .val (.int (6 : Int32)), .val (.int (14 : Int32)), .val (.int (7 : Int32)), .val (.int (uh / (10 : Int32)))] d1_168 rfl ?_
  refine Own.goto_ 142 d1_170 (by decide) rfl ?_
  refine Own.iload d1_142 rfl ?_
  refine Own.iloadN d1_144 rfl ?_
  refine Own.icmp_le 173 d1_145 (by decide) rfl (fun q => absurd (by decide) q) (fun _ => ?_)
  refine Own.aloadN d1_148 rfl rfl ?_
  refine Own.iinc (-1 : Int32) #[.val (.int p0), .val (.ref a1), .val (.int (2 : Int32)), .val (.int uh), .val (.int um), .val (.int us), .val (.int (6 : Int32)), .val (.int (14 : Int32)), .val (.int ((7 : Int32) + (-1 : Int32))), .val (.int (uh / (10 : Int32)))] d1_149 rfl rfl rfl ?_
  refine OAt.castL (Ls' := #[.val (.int p0), .val (.ref a1), .val (.int (2 : Int32)), .val (.int uh), .val (.int um), .val (.int us), .val (.int (6 : Int32)), .val (.int (14 : Int32)), .val (.int (6 : Int32)), .val (.int (uh / (10 : Int32)))]) rfl rfl ?_
  refine Own.iload d1_152 rfl ?_
  refine Own.iload d1_154 rfl ?_
  refine Own.bipush (10 : Int32) d1_156 rfl ?_
  refine Own.irem_ d1_158 (by decide) ?_
  refine Own.callSP [(.int ((uh / (10 : Int32)) % (10 : Int32)))] [(.int (6 : Int32)), (.ref a1)] 2 (rmD l Z a0 hw [] ((uh / (10 : Int32)) % (10 : Int32)) h145 n0 hn) (hw _ (List.mem_of_getElem? (i := 6) rfl)) (hw _ (List.mem_of_getElem? (i := 7) rfl)) (hw _ (List.mem_of_getElem? (i := 4) rfl)) (hw _ (List.mem_of_getElem? (i := 8) rfl)) (by decide) d1_159 pd_0 rfl rfl rfl rfl (by decide) (by decide) (by decide) (by decide) ?_
  refine Own.bastore_ V145 (i := 6) rfl (Nat.le_of_ble_eq_true rfl) g_a1 d1_162 (fun h146 W146 V146 => ?_)
  have hn : n0 ≤ h146.size := by rw [W146.size]; exact hn
  clear V145
  replace V146 : Arl Z h146 a1 ka .byte [own_x, own_x, own_x, own_x, own_x, own_x, (own_d ((uh / (10 : Int32)) % (10 : Int32))), (own_d (uh % (10 : Int32))), own_c, (own_d (um / (10 : Int32))), (own_d (um % (10 : Int32))), own_c, (own_d (us / (10 : Int32))), (own_d (us % (10 : Int32))), own_x, own_x] := V146
  have K := K.wr W146 (Or.inl (List.mem_of_getElem? (i := 0) rfl))
  refine Own.iload d1_163 rfl ?_
  refine Own.bipush (10 : Int32) d1_165 rfl ?_
  refine Own.idiv d1_167 (by decide) ?_
  refine Own.istore #[.val (.int p0), .val (.ref a1), .val (.int (2 : Int32)), .val (.int uh), .val (.int um), .val (.int us), .val (.int (6 : Int32)), .val (.int (14 : Int32)), .val (.int (6 : Int32)), .val (.int ((uh / (10 : Int32)) / (10 : Int32)))] d1_168 rfl ?_
  refine Own.goto_ 142 d1_170 (by decide) rfl ?_
  refine Own.iload d1_142 rfl ?_
  refine Own.iloadN d1_144 rfl ?_
  refine Own.icmp_le 173 d1_145 (by decide) rfl (fun q => absurd (by decide) q) (fun _ => ?_)
  refine Own.aloadN d1_148 rfl rfl ?_
  refine Own.iinc (-1 : Int32) #[.val (.int p0), .val (.ref a1), .val (.int (2 : Int32)), .val (.int uh), .val (.int um), .val (.int us), .val (.int (6 : Int32)), .val (.int (14 : Int32)), .val (.int ((6 : Int32) + (-1 : Int32))), .val (.int ((uh / (10 : Int32)) / (10 : Int32)))] d1_149 rfl rfl rfl ?_
  refine OAt.castL (Ls' := #[.val (.int p0), .val (.ref a1), .val (.int (2 : Int32)), .val (.int uh), .val (.int um), .val (.int us), .val (.int (6 : Int32)), .val (.int (14 : Int32)), .val (.int (5 : Int32)), .val (.int ((uh / (10 : Int32)) / (10 : Int32)))]) rfl rfl ?_
  refine Own.iload d1_152 rfl ?_
  refine Own.iload d1_154 rfl ?_
  refine Own.bipush (10 : Int32) d1_156 rfl ?_
  refine Own.irem_ d1_158 (by decide) ?_
  refine Own.callSP [(.int (((uh / (10 : Int32)) / (10 : Int32)) % (10 : Int32)))] [(.int (5 : Int32)), (.ref a1)] 2 (rmD l Z a0 hw [] (((uh / (10 : Int32)) / (10 : Int32)) % (10 : Int32)) h146 n0 hn) (hw _ (List.mem_of_getElem? (i := 6) rfl)) (hw _ (List.mem_of_getElem? (i := 7) rfl)) (hw _ (List.mem_of_getElem? (i := 4) rfl)) (hw _ (List.mem_of_getElem? (i := 8) rfl)) (by decide) d1_159 pd_0 rfl rfl rfl rfl (by decide) (by decide) (by decide) (by decide) ?_
  refine Own.bastore_ V146 (i := 5) rfl (Nat.le_of_ble_eq_true rfl) g_a1 d1_162 (fun h147 W147 V147 => ?_)
  have hn : n0 ≤ h147.size := by rw [W147.size]; exact hn
  clear V146
  replace V147 : Arl Z h147 a1 ka .byte [own_x, own_x, own_x, own_x, own_x, (own_d (((uh / (10 : Int32)) / (10 : Int32)) % (10 : Int32))), (own_d ((uh / (10 : Int32)) % (10 : Int32))), (own_d (uh % (10 : Int32))), own_c, (own_d (um / (10 : Int32))), (own_d (um % (10 : Int32))), own_c, (own_d (us / (10 : Int32))), (own_d (us % (10 : Int32))), own_x, own_x] := V147
  have K := K.wr W147 (Or.inl (List.mem_of_getElem? (i := 0) rfl))
  refine Own.iload d1_163 rfl ?_
  refine Own.bipush (10 : Int32) d1_165 rfl ?_
  refine Own.idiv d1_167 (by decide) ?_
  refine Own.istore #[.val (.int p0), .val (.ref a1), .val (.int (2 : Int32)), .val (.int uh), .val (.int um), .val (.int us), .val (.int (6 : Int32)), .val (.int (14 : Int32)), .val (.int (5 : Int32)), .val (.int (((uh / (10 : Int32)) / (10 : Int32)) / (10 : Int32)))] d1_168 rfl ?_
  refine Own.goto_ 142 d1_170 (by decide) rfl ?_
  refine Own.iload d1_142 rfl ?_
  refine Own.iloadN d1_144 rfl ?_
  refine Own.icmp_le 173 d1_145 (by decide) rfl (fun q => absurd (by decide) q) (fun _ => ?_)
  refine Own.aloadN d1_148 rfl rfl ?_
  refine Own.iinc (-1 : Int32) #[.val (.int p0), .val (.ref a1), .val (.int (2 : Int32)), .val (.int uh), .val (.int um), .val (.int us), .val (.int (6 : Int32)), .val (.int (14 : Int32)), .val (.int ((5 : Int32) + (-1 : Int32))), .val (.int (((uh / (10 : Int32)) / (10 : Int32)) / (10 : Int32)))] d1_149 rfl rfl rfl ?_
  refine OAt.castL (Ls' := #[.val (.int p0), .val (.ref a1), .val (.int (2 : Int32)), .val (.int uh), .val (.int um), .val (.int us), .val (.int (6 : Int32)), .val (.int (14 : Int32)), .val (.int (4 : Int32)), .val (.int (((uh / (10 : Int32)) / (10 : Int32)) / (10 : Int32)))]) rfl rfl ?_
  refine Own.iload d1_152 rfl ?_
  refine Own.iload d1_154 rfl ?_
  refine Own.bipush (10 : Int32) d1_156 rfl ?_
  refine Own.irem_ d1_158 (by decide) ?_
  refine Own.callSP [(.int ((((uh / (10 : Int32)) / (10 : Int32)) / (10 : Int32)) % (10 : Int32)))] [(.int (4 : Int32)), (.ref a1)] 2 (rmD l Z a0 hw [] ((((uh / (10 : Int32)) / (10 : Int32)) / (10 : Int32)) % (10 : Int32)) h147 n0 hn) (hw _ (List.mem_of_getElem? (i := 6) rfl)) (hw _ (List.mem_of_getElem? (i := 7) rfl)) (hw _ (List.mem_of_getElem? (i := 4) rfl)) (hw _ (List.mem_of_getElem? (i := 8) rfl)) (by decide) d1_159 pd_0 rfl rfl rfl rfl (by decide) (by decide) (by decide) (by decide) ?_
  refine Own.bastore_ V147 (i := 4) rfl (Nat.le_of_ble_eq_true rfl) g_a1 d1_162 (fun h148 W148 V148 => ?_)
  have hn : n0 ≤ h148.size := by rw [W148.size]; exact hn
  clear V147
  replace V148 : Arl Z h148 a1 ka .byte [own_x, own_x, own_x, own_x, (own_d ((((uh / (10 : Int32)) / (10 : Int32)) / (10 : Int32)) % (10 : Int32))), (own_d (((uh / (10 : Int32)) / (10 : Int32)) % (10 : Int32))), (own_d ((uh / (10 : Int32)) % (10 : Int32))), (own_d (uh % (10 : Int32))), own_c, (own_d (um / (10 : Int32))), (own_d (um % (10 : Int32))), own_c, (own_d (us / (10 : Int32))), (own_d (us % (10 : Int32))), own_x, own_x] := V148
  have K := K.wr W148 (Or.inl (List.mem_of_getElem? (i := 0) rfl))
  refine Own.iload d1_163 rfl ?_
  refine Own.bipush (10 : Int32) d1_165 rfl ?_
  refine Own.idiv d1_167 (by decide) ?_
  refine Own.istore #[.val (.int p0), .val (.ref a1), .val (.int (2 : Int32)), .val (.int uh), .val (.int um), .val (.int us), .val (.int (6 : Int32)), .val (.int (14 : Int32)), .val (.int (4 : Int32)), .val (.int ((((uh / (10 : Int32)) / (10 : Int32)) / (10 : Int32)) / (10 : Int32)))] d1_168 rfl ?_
  refine Own.goto_ 142 d1_170 (by decide) rfl ?_
  refine Own.iload d1_142 rfl ?_
  refine Own.iloadN d1_144 rfl ?_
  refine Own.icmp_le 173 d1_145 (by decide) rfl (fun q => absurd (by decide) q) (fun _ => ?_)
  refine Own.aloadN d1_148 rfl rfl ?_
  refine Own.iinc (-1 : Int32) #[.val (.int p0), .val (.ref a1), .val (.int (2 : Int32)), .val (.int uh), .val (.int um), .val (.int us), .val (.int (6 : Int32)), .val (.int (14 : Int32)), .val (.int ((4 : Int32) + (-1 : Int32))), .val (.int ((((uh / (10 : Int32)) / (10 : Int32)) / (10 : Int32)) / (10 : Int32)))] d1_149 rfl rfl rfl ?_
  refine OAt.castL (Ls' := #[.val (.int p0), .val (.ref a1), .val (.int (2 : Int32)), .val (.int uh), .val (.int um), .val (.int us), .val (.int (6 : Int32)), .val (.int (14 : Int32)), .val (.int (3 : Int32)), .val (.int ((((uh / (10 : Int32)) / (10 : Int32)) / (10 : Int32)) / (10 : Int32)))]) rfl rfl ?_
  refine Own.iload d1_152 rfl ?_
  refine Own.iload d1_154 rfl ?_
  refine Own.bipush (10 : Int32) d1_156 rfl ?_
  refine Own.irem_ d1_158 (by decide) ?_
  refine Own.callSP [(.int (((((uh / (10 : Int32)) / (10 : Int32)) / (10 : Int32)) / (10 : Int32)) % (10 : Int32)))] [(.int (3 : Int32)), (.ref a1)] 2 (rmD l Z a0 hw [] (((((uh / (10 : Int32)) / (10 : Int32)) / (10 : Int32)) / (10 : Int32)) % (10 : Int32)) h148 n0 hn) (hw _ (List.mem_of_getElem? (i := 6) rfl)) (hw _ (List.mem_of_getElem? (i := 7) rfl)) (hw _ (List.mem_of_getElem? (i := 4) rfl)) (hw _ (List.mem_of_getElem? (i := 8) rfl)) (by decide) d1_159 pd_0 rfl rfl rfl rfl (by decide) (by decide) (by decide) (by decide) ?_
  refine Own.bastore_ V148 (i := 3) rfl (Nat.le_of_ble_eq_true rfl) g_a1 d1_162 (fun h149 W149 V149 => ?_)
  have hn : n0 ≤ h149.size := by rw [W149.size]; exact hn
  clear V148
  replace V149 : Arl Z h149 a1 ka .byte [own_x, own_x, own_x, (own_d (((((uh / (10 : Int32)) / (10 : Int32)) / (10 : Int32)) / (10 : Int32)) % (10 : Int32))), (own_d ((((uh / (10 : Int32)) / (10 : Int32)) / (10 : Int32)) % (10 : Int32))), (own_d (((uh / (10 : Int32)) / (10 : Int32)) % (10 : Int32))), (own_d ((uh / (10 : Int32)) % (10 : Int32))), (own_d (uh % (10 : Int32))), own_c, (own_d (um / (10 : Int32))), (own_d (um % (10 : Int32))), own_c, (own_d (us / (10 : Int32))), (own_d (us % (10 : Int32))), own_x, own_x] := V149
  have K := K.wr W149 (Or.inl (List.mem_of_getElem? (i := 0) rfl))
  refine Own.iload d1_163 rfl ?_
  refine Own.bipush (10 : Int32) d1_165 rfl ?_
  refine Own.idiv d1_167 (by decide) ?_
  refine Own.istore #[.val (.int p0), .val (.ref a1), .val (.int (2 : Int32)), .val (.int uh), .val (.int um), .val (.int us), .val (.int (6 : Int32)), .val (.int (14 : Int32)), .val (.int (3 : Int32)), .val (.int (((((uh / (10 : Int32)) / (10 : Int32)) / (10 : Int32)) / (10 : Int32)) / (10 : Int32)))] d1_168 rfl ?_
  refine Own.goto_ 142 d1_170 (by decide) rfl ?_
  refine Own.iload d1_142 rfl ?_
  refine Own.iloadN d1_144 rfl ?_
  refine Own.icmp_le 173 d1_145 (by decide) rfl (fun q => absurd (by decide) q) (fun _ => ?_)
  refine Own.aloadN d1_148 rfl rfl ?_
  refine Own.iinc (-1 : Int32) #[.val (.int p0), .val (.ref a1), .val (.int (2 : Int32)), .val (.int uh), .val (.int um), .val (.int us), .val (.int (6 : Int32)), .val (.int (14 : Int32)), .val (.int ((3 : Int32) + (-1 : Int32))), .val (.int (((((uh / (10 : Int32)) / (10 : Int32)) / (10 : Int32)) / (10 : Int32)) / (10 : Int32)))] d1_149 rfl rfl rfl ?_
  refine OAt.castL (Ls' := #[.val (.int p0), .val (.ref a1), .val (.int (2 : Int32)), .val (.int uh), .val (.int um), .val (.int us), .val (.int (6 : Int32)), .val (.int (14 : Int32)), .val (.int (2 : Int32)), .val (.int (((((uh / (10 : Int32)) / (10 : Int32)) / (10 : Int32)) / (10 : Int32)) / (10 : Int32)))]) rfl rfl ?_
  refine Own.iload d1_152 rfl ?_
  refine Own.iload d1_154 rfl ?_
  refine Own.bipush (10 : Int32) d1_156 rfl ?_
  refine Own.irem_ d1_158 (by decide) ?_
  refine Own.callSP [(.int ((((((uh / (10 : Int32)) / (10 : Int32)) / (10 : Int32)) / (10 : Int32)) / (10 : Int32)) % (10 : Int32)))] [(.int (2 : Int32)), (.ref a1)] 2 (rmD l Z a0 hw [] ((((((uh / (10 : Int32)) / (10 : Int32)) / (10 : Int32)) / (10 : Int32)) / (10 : Int32)) % (10 : Int32)) h149 n0 hn) (hw _ (List.mem_of_getElem? (i := 6) rfl)) (hw _ (List.mem_of_getElem? (i := 7) rfl)) (hw _ (List.mem_of_getElem? (i := 4) rfl)) (hw _ (List.mem_of_getElem? (i := 8) rfl)) (by decide) d1_159 pd_0 rfl rfl rfl rfl (by decide) (by decide) (by decide) (by decide) ?_
  refine Own.bastore_ V149 (i := 2) rfl (Nat.le_of_ble_eq_true rfl) g_a1 d1_162 (fun h150 W150 V150 => ?_)
  have hn : n0 ≤ h150.size := by rw [W150.size]; exact hn
  clear V149
  replace V150 : Arl Z h150 a1 ka .byte [own_x, own_x, (own_d ((((((uh / (10 : Int32)) / (10 : Int32)) / (10 : Int32)) / (10 : Int32)) / (10 : Int32)) % (10 : Int32))), (own_d (((((uh / (10 : Int32)) / (10 : Int32)) / (10 : Int32)) / (10 : Int32)) % (10 : Int32))), (own_d ((((uh / (10 : Int32)) / (10 : Int32)) / (10 : Int32)) % (10 : Int32))), (own_d (((uh / (10 : Int32)) / (10 : Int32)) % (10 : Int32))), (own_d ((uh / (10 : Int32)) % (10 : Int32))), (own_d (uh % (10 : Int32))), own_c, (own_d (um / (10 : Int32))), (own_d (um % (10 : Int32))), own_c, (own_d (us / (10 : Int32))), (own_d (us % (10 : Int32))), own_x, own_x] := V150
  have K := K.wr W150 (Or.inl (List.mem_of_getElem? (i := 0) rfl))
  refine Own.iload d1_163 rfl ?_
  refine Own.bipush (10 : Int32) d1_165 rfl ?_
  refine Own.idiv d1_167 (by decide) ?_
  refine Own.istore #[.val (.int p0), .val (.ref a1), .val (.int (2 : Int32)), .val (.int uh), .val (.int um), .val (.int us), .val (.int (6 : Int32)), .val (.int (14 : Int32)), .val (.int (2 : Int32)), .val (.int ((((((uh / (10 : Int32)) / (10 : Int32)) / (10 : Int32)) / (10 : Int32)) / (10 : Int32)) / (10 : Int32)))] d1_168 rfl ?_
  refine Own.goto_ 142 d1_170 (by decide) rfl ?_
  refine Own.iload d1_142 rfl ?_
  refine Own.iloadN d1_144 rfl ?_
  refine Own.icmp_le 173 d1_145 (by decide) rfl (fun _ => ?_) (fun q => absurd q (by decide))
  refine Own.iload d1_173 rfl ?_
  refine Own.ret_int rfl d1_175 (by decide) (by decide) ?_
  exact ⟨rfl, K, V150⟩
def Q_rmF_3_2 (Z : State) (a1 : Addr) (ka : ClassId) (uh : Int32) (um : Int32) (us : Int32) (h0 : Heap) (n0 : Nat) (v : Option Value) (h : Heap) : Prop := v = some (.int (11 : Int32)) ∧ Keep h0 h [a1] ∧ Arl Z h a1 ka .byte [own_x, own_x, own_x, (own_d ((uh / (10 : Int32)) % (10 : Int32))), (own_d (uh % (10 : Int32))), own_c, (own_d (um / (10 : Int32))), (own_d (um % (10 : Int32))), own_c, (own_d (us / (10 : Int32))), (own_d (us % (10 : Int32))), own_x, own_x, own_x, own_x, own_x]
theorem ef_rmF_3_2 (m : MethodId) (p0 : Int32) (a1 : Addr)  : entryFrame m #[(.int p0), (.ref a1), (.int (3 : Int32))] 10 = mkF m 0 #[.val (.int p0), .val (.ref a1), .val (.int (3 : Int32)), .unset, .unset, .unset, .unset, .unset, .unset, .unset] [] := by first | (simp [entryFrame, mkF, argsToLocals, Value.category]; done) | rfl
set_option maxRecDepth 65536 in
set_option maxHeartbeats 40000000 in
theorem rmF_3_2 (l : Launch) (Z : State) (a0 : Array Value) (hw : ∀ d ∈ tables_1, d.before a0 Z = true) (ws : List Jvm.Cond) (p0 : Int32) (a1 : Addr) (ka : ClassId) (uh : Int32) (um : Int32) (us : Int32) (h0 : Heap) (n0 : Nat) (hn : n0 ≤ h0.size) (V_a1 : Arl Z h0 a1 ka .byte [own_x, own_x, own_x, own_x, own_x, own_x, own_x, own_x, own_x, own_x, own_x, own_x, own_x, own_x, own_x, own_x]) (g_a1 : n0 ≤ a1) (e_h : p0 / (3600 : Int32) = uh) (e_m : (p0 / (60 : Int32)) % (60 : Int32) = um) (e_s : p0 % (60 : Int32) = us) (hl : 0 ≤ uh.toInt) (hu : uh.toInt < 100) :
    Met false l Z (⟨"com/example/voznired/voznired/timetable/StopTime", "formatTime", "(I[BI)I"⟩ : MethodName) prog_118_method_10_code 10 (some .int) ({ frames := 1, cells := 0, slots := 0, locals := 14 } : Room) ws #[(.int p0), (.ref a1), (.int (3 : Int32))] h0 n0 (Q_rmF_3_2 Z a1 ka uh um us h0 n0) := by
  refine Met.of pn_1 (fun m => ef_rmF_3_2 m p0 a1) ?_
  have K := Keep.refl h0 [a1]
  refine Own.iloadN d1_0 rfl ?_
  refine Own.sipush (3600 : Int32) d1_1 rfl ?_
  refine Own.idiv d1_4 (by decide) ?_
  rw [e_h]
  refine Own.istoreN #[.val (.int p0), .val (.ref a1), .val (.int (3 : Int32)), .val (.int uh), .unset, .unset, .unset, .unset, .unset, .unset] d1_5 rfl ?_
  refine Own.iloadN d1_6 rfl ?_
  refine Own.bipush (60 : Int32) d1_7 rfl ?_
  refine Own.idiv d1_9 (by decide) ?_
  refine Own.bipush (60 : Int32) d1_10 rfl ?_
  refine Own.irem_ d1_12 (by decide) ?_
  rw [e_m]
  refine Own.istore #[.val (.int p0), .val (.ref a1), .val (.int (3 : Int32)), .val (.int uh), .val (.int um), .unset, .unset, .unset, .unset, .unset] d1_13 rfl ?_
  refine Own.iloadN d1_15 rfl ?_
  refine Own.bipush (60 : Int32) d1_16 rfl ?_
  refine Own.irem_ d1_18 (by decide) ?_
  rw [e_s]
  refine Own.istore #[.val (.int p0), .val (.ref a1), .val (.int (3 : Int32)), .val (.int uh), .val (.int um), .val (.int us), .unset, .unset, .unset, .unset] d1_19 rfl ?_
  refine Own.iconst (2 : Int32) d1_21 rfl ?_
  refine Own.istore #[.val (.int p0), .val (.ref a1), .val (.int (3 : Int32)), .val (.int uh), .val (.int um), .val (.int us), .val (.int (2 : Int32)), .unset, .unset, .unset] d1_22 rfl ?_
  refine Own.iloadN d1_24 rfl ?_
  refine Own.bipush (100 : Int32) d1_25 rfl ?_
  refine Own.idiv d1_27 (by decide) ?_
  obtain ⟨ur0, e_ur0⟩ : ∃ z : Int32, z = (uh / (100 : Int32)) := ⟨_, rfl⟩
  rw [← e_ur0]
  have r_ur0 : ur0.toInt = uh.toInt / 100 := by
    rw [e_ur0]; exact own_div 100 rfl (by omega) (by omega)
  refine Own.istore #[.val (.int p0), .val (.ref a1), .val (.int (3 : Int32)), .val (.int uh), .val (.int um), .val (.int us), .val (.int (2 : Int32)), .val (.int ur0), .unset, .unset] d1_28 rfl ?_
  refine Own.iload d1_30 rfl ?_
  refine Own.if_le 48 d1_32 (by decide) rfl (fun _ => ?_) (fun q => absurd q (by simp only [Int32.lt_iff_toInt_lt, Int32.reduceToInt]; omega))
  refine Own.iloadN d1_48 rfl ?_
  refine Own.iload d1_49 rfl ?_
  refine Own.iadd d1_51 ?_
  refine OAt.cast (st' := [(.int (5 : Int32))]) rfl ?_
  refine Own.bipush (6 : Int32) d1_52 rfl ?_
  refine Own.iadd d1_54 ?_
  refine OAt.cast (st' := [(.int (11 : Int32))]) rfl ?_
  refine Own.istore #[.val (.int p0), .val (.ref a1), .val (.int (3 : Int32)), .val (.int uh), .val (.int um), .val (.int us), .val (.int (2 : Int32)), .val (.int (11 : Int32)), .unset, .unset] d1_55 rfl ?_
  refine Own.iload d1_57 rfl ?_
  refine Own.istore #[.val (.int p0), .val (.ref a1), .val (.int (3 : Int32)), .val (.int uh), .val (.int um), .val (.int us), .val (.int (2 : Int32)), .val (.int (11 : Int32)), .val (.int (11 : Int32)), .unset] d1_59 rfl ?_
  refine Own.aloadN d1_61 rfl rfl ?_
  refine Own.iinc (-1 : Int32) #[.val (.int p0), .val (.ref a1), .val (.int (3 : Int32)), .val (.int uh), .val (.int um), .val (.int us), .val (.int (2 : Int32)), .val (.int (11 : Int32)), .val (.int ((11 : Int32) + (-1 : Int32))), .unset] d1_62 rfl rfl rfl ?_
  refine OAt.castL (Ls' := #[.val (.int p0), .val (.ref a1), .val (.int (3 : Int32)), .val (.int uh), .val (.int um), .val (.int us), .val (.int (2 : Int32)), .val (.int (11 : Int32)), .val (.int (10 : Int32)), .unset]) rfl rfl ?_
  refine Own.iload d1_65 rfl ?_
  refine Own.iload d1_67 rfl ?_
  refine Own.bipush (10 : Int32) d1_69 rfl ?_
  refine Own.irem_ d1_71 (by decide) ?_
  refine Own.callSP [(.int (us % (10 : Int32)))] [(.int (10 : Int32)), (.ref a1)] 2 (rmD l Z a0 hw [] (us % (10 : Int32)) h0 n0 hn) (hw _ (List.mem_of_getElem? (i := 6) rfl)) (hw _ (List.mem_of_getElem? (i := 7) rfl)) (hw _ (List.mem_of_getElem? (i := 4) rfl)) (hw _ (List.mem_of_getElem? (i := 8) rfl)) (by decide) d1_72 pd_0 rfl rfl rfl rfl (by decide) (by decide) (by decide) (by decide) ?_
  refine Own.bastore_ V_a1 (i := 10) rfl (Nat.le_of_ble_eq_true rfl) g_a1 d1_75 (fun h151 W151 V151 => ?_)
  have hn : n0 ≤ h151.size := by rw [W151.size]; exact hn
  clear V_a1
  replace V151 : Arl Z h151 a1 ka .byte [own_x, own_x, own_x, own_x, own_x, own_x, own_x, own_x, own_x, own_x, (own_d (us % (10 : Int32))), own_x, own_x, own_x, own_x, own_x] := V151
  have K := K.wr W151 (Or.inl (List.mem_of_getElem? (i := 0) rfl))
  refine Own.aloadN d1_76 rfl rfl ?_
  refine Own.iinc (-1 : Int32) #[.val (.int p0), .val (.ref a1), .val (.int (3 : Int32)), .val (.int uh), .val (.int um), .val (.int us), .val (.int (2 : Int32)), .val (.int (11 : Int32)), .val (.int ((10 : Int32) + (-1 : Int32))), .unset] d1_77 rfl rfl rfl ?_
  refine OAt.castL (Ls' := #[.val (.int p0), .val (.ref a1), .val (.int (3 : Int32)), .val (.int uh), .val (.int um), .val (.int us), .val (.int (2 : Int32)), .val (.int (11 : Int32)), .val (.int (9 : Int32)), .unset]) rfl rfl ?_
  refine Own.iload d1_80 rfl ?_
  refine Own.iload d1_82 rfl ?_
  refine Own.bipush (10 : Int32) d1_84 rfl ?_
  refine Own.idiv d1_86 (by decide) ?_
  refine Own.callSP [(.int (us / (10 : Int32)))] [(.int (9 : Int32)), (.ref a1)] 2 (rmD l Z a0 hw [] (us / (10 : Int32)) h151 n0 hn) (hw _ (List.mem_of_getElem? (i := 6) rfl)) (hw _ (List.mem_of_getElem? (i := 7) rfl)) (hw _ (List.mem_of_getElem? (i := 4) rfl)) (hw _ (List.mem_of_getElem? (i := 8) rfl)) (by decide) d1_87 pd_0 rfl rfl rfl rfl (by decide) (by decide) (by decide) (by decide) ?_
  refine Own.bastore_ V151 (i := 9) rfl (Nat.le_of_ble_eq_true rfl) g_a1 d1_90 (fun h152 W152 V152 => ?_)
  have hn : n0 ≤ h152.size := by rw [W152.size]; exact hn
  clear V151
  replace V152 : Arl Z h152 a1 ka .byte [own_x, own_x, own_x, own_x, own_x, own_x, own_x, own_x, own_x, (own_d (us / (10 : Int32))), (own_d (us % (10 : Int32))), own_x, own_x, own_x, own_x, own_x] := V152
  have K := K.wr W152 (Or.inl (List.mem_of_getElem? (i := 0) rfl))
  refine Own.aloadN d1_91 rfl rfl ?_
  refine Own.iinc (-1 : Int32) #[.val (.int p0), .val (.ref a1), .val (.int (3 : Int32)), .val (.int uh), .val (.int um), .val (.int us), .val (.int (2 : Int32)), .val (.int (11 : Int32)), .val (.int ((9 : Int32) + (-1 : Int32))), .unset] d1_92 rfl rfl rfl ?_
  refine OAt.castL (Ls' := #[.val (.int p0), .val (.ref a1), .val (.int (3 : Int32)), .val (.int uh), .val (.int um), .val (.int us), .val (.int (2 : Int32)), .val (.int (11 : Int32)), .val (.int (8 : Int32)), .unset]) rfl rfl ?_
  refine Own.iload d1_95 rfl ?_
  refine Own.bipush (58 : Int32) d1_97 rfl ?_
  refine Own.bastore_ V152 (i := 8) rfl (Nat.le_of_ble_eq_true rfl) g_a1 d1_99 (fun h153 W153 V153 => ?_)
  have hn : n0 ≤ h153.size := by rw [W153.size]; exact hn
  clear V152
  replace V153 : Arl Z h153 a1 ka .byte [own_x, own_x, own_x, own_x, own_x, own_x, own_x, own_x, own_c, (own_d (us / (10 : Int32))), (own_d (us % (10 : Int32))), own_x, own_x, own_x, own_x, own_x] := V153
  have K := K.wr W153 (Or.inl (List.mem_of_getElem? (i := 0) rfl))
  refine Own.aloadN d1_100 rfl rfl ?_
  refine Own.iinc (-1 : Int32) #[.val (.int p0), .val (.ref a1), .val (.int (3 : Int32)), .val (.int uh), .val (.int um), .val (.int us), .val (.int (2 : Int32)), .val (.int (11 : Int32)), .val (.int ((8 : Int32) + (-1 : Int32))), .unset] d1_101 rfl rfl rfl ?_
  refine OAt.castL (Ls' := #[.val (.int p0), .val (.ref a1), .val (.int (3 : Int32)), .val (.int uh), .val (.int um), .val (.int us), .val (.int (2 : Int32)), .val (.int (11 : Int32)), .val (.int (7 : Int32)), .unset]) rfl rfl ?_
  refine Own.iload d1_104 rfl ?_
  refine Own.iload d1_106 rfl ?_
  refine Own.bipush (10 : Int32) d1_108 rfl ?_
  refine Own.irem_ d1_110 (by decide) ?_
  refine Own.callSP [(.int (um % (10 : Int32)))] [(.int (7 : Int32)), (.ref a1)] 2 (rmD l Z a0 hw [] (um % (10 : Int32)) h153 n0 hn) (hw _ (List.mem_of_getElem? (i := 6) rfl)) (hw _ (List.mem_of_getElem? (i := 7) rfl)) (hw _ (List.mem_of_getElem? (i := 4) rfl)) (hw _ (List.mem_of_getElem? (i := 8) rfl)) (by decide) d1_111 pd_0 rfl rfl rfl rfl (by decide) (by decide) (by decide) (by decide) ?_
  refine Own.bastore_ V153 (i := 7) rfl (Nat.le_of_ble_eq_true rfl) g_a1 d1_114 (fun h154 W154 V154 => ?_)
  have hn : n0 ≤ h154.size := by rw [W154.size]; exact hn
  clear V153
  replace V154 : Arl Z h154 a1 ka .byte [own_x, own_x, own_x, own_x, own_x, own_x, own_x, (own_d (um % (10 : Int32))), own_c, (own_d (us / (10 : Int32))), (own_d (us % (10 : Int32))), own_x, own_x, own_x, own_x, own_x] := V154
  have K := K.wr W154 (Or.inl (List.mem_of_getElem? (i := 0) rfl))
  refine Own.aloadN d1_115 rfl rfl ?_
  refine Own.iinc (-1 : Int32) #[.val (.int p0), .val (.ref a1), .val (.int (3 : Int32)), .val (.int uh), .val (.int um), .val (.int us), .val (.int (2 : Int32)), .val (.int (11 : Int32)), .val (.int ((7 : Int32) + (-1 : Int32))), .unset] d1_116 rfl rfl rfl ?_
  refine OAt.castL (Ls' := #[.val (.int p0), .val (.ref a1), .val (.int (3 : Int32)), .val (.int uh), .val (.int um), .val (.int us), .val (.int (2 : Int32)), .val (.int (11 : Int32)), .val (.int (6 : Int32)), .unset]) rfl rfl ?_
  refine Own.iload d1_119 rfl ?_
  refine Own.iload d1_121 rfl ?_
  refine Own.bipush (10 : Int32) d1_123 rfl ?_
  refine Own.idiv d1_125 (by decide) ?_
  refine Own.callSP [(.int (um / (10 : Int32)))] [(.int (6 : Int32)), (.ref a1)] 2 (rmD l Z a0 hw [] (um / (10 : Int32)) h154 n0 hn) (hw _ (List.mem_of_getElem? (i := 6) rfl)) (hw _ (List.mem_of_getElem? (i := 7) rfl)) (hw _ (List.mem_of_getElem? (i := 4) rfl)) (hw _ (List.mem_of_getElem? (i := 8) rfl)) (by decide) d1_126 pd_0 rfl rfl rfl rfl (by decide) (by decide) (by decide) (by decide) ?_
  refine Own.bastore_ V154 (i := 6) rfl (Nat.le_of_ble_eq_true rfl) g_a1 d1_129 (fun h155 W155 V155 => ?_)
  have hn : n0 ≤ h155.size := by rw [W155.size]; exact hn
  clear V154
  replace V155 : Arl Z h155 a1 ka .byte [own_x, own_x, own_x, own_x, own_x, own_x, (own_d (um / (10 : Int32))), (own_d (um % (10 : Int32))), own_c, (own_d (us / (10 : Int32))), (own_d (us % (10 : Int32))), own_x, own_x, own_x, own_x, own_x] := V155
  have K := K.wr W155 (Or.inl (List.mem_of_getElem? (i := 0) rfl))
  refine Own.aloadN d1_130 rfl rfl ?_
  refine Own.iinc (-1 : Int32) #[.val (.int p0), .val (.ref a1), .val (.int (3 : Int32)), .val (.int uh), .val (.int um), .val (.int us), .val (.int (2 : Int32)), .val (.int (11 : Int32)), .val (.int ((6 : Int32) + (-1 : Int32))), .unset] d1_131 rfl rfl rfl ?_
  refine OAt.castL (Ls' := #[.val (.int p0), .val (.ref a1), .val (.int (3 : Int32)), .val (.int uh), .val (.int um), .val (.int us), .val (.int (2 : Int32)), .val (.int (11 : Int32)), .val (.int (5 : Int32)), .unset]) rfl rfl ?_
  refine Own.iload d1_134 rfl ?_
  refine Own.bipush (58 : Int32) d1_136 rfl ?_
  refine Own.bastore_ V155 (i := 5) rfl (Nat.le_of_ble_eq_true rfl) g_a1 d1_138 (fun h156 W156 V156 => ?_)
  have hn : n0 ≤ h156.size := by rw [W156.size]; exact hn
  clear V155
  replace V156 : Arl Z h156 a1 ka .byte [own_x, own_x, own_x, own_x, own_x, own_c, (own_d (um / (10 : Int32))), (own_d (um % (10 : Int32))), own_c, (own_d (us / (10 : Int32))), (own_d (us % (10 : Int32))), own_x, own_x, own_x, own_x, own_x] := V156
  have K := K.wr W156 (Or.inl (List.mem_of_getElem? (i := 0) rfl))
  refine Own.iloadN d1_139 rfl ?_
  refine Own.istore #[.val (.int p0), .val (.ref a1), .val (.int (3 : Int32)), .val (.int uh), .val (.int um), .val (.int us), .val (.int (2 : Int32)), .val (.int (11 : Int32)), .val (.int (5 : Int32)), .val (.int uh)] d1_140 rfl ?_
  refine Own.iload d1_142 rfl ?_
  refine Own.iloadN d1_144 rfl ?_
  refine Own.icmp_le 173 d1_145 (by decide) rfl (fun q => absurd (by decide) q) (fun _ => ?_)
  refine Own.aloadN d1_148 rfl rfl ?_
  refine Own.iinc (-1 : Int32) #[.val (.int p0), .val (.ref a1), .val (.int (3 : Int32)), .val (.int uh), .val (.int um), .val (.int us), .val (.int (2 : Int32)), .val (.int (11 : Int32)), .val (.int ((5 : Int32) + (-1 : Int32))), .val (.int uh)] d1_149 rfl rfl rfl ?_
  refine OAt.castL (Ls' := #[.val (.int p0), .val (.ref a1), .val (.int (3 : Int32)), .val (.int uh), .val (.int um), .val (.int us), .val (.int (2 : Int32)), .val (.int (11 : Int32)), .val (.int (4 : Int32)), .val (.int uh)]) rfl rfl ?_
  refine Own.iload d1_152 rfl ?_
  refine Own.iload d1_154 rfl ?_
  refine Own.bipush (10 : Int32) d1_156 rfl ?_
  refine Own.irem_ d1_158 (by decide) ?_
  refine Own.callSP [(.int (uh % (10 : Int32)))] [(.int (4 : Int32)), (.ref a1)] 2 (rmD l Z a0 hw [] (uh % (10 : Int32)) h156 n0 hn) (hw _ (List.mem_of_getElem? (i := 6) rfl)) (hw _ (List.mem_of_getElem? (i := 7) rfl)) (hw _ (List.mem_of_getElem? (i := 4) rfl)) (hw _ (List.mem_of_getElem? (i := 8) rfl)) (by decide) d1_159 pd_0 rfl rfl rfl rfl (by decide) (by decide) (by decide) (by decide) ?_
  refine Own.bastore_ V156 (i := 4) rfl (Nat.le_of_ble_eq_true rfl) g_a1 d1_162 (fun h157 W157 V157 => ?_)
  have hn : n0 ≤ h157.size := by rw [W157.size]; exact hn
  clear V156
  replace V157 : Arl Z h157 a1 ka .byte [own_x, own_x, own_x, own_x, (own_d (uh % (10 : Int32))), own_c, (own_d (um / (10 : Int32))), (own_d (um % (10 : Int32))), own_c, (own_d (us / (10 : Int32))), (own_d (us % (10 : Int32))), own_x, own_x, own_x, own_x, own_x] := V157
  have K := K.wr W157 (Or.inl (List.mem_of_getElem? (i := 0) rfl))
  refine Own.iload d1_163 rfl ?_
  refine Own.bipush (10 : Int32) d1_165 rfl ?_
  refine Own.idiv d1_167 (by decide) ?_
  refine Own.istore #[.val (.int p0), .val (.ref a1), .val (.int (3 : Int32)), .val (.int uh), .val (.int um), .val (.int us), .val (.int (2 : Int32)), .val (.int (11 : Int32)), .val (.int (4 : Int32)), .val (.int (uh / (10 : Int32)))] d1_168 rfl ?_
  refine Own.goto_ 142 d1_170 (by decide) rfl ?_
  refine Own.iload d1_142 rfl ?_
  refine Own.iloadN d1_144 rfl ?_
  refine Own.icmp_le 173 d1_145 (by decide) rfl (fun q => absurd (by decide) q) (fun _ => ?_)
  refine Own.aloadN d1_148 rfl rfl ?_
  refine Own.iinc (-1 : Int32) #[.val (.int p0), .val (.ref a1), .val (.int (3 : Int32)), .val (.int uh), .val (.int um), .val (.int us), .val (.int (2 : Int32)), .val (.int (11 : Int32)), .val (.int ((4 : Int32) + (-1 : Int32))), .val (.int (uh / (10 : Int32)))] d1_149 rfl rfl rfl ?_
  refine OAt.castL (Ls' := #[.val (.int p0), .val (.ref a1), .val (.int (3 : Int32)), .val (.int uh), .val (.int um), .val (.int us), .val (.int (2 : Int32)), .val (.int (11 : Int32)), .val (.int (3 : Int32)), .val (.int (uh / (10 : Int32)))]) rfl rfl ?_
  refine Own.iload d1_152 rfl ?_
  refine Own.iload d1_154 rfl ?_
  refine Own.bipush (10 : Int32) d1_156 rfl ?_
  refine Own.irem_ d1_158 (by decide) ?_
  refine Own.callSP [(.int ((uh / (10 : Int32)) % (10 : Int32)))] [(.int (3 : Int32)), (.ref a1)] 2 (rmD l Z a0 hw [] ((uh / (10 : Int32)) % (10 : Int32)) h157 n0 hn) (hw _ (List.mem_of_getElem? (i := 6) rfl)) (hw _ (List.mem_of_getElem? (i := 7) rfl)) (hw _ (List.mem_of_getElem? (i := 4) rfl)) (hw _ (List.mem_of_getElem? (i := 8) rfl)) (by decide) d1_159 pd_0 rfl rfl rfl rfl (by decide) (by decide) (by decide) (by decide) ?_
  refine Own.bastore_ V157 (i := 3) rfl (Nat.le_of_ble_eq_true rfl) g_a1 d1_162 (fun h158 W158 V158 => ?_)
  have hn : n0 ≤ h158.size := by rw [W158.size]; exact hn
  clear V157
  replace V158 : Arl Z h158 a1 ka .byte [own_x, own_x, own_x, (own_d ((uh / (10 : Int32)) % (10 : Int32))), (own_d (uh % (10 : Int32))), own_c, (own_d (um / (10 : Int32))), (own_d (um % (10 : Int32))), own_c, (own_d (us / (10 : Int32))), (own_d (us % (10 : Int32))), own_x, own_x, own_x, own_x, own_x] := V158
  have K := K.wr W158 (Or.inl (List.mem_of_getElem? (i := 0) rfl))
  refine Own.iload d1_163 rfl ?_
  refine Own.bipush (10 : Int32) d1_165 rfl ?_
  refine Own.idiv d1_167 (by decide) ?_
  refine Own.istore #[.val (.int p0), .val (.ref a1), .val (.int (3 : Int32)), .val (.int uh), .val (.int um), .val (.int us), .val (.int (2 : Int32)), .val (.int (11 : Int32)), .val (.int (3 : Int32)), .val (.int ((uh / (10 : Int32)) / (10 : Int32)))] d1_168 rfl ?_
  refine Own.goto_ 142 d1_170 (by decide) rfl ?_
  refine Own.iload d1_142 rfl ?_
  refine Own.iloadN d1_144 rfl ?_
  refine Own.icmp_le 173 d1_145 (by decide) rfl (fun _ => ?_) (fun q => absurd q (by decide))
  refine Own.iload d1_173 rfl ?_
  refine Own.ret_int rfl d1_175 (by decide) (by decide) ?_
  exact ⟨rfl, K, V158⟩
def Q_rmF_3_3 (Z : State) (a1 : Addr) (ka : ClassId) (uh : Int32) (um : Int32) (us : Int32) (h0 : Heap) (n0 : Nat) (v : Option Value) (h : Heap) : Prop := v = some (.int (12 : Int32)) ∧ Keep h0 h [a1] ∧ Arl Z h a1 ka .byte [own_x, own_x, own_x, (own_d (((uh / (10 : Int32)) / (10 : Int32)) % (10 : Int32))), (own_d ((uh / (10 : Int32)) % (10 : Int32))), (own_d (uh % (10 : Int32))), own_c, (own_d (um / (10 : Int32))), (own_d (um % (10 : Int32))), own_c, (own_d (us / (10 : Int32))), (own_d (us % (10 : Int32))), own_x, own_x, own_x, own_x]
theorem ef_rmF_3_3 (m : MethodId) (p0 : Int32) (a1 : Addr)  : entryFrame m #[(.int p0), (.ref a1), (.int (3 : Int32))] 10 = mkF m 0 #[.val (.int p0), .val (.ref a1), .val (.int (3 : Int32)), .unset, .unset, .unset, .unset, .unset, .unset, .unset] [] := by first | (simp [entryFrame, mkF, argsToLocals, Value.category]; done) | rfl
set_option maxRecDepth 65536 in
set_option maxHeartbeats 40000000 in
theorem rmF_3_3 (l : Launch) (Z : State) (a0 : Array Value) (hw : ∀ d ∈ tables_1, d.before a0 Z = true) (ws : List Jvm.Cond) (p0 : Int32) (a1 : Addr) (ka : ClassId) (uh : Int32) (um : Int32) (us : Int32) (h0 : Heap) (n0 : Nat) (hn : n0 ≤ h0.size) (V_a1 : Arl Z h0 a1 ka .byte [own_x, own_x, own_x, own_x, own_x, own_x, own_x, own_x, own_x, own_x, own_x, own_x, own_x, own_x, own_x, own_x]) (g_a1 : n0 ≤ a1) (e_h : p0 / (3600 : Int32) = uh) (e_m : (p0 / (60 : Int32)) % (60 : Int32) = um) (e_s : p0 % (60 : Int32) = us) (hl : 100 ≤ uh.toInt) (hu : uh.toInt < 1000) :
    Met false l Z (⟨"com/example/voznired/voznired/timetable/StopTime", "formatTime", "(I[BI)I"⟩ : MethodName) prog_118_method_10_code 10 (some .int) ({ frames := 1, cells := 0, slots := 0, locals := 14 } : Room) ws #[(.int p0), (.ref a1), (.int (3 : Int32))] h0 n0 (Q_rmF_3_3 Z a1 ka uh um us h0 n0) := by
  refine Met.of pn_1 (fun m => ef_rmF_3_3 m p0 a1) ?_
  have K := Keep.refl h0 [a1]
  refine Own.iloadN d1_0 rfl ?_
  refine Own.sipush (3600 : Int32) d1_1 rfl ?_
  refine Own.idiv d1_4 (by decide) ?_
  rw [e_h]
  refine Own.istoreN #[.val (.int p0), .val (.ref a1), .val (.int (3 : Int32)), .val (.int uh), .unset, .unset, .unset, .unset, .unset, .unset] d1_5 rfl ?_
  refine Own.iloadN d1_6 rfl ?_
  refine Own.bipush (60 : Int32) d1_7 rfl ?_
  refine Own.idiv d1_9 (by decide) ?_
  refine Own.bipush (60 : Int32) d1_10 rfl ?_
  refine Own.irem_ d1_12 (by decide) ?_
  rw [e_m]
  refine Own.istore #[.val (.int p0), .val (.ref a1), .val (.int (3 : Int32)), .val (.int uh), .val (.int um), .unset, .unset, .unset, .unset, .unset] d1_13 rfl ?_
  refine Own.iloadN d1_15 rfl ?_
  refine Own.bipush (60 : Int32) d1_16 rfl ?_
  refine Own.irem_ d1_18 (by decide) ?_
  rw [e_s]
  refine Own.istore #[.val (.int p0), .val (.ref a1), .val (.int (3 : Int32)), .val (.int uh), .val (.int um), .val (.int us), .unset, .unset, .unset, .unset] d1_19 rfl ?_
  refine Own.iconst (2 : Int32) d1_21 rfl ?_
  refine Own.istore #[.val (.int p0), .val (.ref a1), .val (.int (3 : Int32)), .val (.int uh), .val (.int um), .val (.int us), .val (.int (2 : Int32)), .unset, .unset, .unset] d1_22 rfl ?_
  refine Own.iloadN d1_24 rfl ?_
  refine Own.bipush (100 : Int32) d1_25 rfl ?_
  refine Own.idiv d1_27 (by decide) ?_
  obtain ⟨ur0, e_ur0⟩ : ∃ z : Int32, z = (uh / (100 : Int32)) := ⟨_, rfl⟩
  rw [← e_ur0]
  have r_ur0 : ur0.toInt = uh.toInt / 100 := by
    rw [e_ur0]; exact own_div 100 rfl (by omega) (by omega)
  refine Own.istore #[.val (.int p0), .val (.ref a1), .val (.int (3 : Int32)), .val (.int uh), .val (.int um), .val (.int us), .val (.int (2 : Int32)), .val (.int ur0), .unset, .unset] d1_28 rfl ?_
  refine Own.iload d1_30 rfl ?_
  refine Own.if_le 48 d1_32 (by decide) rfl (fun q => absurd (by simp only [Int32.lt_iff_toInt_lt, Int32.reduceToInt]; omega) q) (fun _ => ?_)
  refine Own.iinc (1 : Int32) #[.val (.int p0), .val (.ref a1), .val (.int (3 : Int32)), .val (.int uh), .val (.int um), .val (.int us), .val (.int ((2 : Int32) + (1 : Int32))), .val (.int ur0), .unset, .unset] d1_35 rfl rfl rfl ?_
  refine OAt.castL (Ls' := #[.val (.int p0), .val (.ref a1), .val (.int (3 : Int32)), .val (.int uh), .val (.int um), .val (.int us), .val (.int (3 : Int32)), .val (.int ur0), .unset, .unset]) rfl rfl ?_
  refine Own.iload d1_38 rfl ?_
  refine Own.bipush (10 : Int32) d1_40 rfl ?_
  refine Own.idiv d1_42 (by decide) ?_
  obtain ⟨ur1, e_ur1⟩ : ∃ z : Int32, z = (ur0 / (10 : Int32)) := ⟨_, rfl⟩
  rw [← e_ur1]
  have r_ur1 : ur1.toInt = ur0.toInt / 10 := by
    rw [e_ur1]; rw [own_div 10 rfl (by omega) (by omega)]
  refine Own.istore #[.val (.int p0), .val (.ref a1), .val (.int (3 : Int32)), .val (.int uh), .val (.int um), .val (.int us), .val (.int (3 : Int32)), .val (.int ur1), .unset, .unset] d1_43 rfl ?_
  refine Own.goto_ 30 d1_45 (by decide) rfl ?_
  refine Own.iload d1_30 rfl ?_
  refine Own.if_le 48 d1_32 (by decide) rfl (fun _ => ?_) (fun q => absurd q (by simp only [Int32.lt_iff_toInt_lt, Int32.reduceToInt]; omega))
  refine Own.iloadN d1_48 rfl ?_
  refine Own.iload d1_49 rfl ?_
  refine Own.iadd d1_51 ?_
  refine OAt.cast (st' := [(.int (6 : Int32))]) rfl ?_
  refine Own.bipush (6 : Int32) d1_52 rfl ?_
  refine Own.iadd d1_54 ?_
  refine OAt.cast (st' := [(.int (12 : Int32))]) rfl ?_
  refine Own.istore #[.val (.int p0), .val (.ref a1), .val (.int (3 : Int32)), .val (.int uh), .val (.int um), .val (.int us), .val (.int (3 : Int32)), .val (.int (12 : Int32)), .unset, .unset] d1_55 rfl ?_
  refine Own.iload d1_57 rfl ?_
  refine Own.istore #[.val (.int p0), .val (.ref a1), .val (.int (3 : Int32)), .val (.int uh), .val (.int um), .val (.int us), .val (.int (3 : Int32)), .val (.int (12 : Int32)), .val (.int (12 : Int32)), .unset] d1_59 rfl ?_
  refine Own.aloadN d1_61 rfl rfl ?_
  refine Own.iinc (-1 : Int32) #[.val (.int p0), .val (.ref a1), .val (.int (3 : Int32)), .val (.int uh), .val (.int um), .val (.int us), .val (.int (3 : Int32)), .val (.int (12 : Int32)), .val (.int ((12 : Int32) + (-1 : Int32))), .unset] d1_62 rfl rfl rfl ?_
  refine OAt.castL (Ls' := #[.val (.int p0), .val (.ref a1), .val (.int (3 : Int32)), .val (.int uh), .val (.int um), .val (.int us), .val (.int (3 : Int32)), .val (.int (12 : Int32)), .val (.int (11 : Int32)), .unset]) rfl rfl ?_
  refine Own.iload d1_65 rfl ?_
  refine Own.iload d1_67 rfl ?_
  refine Own.bipush (10 : Int32) d1_69 rfl ?_
  refine Own.irem_ d1_71 (by decide) ?_
  refine Own.callSP [(.int (us % (10 : Int32)))] [(.int (11 : Int32)), (.ref a1)] 2 (rmD l Z a0 hw [] (us % (10 : Int32)) h0 n0 hn) (hw _ (List.mem_of_getElem? (i := 6) rfl)) (hw _ (List.mem_of_getElem? (i := 7) rfl)) (hw _ (List.mem_of_getElem? (i := 4) rfl)) (hw _ (List.mem_of_getElem? (i := 8) rfl)) (by decide) d1_72 pd_0 rfl rfl rfl rfl (by decide) (by decide) (by decide) (by decide) ?_
  refine Own.bastore_ V_a1 (i := 11) rfl (Nat.le_of_ble_eq_true rfl) g_a1 d1_75 (fun h159 W159 V159 => ?_)
  have hn : n0 ≤ h159.size := by rw [W159.size]; exact hn
  clear V_a1
  replace V159 : Arl Z h159 a1 ka .byte [own_x, own_x, own_x, own_x, own_x, own_x, own_x, own_x, own_x, own_x, own_x, (own_d (us % (10 : Int32))), own_x, own_x, own_x, own_x] := V159
  have K := K.wr W159 (Or.inl (List.mem_of_getElem? (i := 0) rfl))
  refine Own.aloadN d1_76 rfl rfl ?_
  refine Own.iinc (-1 : Int32) #[.val (.int p0), .val (.ref a1), .val (.int (3 : Int32)), .val (.int uh), .val (.int um), .val (.int us), .val (.int (3 : Int32)), .val (.int (12 : Int32)), .val (.int ((11 : Int32) + (-1 : Int32))), .unset] d1_77 rfl rfl rfl ?_
  refine OAt.castL (Ls' := #[.val (.int p0), .val (.ref a1), .val (.int (3 : Int32)), .val (.int uh), .val (.int um), .val (.int us), .val (.int (3 : Int32)), .val (.int (12 : Int32)), .val (.int (10 : Int32)), .unset]) rfl rfl ?_
  refine Own.iload d1_80 rfl ?_
  refine Own.iload d1_82 rfl ?_
  refine Own.bipush (10 : Int32) d1_84 rfl ?_
  refine Own.idiv d1_86 (by decide) ?_
  refine Own.callSP [(.int (us / (10 : Int32)))] [(.int (10 : Int32)), (.ref a1)] 2 (rmD l Z a0 hw [] (us / (10 : Int32)) h159 n0 hn) (hw _ (List.mem_of_getElem? (i := 6) rfl)) (hw _ (List.mem_of_getElem? (i := 7) rfl)) (hw _ (List.mem_of_getElem? (i := 4) rfl)) (hw _ (List.mem_of_getElem? (i := 8) rfl)) (by decide) d1_87 pd_0 rfl rfl rfl rfl (by decide) (by decide) (by decide) (by decide) ?_
  refine Own.bastore_ V159 (i := 10) rfl (Nat.le_of_ble_eq_true rfl) g_a1 d1_90 (fun h160 W160 V160 => ?_)
  have hn : n0 ≤ h160.size := by rw [W160.size]; exact hn
  clear V159
  replace V160 : Arl Z h160 a1 ka .byte [own_x, own_x, own_x, own_x, own_x, own_x, own_x, own_x, own_x, own_x, (own_d (us / (10 : Int32))), (own_d (us % (10 : Int32))), own_x, own_x, own_x, own_x] := V160
  have K := K.wr W160 (Or.inl (List.mem_of_getElem? (i := 0) rfl))
  refine Own.aloadN d1_91 rfl rfl ?_
  refine Own.iinc (-1 : Int32) #[.val (.int p0), .val (.ref a1), .val (.int (3 : Int32)), .val (.int uh), .val (.int um), .val (.int us), .val (.int (3 : Int32)), .val (.int (12 : Int32)), .val (.int ((10 : Int32) + (-1 : Int32))), .unset] d1_92 rfl rfl rfl ?_
  refine OAt.castL (Ls' := #[.val (.int p0), .val (.ref a1), .val (.int (3 : Int32)), .val (.int uh), .val (.int um), .val (.int us), .val (.int (3 : Int32)), .val (.int (12 : Int32)), .val (.int (9 : Int32)), .unset]) rfl rfl ?_
  refine Own.iload d1_95 rfl ?_
  refine Own.bipush (58 : Int32) d1_97 rfl ?_
  refine Own.bastore_ V160 (i := 9) rfl (Nat.le_of_ble_eq_true rfl) g_a1 d1_99 (fun h161 W161 V161 => ?_)
  have hn : n0 ≤ h161.size := by rw [W161.size]; exact hn
  clear V160
  replace V161 : Arl Z h161 a1 ka .byte [own_x, own_x, own_x, own_x, own_x, own_x, own_x, own_x, own_x, own_c, (own_d (us / (10 : Int32))), (own_d (us % (10 : Int32))), own_x, own_x, own_x, own_x] := V161
  have K := K.wr W161 (Or.inl (List.mem_of_getElem? (i := 0) rfl))
  refine Own.aloadN d1_100 rfl rfl ?_
  refine Own.iinc (-1 : Int32) #[.val (.int p0), .val (.ref a1), .val (.int (3 : Int32)), .val (.int uh), .val (.int um), .val (.int us), .val (.int (3 : Int32)), .val (.int (12 : Int32)), .val (.int ((9 : Int32) + (-1 : Int32))), .unset] d1_101 rfl rfl rfl ?_
  refine OAt.castL (Ls' := #[.val (.int p0), .val (.ref a1), .val (.int (3 : Int32)), .val (.int uh), .val (.int um), .val (.int us), .val (.int (3 : Int32)), .val (.int (12 : Int32)), .val (.int (8 : Int32)), .unset]) rfl rfl ?_
  refine Own.iload d1_104 rfl ?_
  refine Own.iload d1_106 rfl ?_
  refine Own.bipush (10 : Int32) d1_108 rfl ?_
  refine Own.irem_ d1_110 (by decide) ?_
  refine Own.callSP [(.int (um % (10 : Int32)))] [(.int (8 : Int32)), (.ref a1)] 2 (rmD l Z a0 hw [] (um % (10 : Int32)) h161 n0 hn) (hw _ (List.mem_of_getElem? (i := 6) rfl)) (hw _ (List.mem_of_getElem? (i := 7) rfl)) (hw _ (List.mem_of_getElem? (i := 4) rfl)) (hw _ (List.mem_of_getElem? (i := 8) rfl)) (by decide) d1_111 pd_0 rfl rfl rfl rfl (by decide) (by decide) (by decide) (by decide) ?_
  refine Own.bastore_ V161 (i := 8) rfl (Nat.le_of_ble_eq_true rfl) g_a1 d1_114 (fun h162 W162 V162 => ?_)
  have hn : n0 ≤ h162.size := by rw [W162.size]; exact hn
  clear V161
  replace V162 : Arl Z h162 a1 ka .byte [own_x, own_x, own_x, own_x, own_x, own_x, own_x, own_x, (own_d (um % (10 : Int32))), own_c, (own_d (us / (10 : Int32))), (own_d (us % (10 : Int32))), own_x, own_x, own_x, own_x] := V162
  have K := K.wr W162 (Or.inl (List.mem_of_getElem? (i := 0) rfl))
  refine Own.aloadN d1_115 rfl rfl ?_
  refine Own.iinc (-1 : Int32) #[.val (.int p0), .val (.ref a1), .val (.int (3 : Int32)), .val (.int uh), .val (.int um), .val (.int us), .val (.int (3 : Int32)), .val (.int (12 : Int32)), .val (.int ((8 : Int32) + (-1 : Int32))), .unset] d1_116 rfl rfl rfl ?_
  refine OAt.castL (Ls' := #[.val (.int p0), .val (.ref a1), .val (.int (3 : Int32)), .val (.int uh), .val (.int um), .val (.int us), .val (.int (3 : Int32)), .val (.int (12 : Int32)), .val (.int (7 : Int32)), .unset]) rfl rfl ?_
  refine Own.iload d1_119 rfl ?_
  refine Own.iload d1_121 rfl ?_
  refine Own.bipush (10 : Int32) d1_123 rfl ?_
  refine Own.idiv d1_125 (by decide) ?_
  refine Own.callSP [(.int (um / (10 : Int32)))] [(.int (7 : Int32)), (.ref a1)] 2 (rmD l Z a0 hw [] (um / (10 : Int32)) h162 n0 hn) (hw _ (List.mem_of_getElem? (i := 6) rfl)) (hw _ (List.mem_of_getElem? (i := 7) rfl)) (hw _ (List.mem_of_getElem? (i := 4) rfl)) (hw _ (List.mem_of_getElem? (i := 8) rfl)) (by decide) d1_126 pd_0 rfl rfl rfl rfl (by decide) (by decide) (by decide) (by decide) ?_
  refine Own.bastore_ V162 (i := 7) rfl (Nat.le_of_ble_eq_true rfl) g_a1 d1_129 (fun h163 W163 V163 => ?_)
  have hn : n0 ≤ h163.size := by rw [W163.size]; exact hn
  clear V162
  replace V163 : Arl Z h163 a1 ka .byte [own_x, own_x, own_x, own_x, own_x, own_x, own_x, (own_d (um / (10 : Int32))), (own_d (um % (10 : Int32))), own_c, (own_d (us / (10 : Int32))), (own_d (us % (10 : Int32))), own_x, own_x, own_x, own_x] := V163
  have K := K.wr W163 (Or.inl (List.mem_of_getElem? (i := 0) rfl))
  refine Own.aloadN d1_130 rfl rfl ?_
  refine Own.iinc (-1 : Int32) #[.val (.int p0), .val (.ref a1), .val (.int (3 : Int32)), .val (.int uh), .val (.int um), .val (.int us), .val (.int (3 : Int32)), .val (.int (12 : Int32)), .val (.int ((7 : Int32) + (-1 : Int32))), .unset] d1_131 rfl rfl rfl ?_
  refine OAt.castL (Ls' := #[.val (.int p0), .val (.ref a1), .val (.int (3 : Int32)), .val (.int uh), .val (.int um), .val (.int us), .val (.int (3 : Int32)), .val (.int (12 : Int32)), .val (.int (6 : Int32)), .unset]) rfl rfl ?_
  refine Own.iload d1_134 rfl ?_
  refine Own.bipush (58 : Int32) d1_136 rfl ?_
  refine Own.bastore_ V163 (i := 6) rfl (Nat.le_of_ble_eq_true rfl) g_a1 d1_138 (fun h164 W164 V164 => ?_)
  have hn : n0 ≤ h164.size := by rw [W164.size]; exact hn
  clear V163
  replace V164 : Arl Z h164 a1 ka .byte [own_x, own_x, own_x, own_x, own_x, own_x, own_c, (own_d (um / (10 : Int32))), (own_d (um % (10 : Int32))), own_c, (own_d (us / (10 : Int32))), (own_d (us % (10 : Int32))), own_x, own_x, own_x, own_x] := V164
  have K := K.wr W164 (Or.inl (List.mem_of_getElem? (i := 0) rfl))
  refine Own.iloadN d1_139 rfl ?_
  refine Own.istore #[.val (.int p0), .val (.ref a1), .val (.int (3 : Int32)), .val (.int uh), .val (.int um), .val (.int us), .val (.int (3 : Int32)), .val (.int (12 : Int32)), .val (.int (6 : Int32)), .val (.int uh)] d1_140 rfl ?_
  refine Own.iload d1_142 rfl ?_
  refine Own.iloadN d1_144 rfl ?_
  refine Own.icmp_le 173 d1_145 (by decide) rfl (fun q => absurd (by decide) q) (fun _ => ?_)
  refine Own.aloadN d1_148 rfl rfl ?_
  refine Own.iinc (-1 : Int32) #[.val (.int p0), .val (.ref a1), .val (.int (3 : Int32)), .val (.int uh), .val (.int um), .val (.int us), .val (.int (3 : Int32)), .val (.int (12 : Int32)), .val (.int ((6 : Int32) + (-1 : Int32))), .val (.int uh)] d1_149 rfl rfl rfl ?_
  refine OAt.castL (Ls' := #[.val (.int p0), .val (.ref a1), .val (.int (3 : Int32)), .val (.int uh), .val (.int um), .val (.int us), .val (.int (3 : Int32)), .val (.int (12 : Int32)), .val (.int (5 : Int32)), .val (.int uh)]) rfl rfl ?_
  refine Own.iload d1_152 rfl ?_
  refine Own.iload d1_154 rfl ?_
  refine Own.bipush (10 : Int32) d1_156 rfl ?_
  refine Own.irem_ d1_158 (by decide) ?_
  refine Own.callSP [(.int (uh % (10 : Int32)))] [(.int (5 : Int32)), (.ref a1)] 2 (rmD l Z a0 hw [] (uh % (10 : Int32)) h164 n0 hn) (hw _ (List.mem_of_getElem? (i := 6) rfl)) (hw _ (List.mem_of_getElem? (i := 7) rfl)) (hw _ (List.mem_of_getElem? (i := 4) rfl)) (hw _ (List.mem_of_getElem? (i := 8) rfl)) (by decide) d1_159 pd_0 rfl rfl rfl rfl (by decide) (by decide) (by decide) (by decide) ?_
  refine Own.bastore_ V164 (i := 5) rfl (Nat.le_of_ble_eq_true rfl) g_a1 d1_162 (fun h165 W165 V165 => ?_)
  have hn : n0 ≤ h165.size := by rw [W165.size]; exact hn
  clear V164
  replace V165 : Arl Z h165 a1 ka .byte [own_x, own_x, own_x, own_x, own_x, (own_d (uh % (10 : Int32))), own_c, (own_d (um / (10 : Int32))), (own_d (um % (10 : Int32))), own_c, (own_d (us / (10 : Int32))), (own_d (us % (10 : Int32))), own_x, own_x, own_x, own_x] := V165
  have K := K.wr W165 (Or.inl (List.mem_of_getElem? (i := 0) rfl))
  refine Own.iload d1_163 rfl ?_
  refine Own.bipush (10 : Int32) d1_165 rfl ?_
  refine Own.idiv d1_167 (by decide) ?_
  refine Own.istore #[.val (.int p0), .val (.ref a1), .val (.int (3 : Int32)), .val (.int uh), .val (.int um), .val (.int us), .val (.int (3 : Int32)), .val (.int (12 : Int32)), .val (.int (5 : Int32)), .val (.int (uh / (10 : Int32)))] d1_168 rfl ?_
  refine Own.goto_ 142 d1_170 (by decide) rfl ?_
  refine Own.iload d1_142 rfl ?_
  refine Own.iloadN d1_144 rfl ?_
  refine Own.icmp_le 173 d1_145 (by decide) rfl (fun q => absurd (by decide) q) (fun _ => ?_)
  refine Own.aloadN d1_148 rfl rfl ?_
  refine Own.iinc (-1 : Int32) #[.val (.int p0), .val (.ref a1), .val (.int (3 : Int32)), .val (.int uh), .val (.int um), .val (.int us), .val (.int (3 : Int32)), .val (.int (12 : Int32)), .val (.int ((5 : Int32) + (-1 : Int32))), .val (.int (uh / (10 : Int32)))] d1_149 rfl rfl rfl ?_
  refine OAt.castL (Ls' := #[.val (.int p0), .val (.ref a1), .val (.int (3 : Int32)), .val (.int uh), .val (.int um), .val (.int us), .val (.int (3 : Int32)), .val (.int (12 : Int32)), .val (.int (4 : Int32)), .val (.int (uh / (10 : Int32)))]) rfl rfl ?_
  refine Own.iload d1_152 rfl ?_
  refine Own.iload d1_154 rfl ?_
  refine Own.bipush (10 : Int32) d1_156 rfl ?_
  refine Own.irem_ d1_158 (by decide) ?_
  refine Own.callSP [(.int ((uh / (10 : Int32)) % (10 : Int32)))] [(.int (4 : Int32)), (.ref a1)] 2 (rmD l Z a0 hw [] ((uh / (10 : Int32)) % (10 : Int32)) h165 n0 hn) (hw _ (List.mem_of_getElem? (i := 6) rfl)) (hw _ (List.mem_of_getElem? (i := 7) rfl)) (hw _ (List.mem_of_getElem? (i := 4) rfl)) (hw _ (List.mem_of_getElem? (i := 8) rfl)) (by decide) d1_159 pd_0 rfl rfl rfl rfl (by decide) (by decide) (by decide) (by decide) ?_
  refine Own.bastore_ V165 (i := 4) rfl (Nat.le_of_ble_eq_true rfl) g_a1 d1_162 (fun h166 W166 V166 => ?_)
  have hn : n0 ≤ h166.size := by rw [W166.size]; exact hn
  clear V165
  replace V166 : Arl Z h166 a1 ka .byte [own_x, own_x, own_x, own_x, (own_d ((uh / (10 : Int32)) % (10 : Int32))), (own_d (uh % (10 : Int32))), own_c, (own_d (um / (10 : Int32))), (own_d (um % (10 : Int32))), own_c, (own_d (us / (10 : Int32))), (own_d (us % (10 : Int32))), own_x, own_x, own_x, own_x] := V166
  have K := K.wr W166 (Or.inl (List.mem_of_getElem? (i := 0) rfl))
  refine Own.iload d1_163 rfl ?_
  refine Own.bipush (10 : Int32) d1_165 rfl ?_
  refine Own.idiv d1_167 (by decide) ?_
  refine Own.istore #[.val (.int p0), .val (.ref a1), .val (.int (3 : Int32)), .val (.int uh), .val (.int um), .val (.int us), .val (.int (3 : Int32)), .val (.int (12 : Int32)), .val (.int (4 : Int32)), .val (.int ((uh / (10 : Int32)) / (10 : Int32)))] d1_168 rfl ?_
  refine Own.goto_ 142 d1_170 (by decide) rfl ?_
  refine Own.iload d1_142 rfl ?_
  refine Own.iloadN d1_144 rfl ?_
  refine Own.icmp_le 173 d1_145 (by decide) rfl (fun q => absurd (by decide) q) (fun _ => ?_)
  refine Own.aloadN d1_148 rfl rfl ?_
  refine Own.iinc (-1 : Int32) #[.val (.int p0), .val (.ref a1), .val (.int (3 : Int32)), .val (.int uh), .val (.int um), .val (.int us), .val (.int (3 : Int32)), .val (.int (12 : Int32)), .val (.int ((4 : Int32) + (-1 : Int32))), .val (.int ((uh / (10 : Int32)) / (10 : Int32)))] d1_149 rfl rfl rfl ?_
  refine OAt.castL (Ls' := #[.val (.int p0), .val (.ref a1), .val (.int (3 : Int32)), .val (.int uh), .val (.int um), .val (.int us), .val (.int (3 : Int32)), .val (.int (12 : Int32)), .val (.int (3 : Int32)), .val (.int ((uh / (10 : Int32)) / (10 : Int32)))]) rfl rfl ?_
  refine Own.iload d1_152 rfl ?_
  refine Own.iload d1_154 rfl ?_
  refine Own.bipush (10 : Int32) d1_156 rfl ?_
  refine Own.irem_ d1_158 (by decide) ?_
  refine Own.callSP [(.int (((uh / (10 : Int32)) / (10 : Int32)) % (10 : Int32)))] [(.int (3 : Int32)), (.ref a1)] 2 (rmD l Z a0 hw [] (((uh / (10 : Int32)) / (10 : Int32)) % (10 : Int32)) h166 n0 hn) (hw _ (List.mem_of_getElem? (i := 6) rfl)) (hw _ (List.mem_of_getElem? (i := 7) rfl)) (hw _ (List.mem_of_getElem? (i := 4) rfl)) (hw _ (List.mem_of_getElem? (i := 8) rfl)) (by decide) d1_159 pd_0 rfl rfl rfl rfl (by decide) (by decide) (by decide) (by decide) ?_
  refine Own.bastore_ V166 (i := 3) rfl (Nat.le_of_ble_eq_true rfl) g_a1 d1_162 (fun h167 W167 V167 => ?_)
  have hn : n0 ≤ h167.size := by rw [W167.size]; exact hn
  clear V166
  replace V167 : Arl Z h167 a1 ka .byte [own_x, own_x, own_x, (own_d (((uh / (10 : Int32)) / (10 : Int32)) % (10 : Int32))), (own_d ((uh / (10 : Int32)) % (10 : Int32))), (own_d (uh % (10 : Int32))), own_c, (own_d (um / (10 : Int32))), (own_d (um % (10 : Int32))), own_c, (own_d (us / (10 : Int32))), (own_d (us % (10 : Int32))), own_x, own_x, own_x, own_x] := V167
  have K := K.wr W167 (Or.inl (List.mem_of_getElem? (i := 0) rfl))
  refine Own.iload d1_163 rfl ?_
  refine Own.bipush (10 : Int32) d1_165 rfl ?_
  refine Own.idiv d1_167 (by decide) ?_
  refine Own.istore #[.val (.int p0), .val (.ref a1), .val (.int (3 : Int32)), .val (.int uh), .val (.int um), .val (.int us), .val (.int (3 : Int32)), .val (.int (12 : Int32)), .val (.int (3 : Int32)), .val (.int (((uh / (10 : Int32)) / (10 : Int32)) / (10 : Int32)))] d1_168 rfl ?_
  refine Own.goto_ 142 d1_170 (by decide) rfl ?_
  refine Own.iload d1_142 rfl ?_
  refine Own.iloadN d1_144 rfl ?_
  refine Own.icmp_le 173 d1_145 (by decide) rfl (fun _ => ?_) (fun q => absurd q (by decide))
  refine Own.iload d1_173 rfl ?_
  refine Own.ret_int rfl d1_175 (by decide) (by decide) ?_
  exact ⟨rfl, K, V167⟩
def Q_rmF_3_4 (Z : State) (a1 : Addr) (ka : ClassId) (uh : Int32) (um : Int32) (us : Int32) (h0 : Heap) (n0 : Nat) (v : Option Value) (h : Heap) : Prop := v = some (.int (13 : Int32)) ∧ Keep h0 h [a1] ∧ Arl Z h a1 ka .byte [own_x, own_x, own_x, (own_d ((((uh / (10 : Int32)) / (10 : Int32)) / (10 : Int32)) % (10 : Int32))), (own_d (((uh / (10 : Int32)) / (10 : Int32)) % (10 : Int32))), (own_d ((uh / (10 : Int32)) % (10 : Int32))), (own_d (uh % (10 : Int32))), own_c, (own_d (um / (10 : Int32))), (own_d (um % (10 : Int32))), own_c, (own_d (us / (10 : Int32))), (own_d (us % (10 : Int32))), own_x, own_x, own_x]
theorem ef_rmF_3_4 (m : MethodId) (p0 : Int32) (a1 : Addr)  : entryFrame m #[(.int p0), (.ref a1), (.int (3 : Int32))] 10 = mkF m 0 #[.val (.int p0), .val (.ref a1), .val (.int (3 : Int32)), .unset, .unset, .unset, .unset, .unset, .unset, .unset] [] := by first | (simp [entryFrame, mkF, argsToLocals, Value.category]; done) | rfl
set_option maxRecDepth 65536 in
set_option maxHeartbeats 40000000 in
theorem rmF_3_4 (l : Launch) (Z : State) (a0 : Array Value) (hw : ∀ d ∈ tables_1, d.before a0 Z = true) (ws : List Jvm.Cond) (p0 : Int32) (a1 : Addr) (ka : ClassId) (uh : Int32) (um : Int32) (us : Int32) (h0 : Heap) (n0 : Nat) (hn : n0 ≤ h0.size) (V_a1 : Arl Z h0 a1 ka .byte [own_x, own_x, own_x, own_x, own_x, own_x, own_x, own_x, own_x, own_x, own_x, own_x, own_x, own_x, own_x, own_x]) (g_a1 : n0 ≤ a1) (e_h : p0 / (3600 : Int32) = uh) (e_m : (p0 / (60 : Int32)) % (60 : Int32) = um) (e_s : p0 % (60 : Int32) = us) (hl : 1000 ≤ uh.toInt) (hu : uh.toInt < 10000) :
    Met false l Z (⟨"com/example/voznired/voznired/timetable/StopTime", "formatTime", "(I[BI)I"⟩ : MethodName) prog_118_method_10_code 10 (some .int) ({ frames := 1, cells := 0, slots := 0, locals := 14 } : Room) ws #[(.int p0), (.ref a1), (.int (3 : Int32))] h0 n0 (Q_rmF_3_4 Z a1 ka uh um us h0 n0) := by
  refine Met.of pn_1 (fun m => ef_rmF_3_4 m p0 a1) ?_
  have K := Keep.refl h0 [a1]
  refine Own.iloadN d1_0 rfl ?_
  refine Own.sipush (3600 : Int32) d1_1 rfl ?_
  refine Own.idiv d1_4 (by decide) ?_
  rw [e_h]
  refine Own.istoreN #[.val (.int p0), .val (.ref a1), .val (.int (3 : Int32)), .val (.int uh), .unset, .unset, .unset, .unset, .unset, .unset] d1_5 rfl ?_
  refine Own.iloadN d1_6 rfl ?_
  refine Own.bipush (60 : Int32) d1_7 rfl ?_
  refine Own.idiv d1_9 (by decide) ?_
  refine Own.bipush (60 : Int32) d1_10 rfl ?_
  refine Own.irem_ d1_12 (by decide) ?_
  rw [e_m]
  refine Own.istore #[.val (.int p0), .val (.ref a1), .val (.int (3 : Int32)), .val (.int uh), .val (.int um), .unset, .unset, .unset, .unset, .unset] d1_13 rfl ?_
  refine Own.iloadN d1_15 rfl ?_
  refine Own.bipush (60 : Int32) d1_16 rfl ?_
  refine Own.irem_ d1_18 (by decide) ?_
  rw [e_s]
  refine Own.istore #[.val (.int p0), .val (.ref a1), .val (.int (3 : Int32)), .val (.int uh), .val (.int um), .val (.int us), .unset, .unset, .unset, .unset] d1_19 rfl ?_
  refine Own.iconst (2 : Int32) d1_21 rfl ?_
  refine Own.istore #[.val (.int p0), .val (.ref a1), .val (.int (3 : Int32)), .val (.int uh), .val (.int um), .val (.int us), .val (.int (2 : Int32)), .unset, .unset, .unset] d1_22 rfl ?_
  refine Own.iloadN d1_24 rfl ?_
  refine Own.bipush (100 : Int32) d1_25 rfl ?_
  refine Own.idiv d1_27 (by decide) ?_
  obtain ⟨ur0, e_ur0⟩ : ∃ z : Int32, z = (uh / (100 : Int32)) := ⟨_, rfl⟩
  rw [← e_ur0]
  have r_ur0 : ur0.toInt = uh.toInt / 100 := by
    rw [e_ur0]; exact own_div 100 rfl (by omega) (by omega)
  refine Own.istore #[.val (.int p0), .val (.ref a1), .val (.int (3 : Int32)), .val (.int uh), .val (.int um), .val (.int us), .val (.int (2 : Int32)), .val (.int ur0), .unset, .unset] d1_28 rfl ?_
  refine Own.iload d1_30 rfl ?_
  refine Own.if_le 48 d1_32 (by decide) rfl (fun q => absurd (by simp only [Int32.lt_iff_toInt_lt, Int32.reduceToInt]; omega) q) (fun _ => ?_)
  refine Own.iinc (1 : Int32) #[.val (.int p0), .val (.ref a1), .val (.int (3 : Int32)), .val (.int uh), .val (.int um), .val (.int us), .val (.int ((2 : Int32) + (1 : Int32))), .val (.int ur0), .unset, .unset] d1_35 rfl rfl rfl ?_
  refine OAt.castL (Ls' := #[.val (.int p0), .val (.ref a1), .val (.int (3 : Int32)), .val (.int uh), .val (.int um), .val (.int us), .val (.int (3 : Int32)), .val (.int ur0), .unset, .unset]) rfl rfl ?_
  refine Own.iload d1_38 rfl ?_
  refine Own.bipush (10 : Int32) d1_40 rfl ?_
  refine Own.idiv d1_42 (by decide) ?_
  obtain ⟨ur1, e_ur1⟩ : ∃ z : Int32, z = (ur0 / (10 : Int32)) := ⟨_, rfl⟩
  rw [← e_ur1]
  have r_ur1 : ur1.toInt = ur0.toInt / 10 := by
    rw [e_ur1]; rw [own_div 10 rfl (by omega) (by omega)]
  refine Own.istore #[.val (.int p0), .val (.ref a1), .val (.int (3 : Int32)), .val (.int uh), .val (.int um), .val (.int us), .val (.int (3 : Int32)), .val (.int ur1), .unset, .unset] d1_43 rfl ?_
  refine Own.goto_ 30 d1_45 (by decide) rfl ?_
  refine Own.iload d1_30 rfl ?_
  refine Own.if_le 48 d1_32 (by decide) rfl (fun q => absurd (by simp only [Int32.lt_iff_toInt_lt, Int32.reduceToInt]; omega) q) (fun _ => ?_)
  refine Own.iinc (1 : Int32) #[.val (.int p0), .val (.ref a1), .val (.int (3 : Int32)), .val (.int uh), .val (.int um), .val (.int us), .val (.int ((3 : Int32) + (1 : Int32))), .val (.int ur1), .unset, .unset] d1_35 rfl rfl rfl ?_
  refine OAt.castL (Ls' := #[.val (.int p0), .val (.ref a1), .val (.int (3 : Int32)), .val (.int uh), .val (.int um), .val (.int us), .val (.int (4 : Int32)), .val (.int ur1), .unset, .unset]) rfl rfl ?_
  refine Own.iload d1_38 rfl ?_
  refine Own.bipush (10 : Int32) d1_40 rfl ?_
  refine Own.idiv d1_42 (by decide) ?_
  obtain ⟨ur2, e_ur2⟩ : ∃ z : Int32, z = (ur1 / (10 : Int32)) := ⟨_, rfl⟩
  rw [← e_ur2]
  have r_ur2 : ur2.toInt = ur1.toInt / 10 := by
    rw [e_ur2]; rw [own_div 10 rfl (by omega) (by omega)]
  refine Own.istore #[.val (.int p0), .val (.ref a1), .val (.int (3 : Int32)), .val (.int uh), .val (.int um), .val (.int us), .val (.int (4 : Int32)), .val (.int ur2), .unset, .unset] d1_43 rfl ?_
  refine Own.goto_ 30 d1_45 (by decide) rfl ?_
  refine Own.iload d1_30 rfl ?_
  refine Own.if_le 48 d1_32 (by decide) rfl (fun _ => ?_) (fun q => absurd q (by simp only [Int32.lt_iff_toInt_lt, Int32.reduceToInt]; omega))
  refine Own.iloadN d1_48 rfl ?_
  refine Own.iload d1_49 rfl ?_
  refine Own.iadd d1_51 ?_
  refine OAt.cast (st' := [(.int (7 : Int32))]) rfl ?_
  refine Own.bipush (6 : Int32) d1_52 rfl ?_
  refine Own.iadd d1_54 ?_
  refine OAt.cast (st' := [(.int (13 : Int32))]) rfl ?_
  refine Own.istore #[.val (.int p0), .val (.ref a1), .val (.int (3 : Int32)), .val (.int uh), .val (.int um), .val (.int us), .val (.int (4 : Int32)), .val (.int (13 : Int32)), .unset, .unset] d1_55 rfl ?_
  refine Own.iload d1_57 rfl ?_
  refine Own.istore #[.val (.int p0), .val (.ref a1), .val (.int (3 : Int32)), .val (.int uh), .val (.int um), .val (.int us), .val (.int (4 : Int32)), .val (.int (13 : Int32)), .val (.int (13 : Int32)), .unset] d1_59 rfl ?_
  refine Own.aloadN d1_61 rfl rfl ?_
  refine Own.iinc (-1 : Int32) #[.val (.int p0), .val (.ref a1), .val (.int (3 : Int32)), .val (.int uh), .val (.int um), .val (.int us), .val (.int (4 : Int32)), .val (.int (13 : Int32)), .val (.int ((13 : Int32) + (-1 : Int32))), .unset] d1_62 rfl rfl rfl ?_
  refine OAt.castL (Ls' := #[.val (.int p0), .val (.ref a1), .val (.int (3 : Int32)), .val (.int uh), .val (.int um), .val (.int us), .val (.int (4 : Int32)), .val (.int (13 : Int32)), .val (.int (12 : Int32)), .unset]) rfl rfl ?_
  refine Own.iload d1_65 rfl ?_
  refine Own.iload d1_67 rfl ?_
  refine Own.bipush (10 : Int32) d1_69 rfl ?_
  refine Own.irem_ d1_71 (by decide) ?_
  refine Own.callSP [(.int (us % (10 : Int32)))] [(.int (12 : Int32)), (.ref a1)] 2 (rmD l Z a0 hw [] (us % (10 : Int32)) h0 n0 hn) (hw _ (List.mem_of_getElem? (i := 6) rfl)) (hw _ (List.mem_of_getElem? (i := 7) rfl)) (hw _ (List.mem_of_getElem? (i := 4) rfl)) (hw _ (List.mem_of_getElem? (i := 8) rfl)) (by decide) d1_72 pd_0 rfl rfl rfl rfl (by decide) (by decide) (by decide) (by decide) ?_
  refine Own.bastore_ V_a1 (i := 12) rfl (Nat.le_of_ble_eq_true rfl) g_a1 d1_75 (fun h168 W168 V168 => ?_)
  have hn : n0 ≤ h168.size := by rw [W168.size]; exact hn
  clear V_a1
  replace V168 : Arl Z h168 a1 ka .byte [own_x, own_x, own_x, own_x, own_x, own_x, own_x, own_x, own_x, own_x, own_x, own_x, (own_d (us % (10 : Int32))), own_x, own_x, own_x] := V168
  have K := K.wr W168 (Or.inl (List.mem_of_getElem? (i := 0) rfl))
  refine Own.aloadN d1_76 rfl rfl ?_
  refine Own.iinc (-1 : Int32) #[.val (.int p0), .val (.ref a1), .val (.int (3 : Int32)), .val (.int uh), .val (.int um), .val (.int us), .val (.int (4 : Int32)), .val (.int (13 : Int32)), .val (.int ((12 : Int32) + (-1 : Int32))), .unset] d1_77 rfl rfl rfl ?_
  refine OAt.castL (Ls' := #[.val (.int p0), .val (.ref a1), .val (.int (3 : Int32)), .val (.int uh), .val (.int um), .val (.int us), .val (.int (4 : Int32)), .val (.int (13 : Int32)), .val (.int (11 : Int32)), .unset]) rfl rfl ?_
  refine Own.iload d1_80 rfl ?_
  refine Own.iload d1_82 rfl ?_
  refine Own.bipush (10 : Int32) d1_84 rfl ?_
  refine Own.idiv d1_86 (by decide) ?_
  refine Own.callSP [(.int (us / (10 : Int32)))] [(.int (11 : Int32)), (.ref a1)] 2 (rmD l Z a0 hw [] (us / (10 : Int32)) h168 n0 hn) (hw _ (List.mem_of_getElem? (i := 6) rfl)) (hw _ (List.mem_of_getElem? (i := 7) rfl)) (hw _ (List.mem_of_getElem? (i := 4) rfl)) (hw _ (List.mem_of_getElem? (i := 8) rfl)) (by decide) d1_87 pd_0 rfl rfl rfl rfl (by decide) (by decide) (by decide) (by decide) ?_
  refine Own.bastore_ V168 (i := 11) rfl (Nat.le_of_ble_eq_true rfl) g_a1 d1_90 (fun h169 W169 V169 => ?_)
  have hn : n0 ≤ h169.size := by rw [W169.size]; exact hn
  clear V168
  replace V169 : Arl Z h169 a1 ka .byte [own_x, own_x, own_x, own_x, own_x, own_x, own_x, own_x, own_x, own_x, own_x, (own_d (us / (10 : Int32))), (own_d (us % (10 : Int32))), own_x, own_x, own_x] := V169
  have K := K.wr W169 (Or.inl (List.mem_of_getElem? (i := 0) rfl))
  refine Own.aloadN d1_91 rfl rfl ?_
  refine Own.iinc (-1 : Int32) #[.val (.int p0), .val (.ref a1), .val (.int (3 : Int32)), .val (.int uh), .val (.int um), .val (.int us), .val (.int (4 : Int32)), .val (.int (13 : Int32)), .val (.int ((11 : Int32) + (-1 : Int32))), .unset] d1_92 rfl rfl rfl ?_
  refine OAt.castL (Ls' := #[.val (.int p0), .val (.ref a1), .val (.int (3 : Int32)), .val (.int uh), .val (.int um), .val (.int us), .val (.int (4 : Int32)), .val (.int (13 : Int32)), .val (.int (10 : Int32)), .unset]) rfl rfl ?_
  refine Own.iload d1_95 rfl ?_
  refine Own.bipush (58 : Int32) d1_97 rfl ?_
  refine Own.bastore_ V169 (i := 10) rfl (Nat.le_of_ble_eq_true rfl) g_a1 d1_99 (fun h170 W170 V170 => ?_)
  have hn : n0 ≤ h170.size := by rw [W170.size]; exact hn
  clear V169
  replace V170 : Arl Z h170 a1 ka .byte [own_x, own_x, own_x, own_x, own_x, own_x, own_x, own_x, own_x, own_x, own_c, (own_d (us / (10 : Int32))), (own_d (us % (10 : Int32))), own_x, own_x, own_x] := V170
  have K := K.wr W170 (Or.inl (List.mem_of_getElem? (i := 0) rfl))
  refine Own.aloadN d1_100 rfl rfl ?_
  refine Own.iinc (-1 : Int32) #[.val (.int p0), .val (.ref a1), .val (.int (3 : Int32)), .val (.int uh), .val (.int um), .val (.int us), .val (.int (4 : Int32)), .val (.int (13 : Int32)), .val (.int ((10 : Int32) + (-1 : Int32))), .unset] d1_101 rfl rfl rfl ?_
  refine OAt.castL (Ls' := #[.val (.int p0), .val (.ref a1), .val (.int (3 : Int32)), .val (.int uh), .val (.int um), .val (.int us), .val (.int (4 : Int32)), .val (.int (13 : Int32)), .val (.int (9 : Int32)), .unset]) rfl rfl ?_
  refine Own.iload d1_104 rfl ?_
  refine Own.iload d1_106 rfl ?_
  refine Own.bipush (10 : Int32) d1_108 rfl ?_
  refine Own.irem_ d1_110 (by decide) ?_
  refine Own.callSP [(.int (um % (10 : Int32)))] [(.int (9 : Int32)), (.ref a1)] 2 (rmD l Z a0 hw [] (um % (10 : Int32)) h170 n0 hn) (hw _ (List.mem_of_getElem? (i := 6) rfl)) (hw _ (List.mem_of_getElem? (i := 7) rfl)) (hw _ (List.mem_of_getElem? (i := 4) rfl)) (hw _ (List.mem_of_getElem? (i := 8) rfl)) (by decide) d1_111 pd_0 rfl rfl rfl rfl (by decide) (by decide) (by decide) (by decide) ?_
  refine Own.bastore_ V170 (i := 9) rfl (Nat.le_of_ble_eq_true rfl) g_a1 d1_114 (fun h171 W171 V171 => ?_)
  have hn : n0 ≤ h171.size := by rw [W171.size]; exact hn
  clear V170
  replace V171 : Arl Z h171 a1 ka .byte [own_x, own_x, own_x, own_x, own_x, own_x, own_x, own_x, own_x, (own_d (um % (10 : Int32))), own_c, (own_d (us / (10 : Int32))), (own_d (us % (10 : Int32))), own_x, own_x, own_x] := V171
  have K := K.wr W171 (Or.inl (List.mem_of_getElem? (i := 0) rfl))
  refine Own.aloadN d1_115 rfl rfl ?_
  refine Own.iinc (-1 : Int32) #[.val (.int p0), .val (.ref a1), .val (.int (3 : Int32)), .val (.int uh), .val (.int um), .val (.int us), .val (.int (4 : Int32)), .val (.int (13 : Int32)), .val (.int ((9 : Int32) + (-1 : Int32))), .unset] d1_116 rfl rfl rfl ?_
  refine OAt.castL (Ls' := #[.val (.int p0), .val (.ref a1), .val (.int (3 : Int32)), .val (.int uh), .val (.int um), .val (.int us), .val (.int (4 : Int32)), .val (.int (13 : Int32)), .val (.int (8 : Int32)), .unset]) rfl rfl ?_
  refine Own.iload d1_119 rfl ?_
  refine Own.iload d1_121 rfl ?_
  refine Own.bipush (10 : Int32) d1_123 rfl ?_
  refine Own.idiv d1_125 (by decide) ?_
  refine Own.callSP [(.int (um / (10 : Int32)))] [(.int (8 : Int32)), (.ref a1)] 2 (rmD l Z a0 hw [] (um / (10 : Int32)) h171 n0 hn) (hw _ (List.mem_of_getElem? (i := 6) rfl)) (hw _ (List.mem_of_getElem? (i := 7) rfl)) (hw _ (List.mem_of_getElem? (i := 4) rfl)) (hw _ (List.mem_of_getElem? (i := 8) rfl)) (by decide) d1_126 pd_0 rfl rfl rfl rfl (by decide) (by decide) (by decide) (by decide) ?_
  refine Own.bastore_ V171 (i := 8) rfl (Nat.le_of_ble_eq_true rfl) g_a1 d1_129 (fun h172 W172 V172 => ?_)
  have hn : n0 ≤ h172.size := by rw [W172.size]; exact hn
  clear V171
  replace V172 : Arl Z h172 a1 ka .byte [own_x, own_x, own_x, own_x, own_x, own_x, own_x, own_x, (own_d (um / (10 : Int32))), (own_d (um % (10 : Int32))), own_c, (own_d (us / (10 : Int32))), (own_d (us % (10 : Int32))), own_x, own_x, own_x] := V172
  have K := K.wr W172 (Or.inl (List.mem_of_getElem? (i := 0) rfl))
  refine Own.aloadN d1_130 rfl rfl ?_
  refine Own.iinc (-1 : Int32) #[.val (.int p0), .val (.ref a1), .val (.int (3 : Int32)), .val (.int uh), .val (.int um), .val (.int us), .val (.int (4 : Int32)), .val (.int (13 : Int32)), .val (.int ((8 : Int32) + (-1 : Int32))), .unset] d1_131 rfl rfl rfl ?_
  refine OAt.castL (Ls' := #[.val (.int p0), .val (.ref a1), .val (.int (3 : Int32)), .val (.int uh), .val (.int um), .val (.int us), .val (.int (4 : Int32)), .val (.int (13 : Int32)), .val (.int (7 : Int32)), .unset]) rfl rfl ?_
  refine Own.iload d1_134 rfl ?_
  refine Own.bipush (58 : Int32) d1_136 rfl ?_
  refine Own.bastore_ V172 (i := 7) rfl (Nat.le_of_ble_eq_true rfl) g_a1 d1_138 (fun h173 W173 V173 => ?_)
  have hn : n0 ≤ h173.size := by rw [W173.size]; exact hn
  clear V172
  replace V173 : Arl Z h173 a1 ka .byte [own_x, own_x, own_x, own_x, own_x, own_x, own_x, own_c, (own_d (um / (10 : Int32))), (own_d (um % (10 : Int32))), own_c, (own_d (us / (10 : Int32))), (own_d (us % (10 : Int32))), own_x, own_x, own_x] := V173
  have K := K.wr W173 (Or.inl (List.mem_of_getElem? (i := 0) rfl))
  refine Own.iloadN d1_139 rfl ?_
  refine Own.istore #[.val (.int p0), .val (.ref a1), .val (.int (3 : Int32)), .val (.int uh), .val (.int um), .val (.int us), .val (.int (4 : Int32)), .val (.int (13 : Int32)), .val (.int (7 : Int32)), .val (.int uh)] d1_140 rfl ?_
  refine Own.iload d1_142 rfl ?_
  refine Own.iloadN d1_144 rfl ?_
  refine Own.icmp_le 173 d1_145 (by decide) rfl (fun q => absurd (by decide) q) (fun _ => ?_)
  refine Own.aloadN d1_148 rfl rfl ?_
  refine Own.iinc (-1 : Int32) #[.val (.int p0), .val (.ref a1), .val (.int (3 : Int32)), .val (.int uh), .val (.int um), .val (.int us), .val (.int (4 : Int32)), .val (.int (13 : Int32)), .val (.int ((7 : Int32) + (-1 : Int32))), .val (.int uh)] d1_149 rfl rfl rfl ?_
  refine OAt.castL (Ls' := #[.val (.int p0), .val (.ref a1), .val (.int (3 : Int32)), .val (.int uh), .val (.int um), .val (.int us), .val (.int (4 : Int32)), .val (.int (13 : Int32)), .val (.int (6 : Int32)), .val (.int uh)]) rfl rfl ?_
  refine Own.iload d1_152 rfl ?_
  refine Own.iload d1_154 rfl ?_
  refine Own.bipush (10 : Int32) d1_156 rfl ?_
  refine Own.irem_ d1_158 (by decide) ?_
  refine Own.callSP [(.int (uh % (10 : Int32)))] [(.int (6 : Int32)), (.ref a1)] 2 (rmD l Z a0 hw [] (uh % (10 : Int32)) h173 n0 hn) (hw _ (List.mem_of_getElem? (i := 6) rfl)) (hw _ (List.mem_of_getElem? (i := 7) rfl)) (hw _ (List.mem_of_getElem? (i := 4) rfl)) (hw _ (List.mem_of_getElem? (i := 8) rfl)) (by decide) d1_159 pd_0 rfl rfl rfl rfl (by decide) (by decide) (by decide) (by decide) ?_
  refine Own.bastore_ V173 (i := 6) rfl (Nat.le_of_ble_eq_true rfl) g_a1 d1_162 (fun h174 W174 V174 => ?_)
  have hn : n0 ≤ h174.size := by rw [W174.size]; exact hn
  clear V173
  replace V174 : Arl Z h174 a1 ka .byte [own_x, own_x, own_x, own_x, own_x, own_x, (own_d (uh % (10 : Int32))), own_c, (own_d (um / (10 : Int32))), (own_d (um % (10 : Int32))), own_c, (own_d (us / (10 : Int32))), (own_d (us % (10 : Int32))), own_x, own_x, own_x] := V174
  have K := K.wr W174 (Or.inl (List.mem_of_getElem? (i := 0) rfl))
  refine Own.iload d1_163 rfl ?_
  refine Own.bipush (10 : Int32) d1_165 rfl ?_
  refine Own.idiv d1_167 (by decide) ?_
  refine Own.istore #[.val (.int p0), .val (.ref a1), .val (.int (3 : Int32)), .val (.int uh), .val (.int um), .val (.int us), .val (.int (4 : Int32)), .val (.int (13 : Int32)), .val (.int (6 : Int32)), .val (.int (uh / (10 : Int32)))] d1_168 rfl ?_
  refine Own.goto_ 142 d1_170 (by decide) rfl ?_
  refine Own.iload d1_142 rfl ?_
  refine Own.iloadN d1_144 rfl ?_
  refine Own.icmp_le 173 d1_145 (by decide) rfl (fun q => absurd (by decide) q) (fun _ => ?_)
  refine Own.aloadN d1_148 rfl rfl ?_
  refine Own.iinc (-1 : Int32) #[.val (.int p0), .val (.ref a1), .val (.int (3 : Int32)), .val (.int uh), .val (.int um), .val (.int us), .val (.int (4 : Int32)), .val (.int (13 : Int32)), .val (.int ((6 : Int32) + (-1 : Int32))), .val (.int (uh / (10 : Int32)))] d1_149 rfl rfl rfl ?_
  refine OAt.castL (Ls' := #[.val (.int p0), .val (.ref a1), .val (.int (3 : Int32)), .val (.int uh), .val (.int um), .val (.int us), .val (.int (4 : Int32)), .val (.int (13 : Int32)), .val (.int (5 : Int32)), .val (.int (uh / (10 : Int32)))]) rfl rfl ?_
  refine Own.iload d1_152 rfl ?_
  refine Own.iload d1_154 rfl ?_
  refine Own.bipush (10 : Int32) d1_156 rfl ?_
  refine Own.irem_ d1_158 (by decide) ?_
  refine Own.callSP [(.int ((uh / (10 : Int32)) % (10 : Int32)))] [(.int (5 : Int32)), (.ref a1)] 2 (rmD l Z a0 hw [] ((uh / (10 : Int32)) % (10 : Int32)) h174 n0 hn) (hw _ (List.mem_of_getElem? (i := 6) rfl)) (hw _ (List.mem_of_getElem? (i := 7) rfl)) (hw _ (List.mem_of_getElem? (i := 4) rfl)) (hw _ (List.mem_of_getElem? (i := 8) rfl)) (by decide) d1_159 pd_0 rfl rfl rfl rfl (by decide) (by decide) (by decide) (by decide) ?_
  refine Own.bastore_ V174 (i := 5) rfl (Nat.le_of_ble_eq_true rfl) g_a1 d1_162 (fun h175 W175 V175 => ?_)
  have hn : n0 ≤ h175.size := by rw [W175.size]; exact hn
  clear V174
  replace V175 : Arl Z h175 a1 ka .byte [own_x, own_x, own_x, own_x, own_x, (own_d ((uh / (10 : Int32)) % (10 : Int32))), (own_d (uh % (10 : Int32))), own_c, (own_d (um / (10 : Int32))), (own_d (um % (10 : Int32))), own_c, (own_d (us / (10 : Int32))), (own_d (us % (10 : Int32))), own_x, own_x, own_x] := V175
  have K := K.wr W175 (Or.inl (List.mem_of_getElem? (i := 0) rfl))
  refine Own.iload d1_163 rfl ?_
  refine Own.bipush (10 : Int32) d1_165 rfl ?_
  refine Own.idiv d1_167 (by decide) ?_
  refine Own.istore #[.val (.int p0), .val (.ref a1), .val (.int (3 : Int32)), .val (.int uh), .val (.int um), .val (.int us), .val (.int (4 : Int32)), .val (.int (13 : Int32)), .val (.int (5 : Int32)), .val (.int ((uh / (10 : Int32)) / (10 : Int32)))] d1_168 rfl ?_
  refine Own.goto_ 142 d1_170 (by decide) rfl ?_
  refine Own.iload d1_142 rfl ?_
  refine Own.iloadN d1_144 rfl ?_
  refine Own.icmp_le 173 d1_145 (by decide) rfl (fun q => absurd (by decide) q) (fun _ => ?_)
  refine Own.aloadN d1_148 rfl rfl ?_
  refine Own.iinc (-1 : Int32) #[.val (.int p0), .val (.ref a1), .val (.int (3 : Int32)), .val (.int uh), .val (.int um), .val (.int us), .val (.int (4 : Int32)), .val (.int (13 : Int32)), .val (.int ((5 : Int32) + (-1 : Int32))), .val (.int ((uh / (10 : Int32)) / (10 : Int32)))] d1_149 rfl rfl rfl ?_
  refine OAt.castL (Ls' := #[.val (.int p0), .val (.ref a1), .val (.int (3 : Int32)), .val (.int uh), .val (.int um), .val (.int us), .val (.int (4 : Int32)), .val (.int (13 : Int32)), .val (.int (4 : Int32)), .val (.int ((uh / (10 : Int32)) / (10 : Int32)))]) rfl rfl ?_
  refine Own.iload d1_152 rfl ?_
  refine Own.iload d1_154 rfl ?_
  refine Own.bipush (10 : Int32) d1_156 rfl ?_
  refine Own.irem_ d1_158 (by decide) ?_
  refine Own.callSP [(.int (((uh / (10 : Int32)) / (10 : Int32)) % (10 : Int32)))] [(.int (4 : Int32)), (.ref a1)] 2 (rmD l Z a0 hw [] (((uh / (10 : Int32)) / (10 : Int32)) % (10 : Int32)) h175 n0 hn) (hw _ (List.mem_of_getElem? (i := 6) rfl)) (hw _ (List.mem_of_getElem? (i := 7) rfl)) (hw _ (List.mem_of_getElem? (i := 4) rfl)) (hw _ (List.mem_of_getElem? (i := 8) rfl)) (by decide) d1_159 pd_0 rfl rfl rfl rfl (by decide) (by decide) (by decide) (by decide) ?_
  refine Own.bastore_ V175 (i := 4) rfl (Nat.le_of_ble_eq_true rfl) g_a1 d1_162 (fun h176 W176 V176 => ?_)
  have hn : n0 ≤ h176.size := by rw [W176.size]; exact hn
  clear V175
  replace V176 : Arl Z h176 a1 ka .byte [own_x, own_x, own_x, own_x, (own_d (((uh / (10 : Int32)) / (10 : Int32)) % (10 : Int32))), (own_d ((uh / (10 : Int32)) % (10 : Int32))), (own_d (uh % (10 : Int32))), own_c, (own_d (um / (10 : Int32))), (own_d (um % (10 : Int32))), own_c, (own_d (us / (10 : Int32))), (own_d (us % (10 : Int32))), own_x, own_x, own_x] := V176
  have K := K.wr W176 (Or.inl (List.mem_of_getElem? (i := 0) rfl))
  refine Own.iload d1_163 rfl ?_
  refine Own.bipush (10 : Int32) d1_165 rfl ?_
  refine Own.idiv d1_167 (by decide) ?_
  refine Own.istore #[.val (.int p0), .val (.ref a1), .val (.int (3 : Int32)), .val (.int uh), .val (.int um), .val (.int us), .val (.int (4 : Int32)), .val (.int (13 : Int32)), .val (.int (4 : Int32)), .val (.int (((uh / (10 : Int32)) / (10 : Int32)) / (10 : Int32)))] d1_168 rfl ?_
  refine Own.goto_ 142 d1_170 (by decide) rfl ?_
  refine Own.iload d1_142 rfl ?_
  refine Own.iloadN d1_144 rfl ?_
  refine Own.icmp_le 173 d1_145 (by decide) rfl (fun q => absurd (by decide) q) (fun _ => ?_)
  refine Own.aloadN d1_148 rfl rfl ?_
  refine Own.iinc (-1 : Int32) #[.val (.int p0), .val (.ref a1), .val (.int (3 : Int32)), .val (.int uh), .val (.int um), .val (.int us), .val (.int (4 : Int32)), .val (.int (13 : Int32)), .val (.int ((4 : Int32) + (-1 : Int32))), .val (.int (((uh / (10 : Int32)) / (10 : Int32)) / (10 : Int32)))] d1_149 rfl rfl rfl ?_
  refine OAt.castL (Ls' := #[.val (.int p0), .val (.ref a1), .val (.int (3 : Int32)), .val (.int uh), .val (.int um), .val (.int us), .val (.int (4 : Int32)), .val (.int (13 : Int32)), .val (.int (3 : Int32)), .val (.int (((uh / (10 : Int32)) / (10 : Int32)) / (10 : Int32)))]) rfl rfl ?_
  refine Own.iload d1_152 rfl ?_
  refine Own.iload d1_154 rfl ?_
  refine Own.bipush (10 : Int32) d1_156 rfl ?_
  refine Own.irem_ d1_158 (by decide) ?_
  refine Own.callSP [(.int ((((uh / (10 : Int32)) / (10 : Int32)) / (10 : Int32)) % (10 : Int32)))] [(.int (3 : Int32)), (.ref a1)] 2 (rmD l Z a0 hw [] ((((uh / (10 : Int32)) / (10 : Int32)) / (10 : Int32)) % (10 : Int32)) h176 n0 hn) (hw _ (List.mem_of_getElem? (i := 6) rfl)) (hw _ (List.mem_of_getElem? (i := 7) rfl)) (hw _ (List.mem_of_getElem? (i := 4) rfl)) (hw _ (List.mem_of_getElem? (i := 8) rfl)) (by decide) d1_159 pd_0 rfl rfl rfl rfl (by decide) (by decide) (by decide) (by decide) ?_
  refine Own.bastore_ V176 (i := 3) rfl (Nat.le_of_ble_eq_true rfl) g_a1 d1_162 (fun h177 W177 V177 => ?_)
  have hn : n0 ≤ h177.size := by rw [W177.size]; exact hn
  clear V176
  replace V177 : Arl Z h177 a1 ka .byte [own_x, own_x, own_x, (own_d ((((uh / (10 : Int32)) / (10 : Int32)) / (10 : Int32)) % (10 : Int32))), (own_d (((uh / (10 : Int32)) / (10 : Int32)) % (10 : Int32))), (own_d ((uh / (10 : Int32)) % (10 : Int32))), (own_d (uh % (10 : Int32))), own_c, (own_d (um / (10 : Int32))), (own_d (um % (10 : Int32))), own_c, (own_d (us / (10 : Int32))), (own_d (us % (10 : Int32))), own_x, own_x, own_x] := V177
  have K := K.wr W177 (Or.inl (List.mem_of_getElem? (i := 0) rfl))
  refine Own.iload d1_163 rfl ?_
  refine Own.bipush (10 : Int32) d1_165 rfl ?_
  refine Own.idiv d1_167 (by decide) ?_
  refine Own.istore #[.val (.int p0), .val (.ref a1), .val (.int (3 : Int32)), .val (.int uh), .val (.int um), .val (.int us), .val (.int (4 : Int32)), .val (.int (13 : Int32)), .val (.int (3 : Int32)), .val (.int ((((uh / (10 : Int32)) / (10 : Int32)) / (10 : Int32)) / (10 : Int32)))] d1_168 rfl ?_
  refine Own.goto_ 142 d1_170 (by decide) rfl ?_
  refine Own.iload d1_142 rfl ?_
  refine Own.iloadN d1_144 rfl ?_
  refine Own.icmp_le 173 d1_145 (by decide) rfl (fun _ => ?_) (fun q => absurd q (by decide))
  refine Own.iload d1_173 rfl ?_
  refine Own.ret_int rfl d1_175 (by decide) (by decide) ?_
  exact ⟨rfl, K, V177⟩
def Q_rmF_3_5 (Z : State) (a1 : Addr) (ka : ClassId) (uh : Int32) (um : Int32) (us : Int32) (h0 : Heap) (n0 : Nat) (v : Option Value) (h : Heap) : Prop := v = some (.int (14 : Int32)) ∧ Keep h0 h [a1] ∧ Arl Z h a1 ka .byte [own_x, own_x, own_x, (own_d (((((uh / (10 : Int32)) / (10 : Int32)) / (10 : Int32)) / (10 : Int32)) % (10 : Int32))), (own_d ((((uh / (10 : Int32)) / (10 : Int32)) / (10 : Int32)) % (10 : Int32))), (own_d (((uh / (10 : Int32)) / (10 : Int32)) % (10 : Int32))), (own_d ((uh / (10 : Int32)) % (10 : Int32))), (own_d (uh % (10 : Int32))), own_c, (own_d (um / (10 : Int32))), (own_d (um % (10 : Int32))), own_c, (own_d (us / (10 : Int32))), (own_d (us % (10 : Int32))), own_x, own_x]
theorem ef_rmF_3_5 (m : MethodId) (p0 : Int32) (a1 : Addr)  : entryFrame m #[(.int p0), (.ref a1), (.int (3 : Int32))] 10 = mkF m 0 #[.val (.int p0), .val (.ref a1), .val (.int (3 : Int32)), .unset, .unset, .unset, .unset, .unset, .unset, .unset] [] := by first | (simp [entryFrame, mkF, argsToLocals, Value.category]; done) | rfl
set_option maxRecDepth 65536 in
set_option maxHeartbeats 40000000 in
theorem rmF_3_5 (l : Launch) (Z : State) (a0 : Array Value) (hw : ∀ d ∈ tables_1, d.before a0 Z = true) (ws : List Jvm.Cond) (p0 : Int32) (a1 : Addr) (ka : ClassId) (uh : Int32) (um : Int32) (us : Int32) (h0 : Heap) (n0 : Nat) (hn : n0 ≤ h0.size) (V_a1 : Arl Z h0 a1 ka .byte [own_x, own_x, own_x, own_x, own_x, own_x, own_x, own_x, own_x, own_x, own_x, own_x, own_x, own_x, own_x, own_x]) (g_a1 : n0 ≤ a1) (e_h : p0 / (3600 : Int32) = uh) (e_m : (p0 / (60 : Int32)) % (60 : Int32) = um) (e_s : p0 % (60 : Int32) = us) (hl : 10000 ≤ uh.toInt) (hu : uh.toInt < 100000) :
    Met false l Z (⟨"com/example/voznired/voznired/timetable/StopTime", "formatTime", "(I[BI)I"⟩ : MethodName) prog_118_method_10_code 10 (some .int) ({ frames := 1, cells := 0, slots := 0, locals := 14 } : Room) ws #[(.int p0), (.ref a1), (.int (3 : Int32))] h0 n0 (Q_rmF_3_5 Z a1 ka uh um us h0 n0) := by
  refine Met.of pn_1 (fun m => ef_rmF_3_5 m p0 a1) ?_
  have K := Keep.refl h0 [a1]
  refine Own.iloadN d1_0 rfl ?_
  refine Own.sipush (3600 : Int32) d1_1 rfl ?_
  refine Own.idiv d1_4 (by decide) ?_
  rw [e_h]
  refine Own.istoreN #[.val (.int p0), .val (.ref a1), .val (.int (3 : Int32)), .val (.int uh), .unset, .unset, .unset, .unset, .unset, .unset] d1_5 rfl ?_
  refine Own.iloadN d1_6 rfl ?_
  refine Own.bipush (60 : Int32) d1_7 rfl ?_
  refine Own.idiv d1_9 (by decide) ?_
  refine Own.bipush (60 : Int32) d1_10 rfl ?_
  refine Own.irem_ d1_12 (by decide) ?_
  rw [e_m]
  refine Own.istore #[.val (.int p0), .val (.ref a1), .val (.int (3 : Int32)), .val (.int uh), .val (.int um), .unset, .unset, .unset, .unset, .unset] d1_13 rfl ?_
  refine Own.iloadN d1_15 rfl ?_
  refine Own.bipush (60 : Int32) d1_16 rfl ?_
  refine Own.irem_ d1_18 (by decide) ?_
  rw [e_s]
  refine Own.istore #[.val (.int p0), .val (.ref a1), .val (.int (3 : Int32)), .val (.int uh), .val (.int um), .val (.int us), .unset, .unset, .unset, .unset] d1_19 rfl ?_
  refine Own.iconst (2 : Int32) d1_21 rfl ?_
  refine Own.istore #[.val (.int p0), .val (.ref a1), .val (.int (3 : Int32)), .val (.int uh), .val (.int um), .val (.int us), .val (.int (2 : Int32)), .unset, .unset, .unset] d1_22 rfl ?_
  refine Own.iloadN d1_24 rfl ?_
  refine Own.bipush (100 : Int32) d1_25 rfl ?_
  refine Own.idiv d1_27 (by decide) ?_
  obtain ⟨ur0, e_ur0⟩ : ∃ z : Int32, z = (uh / (100 : Int32)) := ⟨_, rfl⟩
  rw [← e_ur0]
  have r_ur0 : ur0.toInt = uh.toInt / 100 := by
    rw [e_ur0]; exact own_div 100 rfl (by omega) (by omega)
  refine Own.istore #[.val (.int p0), .val (.ref a1), .val (.int (3 : Int32)), .val (.int uh), .val (.int um), .val (.int us), .val (.int (2 : Int32)), .val (.int ur0), .unset, .unset] d1_28 rfl ?_
  refine Own.iload d1_30 rfl ?_
  refine Own.if_le 48 d1_32 (by decide) rfl (fun q => absurd (by simp only [Int32.lt_iff_toInt_lt, Int32.reduceToInt]; omega) q) (fun _ => ?_)
  refine Own.iinc (1 : Int32) #[.val (.int p0), .val (.ref a1), .val (.int (3 : Int32)), .val (.int uh), .val (.int um), .val (.int us), .val (.int ((2 : Int32) + (1 : Int32))), .val (.int ur0), .unset, .unset] d1_35 rfl rfl rfl ?_
  refine OAt.castL (Ls' := #[.val (.int p0), .val (.ref a1), .val (.int (3 : Int32)), .val (.int uh), .val (.int um), .val (.int us), .val (.int (3 : Int32)), .val (.int ur0), .unset, .unset]) rfl rfl ?_
  refine Own.iload d1_38 rfl ?_
  refine Own.bipush (10 : Int32) d1_40 rfl ?_
  refine Own.idiv d1_42 (by decide) ?_
  obtain ⟨ur1, e_ur1⟩ : ∃ z : Int32, z = (ur0 / (10 : Int32)) := ⟨_, rfl⟩
  rw [← e_ur1]
  have r_ur1 : ur1.toInt = ur0.toInt / 10 := by
    rw [e_ur1]; rw [own_div 10 rfl (by omega) (by omega)]
  refine Own.istore #[.val (.int p0), .val (.ref a1), .val (.int (3 : Int32)), .val (.int uh), .val (.int um), .val (.int us), .val (.int (3 : Int32)), .val (.int ur1), .unset, .unset] d1_43 rfl ?_
  refine Own.goto_ 30 d1_45 (by decide) rfl ?_
  refine Own.iload d1_30 rfl ?_
  refine Own.if_le 48 d1_32 (by decide) rfl (fun q => absurd (by simp only [Int32.lt_iff_toInt_lt, Int32.reduceToInt]; omega) q) (fun _ => ?_)
  refine Own.iinc (1 : Int32) #[.val (.int p0), .val (.ref a1), .val (.int (3 : Int32)), .val (.int uh), .val (.int um), .val (.int us), .val (.int ((3 : Int32) + (1 : Int32))), .val (.int ur1), .unset, .unset] d1_35 rfl rfl rfl ?_
  refine OAt.castL (Ls' := #[.val (.int p0), .val (.ref a1), .val (.int (3 : Int32)), .val (.int uh), .val (.int um), .val (.int us), .val (.int (4 : Int32)), .val (.int ur1), .unset, .unset]) rfl rfl ?_
  refine Own.iload d1_38 rfl ?_
  refine Own.bipush (10 : Int32) d1_40 rfl ?_
  refine Own.idiv d1_42 (by decide) ?_
  obtain ⟨ur2, e_ur2⟩ : ∃ z : Int32, z = (ur1 / (10 : Int32)) := ⟨_, rfl⟩
  rw [← e_ur2]
  have r_ur2 : ur2.toInt = ur1.toInt / 10 := by
    rw [e_ur2]; rw [own_div 10 rfl (by omega) (by omega)]
  refine Own.istore #[.val (.int p0), .val (.ref a1), .val (.int (3 : Int32)), .val (.int uh), .val (.int um), .val (.int us), .val (.int (4 : Int32)), .val (.int ur2), .unset, .unset] d1_43 rfl ?_
  refine Own.goto_ 30 d1_45 (by decide) rfl ?_
  refine Own.iload d1_30 rfl ?_
  refine Own.if_le 48 d1_32 (by decide) rfl (fun q => absurd (by simp only [Int32.lt_iff_toInt_lt, Int32.reduceToInt]; omega) q) (fun _ => ?_)
  refine Own.iinc (1 : Int32) #[.val (.int p0), .val (.ref a1), .val (.int (3 : Int32)), .val (.int uh), .val (.int um), .val (.int us), .val (.int ((4 : Int32) + (1 : Int32))), .val (.int ur2), .unset, .unset] d1_35 rfl rfl rfl ?_
  refine OAt.castL (Ls' := #[.val (.int p0), .val (.ref a1), .val (.int (3 : Int32)), .val (.int uh), .val (.int um), .val (.int us), .val (.int (5 : Int32)), .val (.int ur2), .unset, .unset]) rfl rfl ?_
  refine Own.iload d1_38 rfl ?_
  refine Own.bipush (10 : Int32) d1_40 rfl ?_
  refine Own.idiv d1_42 (by decide) ?_
  obtain ⟨ur3, e_ur3⟩ : ∃ z : Int32, z = (ur2 / (10 : Int32)) := ⟨_, rfl⟩
  rw [← e_ur3]
  have r_ur3 : ur3.toInt = ur2.toInt / 10 := by
    rw [e_ur3]; rw [own_div 10 rfl (by omega) (by omega)]
  refine Own.istore #[.val (.int p0), .val (.ref a1), .val (.int (3 : Int32)), .val (.int uh), .val (.int um), .val (.int us), .val (.int (5 : Int32)), .val (.int ur3), .unset, .unset] d1_43 rfl ?_
  refine Own.goto_ 30 d1_45 (by decide) rfl ?_
  refine Own.iload d1_30 rfl ?_
  refine Own.if_le 48 d1_32 (by decide) rfl (fun _ => ?_) (fun q => absurd q (by simp only [Int32.lt_iff_toInt_lt, Int32.reduceToInt]; omega))
  refine Own.iloadN d1_48 rfl ?_
  refine Own.iload d1_49 rfl ?_
  refine Own.iadd d1_51 ?_
  refine OAt.cast (st' := [(.int (8 : Int32))]) rfl ?_
  refine Own.bipush (6 : Int32) d1_52 rfl ?_
  refine Own.iadd d1_54 ?_
  refine OAt.cast (st' := [(.int (14 : Int32))]) rfl ?_
  refine Own.istore #[.val (.int p0), .val (.ref a1), .val (.int (3 : Int32)), .val (.int uh), .val (.int um), .val (.int us), .val (.int (5 : Int32)), .val (.int (14 : Int32)), .unset, .unset] d1_55 rfl ?_
  refine Own.iload d1_57 rfl ?_
  refine Own.istore #[.val (.int p0), .val (.ref a1), .val (.int (3 : Int32)), .val (.int uh), .val (.int um), .val (.int us), .val (.int (5 : Int32)), .val (.int (14 : Int32)), .val (.int (14 : Int32)), .unset] d1_59 rfl ?_
  refine Own.aloadN d1_61 rfl rfl ?_
  refine Own.iinc (-1 : Int32) #[.val (.int p0), .val (.ref a1), .val (.int (3 : Int32)), .val (.int uh), .val (.int um), .val (.int us), .val (.int (5 : Int32)), .val (.int (14 : Int32)), .val (.int ((14 : Int32) + (-1 : Int32))), .unset] d1_62 rfl rfl rfl ?_
  refine OAt.castL (Ls' := #[.val (.int p0), .val (.ref a1), .val (.int (3 : Int32)), .val (.int uh), .val (.int um), .val (.int us), .val (.int (5 : Int32)), .val (.int (14 : Int32)), .val (.int (13 : Int32)), .unset]) rfl rfl ?_
  refine Own.iload d1_65 rfl ?_
  refine Own.iload d1_67 rfl ?_
  refine Own.bipush (10 : Int32) d1_69 rfl ?_
  refine Own.irem_ d1_71 (by decide) ?_
  refine Own.callSP [(.int (us % (10 : Int32)))] [(.int (13 : Int32)), (.ref a1)] 2 (rmD l Z a0 hw [] (us % (10 : Int32)) h0 n0 hn) (hw _ (List.mem_of_getElem? (i := 6) rfl)) (hw _ (List.mem_of_getElem? (i := 7) rfl)) (hw _ (List.mem_of_getElem? (i := 4) rfl)) (hw _ (List.mem_of_getElem? (i := 8) rfl)) (by decide) d1_72 pd_0 rfl rfl rfl rfl (by decide) (by decide) (by decide) (by decide) ?_
  refine Own.bastore_ V_a1 (i := 13) rfl (Nat.le_of_ble_eq_true rfl) g_a1 d1_75 (fun h178 W178 V178 => ?_)
  have hn : n0 ≤ h178.size := by rw [W178.size]; exact hn
  clear V_a1
  replace V178 : Arl Z h178 a1 ka .byte [own_x, own_x, own_x, own_x, own_x, own_x, own_x, own_x, own_x, own_x, own_x, own_x, own_x, (own_d (us % (10 : Int32))), own_x, own_x] := V178
  have K := K.wr W178 (Or.inl (List.mem_of_getElem? (i := 0) rfl))
  refine Own.aloadN d1_76 rfl rfl ?_
  refine Own.iinc (-1 : Int32) #[.val (.int p0), .val (.ref a1), .val (.int (3 : Int32)), .val (.int uh), .val (.int um), .val (.int us), .val (.int (5 : Int32)), .val (.int (14 : Int32)), .val (.int ((13 : Int32) + (-1 : Int32))), .unset] d1_77 rfl rfl rfl ?_
  refine OAt.castL (Ls' := #[.val (.int p0), .val (.ref a1), .val (.int (3 : Int32)), .val (.int uh), .val (.int um), .val (.int us), .val (.int (5 : Int32)), .val (.int (14 : Int32)), .val (.int (12 : Int32)), .unset]) rfl rfl ?_
  refine Own.iload d1_80 rfl ?_
  refine Own.iload d1_82 rfl ?_
  refine Own.bipush (10 : Int32) d1_84 rfl ?_
  refine Own.idiv d1_86 (by decide) ?_
  refine Own.callSP [(.int (us / (10 : Int32)))] [(.int (12 : Int32)), (.ref a1)] 2 (rmD l Z a0 hw [] (us / (10 : Int32)) h178 n0 hn) (hw _ (List.mem_of_getElem? (i := 6) rfl)) (hw _ (List.mem_of_getElem? (i := 7) rfl)) (hw _ (List.mem_of_getElem? (i := 4) rfl)) (hw _ (List.mem_of_getElem? (i := 8) rfl)) (by decide) d1_87 pd_0 rfl rfl rfl rfl (by decide) (by decide) (by decide) (by decide) ?_
  refine Own.bastore_ V178 (i := 12) rfl (Nat.le_of_ble_eq_true rfl) g_a1 d1_90 (fun h179 W179 V179 => ?_)
  have hn : n0 ≤ h179.size := by rw [W179.size]; exact hn
  clear V178
  replace V179 : Arl Z h179 a1 ka .byte [own_x, own_x, own_x, own_x, own_x, own_x, own_x, own_x, own_x, own_x, own_x, own_x, (own_d (us / (10 : Int32))), (own_d (us % (10 : Int32))), own_x, own_x] := V179
  have K := K.wr W179 (Or.inl (List.mem_of_getElem? (i := 0) rfl))
  refine Own.aloadN d1_91 rfl rfl ?_
  refine Own.iinc (-1 : Int32) #[.val (.int p0), .val (.ref a1), .val (.int (3 : Int32)), .val (.int uh), .val (.int um), .val (.int us), .val (.int (5 : Int32)), .val (.int (14 : Int32)), .val (.int ((12 : Int32) + (-1 : Int32))), .unset] d1_92 rfl rfl rfl ?_
  refine OAt.castL (Ls' := #[.val (.int p0), .val (.ref a1), .val (.int (3 : Int32)), .val (.int uh), .val (.int um), .val (.int us), .val (.int (5 : Int32)), .val (.int (14 : Int32)), .val (.int (11 : Int32)), .unset]) rfl rfl ?_
  refine Own.iload d1_95 rfl ?_
  refine Own.bipush (58 : Int32) d1_97 rfl ?_
  refine Own.bastore_ V179 (i := 11) rfl (Nat.le_of_ble_eq_true rfl) g_a1 d1_99 (fun h180 W180 V180 => ?_)
  have hn : n0 ≤ h180.size := by rw [W180.size]; exact hn
  clear V179
  replace V180 : Arl Z h180 a1 ka .byte [own_x, own_x, own_x, own_x, own_x, own_x, own_x, own_x, own_x, own_x, own_x, own_c, (own_d (us / (10 : Int32))), (own_d (us % (10 : Int32))), own_x, own_x] := V180
  have K := K.wr W180 (Or.inl (List.mem_of_getElem? (i := 0) rfl))
  refine Own.aloadN d1_100 rfl rfl ?_
  refine Own.iinc (-1 : Int32) #[.val (.int p0), .val (.ref a1), .val (.int (3 : Int32)), .val (.int uh), .val (.int um), .val (.int us), .val (.int (5 : Int32)), .val (.int (14 : Int32)), .val (.int ((11 : Int32) + (-1 : Int32))), .unset] d1_101 rfl rfl rfl ?_
  refine OAt.castL (Ls' := #[.val (.int p0), .val (.ref a1), .val (.int (3 : Int32)), .val (.int uh), .val (.int um), .val (.int us), .val (.int (5 : Int32)), .val (.int (14 : Int32)), .val (.int (10 : Int32)), .unset]) rfl rfl ?_
  refine Own.iload d1_104 rfl ?_
  refine Own.iload d1_106 rfl ?_
  refine Own.bipush (10 : Int32) d1_108 rfl ?_
  refine Own.irem_ d1_110 (by decide) ?_
  refine Own.callSP [(.int (um % (10 : Int32)))] [(.int (10 : Int32)), (.ref a1)] 2 (rmD l Z a0 hw [] (um % (10 : Int32)) h180 n0 hn) (hw _ (List.mem_of_getElem? (i := 6) rfl)) (hw _ (List.mem_of_getElem? (i := 7) rfl)) (hw _ (List.mem_of_getElem? (i := 4) rfl)) (hw _ (List.mem_of_getElem? (i := 8) rfl)) (by decide) d1_111 pd_0 rfl rfl rfl rfl (by decide) (by decide) (by decide) (by decide) ?_
  refine Own.bastore_ V180 (i := 10) rfl (Nat.le_of_ble_eq_true rfl) g_a1 d1_114 (fun h181 W181 V181 => ?_)
  have hn : n0 ≤ h181.size := by rw [W181.size]; exact hn
  clear V180
  replace V181 : Arl Z h181 a1 ka .byte [own_x, own_x, own_x, own_x, own_x, own_x, own_x, own_x, own_x, own_x, (own_d (um % (10 : Int32))), own_c, (own_d (us / (10 : Int32))), (own_d (us % (10 : Int32))), own_x, own_x] := V181
  have K := K.wr W181 (Or.inl (List.mem_of_getElem? (i := 0) rfl))
  refine Own.aloadN d1_115 rfl rfl ?_
  refine Own.iinc (-1 : Int32) #[.val (.int p0), .val (.ref a1), .val (.int (3 : Int32)), .val (.int uh), .val (.int um), .val (.int us), .val (.int (5 : Int32)), .val (.int (14 : Int32)), .val (.int ((10 : Int32) + (-1 : Int32))), .unset] d1_116 rfl rfl rfl ?_
  refine OAt.castL (Ls' := #[.val (.int p0), .val (.ref a1), .val (.int (3 : Int32)), .val (.int uh), .val (.int um), .val (.int us), .val (.int (5 : Int32)), .val (.int (14 : Int32)), .val (.int (9 : Int32)), .unset]) rfl rfl ?_
  refine Own.iload d1_119 rfl ?_
  refine Own.iload d1_121 rfl ?_
  refine Own.bipush (10 : Int32) d1_123 rfl ?_
  refine Own.idiv d1_125 (by decide) ?_
  refine Own.callSP [(.int (um / (10 : Int32)))] [(.int (9 : Int32)), (.ref a1)] 2 (rmD l Z a0 hw [] (um / (10 : Int32)) h181 n0 hn) (hw _ (List.mem_of_getElem? (i := 6) rfl)) (hw _ (List.mem_of_getElem? (i := 7) rfl)) (hw _ (List.mem_of_getElem? (i := 4) rfl)) (hw _ (List.mem_of_getElem? (i := 8) rfl)) (by decide) d1_126 pd_0 rfl rfl rfl rfl (by decide) (by decide) (by decide) (by decide) ?_
  refine Own.bastore_ V181 (i := 9) rfl (Nat.le_of_ble_eq_true rfl) g_a1 d1_129 (fun h182 W182 V182 => ?_)
  have hn : n0 ≤ h182.size := by rw [W182.size]; exact hn
  clear V181
  replace V182 : Arl Z h182 a1 ka .byte [own_x, own_x, own_x, own_x, own_x, own_x, own_x, own_x, own_x, (own_d (um / (10 : Int32))), (own_d (um % (10 : Int32))), own_c, (own_d (us / (10 : Int32))), (own_d (us % (10 : Int32))), own_x, own_x] := V182
  have K := K.wr W182 (Or.inl (List.mem_of_getElem? (i := 0) rfl))
  refine Own.aloadN d1_130 rfl rfl ?_
  refine Own.iinc (-1 : Int32) #[.val (.int p0), .val (.ref a1), .val (.int (3 : Int32)), .val (.int uh), .val (.int um), .val (.int us), .val (.int (5 : Int32)), .val (.int (14 : Int32)), .val (.int ((9 : Int32) + (-1 : Int32))), .unset] d1_131 rfl rfl rfl ?_
  refine OAt.castL (Ls' := #[.val (.int p0), .val (.ref a1), .val (.int (3 : Int32)), .val (.int uh), .val (.int um), .val (.int us), .val (.int (5 : Int32)), .val (.int (14 : Int32)), .val (.int (8 : Int32)), .unset]) rfl rfl ?_
  refine Own.iload d1_134 rfl ?_
  refine Own.bipush (58 : Int32) d1_136 rfl ?_
  refine Own.bastore_ V182 (i := 8) rfl (Nat.le_of_ble_eq_true rfl) g_a1 d1_138 (fun h183 W183 V183 => ?_)
  have hn : n0 ≤ h183.size := by rw [W183.size]; exact hn
  clear V182
  replace V183 : Arl Z h183 a1 ka .byte [own_x, own_x, own_x, own_x, own_x, own_x, own_x, own_x, own_c, (own_d (um / (10 : Int32))), (own_d (um % (10 : Int32))), own_c, (own_d (us / (10 : Int32))), (own_d (us % (10 : Int32))), own_x, own_x] := V183
  have K := K.wr W183 (Or.inl (List.mem_of_getElem? (i := 0) rfl))
  refine Own.iloadN d1_139 rfl ?_
  refine Own.istore #[.val (.int p0), .val (.ref a1), .val (.int (3 : Int32)), .val (.int uh), .val (.int um), .val (.int us), .val (.int (5 : Int32)), .val (.int (14 : Int32)), .val (.int (8 : Int32)), .val (.int uh)] d1_140 rfl ?_
  refine Own.iload d1_142 rfl ?_
  refine Own.iloadN d1_144 rfl ?_
  refine Own.icmp_le 173 d1_145 (by decide) rfl (fun q => absurd (by decide) q) (fun _ => ?_)
  refine Own.aloadN d1_148 rfl rfl ?_
  refine Own.iinc (-1 : Int32) #[.val (.int p0), .val (.ref a1), .val (.int (3 : Int32)), .val (.int uh), .val (.int um), .val (.int us), .val (.int (5 : Int32)), .val (.int (14 : Int32)), .val (.int ((8 : Int32) + (-1 : Int32))), .val (.int uh)] d1_149 rfl rfl rfl ?_
  refine OAt.castL (Ls' := #[.val (.int p0), .val (.ref a1), .val (.int (3 : Int32)), .val (.int uh), .val (.int um), .val (.int us), .val (.int (5 : Int32)), .val (.int (14 : Int32)), .val (.int (7 : Int32)), .val (.int uh)]) rfl rfl ?_
  refine Own.iload d1_152 rfl ?_
  refine Own.iload d1_154 rfl ?_
  refine Own.bipush (10 : Int32) d1_156 rfl ?_
  refine Own.irem_ d1_158 (by decide) ?_
  refine Own.callSP [(.int (uh % (10 : Int32)))] [(.int (7 : Int32)), (.ref a1)] 2 (rmD l Z a0 hw [] (uh % (10 : Int32)) h183 n0 hn) (hw _ (List.mem_of_getElem? (i := 6) rfl)) (hw _ (List.mem_of_getElem? (i := 7) rfl)) (hw _ (List.mem_of_getElem? (i := 4) rfl)) (hw _ (List.mem_of_getElem? (i := 8) rfl)) (by decide) d1_159 pd_0 rfl rfl rfl rfl (by decide) (by decide) (by decide) (by decide) ?_
  refine Own.bastore_ V183 (i := 7) rfl (Nat.le_of_ble_eq_true rfl) g_a1 d1_162 (fun h184 W184 V184 => ?_)
  have hn : n0 ≤ h184.size := by rw [W184.size]; exact hn
  clear V183
  replace V184 : Arl Z h184 a1 ka .byte [own_x, own_x, own_x, own_x, own_x, own_x, own_x, (own_d (uh % (10 : Int32))), own_c, (own_d (um / (10 : Int32))), (own_d (um % (10 : Int32))), own_c, (own_d (us / (10 : Int32))), (own_d (us % (10 : Int32))), own_x, own_x] := V184
  have K := K.wr W184 (Or.inl (List.mem_of_getElem? (i := 0) rfl))
  refine Own.iload d1_163 rfl ?_
  refine Own.bipush (10 : Int32) d1_165 rfl ?_
  refine Own.idiv d1_167 (by decide) ?_
  refine Own.istore #[.val (.int p0), .val (.ref a1), .val (.int (3 : Int32)), .val (.int uh), .val (.int um), .val (.int us), .val (.int (5 : Int32)), .val (.int (14 : Int32)), .val (.int (7 : Int32)), .val (.int (uh / (10 : Int32)))] d1_168 rfl ?_
  refine Own.goto_ 142 d1_170 (by decide) rfl ?_
  refine Own.iload d1_142 rfl ?_
  refine Own.iloadN d1_144 rfl ?_
  refine Own.icmp_le 173 d1_145 (by decide) rfl (fun q => absurd (by decide) q) (fun _ => ?_)
  refine Own.aloadN d1_148 rfl rfl ?_
  refine Own.iinc (-1 : Int32) #[.val (.int p0), .val (.ref a1), .val (.int (3 : Int32)), .val (.int uh), .val (.int um), .val (.int us), .val (.int (5 : Int32)), .val (.int (14 : Int32)), .val (.int ((7 : Int32) + (-1 : Int32))), .val (.int (uh / (10 : Int32)))] d1_149 rfl rfl rfl ?_
  refine OAt.castL (Ls' := #[.val (.int p0), .val (.ref a1), .val (.int (3 : Int32)), .val (.int uh), .val (.int um), .val (.int us), .val (.int (5 : Int32)), .val (.int (14 : Int32)), .val (.int (6 : Int32)), .val (.int (uh / (10 : Int32)))]) rfl rfl ?_
  refine Own.iload d1_152 rfl ?_
  refine Own.iload d1_154 rfl ?_
  refine Own.bipush (10 : Int32) d1_156 rfl ?_
  refine Own.irem_ d1_158 (by decide) ?_
  refine Own.callSP [(.int ((uh / (10 : Int32)) % (10 : Int32)))] [(.int (6 : Int32)), (.ref a1)] 2 (rmD l Z a0 hw [] ((uh / (10 : Int32)) % (10 : Int32)) h184 n0 hn) (hw _ (List.mem_of_getElem? (i := 6) rfl)) (hw _ (List.mem_of_getElem? (i := 7) rfl)) (hw _ (List.mem_of_getElem? (i := 4) rfl)) (hw _ (List.mem_of_getElem? (i := 8) rfl)) (by decide) d1_159 pd_0 rfl rfl rfl rfl (by decide) (by decide) (by decide) (by decide) ?_
  refine Own.bastore_ V184 (i := 6) rfl (Nat.le_of_ble_eq_true rfl) g_a1 d1_162 (fun h185 W185 V185 => ?_)
  have hn : n0 ≤ h185.size := by rw [W185.size]; exact hn
  clear V184
  replace V185 : Arl Z h185 a1 ka .byte [own_x, own_x, own_x, own_x, own_x, own_x, (own_d ((uh / (10 : Int32)) % (10 : Int32))), (own_d (uh % (10 : Int32))), own_c, (own_d (um / (10 : Int32))), (own_d (um % (10 : Int32))), own_c, (own_d (us / (10 : Int32))), (own_d (us % (10 : Int32))), own_x, own_x] := V185
  have K := K.wr W185 (Or.inl (List.mem_of_getElem? (i := 0) rfl))
  refine Own.iload d1_163 rfl ?_
  refine Own.bipush (10 : Int32) d1_165 rfl ?_
  refine Own.idiv d1_167 (by decide) ?_
  refine Own.istore #[.val (.int p0), .val (.ref a1), .val (.int (3 : Int32)), .val (.int uh), .val (.int um), .val (.int us), .val (.int (5 : Int32)), .val (.int (14 : Int32)), .val (.int (6 : Int32)), .val (.int ((uh / (10 : Int32)) / (10 : Int32)))] d1_168 rfl ?_
  refine Own.goto_ 142 d1_170 (by decide) rfl ?_
  refine Own.iload d1_142 rfl ?_
  refine Own.iloadN d1_144 rfl ?_
  refine Own.icmp_le 173 d1_145 (by decide) rfl (fun q => absurd (by decide) q) (fun _ => ?_)
  refine Own.aloadN d1_148 rfl rfl ?_
  refine Own.iinc (-1 : Int32) #[.val (.int p0), .val (.ref a1), .val (.int (3 : Int32)), .val (.int uh), .val (.int um), .val (.int us), .val (.int (5 : Int32)), .val (.int (14 : Int32)), .val (.int ((6 : Int32) + (-1 : Int32))), .val (.int ((uh / (10 : Int32)) / (10 : Int32)))] d1_149 rfl rfl rfl ?_
  refine OAt.castL (Ls' := #[.val (.int p0), .val (.ref a1), .val (.int (3 : Int32)), .val (.int uh), .val (.int um), .val (.int us), .val (.int (5 : Int32)), .val (.int (14 : Int32)), .val (.int (5 : Int32)), .val (.int ((uh / (10 : Int32)) / (10 : Int32)))]) rfl rfl ?_
  refine Own.iload d1_152 rfl ?_
  refine Own.iload d1_154 rfl ?_
  refine Own.bipush (10 : Int32) d1_156 rfl ?_
  refine Own.irem_ d1_158 (by decide) ?_
  refine Own.callSP [(.int (((uh / (10 : Int32)) / (10 : Int32)) % (10 : Int32)))] [(.int (5 : Int32)), (.ref a1)] 2 (rmD l Z a0 hw [] (((uh / (10 : Int32)) / (10 : Int32)) % (10 : Int32)) h185 n0 hn) (hw _ (List.mem_of_getElem? (i := 6) rfl)) (hw _ (List.mem_of_getElem? (i := 7) rfl)) (hw _ (List.mem_of_getElem? (i := 4) rfl)) (hw _ (List.mem_of_getElem? (i := 8) rfl)) (by decide) d1_159 pd_0 rfl rfl rfl rfl (by decide) (by decide) (by decide) (by decide) ?_
  refine Own.bastore_ V185 (i := 5) rfl (Nat.le_of_ble_eq_true rfl) g_a1 d1_162 (fun h186 W186 V186 => ?_)
  have hn : n0 ≤ h186.size := by rw [W186.size]; exact hn
  clear V185
  replace V186 : Arl Z h186 a1 ka .byte [own_x, own_x, own_x, own_x, own_x, (own_d (((uh / (10 : Int32)) / (10 : Int32)) % (10 : Int32))), (own_d ((uh / (10 : Int32)) % (10 : Int32))), (own_d (uh % (10 : Int32))), own_c, (own_d (um / (10 : Int32))), (own_d (um % (10 : Int32))), own_c, (own_d (us / (10 : Int32))), (own_d (us % (10 : Int32))), own_x, own_x] := V186
  have K := K.wr W186 (Or.inl (List.mem_of_getElem? (i := 0) rfl))
  refine Own.iload d1_163 rfl ?_
  refine Own.bipush (10 : Int32) d1_165 rfl ?_
  refine Own.idiv d1_167 (by decide) ?_
  refine Own.istore #[.val (.int p0), .val (.ref a1), .val (.int (3 : Int32)), .val (.int uh), .val (.int um), .val (.int us), .val (.int (5 : Int32)), .val (.int (14 : Int32)), .val (.int (5 : Int32)), .val (.int (((uh / (10 : Int32)) / (10 : Int32)) / (10 : Int32)))] d1_168 rfl ?_
  refine Own.goto_ 142 d1_170 (by decide) rfl ?_
  refine Own.iload d1_142 rfl ?_
  refine Own.iloadN d1_144 rfl ?_
  refine Own.icmp_le 173 d1_145 (by decide) rfl (fun q => absurd (by decide) q) (fun _ => ?_)
  refine Own.aloadN d1_148 rfl rfl ?_
  refine Own.iinc (-1 : Int32) #[.val (.int p0), .val (.ref a1), .val (.int (3 : Int32)), .val (.int uh), .val (.int um), .val (.int us), .val (.int (5 : Int32)), .val (.int (14 : Int32)), .val (.int ((5 : Int32) + (-1 : Int32))), .val (.int (((uh / (10 : Int32)) / (10 : Int32)) / (10 : Int32)))] d1_149 rfl rfl rfl ?_
  refine OAt.castL (Ls' := #[.val (.int p0), .val (.ref a1), .val (.int (3 : Int32)), .val (.int uh), .val (.int um), .val (.int us), .val (.int (5 : Int32)), .val (.int (14 : Int32)), .val (.int (4 : Int32)), .val (.int (((uh / (10 : Int32)) / (10 : Int32)) / (10 : Int32)))]) rfl rfl ?_
  refine Own.iload d1_152 rfl ?_
  refine Own.iload d1_154 rfl ?_
  refine Own.bipush (10 : Int32) d1_156 rfl ?_
  refine Own.irem_ d1_158 (by decide) ?_
  refine Own.callSP [(.int ((((uh / (10 : Int32)) / (10 : Int32)) / (10 : Int32)) % (10 : Int32)))] [(.int (4 : Int32)), (.ref a1)] 2 (rmD l Z a0 hw [] ((((uh / (10 : Int32)) / (10 : Int32)) / (10 : Int32)) % (10 : Int32)) h186 n0 hn) (hw _ (List.mem_of_getElem? (i := 6) rfl)) (hw _ (List.mem_of_getElem? (i := 7) rfl)) (hw _ (List.mem_of_getElem? (i := 4) rfl)) (hw _ (List.mem_of_getElem? (i := 8) rfl)) (by decide) d1_159 pd_0 rfl rfl rfl rfl (by decide) (by decide) (by decide) (by decide) ?_
  refine Own.bastore_ V186 (i := 4) rfl (Nat.le_of_ble_eq_true rfl) g_a1 d1_162 (fun h187 W187 V187 => ?_)
  have hn : n0 ≤ h187.size := by rw [W187.size]; exact hn
  clear V186
  replace V187 : Arl Z h187 a1 ka .byte [own_x, own_x, own_x, own_x, (own_d ((((uh / (10 : Int32)) / (10 : Int32)) / (10 : Int32)) % (10 : Int32))), (own_d (((uh / (10 : Int32)) / (10 : Int32)) % (10 : Int32))), (own_d ((uh / (10 : Int32)) % (10 : Int32))), (own_d (uh % (10 : Int32))), own_c, (own_d (um / (10 : Int32))), (own_d (um % (10 : Int32))), own_c, (own_d (us / (10 : Int32))), (own_d (us % (10 : Int32))), own_x, own_x] := V187
  have K := K.wr W187 (Or.inl (List.mem_of_getElem? (i := 0) rfl))
  refine Own.iload d1_163 rfl ?_
  refine Own.bipush (10 : Int32) d1_165 rfl ?_
  refine Own.idiv d1_167 (by decide) ?_
  refine Own.istore #[.val (.int p0), .val (.ref a1), .val (.int (3 : Int32)), .val (.int uh), .val (.int um), .val (.int us), .val (.int (5 : Int32)), .val (.int (14 : Int32)), .val (.int (4 : Int32)), .val (.int ((((uh / (10 : Int32)) / (10 : Int32)) / (10 : Int32)) / (10 : Int32)))] d1_168 rfl ?_
  refine Own.goto_ 142 d1_170 (by decide) rfl ?_
  refine Own.iload d1_142 rfl ?_
  refine Own.iloadN d1_144 rfl ?_
  refine Own.icmp_le 173 d1_145 (by decide) rfl (fun q => absurd (by decide) q) (fun _ => ?_)
  refine Own.aloadN d1_148 rfl rfl ?_
  refine Own.iinc (-1 : Int32) #[.val (.int p0), .val (.ref a1), .val (.int (3 : Int32)), .val (.int uh), .val (.int um), .val (.int us), .val (.int (5 : Int32)), .val (.int (14 : Int32)), .val (.int ((4 : Int32) + (-1 : Int32))), .val (.int ((((uh / (10 : Int32)) / (10 : Int32)) / (10 : Int32)) / (10 : Int32)))] d1_149 rfl rfl rfl ?_
  refine OAt.castL (Ls' := #[.val (.int p0), .val (.ref a1), .val (.int (3 : Int32)), .val (.int uh), .val (.int um), .val (.int us), .val (.int (5 : Int32)), .val (.int (14 : Int32)), .val (.int (3 : Int32)), .val (.int ((((uh / (10 : Int32)) / (10 : Int32)) / (10 : Int32)) / (10 : Int32)))]) rfl rfl ?_
  refine Own.iload d1_152 rfl ?_
  refine Own.iload d1_154 rfl ?_
  refine Own.bipush (10 : Int32) d1_156 rfl ?_
  refine Own.irem_ d1_158 (by decide) ?_
  refine Own.callSP [(.int (((((uh / (10 : Int32)) / (10 : Int32)) / (10 : Int32)) / (10 : Int32)) % (10 : Int32)))] [(.int (3 : Int32)), (.ref a1)] 2 (rmD l Z a0 hw [] (((((uh / (10 : Int32)) / (10 : Int32)) / (10 : Int32)) / (10 : Int32)) % (10 : Int32)) h187 n0 hn) (hw _ (List.mem_of_getElem? (i := 6) rfl)) (hw _ (List.mem_of_getElem? (i := 7) rfl)) (hw _ (List.mem_of_getElem? (i := 4) rfl)) (hw _ (List.mem_of_getElem? (i := 8) rfl)) (by decide) d1_159 pd_0 rfl rfl rfl rfl (by decide) (by decide) (by decide) (by decide) ?_
  refine Own.bastore_ V187 (i := 3) rfl (Nat.le_of_ble_eq_true rfl) g_a1 d1_162 (fun h188 W188 V188 => ?_)
  have hn : n0 ≤ h188.size := by rw [W188.size]; exact hn
  clear V187
  replace V188 : Arl Z h188 a1 ka .byte [own_x, own_x, own_x, (own_d (((((uh / (10 : Int32)) / (10 : Int32)) / (10 : Int32)) / (10 : Int32)) % (10 : Int32))), (own_d ((((uh / (10 : Int32)) / (10 : Int32)) / (10 : Int32)) % (10 : Int32))), (own_d (((uh / (10 : Int32)) / (10 : Int32)) % (10 : Int32))), (own_d ((uh / (10 : Int32)) % (10 : Int32))), (own_d (uh % (10 : Int32))), own_c, (own_d (um / (10 : Int32))), (own_d (um % (10 : Int32))), own_c, (own_d (us / (10 : Int32))), (own_d (us % (10 : Int32))), own_x, own_x] := V188
  have K := K.wr W188 (Or.inl (List.mem_of_getElem? (i := 0) rfl))
  refine Own.iload d1_163 rfl ?_
  refine Own.bipush (10 : Int32) d1_165 rfl ?_
  refine Own.idiv d1_167 (by decide) ?_
  refine Own.istore #[.val (.int p0), .val (.ref a1), .val (.int (3 : Int32)), .val (.int uh), .val (.int um), .val (.int us), .val (.int (5 : Int32)), .val (.int (14 : Int32)), .val (.int (3 : Int32)), .val (.int (((((uh / (10 : Int32)) / (10 : Int32)) / (10 : Int32)) / (10 : Int32)) / (10 : Int32)))] d1_168 rfl ?_
  refine Own.goto_ 142 d1_170 (by decide) rfl ?_
  refine Own.iload d1_142 rfl ?_
  refine Own.iloadN d1_144 rfl ?_
  refine Own.icmp_le 173 d1_145 (by decide) rfl (fun _ => ?_) (fun q => absurd q (by decide))
  refine Own.iload d1_173 rfl ?_
  refine Own.ret_int rfl d1_175 (by decide) (by decide) ?_
  exact ⟨rfl, K, V188⟩
def Q_rmF_3_6 (Z : State) (a1 : Addr) (ka : ClassId) (uh : Int32) (um : Int32) (us : Int32) (h0 : Heap) (n0 : Nat) (v : Option Value) (h : Heap) : Prop := v = some (.int (15 : Int32)) ∧ Keep h0 h [a1] ∧ Arl Z h a1 ka .byte [own_x, own_x, own_x, (own_d ((((((uh / (10 : Int32)) / (10 : Int32)) / (10 : Int32)) / (10 : Int32)) / (10 : Int32)) % (10 : Int32))), (own_d (((((uh / (10 : Int32)) / (10 : Int32)) / (10 : Int32)) / (10 : Int32)) % (10 : Int32))), (own_d ((((uh / (10 : Int32)) / (10 : Int32)) / (10 : Int32)) % (10 : Int32))), (own_d (((uh / (10 : Int32)) / (10 : Int32)) % (10 : Int32))), (own_d ((uh / (10 : Int32)) % (10 : Int32))), (own_d (uh % (10 : Int32))), own_c, (own_d (um / (10 : Int32))), (own_d (um % (10 : Int32))), own_c, (own_d (us / (10 : Int32))), (own_d (us % (10 : Int32))), own_x]
theorem ef_rmF_3_6 (m : MethodId) (p0 : Int32) (a1 : Addr)  : entryFrame m #[(.int p0), (.ref a1), (.int (3 : Int32))] 10 = mkF m 0 #[.val (.int p0), .val (.ref a1), .val (.int (3 : Int32)), .unset, .unset, .unset, .unset, .unset, .unset, .unset] [] := by first | (simp [entryFrame, mkF, argsToLocals, Value.category]; done) | rfl
set_option maxRecDepth 65536 in
set_option maxHeartbeats 40000000 in
theorem rmF_3_6 (l : Launch) (Z : State) (a0 : Array Value) (hw : ∀ d ∈ tables_1, d.before a0 Z = true) (ws : List Jvm.Cond) (p0 : Int32) (a1 : Addr) (ka : ClassId) (uh : Int32) (um : Int32) (us : Int32) (h0 : Heap) (n0 : Nat) (hn : n0 ≤ h0.size) (V_a1 : Arl Z h0 a1 ka .byte [own_x, own_x, own_x, own_x, own_x, own_x, own_x, own_x, own_x, own_x, own_x, own_x, own_x, own_x, own_x, own_x]) (g_a1 : n0 ≤ a1) (e_h : p0 / (3600 : Int32) = uh) (e_m : (p0 / (60 : Int32)) % (60 : Int32) = um) (e_s : p0 % (60 : Int32) = us) (hl : 100000 ≤ uh.toInt) (hu : uh.toInt < 1000000) :
    Met false l Z (⟨"com/example/voznired/voznired/timetable/StopTime", "formatTime", "(I[BI)I"⟩ : MethodName) prog_118_method_10_code 10 (some .int) ({ frames := 1, cells := 0, slots := 0, locals := 14 } : Room) ws #[(.int p0), (.ref a1), (.int (3 : Int32))] h0 n0 (Q_rmF_3_6 Z a1 ka uh um us h0 n0) := by
  refine Met.of pn_1 (fun m => ef_rmF_3_6 m p0 a1) ?_
  have K := Keep.refl h0 [a1]
  refine Own.iloadN d1_0 rfl ?_
  refine Own.sipush (3600 : Int32) d1_1 rfl ?_
  refine Own.idiv d1_4 (by decide) ?_
  rw [e_h]
  refine Own.istoreN #[.val (.int p0), .val (.ref a1), .val (.int (3 : Int32)), .val (.int uh), .unset, .unset, .unset, .unset, .unset, .unset] d1_5 rfl ?_
  refine Own.iloadN d1_6 rfl ?_
  refine Own.bipush (60 : Int32) d1_7 rfl ?_
  refine Own.idiv d1_9 (by decide) ?_
  refine Own.bipush (60 : Int32) d1_10 rfl ?_
  refine Own.irem_ d1_12 (by decide) ?_
  rw [e_m]
  refine Own.istore #[.val (.int p0), .val (.ref a1), .val (.int (3 : Int32)), .val (.int uh), .val (.int um), .unset, .unset, .unset, .unset, .unset] d1_13 rfl ?_
  refine Own.iloadN d1_15 rfl ?_
  refine Own.bipush (60 : Int32) d1_16 rfl ?_
  refine Own.irem_ d1_18 (by decide) ?_
  rw [e_s]
  refine Own.istore #[.val (.int p0), .val (.ref a1), .val (.int (3 : Int32)), .val (.int uh), .val (.int um), .val (.int us), .unset, .unset, .unset, .unset] d1_19 rfl ?_
  refine Own.iconst (2 : Int32) d1_21 rfl ?_
  refine Own.istore #[.val (.int p0), .val (.ref a1), .val (.int (3 : Int32)), .val (.int uh), .val (.int um), .val (.int us), .val (.int (2 : Int32)), .unset, .unset, .unset] d1_22 rfl ?_
  refine Own.iloadN d1_24 rfl ?_
  refine Own.bipush (100 : Int32) d1_25 rfl ?_
  refine Own.idiv d1_27 (by decide) ?_
  obtain ⟨ur0, e_ur0⟩ : ∃ z : Int32, z = (uh / (100 : Int32)) := ⟨_, rfl⟩
  rw [← e_ur0]
  have r_ur0 : ur0.toInt = uh.toInt / 100 := by
    rw [e_ur0]; exact own_div 100 rfl (by omega) (by omega)
  refine Own.istore #[.val (.int p0), .val (.ref a1), .val (.int (3 : Int32)), .val (.int uh), .val (.int um), .val (.int us), .val (.int (2 : Int32)), .val (.int ur0), .unset, .unset] d1_28 rfl ?_
  refine Own.iload d1_30 rfl ?_
  refine Own.if_le 48 d1_32 (by decide) rfl (fun q => absurd (by simp only [Int32.lt_iff_toInt_lt, Int32.reduceToInt]; omega) q) (fun _ => ?_)
  refine Own.iinc (1 : Int32) #[.val (.int p0), .val (.ref a1), .val (.int (3 : Int32)), .val (.int uh), .val (.int um), .val (.int us), .val (.int ((2 : Int32) + (1 : Int32))), .val (.int ur0), .unset, .unset] d1_35 rfl rfl rfl ?_
  refine OAt.castL (Ls' := #[.val (.int p0), .val (.ref a1), .val (.int (3 : Int32)), .val (.int uh), .val (.int um), .val (.int us), .val (.int (3 : Int32)), .val (.int ur0), .unset, .unset]) rfl rfl ?_
  refine Own.iload d1_38 rfl ?_
  refine Own.bipush (10 : Int32) d1_40 rfl ?_
  refine Own.idiv d1_42 (by decide) ?_
  obtain ⟨ur1, e_ur1⟩ : ∃ z : Int32, z = (ur0 / (10 : Int32)) := ⟨_, rfl⟩
  rw [← e_ur1]
  have r_ur1 : ur1.toInt = ur0.toInt / 10 := by
    rw [e_ur1]; rw [own_div 10 rfl (by omega) (by omega)]
  refine Own.istore #[.val (.int p0), .val (.ref a1), .val (.int (3 : Int32)), .val (.int uh), .val (.int um), .val (.int us), .val (.int (3 : Int32)), .val (.int ur1), .unset, .unset] d1_43 rfl ?_
  refine Own.goto_ 30 d1_45 (by decide) rfl ?_
  refine Own.iload d1_30 rfl ?_
  refine Own.if_le 48 d1_32 (by decide) rfl (fun q => absurd (by simp only [Int32.lt_iff_toInt_lt, Int32.reduceToInt]; omega) q) (fun _ => ?_)
  refine Own.iinc (1 : Int32) #[.val (.int p0), .val (.ref a1), .val (.int (3 : Int32)), .val (.int uh), .val (.int um), .val (.int us), .val (.int ((3 : Int32) + (1 : Int32))), .val (.int ur1), .unset, .unset] d1_35 rfl rfl rfl ?_
  refine OAt.castL (Ls' := #[.val (.int p0), .val (.ref a1), .val (.int (3 : Int32)), .val (.int uh), .val (.int um), .val (.int us), .val (.int (4 : Int32)), .val (.int ur1), .unset, .unset]) rfl rfl ?_
  refine Own.iload d1_38 rfl ?_
  refine Own.bipush (10 : Int32) d1_40 rfl ?_
  refine Own.idiv d1_42 (by decide) ?_
  obtain ⟨ur2, e_ur2⟩ : ∃ z : Int32, z = (ur1 / (10 : Int32)) := ⟨_, rfl⟩
  rw [← e_ur2]
  have r_ur2 : ur2.toInt = ur1.toInt / 10 := by
    rw [e_ur2]; rw [own_div 10 rfl (by omega) (by omega)]
  refine Own.istore #[.val (.int p0), .val (.ref a1), .val (.int (3 : Int32)), .val (.int uh), .val (.int um), .val (.int us), .val (.int (4 : Int32)), .val (.int ur2), .unset, .unset] d1_43 rfl ?_
  refine Own.goto_ 30 d1_45 (by decide) rfl ?_
  refine Own.iload d1_30 rfl ?_
  refine Own.if_le 48 d1_32 (by decide) rfl (fun q => absurd (by simp only [Int32.lt_iff_toInt_lt, Int32.reduceToInt]; omega) q) (fun _ => ?_)
  refine Own.iinc (1 : Int32) #[.val (.int p0), .val (.ref a1), .val (.int (3 : Int32)), .val (.int uh), .val (.int um), .val (.int us), .val (.int ((4 : Int32) + (1 : Int32))), .val (.int ur2), .unset, .unset] d1_35 rfl rfl rfl ?_
  refine OAt.castL (Ls' := #[.val (.int p0), .val (.ref a1), .val (.int (3 : Int32)), .val (.int uh), .val (.int um), .val (.int us), .val (.int (5 : Int32)), .val (.int ur2), .unset, .unset]) rfl rfl ?_
  refine Own.iload d1_38 rfl ?_
  refine Own.bipush (10 : Int32) d1_40 rfl ?_
  refine Own.idiv d1_42 (by decide) ?_
  obtain ⟨ur3, e_ur3⟩ : ∃ z : Int32, z = (ur2 / (10 : Int32)) := ⟨_, rfl⟩
  rw [← e_ur3]
  have r_ur3 : ur3.toInt = ur2.toInt / 10 := by
    rw [e_ur3]; rw [own_div 10 rfl (by omega) (by omega)]
  refine Own.istore #[.val (.int p0), .val (.ref a1), .val (.int (3 : Int32)), .val (.int uh), .val (.int um), .val (.int us), .val (.int (5 : Int32)), .val (.int ur3), .unset, .unset] d1_43 rfl ?_
  refine Own.goto_ 30 d1_45 (by decide) rfl ?_
  refine Own.iload d1_30 rfl ?_
  refine Own.if_le 48 d1_32 (by decide) rfl (fun q => absurd (by simp only [Int32.lt_iff_toInt_lt, Int32.reduceToInt]; omega) q) (fun _ => ?_)
  refine Own.iinc (1 : Int32) #[.val (.int p0), .val (.ref a1), .val (.int (3 : Int32)), .val (.int uh), .val (.int um), .val (.int us), .val (.int ((5 : Int32) + (1 : Int32))), .val (.int ur3), .unset, .unset] d1_35 rfl rfl rfl ?_
  refine OAt.castL (Ls' := #[.val (.int p0), .val (.ref a1), .val (.int (3 : Int32)), .val (.int uh), .val (.int um), .val (.int us), .val (.int (6 : Int32)), .val (.int ur3), .unset, .unset]) rfl rfl ?_
  refine Own.iload d1_38 rfl ?_
  refine Own.bipush (10 : Int32) d1_40 rfl ?_
  refine Own.idiv d1_42 (by decide) ?_
  obtain ⟨ur4, e_ur4⟩ : ∃ z : Int32, z = (ur3 / (10 : Int32)) := ⟨_, rfl⟩
  rw [← e_ur4]
  have r_ur4 : ur4.toInt = ur3.toInt / 10 := by
    rw [e_ur4]; rw [own_div 10 rfl (by omega) (by omega)]
  refine Own.istore #[.val (.int p0), .val (.ref a1), .val (.int (3 : Int32)), .val (.int uh), .val (.int um), .val (.int us), .val (.int (6 : Int32)), .val (.int ur4), .unset, .unset] d1_43 rfl ?_
  refine Own.goto_ 30 d1_45 (by decide) rfl ?_
  refine Own.iload d1_30 rfl ?_
  refine Own.if_le 48 d1_32 (by decide) rfl (fun _ => ?_) (fun q => absurd q (by simp only [Int32.lt_iff_toInt_lt, Int32.reduceToInt]; omega))
  refine Own.iloadN d1_48 rfl ?_
  refine Own.iload d1_49 rfl ?_
  refine Own.iadd d1_51 ?_
  refine OAt.cast (st' := [(.int (9 : Int32))]) rfl ?_
  refine Own.bipush (6 : Int32) d1_52 rfl ?_
  refine Own.iadd d1_54 ?_
  refine OAt.cast (st' := [(.int (15 : Int32))]) rfl ?_
  refine Own.istore #[.val (.int p0), .val (.ref a1), .val (.int (3 : Int32)), .val (.int uh), .val (.int um), .val (.int us), .val (.int (6 : Int32)), .val (.int (15 : Int32)), .unset, .unset] d1_55 rfl ?_
  refine Own.iload d1_57 rfl ?_
  refine Own.istore #[.val (.int p0), .val (.ref a1), .val (.int (3 : Int32)), .val (.int uh), .val (.int um), .val (.int us), .val (.int (6 : Int32)), .val (.int (15 : Int32)), .val (.int (15 : Int32)), .unset] d1_59 rfl ?_
  refine Own.aloadN d1_61 rfl rfl ?_
  refine Own.iinc (-1 : Int32) #[.val (.int p0), .val (.ref a1), .val (.int (3 : Int32)), .val (.int uh), .val (.int um), .val (.int us), .val (.int (6 : Int32)), .val (.int (15 : Int32)), .val (.int ((15 : Int32) + (-1 : Int32))), .unset] d1_62 rfl rfl rfl ?_
  refine OAt.castL (Ls' := #[.val (.int p0), .val (.ref a1), .val (.int (3 : Int32)), .val (.int uh), .val (.int um), .val (.int us), .val (.int (6 : Int32)), .val (.int (15 : Int32)), .val (.int (14 : Int32)), .unset]) rfl rfl ?_
  refine Own.iload d1_65 rfl ?_
  refine Own.iload d1_67 rfl ?_
  refine Own.bipush (10 : Int32) d1_69 rfl ?_
  refine Own.irem_ d1_71 (by decide) ?_
  refine Own.callSP [(.int (us % (10 : Int32)))] [(.int (14 : Int32)), (.ref a1)] 2 (rmD l Z a0 hw [] (us % (10 : Int32)) h0 n0 hn) (hw _ (List.mem_of_getElem? (i := 6) rfl)) (hw _ (List.mem_of_getElem? (i := 7) rfl)) (hw _ (List.mem_of_getElem? (i := 4) rfl)) (hw _ (List.mem_of_getElem? (i := 8) rfl)) (by decide) d1_72 pd_0 rfl rfl rfl rfl (by decide) (by decide) (by decide) (by decide) ?_
  refine Own.bastore_ V_a1 (i := 14) rfl (Nat.le_of_ble_eq_true rfl) g_a1 d1_75 (fun h189 W189 V189 => ?_)
  have hn : n0 ≤ h189.size := by rw [W189.size]; exact hn
  clear V_a1
  replace V189 : Arl Z h189 a1 ka .byte [own_x, own_x, own_x, own_x, own_x, own_x, own_x, own_x, own_x, own_x, own_x, own_x, own_x, own_x, (own_d (us % (10 : Int32))), own_x] := V189
  have K := K.wr W189 (Or.inl (List.mem_of_getElem? (i := 0) rfl))
  refine Own.aloadN d1_76 rfl rfl ?_
  refine Own.iinc (-1 : Int32) #[.val (.int p0), .val (.ref a1), .val (.int (3 : Int32)), .val (.int uh), .val (.int um), .val (.int us), .val (.int (6 : Int32)), .val (.int (15 : Int32)), .val (.int ((14 : Int32) + (-1 : Int32))), .unset] d1_77 rfl rfl rfl ?_
  refine OAt.castL (Ls' := #[.val (.int p0), .val (.ref a1), .val (.int (3 : Int32)), .val (.int uh), .val (.int um), .val (.int us), .val (.int (6 : Int32)), .val (.int (15 : Int32)), .val (.int (13 : Int32)), .unset]) rfl rfl ?_
  refine Own.iload d1_80 rfl ?_
  refine Own.iload d1_82 rfl ?_
  refine Own.bipush (10 : Int32) d1_84 rfl ?_
  refine Own.idiv d1_86 (by decide) ?_
  refine Own.callSP [(.int (us / (10 : Int32)))] [(.int (13 : Int32)), (.ref a1)] 2 (rmD l Z a0 hw [] (us / (10 : Int32)) h189 n0 hn) (hw _ (List.mem_of_getElem? (i := 6) rfl)) (hw _ (List.mem_of_getElem? (i := 7) rfl)) (hw _ (List.mem_of_getElem? (i := 4) rfl)) (hw _ (List.mem_of_getElem? (i := 8) rfl)) (by decide) d1_87 pd_0 rfl rfl rfl rfl (by decide) (by decide) (by decide) (by decide) ?_
  refine Own.bastore_ V189 (i := 13) rfl (Nat.le_of_ble_eq_true rfl) g_a1 d1_90 (fun h190 W190 V190 => ?_)
  have hn : n0 ≤ h190.size := by rw [W190.size]; exact hn
  clear V189
  replace V190 : Arl Z h190 a1 ka .byte [own_x, own_x, own_x, own_x, own_x, own_x, own_x, own_x, own_x, own_x, own_x, own_x, own_x, (own_d (us / (10 : Int32))), (own_d (us % (10 : Int32))), own_x] := V190
  have K := K.wr W190 (Or.inl (List.mem_of_getElem? (i := 0) rfl))
  refine Own.aloadN d1_91 rfl rfl ?_
  refine Own.iinc (-1 : Int32) #[.val (.int p0), .val (.ref a1), .val (.int (3 : Int32)), .val (.int uh), .val (.int um), .val (.int us), .val (.int (6 : Int32)), .val (.int (15 : Int32)), .val (.int ((13 : Int32) + (-1 : Int32))), .unset] d1_92 rfl rfl rfl ?_
  refine OAt.castL (Ls' := #[.val (.int p0), .val (.ref a1), .val (.int (3 : Int32)), .val (.int uh), .val (.int um), .val (.int us), .val (.int (6 : Int32)), .val (.int (15 : Int32)), .val (.int (12 : Int32)), .unset]) rfl rfl ?_
  refine Own.iload d1_95 rfl ?_
  refine Own.bipush (58 : Int32) d1_97 rfl ?_
  refine Own.bastore_ V190 (i := 12) rfl (Nat.le_of_ble_eq_true rfl) g_a1 d1_99 (fun h191 W191 V191 => ?_)
  have hn : n0 ≤ h191.size := by rw [W191.size]; exact hn
  clear V190
  replace V191 : Arl Z h191 a1 ka .byte [own_x, own_x, own_x, own_x, own_x, own_x, own_x, own_x, own_x, own_x, own_x, own_x, own_c, (own_d (us / (10 : Int32))), (own_d (us % (10 : Int32))), own_x] := V191
  have K := K.wr W191 (Or.inl (List.mem_of_getElem? (i := 0) rfl))
  refine Own.aloadN d1_100 rfl rfl ?_
  refine Own.iinc (-1 : Int32) #[.val (.int p0), .val (.ref a1), .val (.int (3 : Int32)), .val (.int uh), .val (.int um), .val (.int us), .val (.int (6 : Int32)), .val (.int (15 : Int32)), .val (.int ((12 : Int32) + (-1 : Int32))), .unset] d1_101 rfl rfl rfl ?_
  refine OAt.castL (Ls' := #[.val (.int p0), .val (.ref a1), .val (.int (3 : Int32)), .val (.int uh), .val (.int um), .val (.int us), .val (.int (6 : Int32)), .val (.int (15 : Int32)), .val (.int (11 : Int32)), .unset]) rfl rfl ?_
  refine Own.iload d1_104 rfl ?_
  refine Own.iload d1_106 rfl ?_
  refine Own.bipush (10 : Int32) d1_108 rfl ?_
  refine Own.irem_ d1_110 (by decide) ?_
  refine Own.callSP [(.int (um % (10 : Int32)))] [(.int (11 : Int32)), (.ref a1)] 2 (rmD l Z a0 hw [] (um % (10 : Int32)) h191 n0 hn) (hw _ (List.mem_of_getElem? (i := 6) rfl)) (hw _ (List.mem_of_getElem? (i := 7) rfl)) (hw _ (List.mem_of_getElem? (i := 4) rfl)) (hw _ (List.mem_of_getElem? (i := 8) rfl)) (by decide) d1_111 pd_0 rfl rfl rfl rfl (by decide) (by decide) (by decide) (by decide) ?_
  refine Own.bastore_ V191 (i := 11) rfl (Nat.le_of_ble_eq_true rfl) g_a1 d1_114 (fun h192 W192 V192 => ?_)
  have hn : n0 ≤ h192.size := by rw [W192.size]; exact hn
  clear V191
  replace V192 : Arl Z h192 a1 ka .byte [own_x, own_x, own_x, own_x, own_x, own_x, own_x, own_x, own_x, own_x, own_x, (own_d (um % (10 : Int32))), own_c, (own_d (us / (10 : Int32))), (own_d (us % (10 : Int32))), own_x] := V192
  have K := K.wr W192 (Or.inl (List.mem_of_getElem? (i := 0) rfl))
  refine Own.aloadN d1_115 rfl rfl ?_
  refine Own.iinc (-1 : Int32) #[.val (.int p0), .val (.ref a1), .val (.int (3 : Int32)), .val (.int uh), .val (.int um), .val (.int us), .val (.int (6 : Int32)), .val (.int (15 : Int32)), .val (.int ((11 : Int32) + (-1 : Int32))), .unset] d1_116 rfl rfl rfl ?_
  refine OAt.castL (Ls' := #[.val (.int p0), .val (.ref a1), .val (.int (3 : Int32)), .val (.int uh), .val (.int um), .val (.int us), .val (.int (6 : Int32)), .val (.int (15 : Int32)), .val (.int (10 : Int32)), .unset]) rfl rfl ?_
  refine Own.iload d1_119 rfl ?_
  refine Own.iload d1_121 rfl ?_
  refine Own.bipush (10 : Int32) d1_123 rfl ?_
  refine Own.idiv d1_125 (by decide) ?_
  refine Own.callSP [(.int (um / (10 : Int32)))] [(.int (10 : Int32)), (.ref a1)] 2 (rmD l Z a0 hw [] (um / (10 : Int32)) h192 n0 hn) (hw _ (List.mem_of_getElem? (i := 6) rfl)) (hw _ (List.mem_of_getElem? (i := 7) rfl)) (hw _ (List.mem_of_getElem? (i := 4) rfl)) (hw _ (List.mem_of_getElem? (i := 8) rfl)) (by decide) d1_126 pd_0 rfl rfl rfl rfl (by decide) (by decide) (by decide) (by decide) ?_
  refine Own.bastore_ V192 (i := 10) rfl (Nat.le_of_ble_eq_true rfl) g_a1 d1_129 (fun h193 W193 V193 => ?_)
  have hn : n0 ≤ h193.size := by rw [W193.size]; exact hn
  clear V192
  replace V193 : Arl Z h193 a1 ka .byte [own_x, own_x, own_x, own_x, own_x, own_x, own_x, own_x, own_x, own_x, (own_d (um / (10 : Int32))), (own_d (um % (10 : Int32))), own_c, (own_d (us / (10 : Int32))), (own_d (us % (10 : Int32))), own_x] := V193
  have K := K.wr W193 (Or.inl (List.mem_of_getElem? (i := 0) rfl))
  refine Own.aloadN d1_130 rfl rfl ?_
  refine Own.iinc (-1 : Int32) #[.val (.int p0), .val (.ref a1), .val (.int (3 : Int32)), .val (.int uh), .val (.int um), .val (.int us), .val (.int (6 : Int32)), .val (.int (15 : Int32)), .val (.int ((10 : Int32) + (-1 : Int32))), .unset] d1_131 rfl rfl rfl ?_
  refine OAt.castL (Ls' := #[.val (.int p0), .val (.ref a1), .val (.int (3 : Int32)), .val (.int uh), .val (.int um), .val (.int us), .val (.int (6 : Int32)), .val (.int (15 : Int32)), .val (.int (9 : Int32)), .unset]) rfl rfl ?_
  refine Own.iload d1_134 rfl ?_
  refine Own.bipush (58 : Int32) d1_136 rfl ?_
  refine Own.bastore_ V193 (i := 9) rfl (Nat.le_of_ble_eq_true rfl) g_a1 d1_138 (fun h194 W194 V194 => ?_)
  have hn : n0 ≤ h194.size := by rw [W194.size]; exact hn
  clear V193
  replace V194 : Arl Z h194 a1 ka .byte [own_x, own_x, own_x, own_x, own_x, own_x, own_x, own_x, own_x, own_c, (own_d (um / (10 : Int32))), (own_d (um % (10 : Int32))), own_c, (own_d (us / (10 : Int32))), (own_d (us % (10 : Int32))), own_x] := V194
  have K := K.wr W194 (Or.inl (List.mem_of_getElem? (i := 0) rfl))
  refine Own.iloadN d1_139 rfl ?_
  refine Own.istore #[.val (.int p0), .val (.ref a1), .val (.int (3 : Int32)), .val (.int uh), .val (.int um), .val (.int us), .val (.int (6 : Int32)), .val (.int (15 : Int32)), .val (.int (9 : Int32)), .val (.int uh)] d1_140 rfl ?_
  refine Own.iload d1_142 rfl ?_
  refine Own.iloadN d1_144 rfl ?_
  refine Own.icmp_le 173 d1_145 (by decide) rfl (fun q => absurd (by decide) q) (fun _ => ?_)
  refine Own.aloadN d1_148 rfl rfl ?_
  refine Own.iinc (-1 : Int32) #[.val (.int p0), .val (.ref a1), .val (.int (3 : Int32)), .val (.int uh), .val (.int um), .val (.int us), .val (.int (6 : Int32)), .val (.int (15 : Int32)), .val (.int ((9 : Int32) + (-1 : Int32))), .val (.int uh)] d1_149 rfl rfl rfl ?_
  refine OAt.castL (Ls' := #[.val (.int p0), .val (.ref a1), .val (.int (3 : Int32)), .val (.int uh), .val (.int um), .val (.int us), .val (.int (6 : Int32)), .val (.int (15 : Int32)), .val (.int (8 : Int32)), .val (.int uh)]) rfl rfl ?_
  refine Own.iload d1_152 rfl ?_
  refine Own.iload d1_154 rfl ?_
  refine Own.bipush (10 : Int32) d1_156 rfl ?_
  refine Own.irem_ d1_158 (by decide) ?_
  refine Own.callSP [(.int (uh % (10 : Int32)))] [(.int (8 : Int32)), (.ref a1)] 2 (rmD l Z a0 hw [] (uh % (10 : Int32)) h194 n0 hn) (hw _ (List.mem_of_getElem? (i := 6) rfl)) (hw _ (List.mem_of_getElem? (i := 7) rfl)) (hw _ (List.mem_of_getElem? (i := 4) rfl)) (hw _ (List.mem_of_getElem? (i := 8) rfl)) (by decide) d1_159 pd_0 rfl rfl rfl rfl (by decide) (by decide) (by decide) (by decide) ?_
  refine Own.bastore_ V194 (i := 8) rfl (Nat.le_of_ble_eq_true rfl) g_a1 d1_162 (fun h195 W195 V195 => ?_)
  have hn : n0 ≤ h195.size := by rw [W195.size]; exact hn
  clear V194
  replace V195 : Arl Z h195 a1 ka .byte [own_x, own_x, own_x, own_x, own_x, own_x, own_x, own_x, (own_d (uh % (10 : Int32))), own_c, (own_d (um / (10 : Int32))), (own_d (um % (10 : Int32))), own_c, (own_d (us / (10 : Int32))), (own_d (us % (10 : Int32))), own_x] := V195
  have K := K.wr W195 (Or.inl (List.mem_of_getElem? (i := 0) rfl))
  refine Own.iload d1_163 rfl ?_
  refine Own.bipush (10 : Int32) d1_165 rfl ?_
  refine Own.idiv d1_167 (by decide) ?_
  refine Own.istore #[.val (.int p0), .val (.ref a1), .val (.int (3 : Int32)), .val (.int uh), .val (.int um), .val (.int us), .val (.int (6 : Int32)), .val (.int (15 : Int32)), .val (.int (8 : Int32)), .val (.int (uh / (10 : Int32)))] d1_168 rfl ?_
  refine Own.goto_ 142 d1_170 (by decide) rfl ?_
  refine Own.iload d1_142 rfl ?_
  refine Own.iloadN d1_144 rfl ?_
  refine Own.icmp_le 173 d1_145 (by decide) rfl (fun q => absurd (by decide) q) (fun _ => ?_)
  refine Own.aloadN d1_148 rfl rfl ?_
  refine Own.iinc (-1 : Int32) #[.val (.int p0), .val (.ref a1), .val (.int (3 : Int32)), .val (.int uh), .val (.int um), .val (.int us), .val (.int (6 : Int32)), .val (.int (15 : Int32)), .val (.int ((8 : Int32) + (-1 : Int32))), .val (.int (uh / (10 : Int32)))] d1_149 rfl rfl rfl ?_
  refine OAt.castL (Ls' := #[.val (.int p0), .val (.ref a1), .val (.int (3 : Int32)), .val (.int uh), .val (.int um), .val (.int us), .val (.int (6 : Int32)), .val (.int (15 : Int32)), .val (.int (7 : Int32)), .val (.int (uh / (10 : Int32)))]) rfl rfl ?_
  refine Own.iload d1_152 rfl ?_
  refine Own.iload d1_154 rfl ?_
  refine Own.bipush (10 : Int32) d1_156 rfl ?_
  refine Own.irem_ d1_158 (by decide) ?_
  refine Own.callSP [(.int ((uh / (10 : Int32)) % (10 : Int32)))] [(.int (7 : Int32)), (.ref a1)] 2 (rmD l Z a0 hw [] ((uh / (10 : Int32)) % (10 : Int32)) h195 n0 hn) (hw _ (List.mem_of_getElem? (i := 6) rfl)) (hw _ (List.mem_of_getElem? (i := 7) rfl)) (hw _ (List.mem_of_getElem? (i := 4) rfl)) (hw _ (List.mem_of_getElem? (i := 8) rfl)) (by decide) d1_159 pd_0 rfl rfl rfl rfl (by decide) (by decide) (by decide) (by decide) ?_
  refine Own.bastore_ V195 (i := 7) rfl (Nat.le_of_ble_eq_true rfl) g_a1 d1_162 (fun h196 W196 V196 => ?_)
  have hn : n0 ≤ h196.size := by rw [W196.size]; exact hn
  clear V195
  replace V196 : Arl Z h196 a1 ka .byte [own_x, own_x, own_x, own_x, own_x, own_x, own_x, (own_d ((uh / (10 : Int32)) % (10 : Int32))), (own_d (uh % (10 : Int32))), own_c, (own_d (um / (10 : Int32))), (own_d (um % (10 : Int32))), own_c, (own_d (us / (10 : Int32))), (own_d (us % (10 : Int32))), own_x] := V196
  have K := K.wr W196 (Or.inl (List.mem_of_getElem? (i := 0) rfl))
  refine Own.iload d1_163 rfl ?_
  refine Own.bipush (10 : Int32) d1_165 rfl ?_
  refine Own.idiv d1_167 (by decide) ?_
  refine Own.istore #[.val (.int p0), .val (.ref a1), .val (.int (3 : Int32)), .val (.int uh), .val (.int um), .val (.int us), .val (.int (6 : Int32)), .val (.int (15 : Int32)), .val (.int (7 : Int32)), .val (.int ((uh / (10 : Int32)) / (10 : Int32)))] d1_168 rfl ?_
  refine Own.goto_ 142 d1_170 (by decide) rfl ?_
  refine Own.iload d1_142 rfl ?_
  refine Own.iloadN d1_144 rfl ?_
  refine Own.icmp_le 173 d1_145 (by decide) rfl (fun q => absurd (by decide) q) (fun _ => ?_)
  refine Own.aloadN d1_148 rfl rfl ?_
  refine Own.iinc (-1 : Int32) #[.val (.int p0), .val (.ref a1), .val (.int (3 : Int32)), .val (.int uh), .val (.int um), .val (.int us), .val (.int (6 : Int32)), .val (.int (15 : Int32)), .val (.int ((7 : Int32) + (-1 : Int32))), .val (.int ((uh / (10 : Int32)) / (10 : Int32)))] d1_149 rfl rfl rfl ?_
  refine OAt.castL (Ls' := #[.val (.int p0), .val (.ref a1), .val (.int (3 : Int32)), .val (.int uh), .val (.int um), .val (.int us), .val (.int (6 : Int32)), .val (.int (15 : Int32)), .val (.int (6 : Int32)), .val (.int ((uh / (10 : Int32)) / (10 : Int32)))]) rfl rfl ?_
  refine Own.iload d1_152 rfl ?_
  refine Own.iload d1_154 rfl ?_
  refine Own.bipush (10 : Int32) d1_156 rfl ?_
  refine Own.irem_ d1_158 (by decide) ?_
  refine Own.callSP [(.int (((uh / (10 : Int32)) / (10 : Int32)) % (10 : Int32)))] [(.int (6 : Int32)), (.ref a1)] 2 (rmD l Z a0 hw [] (((uh / (10 : Int32)) / (10 : Int32)) % (10 : Int32)) h196 n0 hn) (hw _ (List.mem_of_getElem? (i := 6) rfl)) (hw _ (List.mem_of_getElem? (i := 7) rfl)) (hw _ (List.mem_of_getElem? (i := 4) rfl)) (hw _ (List.mem_of_getElem? (i := 8) rfl)) (by decide) d1_159 pd_0 rfl rfl rfl rfl (by decide) (by decide) (by decide) (by decide) ?_
  refine Own.bastore_ V196 (i := 6) rfl (Nat.le_of_ble_eq_true rfl) g_a1 d1_162 (fun h197 W197 V197 => ?_)
  have hn : n0 ≤ h197.size := by rw [W197.size]; exact hn
  clear V196
  replace V197 : Arl Z h197 a1 ka .byte [own_x, own_x, own_x, own_x, own_x, own_x, (own_d (((uh / (10 : Int32)) / (10 : Int32)) % (10 : Int32))), (own_d ((uh / (10 : Int32)) % (10 : Int32))), (own_d (uh % (10 : Int32))), own_c, (own_d (um / (10 : Int32))), (own_d (um % (10 : Int32))), own_c, (own_d (us / (10 : Int32))), (own_d (us % (10 : Int32))), own_x] := V197
  have K := K.wr W197 (Or.inl (List.mem_of_getElem? (i := 0) rfl))
  refine Own.iload d1_163 rfl ?_
  refine Own.bipush (10 : Int32) d1_165 rfl ?_
  refine Own.idiv d1_167 (by decide) ?_
  refine Own.istore #[.val (.int p0), .val (.ref a1), .val (.int (3 : Int32)), .val (.int uh), .val (.int um), .val (.int us), .val (.int (6 : Int32)), .val (.int (15 : Int32)), .val (.int (6 : Int32)), .val (.int (((uh / (10 : Int32)) / (10 : Int32)) / (10 : Int32)))] d1_168 rfl ?_
  refine Own.goto_ 142 d1_170 (by decide) rfl ?_
  refine Own.iload d1_142 rfl ?_
  refine Own.iloadN d1_144 rfl ?_
  refine Own.icmp_le 173 d1_145 (by decide) rfl (fun q => absurd (by decide) q) (fun _ => ?_)
  refine Own.aloadN d1_148 rfl rfl ?_
  refine Own.iinc (-1 : Int32) #[.val (.int p0), .val (.ref a1), .val (.int (3 : Int32)), .val (.int uh), .val (.int um), .val (.int us), .val (.int (6 : Int32)), .val (.int (15 : Int32)), .val (.int ((6 : Int32) + (-1 : Int32))), .val (.int (((uh / (10 : Int32)) / (10 : Int32)) / (10 : Int32)))] d1_149 rfl rfl rfl ?_
  refine OAt.castL (Ls' := #[.val (.int p0), .val (.ref a1), .val (.int (3 : Int32)), .val (.int uh), .val (.int um), .val (.int us), .val (.int (6 : Int32)), .val (.int (15 : Int32)), .val (.int (5 : Int32)), .val (.int (((uh / (10 : Int32)) / (10 : Int32)) / (10 : Int32)))]) rfl rfl ?_
  refine Own.iload d1_152 rfl ?_
  refine Own.iload d1_154 rfl ?_
  refine Own.bipush (10 : Int32) d1_156 rfl ?_
  refine Own.irem_ d1_158 (by decide) ?_
  refine Own.callSP [(.int ((((uh / (10 : Int32)) / (10 : Int32)) / (10 : Int32)) % (10 : Int32)))] [(.int (5 : Int32)), (.ref a1)] 2 (rmD l Z a0 hw [] ((((uh / (10 : Int32)) / (10 : Int32)) / (10 : Int32)) % (10 : Int32)) h197 n0 hn) (hw _ (List.mem_of_getElem? (i := 6) rfl)) (hw _ (List.mem_of_getElem? (i := 7) rfl)) (hw _ (List.mem_of_getElem? (i := 4) rfl)) (hw _ (List.mem_of_getElem? (i := 8) rfl)) (by decide) d1_159 pd_0 rfl rfl rfl rfl (by decide) (by decide) (by decide) (by decide) ?_
  refine Own.bastore_ V197 (i := 5) rfl (Nat.le_of_ble_eq_true rfl) g_a1 d1_162 (fun h198 W198 V198 => ?_)
  have hn : n0 ≤ h198.size := by rw [W198.size]; exact hn
  clear V197
  replace V198 : Arl Z h198 a1 ka .byte [own_x, own_x, own_x, own_x, own_x, (own_d ((((uh / (10 : Int32)) / (10 : Int32)) / (10 : Int32)) % (10 : Int32))), (own_d (((uh / (10 : Int32)) / (10 : Int32)) % (10 : Int32))), (own_d ((uh / (10 : Int32)) % (10 : Int32))), (own_d (uh % (10 : Int32))), own_c, (own_d (um / (10 : Int32))), (own_d (um % (10 : Int32))), own_c, (own_d (us / (10 : Int32))), (own_d (us % (10 : Int32))), own_x] := V198
  have K := K.wr W198 (Or.inl (List.mem_of_getElem? (i := 0) rfl))
  refine Own.iload d1_163 rfl ?_
  refine Own.bipush (10 : Int32) d1_165 rfl ?_
  refine Own.idiv d1_167 (by decide) ?_
  refine Own.istore #[.val (.int p0), .val (.ref a1), .val (.int (3 : Int32)), .val (.int uh), .val (.int um), .val (.int us), .val (.int (6 : Int32)), .val (.int (15 : Int32)), .val (.int (5 : Int32)), .val (.int ((((uh / (10 : Int32)) / (10 : Int32)) / (10 : Int32)) / (10 : Int32)))] d1_168 rfl ?_
  refine Own.goto_ 142 d1_170 (by decide) rfl ?_
  refine Own.iload d1_142 rfl ?_
  refine Own.iloadN d1_144 rfl ?_
  refine Own.icmp_le 173 d1_145 (by decide) rfl (fun q => absurd (by decide) q) (fun _ => ?_)
  refine Own.aloadN d1_148 rfl rfl ?_
  refine Own.iinc (-1 : Int32) #[.val (.int p0), .val (.ref a1), .val (.int (3 : Int32)), .val (.int uh), .val (.int um), .val (.int us), .val (.int (6 : Int32)), .val (.int (15 : Int32)), .val (.int ((5 : Int32) + (-1 : Int32))), .val (.int ((((uh / (10 : Int32)) / (10 : Int32)) / (10 : Int32)) / (10 : Int32)))] d1_149 rfl rfl rfl ?_
  refine OAt.castL (Ls' := #[.val (.int p0), .val (.ref a1), .val (.int (3 : Int32)), .val (.int uh), .val (.int um), .val (.int us), .val (.int (6 : Int32)), .val (.int (15 : Int32)), .val (.int (4 : Int32)), .val (.int ((((uh / (10 : Int32)) / (10 : Int32)) / (10 : Int32)) / (10 : Int32)))]) rfl rfl ?_
  refine Own.iload d1_152 rfl ?_
  refine Own.iload d1_154 rfl ?_
  refine Own.bipush (10 : Int32) d1_156 rfl ?_
  refine Own.irem_ d1_158 (by decide) ?_
  refine Own.callSP [(.int (((((uh / (10 : Int32)) / (10 : Int32)) / (10 : Int32)) / (10 : Int32)) % (10 : Int32)))] [(.int (4 : Int32)), (.ref a1)] 2 (rmD l Z a0 hw [] (((((uh / (10 : Int32)) / (10 : Int32)) / (10 : Int32)) / (10 : Int32)) % (10 : Int32)) h198 n0 hn) (hw _ (List.mem_of_getElem? (i := 6) rfl)) (hw _ (List.mem_of_getElem? (i := 7) rfl)) (hw _ (List.mem_of_getElem? (i := 4) rfl)) (hw _ (List.mem_of_getElem? (i := 8) rfl)) (by decide) d1_159 pd_0 rfl rfl rfl rfl (by decide) (by decide) (by decide) (by decide) ?_
  refine Own.bastore_ V198 (i := 4) rfl (Nat.le_of_ble_eq_true rfl) g_a1 d1_162 (fun h199 W199 V199 => ?_)
  have hn : n0 ≤ h199.size := by rw [W199.size]; exact hn
  clear V198
  replace V199 : Arl Z h199 a1 ka .byte [own_x, own_x, own_x, own_x, (own_d (((((uh / (10 : Int32)) / (10 : Int32)) / (10 : Int32)) / (10 : Int32)) % (10 : Int32))), (own_d ((((uh / (10 : Int32)) / (10 : Int32)) / (10 : Int32)) % (10 : Int32))), (own_d (((uh / (10 : Int32)) / (10 : Int32)) % (10 : Int32))), (own_d ((uh / (10 : Int32)) % (10 : Int32))), (own_d (uh % (10 : Int32))), own_c, (own_d (um / (10 : Int32))), (own_d (um % (10 : Int32))), own_c, (own_d (us / (10 : Int32))), (own_d (us % (10 : Int32))), own_x] := V199
  have K := K.wr W199 (Or.inl (List.mem_of_getElem? (i := 0) rfl))
  refine Own.iload d1_163 rfl ?_
  refine Own.bipush (10 : Int32) d1_165 rfl ?_
  refine Own.idiv d1_167 (by decide) ?_
  refine Own.istore #[.val (.int p0), .val (.ref a1), .val (.int (3 : Int32)), .val (.int uh), .val (.int um), .val (.int us), .val (.int (6 : Int32)), .val (.int (15 : Int32)), .val (.int (4 : Int32)), .val (.int (((((uh / (10 : Int32)) / (10 : Int32)) / (10 : Int32)) / (10 : Int32)) / (10 : Int32)))] d1_168 rfl ?_
  refine Own.goto_ 142 d1_170 (by decide) rfl ?_
  refine Own.iload d1_142 rfl ?_
  refine Own.iloadN d1_144 rfl ?_
  refine Own.icmp_le 173 d1_145 (by decide) rfl (fun q => absurd (by decide) q) (fun _ => ?_)
  refine Own.aloadN d1_148 rfl rfl ?_
  refine Own.iinc (-1 : Int32) #[.val (.int p0), .val (.ref a1), .val (.int (3 : Int32)), .val (.int uh), .val (.int um), .val (.int us), .val (.int (6 : Int32)), .val (.int (15 : Int32)), .val (.int ((4 : Int32) + (-1 : Int32))), .val (.int (((((uh / (10 : Int32)) / (10 : Int32)) / (10 : Int32)) / (10 : Int32)) / (10 : Int32)))] d1_149 rfl rfl rfl ?_
  refine OAt.castL (Ls' := #[.val (.int p0), .val (.ref a1), .val (.int (3 : Int32)), .val (.int uh), .val (.int um), .val (.int us), .val (.int (6 : Int32)), .val (.int (15 : Int32)), .val (.int (3 : Int32)), .val (.int (((((uh / (10 : Int32)) / (10 : Int32)) / (10 : Int32)) / (10 : Int32)) / (10 : Int32)))]) rfl rfl ?_
  refine Own.iload d1_152 rfl ?_
  refine Own.iload d1_154 rfl ?_
  refine Own.bipush (10 : Int32) d1_156 rfl ?_
  refine Own.irem_ d1_158 (by decide) ?_
  refine Own.callSP [(.int ((((((uh / (10 : Int32)) / (10 : Int32)) / (10 : Int32)) / (10 : Int32)) / (10 : Int32)) % (10 : Int32)))] [(.int (3 : Int32)), (.ref a1)] 2 (rmD l Z a0 hw [] ((((((uh / (10 : Int32)) / (10 : Int32)) / (10 : Int32)) / (10 : Int32)) / (10 : Int32)) % (10 : Int32)) h199 n0 hn) (hw _ (List.mem_of_getElem? (i := 6) rfl)) (hw _ (List.mem_of_getElem? (i := 7) rfl)) (hw _ (List.mem_of_getElem? (i := 4) rfl)) (hw _ (List.mem_of_getElem? (i := 8) rfl)) (by decide) d1_159 pd_0 rfl rfl rfl rfl (by decide) (by decide) (by decide) (by decide) ?_
  refine Own.bastore_ V199 (i := 3) rfl (Nat.le_of_ble_eq_true rfl) g_a1 d1_162 (fun h200 W200 V200 => ?_)
  have hn : n0 ≤ h200.size := by rw [W200.size]; exact hn
  clear V199
  replace V200 : Arl Z h200 a1 ka .byte [own_x, own_x, own_x, (own_d ((((((uh / (10 : Int32)) / (10 : Int32)) / (10 : Int32)) / (10 : Int32)) / (10 : Int32)) % (10 : Int32))), (own_d (((((uh / (10 : Int32)) / (10 : Int32)) / (10 : Int32)) / (10 : Int32)) % (10 : Int32))), (own_d ((((uh / (10 : Int32)) / (10 : Int32)) / (10 : Int32)) % (10 : Int32))), (own_d (((uh / (10 : Int32)) / (10 : Int32)) % (10 : Int32))), (own_d ((uh / (10 : Int32)) % (10 : Int32))), (own_d (uh % (10 : Int32))), own_c, (own_d (um / (10 : Int32))), (own_d (um % (10 : Int32))), own_c, (own_d (us / (10 : Int32))), (own_d (us % (10 : Int32))), own_x] := V200
  have K := K.wr W200 (Or.inl (List.mem_of_getElem? (i := 0) rfl))
  refine Own.iload d1_163 rfl ?_
  refine Own.bipush (10 : Int32) d1_165 rfl ?_
  refine Own.idiv d1_167 (by decide) ?_
  refine Own.istore #[.val (.int p0), .val (.ref a1), .val (.int (3 : Int32)), .val (.int uh), .val (.int um), .val (.int us), .val (.int (6 : Int32)), .val (.int (15 : Int32)), .val (.int (3 : Int32)), .val (.int ((((((uh / (10 : Int32)) / (10 : Int32)) / (10 : Int32)) / (10 : Int32)) / (10 : Int32)) / (10 : Int32)))] d1_168 rfl ?_
  refine Own.goto_ 142 d1_170 (by decide) rfl ?_
  refine Own.iload d1_142 rfl ?_
  refine Own.iloadN d1_144 rfl ?_
  refine Own.icmp_le 173 d1_145 (by decide) rfl (fun _ => ?_) (fun q => absurd q (by decide))
  refine Own.iload d1_173 rfl ?_
  refine Own.ret_int rfl d1_175 (by decide) (by decide) ?_
  exact ⟨rfl, K, V200⟩
theorem own_p2 {uh : Int32} (h : 0 ≤ uh.toInt) : uh / 10 / 10 = uh / 100 := by
  exact own_qq 10 10 rfl rfl rfl (by omega) (by omega) h
theorem own_nn2 {uh : Int32} (h : 0 ≤ uh.toInt) : 0 ≤ (uh / 100).toInt := by
  have := own_div (x := uh) (y := 100) 100 rfl (by omega) h; omega
theorem own_p3 {uh : Int32} (h : 0 ≤ uh.toInt) : uh / 10 / 10 / 10 = uh / 1000 := by
  rw [own_p2 h]; exact own_qq 100 10 rfl rfl rfl (by omega) (by omega) h
theorem own_nn3 {uh : Int32} (h : 0 ≤ uh.toInt) : 0 ≤ (uh / 1000).toInt := by
  have := own_div (x := uh) (y := 1000) 1000 rfl (by omega) h; omega
theorem own_p4 {uh : Int32} (h : 0 ≤ uh.toInt) : uh / 10 / 10 / 10 / 10 = uh / 10000 := by
  rw [own_p3 h]; exact own_qq 1000 10 rfl rfl rfl (by omega) (by omega) h
theorem own_nn4 {uh : Int32} (h : 0 ≤ uh.toInt) : 0 ≤ (uh / 10000).toInt := by
  have := own_div (x := uh) (y := 10000) 10000 rfl (by omega) h; omega
theorem own_p5 {uh : Int32} (h : 0 ≤ uh.toInt) : uh / 10 / 10 / 10 / 10 / 10 = uh / 100000 := by
  rw [own_p4 h]; exact own_qq 10000 10 rfl rfl rfl (by omega) (by omega) h
theorem own_nn5 {uh : Int32} (h : 0 ≤ uh.toInt) : 0 ≤ (uh / 100000).toInt := by
  have := own_div (x := uh) (y := 100000) 100000 rfl (by omega) h; omega
def own_ndf (h : Int32) : Int32 := if h < 100 then 2 else if h < 1000 then 3 else if h < 10000 then 4 else if h < 100000 then 5 else 6
def own_all (vs : List Value) (a n h m s : Int32) : Prop := ∀ i : Nat, i < 16 → vs[i]? = some (.int (own_exp (Int32.ofNat i) a n h m s))
theorem own_16 {P : Nat → Prop} (h0 : P 0) (h1 : P 1) (h2 : P 2) (h3 : P 3) (h4 : P 4) (h5 : P 5) (h6 : P 6) (h7 : P 7) (h8 : P 8) (h9 : P 9) (h10 : P 10) (h11 : P 11) (h12 : P 12) (h13 : P 13) (h14 : P 14) (h15 : P 15) : ∀ i : Nat, i < 16 → P i
  | 0, _ => h0 | 1, _ => h1 | 2, _ => h2 | 3, _ => h3 | 4, _ => h4 | 5, _ => h5 | 6, _ => h6 | 7, _ => h7 | 8, _ => h8 | 9, _ => h9 | 10, _ => h10 | 11, _ => h11 | 12, _ => h12 | 13, _ => h13 | 14, _ => h14 | 15, _ => h15
  | n + 16, h => absurd h (by omega)
theorem own_all_0_2 {uh um us : Int32} (b_h : 0 ≤ uh.toInt) (b_m0 : 0 ≤ um.toInt) (b_m1 : um.toInt < 100) (b_s0 : 0 ≤ us.toInt) (b_s1 : us.toInt < 100) : own_all [(own_d ((uh / (10 : Int32)) % (10 : Int32))), (own_d (uh % (10 : Int32))), own_c, (own_d (um / (10 : Int32))), (own_d (um % (10 : Int32))), own_c, (own_d (us / (10 : Int32))), (own_d (us % (10 : Int32))), own_x, own_x, own_x, own_x, own_x, own_x, own_x, own_x] 0 2 uh um us :=
  own_16 (congrArg (fun z => some (Value.int z)) (own_mod10 (by have := own_div (x := uh) (y := 10) 10 rfl (by omega) b_h; omega))) (congrArg (fun z => some (Value.int z)) ((own_mod10 b_h).trans (congrArg (fun z => (48 : Int32) + z % 10) (own_q b_h).symm))) rfl (congrArg (fun z => some (Value.int z)) (own_div10 b_m0 b_m1)) (congrArg (fun z => some (Value.int z)) (own_mod10 b_m0)) rfl (congrArg (fun z => some (Value.int z)) (own_div10 b_s0 b_s1)) (congrArg (fun z => some (Value.int z)) (own_mod10 b_s0)) rfl rfl rfl rfl rfl rfl rfl rfl
theorem own_all_0_3 {uh um us : Int32} (b_h : 0 ≤ uh.toInt) (b_m0 : 0 ≤ um.toInt) (b_m1 : um.toInt < 100) (b_s0 : 0 ≤ us.toInt) (b_s1 : us.toInt < 100) : own_all [(own_d (((uh / (10 : Int32)) / (10 : Int32)) % (10 : Int32))), (own_d ((uh / (10 : Int32)) % (10 : Int32))), (own_d (uh % (10 : Int32))), own_c, (own_d (um / (10 : Int32))), (own_d (um % (10 : Int32))), own_c, (own_d (us / (10 : Int32))), (own_d (us % (10 : Int32))), own_x, own_x, own_x, own_x, own_x, own_x, own_x] 0 3 uh um us :=
  own_16 (congrArg (fun z => some (Value.int z)) (by rw [own_p2 b_h]; exact own_mod10 (own_nn2 b_h))) (congrArg (fun z => some (Value.int z)) (own_mod10 (by have := own_div (x := uh) (y := 10) 10 rfl (by omega) b_h; omega))) (congrArg (fun z => some (Value.int z)) ((own_mod10 b_h).trans (congrArg (fun z => (48 : Int32) + z % 10) (own_q b_h).symm))) rfl (congrArg (fun z => some (Value.int z)) (own_div10 b_m0 b_m1)) (congrArg (fun z => some (Value.int z)) (own_mod10 b_m0)) rfl (congrArg (fun z => some (Value.int z)) (own_div10 b_s0 b_s1)) (congrArg (fun z => some (Value.int z)) (own_mod10 b_s0)) rfl rfl rfl rfl rfl rfl rfl
theorem own_all_0_4 {uh um us : Int32} (b_h : 0 ≤ uh.toInt) (b_m0 : 0 ≤ um.toInt) (b_m1 : um.toInt < 100) (b_s0 : 0 ≤ us.toInt) (b_s1 : us.toInt < 100) : own_all [(own_d ((((uh / (10 : Int32)) / (10 : Int32)) / (10 : Int32)) % (10 : Int32))), (own_d (((uh / (10 : Int32)) / (10 : Int32)) % (10 : Int32))), (own_d ((uh / (10 : Int32)) % (10 : Int32))), (own_d (uh % (10 : Int32))), own_c, (own_d (um / (10 : Int32))), (own_d (um % (10 : Int32))), own_c, (own_d (us / (10 : Int32))), (own_d (us % (10 : Int32))), own_x, own_x, own_x, own_x, own_x, own_x] 0 4 uh um us :=
  own_16 (congrArg (fun z => some (Value.int z)) (by rw [own_p3 b_h]; exact own_mod10 (own_nn3 b_h))) (congrArg (fun z => some (Value.int z)) (by rw [own_p2 b_h]; exact own_mod10 (own_nn2 b_h))) (congrArg (fun z => some (Value.int z)) (own_mod10 (by have := own_div (x := uh) (y := 10) 10 rfl (by omega) b_h; omega))) (congrArg (fun z => some (Value.int z)) ((own_mod10 b_h).trans (congrArg (fun z => (48 : Int32) + z % 10) (own_q b_h).symm))) rfl (congrArg (fun z => some (Value.int z)) (own_div10 b_m0 b_m1)) (congrArg (fun z => some (Value.int z)) (own_mod10 b_m0)) rfl (congrArg (fun z => some (Value.int z)) (own_div10 b_s0 b_s1)) (congrArg (fun z => some (Value.int z)) (own_mod10 b_s0)) rfl rfl rfl rfl rfl rfl
theorem own_all_0_5 {uh um us : Int32} (b_h : 0 ≤ uh.toInt) (b_m0 : 0 ≤ um.toInt) (b_m1 : um.toInt < 100) (b_s0 : 0 ≤ us.toInt) (b_s1 : us.toInt < 100) : own_all [(own_d (((((uh / (10 : Int32)) / (10 : Int32)) / (10 : Int32)) / (10 : Int32)) % (10 : Int32))), (own_d ((((uh / (10 : Int32)) / (10 : Int32)) / (10 : Int32)) % (10 : Int32))), (own_d (((uh / (10 : Int32)) / (10 : Int32)) % (10 : Int32))), (own_d ((uh / (10 : Int32)) % (10 : Int32))), (own_d (uh % (10 : Int32))), own_c, (own_d (um / (10 : Int32))), (own_d (um % (10 : Int32))), own_c, (own_d (us / (10 : Int32))), (own_d (us % (10 : Int32))), own_x, own_x, own_x, own_x, own_x] 0 5 uh um us :=
  own_16 (congrArg (fun z => some (Value.int z)) (by rw [own_p4 b_h]; exact own_mod10 (own_nn4 b_h))) (congrArg (fun z => some (Value.int z)) (by rw [own_p3 b_h]; exact own_mod10 (own_nn3 b_h))) (congrArg (fun z => some (Value.int z)) (by rw [own_p2 b_h]; exact own_mod10 (own_nn2 b_h))) (congrArg (fun z => some (Value.int z)) (own_mod10 (by have := own_div (x := uh) (y := 10) 10 rfl (by omega) b_h; omega))) (congrArg (fun z => some (Value.int z)) ((own_mod10 b_h).trans (congrArg (fun z => (48 : Int32) + z % 10) (own_q b_h).symm))) rfl (congrArg (fun z => some (Value.int z)) (own_div10 b_m0 b_m1)) (congrArg (fun z => some (Value.int z)) (own_mod10 b_m0)) rfl (congrArg (fun z => some (Value.int z)) (own_div10 b_s0 b_s1)) (congrArg (fun z => some (Value.int z)) (own_mod10 b_s0)) rfl rfl rfl rfl rfl
theorem own_all_0_6 {uh um us : Int32} (b_h : 0 ≤ uh.toInt) (b_m0 : 0 ≤ um.toInt) (b_m1 : um.toInt < 100) (b_s0 : 0 ≤ us.toInt) (b_s1 : us.toInt < 100) : own_all [(own_d ((((((uh / (10 : Int32)) / (10 : Int32)) / (10 : Int32)) / (10 : Int32)) / (10 : Int32)) % (10 : Int32))), (own_d (((((uh / (10 : Int32)) / (10 : Int32)) / (10 : Int32)) / (10 : Int32)) % (10 : Int32))), (own_d ((((uh / (10 : Int32)) / (10 : Int32)) / (10 : Int32)) % (10 : Int32))), (own_d (((uh / (10 : Int32)) / (10 : Int32)) % (10 : Int32))), (own_d ((uh / (10 : Int32)) % (10 : Int32))), (own_d (uh % (10 : Int32))), own_c, (own_d (um / (10 : Int32))), (own_d (um % (10 : Int32))), own_c, (own_d (us / (10 : Int32))), (own_d (us % (10 : Int32))), own_x, own_x, own_x, own_x] 0 6 uh um us :=
  own_16 (congrArg (fun z => some (Value.int z)) (by rw [own_p5 b_h]; exact own_mod10 (own_nn5 b_h))) (congrArg (fun z => some (Value.int z)) (by rw [own_p4 b_h]; exact own_mod10 (own_nn4 b_h))) (congrArg (fun z => some (Value.int z)) (by rw [own_p3 b_h]; exact own_mod10 (own_nn3 b_h))) (congrArg (fun z => some (Value.int z)) (by rw [own_p2 b_h]; exact own_mod10 (own_nn2 b_h))) (congrArg (fun z => some (Value.int z)) (own_mod10 (by have := own_div (x := uh) (y := 10) 10 rfl (by omega) b_h; omega))) (congrArg (fun z => some (Value.int z)) ((own_mod10 b_h).trans (congrArg (fun z => (48 : Int32) + z % 10) (own_q b_h).symm))) rfl (congrArg (fun z => some (Value.int z)) (own_div10 b_m0 b_m1)) (congrArg (fun z => some (Value.int z)) (own_mod10 b_m0)) rfl (congrArg (fun z => some (Value.int z)) (own_div10 b_s0 b_s1)) (congrArg (fun z => some (Value.int z)) (own_mod10 b_s0)) rfl rfl rfl rfl
theorem own_all_1_2 {uh um us : Int32} (b_h : 0 ≤ uh.toInt) (b_m0 : 0 ≤ um.toInt) (b_m1 : um.toInt < 100) (b_s0 : 0 ≤ us.toInt) (b_s1 : us.toInt < 100) : own_all [own_x, (own_d ((uh / (10 : Int32)) % (10 : Int32))), (own_d (uh % (10 : Int32))), own_c, (own_d (um / (10 : Int32))), (own_d (um % (10 : Int32))), own_c, (own_d (us / (10 : Int32))), (own_d (us % (10 : Int32))), own_x, own_x, own_x, own_x, own_x, own_x, own_x] 1 2 uh um us :=
  own_16 rfl (congrArg (fun z => some (Value.int z)) (own_mod10 (by have := own_div (x := uh) (y := 10) 10 rfl (by omega) b_h; omega))) (congrArg (fun z => some (Value.int z)) ((own_mod10 b_h).trans (congrArg (fun z => (48 : Int32) + z % 10) (own_q b_h).symm))) rfl (congrArg (fun z => some (Value.int z)) (own_div10 b_m0 b_m1)) (congrArg (fun z => some (Value.int z)) (own_mod10 b_m0)) rfl (congrArg (fun z => some (Value.int z)) (own_div10 b_s0 b_s1)) (congrArg (fun z => some (Value.int z)) (own_mod10 b_s0)) rfl rfl rfl rfl rfl rfl rfl
theorem own_all_1_3 {uh um us : Int32} (b_h : 0 ≤ uh.toInt) (b_m0 : 0 ≤ um.toInt) (b_m1 : um.toInt < 100) (b_s0 : 0 ≤ us.toInt) (b_s1 : us.toInt < 100) : own_all [own_x, (own_d (((uh / (10 : Int32)) / (10 : Int32)) % (10 : Int32))), (own_d ((uh / (10 : Int32)) % (10 : Int32))), (own_d (uh % (10 : Int32))), own_c, (own_d (um / (10 : Int32))), (own_d (um % (10 : Int32))), own_c, (own_d (us / (10 : Int32))), (own_d (us % (10 : Int32))), own_x, own_x, own_x, own_x, own_x, own_x] 1 3 uh um us :=
  own_16 rfl (congrArg (fun z => some (Value.int z)) (by rw [own_p2 b_h]; exact own_mod10 (own_nn2 b_h))) (congrArg (fun z => some (Value.int z)) (own_mod10 (by have := own_div (x := uh) (y := 10) 10 rfl (by omega) b_h; omega))) (congrArg (fun z => some (Value.int z)) ((own_mod10 b_h).trans (congrArg (fun z => (48 : Int32) + z % 10) (own_q b_h).symm))) rfl (congrArg (fun z => some (Value.int z)) (own_div10 b_m0 b_m1)) (congrArg (fun z => some (Value.int z)) (own_mod10 b_m0)) rfl (congrArg (fun z => some (Value.int z)) (own_div10 b_s0 b_s1)) (congrArg (fun z => some (Value.int z)) (own_mod10 b_s0)) rfl rfl rfl rfl rfl rfl
theorem own_all_1_4 {uh um us : Int32} (b_h : 0 ≤ uh.toInt) (b_m0 : 0 ≤ um.toInt) (b_m1 : um.toInt < 100) (b_s0 : 0 ≤ us.toInt) (b_s1 : us.toInt < 100) : own_all [own_x, (own_d ((((uh / (10 : Int32)) / (10 : Int32)) / (10 : Int32)) % (10 : Int32))), (own_d (((uh / (10 : Int32)) / (10 : Int32)) % (10 : Int32))), (own_d ((uh / (10 : Int32)) % (10 : Int32))), (own_d (uh % (10 : Int32))), own_c, (own_d (um / (10 : Int32))), (own_d (um % (10 : Int32))), own_c, (own_d (us / (10 : Int32))), (own_d (us % (10 : Int32))), own_x, own_x, own_x, own_x, own_x] 1 4 uh um us :=
  own_16 rfl (congrArg (fun z => some (Value.int z)) (by rw [own_p3 b_h]; exact own_mod10 (own_nn3 b_h))) (congrArg (fun z => some (Value.int z)) (by rw [own_p2 b_h]; exact own_mod10 (own_nn2 b_h))) (congrArg (fun z => some (Value.int z)) (own_mod10 (by have := own_div (x := uh) (y := 10) 10 rfl (by omega) b_h; omega))) (congrArg (fun z => some (Value.int z)) ((own_mod10 b_h).trans (congrArg (fun z => (48 : Int32) + z % 10) (own_q b_h).symm))) rfl (congrArg (fun z => some (Value.int z)) (own_div10 b_m0 b_m1)) (congrArg (fun z => some (Value.int z)) (own_mod10 b_m0)) rfl (congrArg (fun z => some (Value.int z)) (own_div10 b_s0 b_s1)) (congrArg (fun z => some (Value.int z)) (own_mod10 b_s0)) rfl rfl rfl rfl rfl
theorem own_all_1_5 {uh um us : Int32} (b_h : 0 ≤ uh.toInt) (b_m0 : 0 ≤ um.toInt) (b_m1 : um.toInt < 100) (b_s0 : 0 ≤ us.toInt) (b_s1 : us.toInt < 100) : own_all [own_x, (own_d (((((uh / (10 : Int32)) / (10 : Int32)) / (10 : Int32)) / (10 : Int32)) % (10 : Int32))), (own_d ((((uh / (10 : Int32)) / (10 : Int32)) / (10 : Int32)) % (10 : Int32))), (own_d (((uh / (10 : Int32)) / (10 : Int32)) % (10 : Int32))), (own_d ((uh / (10 : Int32)) % (10 : Int32))), (own_d (uh % (10 : Int32))), own_c, (own_d (um / (10 : Int32))), (own_d (um % (10 : Int32))), own_c, (own_d (us / (10 : Int32))), (own_d (us % (10 : Int32))), own_x, own_x, own_x, own_x] 1 5 uh um us :=
  own_16 rfl (congrArg (fun z => some (Value.int z)) (by rw [own_p4 b_h]; exact own_mod10 (own_nn4 b_h))) (congrArg (fun z => some (Value.int z)) (by rw [own_p3 b_h]; exact own_mod10 (own_nn3 b_h))) (congrArg (fun z => some (Value.int z)) (by rw [own_p2 b_h]; exact own_mod10 (own_nn2 b_h))) (congrArg (fun z => some (Value.int z)) (own_mod10 (by have := own_div (x := uh) (y := 10) 10 rfl (by omega) b_h; omega))) (congrArg (fun z => some (Value.int z)) ((own_mod10 b_h).trans (congrArg (fun z => (48 : Int32) + z % 10) (own_q b_h).symm))) rfl (congrArg (fun z => some (Value.int z)) (own_div10 b_m0 b_m1)) (congrArg (fun z => some (Value.int z)) (own_mod10 b_m0)) rfl (congrArg (fun z => some (Value.int z)) (own_div10 b_s0 b_s1)) (congrArg (fun z => some (Value.int z)) (own_mod10 b_s0)) rfl rfl rfl rfl
theorem own_all_1_6 {uh um us : Int32} (b_h : 0 ≤ uh.toInt) (b_m0 : 0 ≤ um.toInt) (b_m1 : um.toInt < 100) (b_s0 : 0 ≤ us.toInt) (b_s1 : us.toInt < 100) : own_all [own_x, (own_d ((((((uh / (10 : Int32)) / (10 : Int32)) / (10 : Int32)) / (10 : Int32)) / (10 : Int32)) % (10 : Int32))), (own_d (((((uh / (10 : Int32)) / (10 : Int32)) / (10 : Int32)) / (10 : Int32)) % (10 : Int32))), (own_d ((((uh / (10 : Int32)) / (10 : Int32)) / (10 : Int32)) % (10 : Int32))), (own_d (((uh / (10 : Int32)) / (10 : Int32)) % (10 : Int32))), (own_d ((uh / (10 : Int32)) % (10 : Int32))), (own_d (uh % (10 : Int32))), own_c, (own_d (um / (10 : Int32))), (own_d (um % (10 : Int32))), own_c, (own_d (us / (10 : Int32))), (own_d (us % (10 : Int32))), own_x, own_x, own_x] 1 6 uh um us :=
  own_16 rfl (congrArg (fun z => some (Value.int z)) (by rw [own_p5 b_h]; exact own_mod10 (own_nn5 b_h))) (congrArg (fun z => some (Value.int z)) (by rw [own_p4 b_h]; exact own_mod10 (own_nn4 b_h))) (congrArg (fun z => some (Value.int z)) (by rw [own_p3 b_h]; exact own_mod10 (own_nn3 b_h))) (congrArg (fun z => some (Value.int z)) (by rw [own_p2 b_h]; exact own_mod10 (own_nn2 b_h))) (congrArg (fun z => some (Value.int z)) (own_mod10 (by have := own_div (x := uh) (y := 10) 10 rfl (by omega) b_h; omega))) (congrArg (fun z => some (Value.int z)) ((own_mod10 b_h).trans (congrArg (fun z => (48 : Int32) + z % 10) (own_q b_h).symm))) rfl (congrArg (fun z => some (Value.int z)) (own_div10 b_m0 b_m1)) (congrArg (fun z => some (Value.int z)) (own_mod10 b_m0)) rfl (congrArg (fun z => some (Value.int z)) (own_div10 b_s0 b_s1)) (congrArg (fun z => some (Value.int z)) (own_mod10 b_s0)) rfl rfl rfl
theorem own_all_2_2 {uh um us : Int32} (b_h : 0 ≤ uh.toInt) (b_m0 : 0 ≤ um.toInt) (b_m1 : um.toInt < 100) (b_s0 : 0 ≤ us.toInt) (b_s1 : us.toInt < 100) : own_all [own_x, own_x, (own_d ((uh / (10 : Int32)) % (10 : Int32))), (own_d (uh % (10 : Int32))), own_c, (own_d (um / (10 : Int32))), (own_d (um % (10 : Int32))), own_c, (own_d (us / (10 : Int32))), (own_d (us % (10 : Int32))), own_x, own_x, own_x, own_x, own_x, own_x] 2 2 uh um us :=
  own_16 rfl rfl (congrArg (fun z => some (Value.int z)) (own_mod10 (by have := own_div (x := uh) (y := 10) 10 rfl (by omega) b_h; omega))) (congrArg (fun z => some (Value.int z)) ((own_mod10 b_h).trans (congrArg (fun z => (48 : Int32) + z % 10) (own_q b_h).symm))) rfl (congrArg (fun z => some (Value.int z)) (own_div10 b_m0 b_m1)) (congrArg (fun z => some (Value.int z)) (own_mod10 b_m0)) rfl (congrArg (fun z => some (Value.int z)) (own_div10 b_s0 b_s1)) (congrArg (fun z => some (Value.int z)) (own_mod10 b_s0)) rfl rfl rfl rfl rfl rfl
theorem own_all_2_3 {uh um us : Int32} (b_h : 0 ≤ uh.toInt) (b_m0 : 0 ≤ um.toInt) (b_m1 : um.toInt < 100) (b_s0 : 0 ≤ us.toInt) (b_s1 : us.toInt < 100) : own_all [own_x, own_x, (own_d (((uh / (10 : Int32)) / (10 : Int32)) % (10 : Int32))), (own_d ((uh / (10 : Int32)) % (10 : Int32))), (own_d (uh % (10 : Int32))), own_c, (own_d (um / (10 : Int32))), (own_d (um % (10 : Int32))), own_c, (own_d (us / (10 : Int32))), (own_d (us % (10 : Int32))), own_x, own_x, own_x, own_x, own_x] 2 3 uh um us :=
  own_16 rfl rfl (congrArg (fun z => some (Value.int z)) (by rw [own_p2 b_h]; exact own_mod10 (own_nn2 b_h))) (congrArg (fun z => some (Value.int z)) (own_mod10 (by have := own_div (x := uh) (y := 10) 10 rfl (by omega) b_h; omega))) (congrArg (fun z => some (Value.int z)) ((own_mod10 b_h).trans (congrArg (fun z => (48 : Int32) + z % 10) (own_q b_h).symm))) rfl (congrArg (fun z => some (Value.int z)) (own_div10 b_m0 b_m1)) (congrArg (fun z => some (Value.int z)) (own_mod10 b_m0)) rfl (congrArg (fun z => some (Value.int z)) (own_div10 b_s0 b_s1)) (congrArg (fun z => some (Value.int z)) (own_mod10 b_s0)) rfl rfl rfl rfl rfl
theorem own_all_2_4 {uh um us : Int32} (b_h : 0 ≤ uh.toInt) (b_m0 : 0 ≤ um.toInt) (b_m1 : um.toInt < 100) (b_s0 : 0 ≤ us.toInt) (b_s1 : us.toInt < 100) : own_all [own_x, own_x, (own_d ((((uh / (10 : Int32)) / (10 : Int32)) / (10 : Int32)) % (10 : Int32))), (own_d (((uh / (10 : Int32)) / (10 : Int32)) % (10 : Int32))), (own_d ((uh / (10 : Int32)) % (10 : Int32))), (own_d (uh % (10 : Int32))), own_c, (own_d (um / (10 : Int32))), (own_d (um % (10 : Int32))), own_c, (own_d (us / (10 : Int32))), (own_d (us % (10 : Int32))), own_x, own_x, own_x, own_x] 2 4 uh um us :=
  own_16 rfl rfl (congrArg (fun z => some (Value.int z)) (by rw [own_p3 b_h]; exact own_mod10 (own_nn3 b_h))) (congrArg (fun z => some (Value.int z)) (by rw [own_p2 b_h]; exact own_mod10 (own_nn2 b_h))) (congrArg (fun z => some (Value.int z)) (own_mod10 (by have := own_div (x := uh) (y := 10) 10 rfl (by omega) b_h; omega))) (congrArg (fun z => some (Value.int z)) ((own_mod10 b_h).trans (congrArg (fun z => (48 : Int32) + z % 10) (own_q b_h).symm))) rfl (congrArg (fun z => some (Value.int z)) (own_div10 b_m0 b_m1)) (congrArg (fun z => some (Value.int z)) (own_mod10 b_m0)) rfl (congrArg (fun z => some (Value.int z)) (own_div10 b_s0 b_s1)) (congrArg (fun z => some (Value.int z)) (own_mod10 b_s0)) rfl rfl rfl rfl
theorem own_all_2_5 {uh um us : Int32} (b_h : 0 ≤ uh.toInt) (b_m0 : 0 ≤ um.toInt) (b_m1 : um.toInt < 100) (b_s0 : 0 ≤ us.toInt) (b_s1 : us.toInt < 100) : own_all [own_x, own_x, (own_d (((((uh / (10 : Int32)) / (10 : Int32)) / (10 : Int32)) / (10 : Int32)) % (10 : Int32))), (own_d ((((uh / (10 : Int32)) / (10 : Int32)) / (10 : Int32)) % (10 : Int32))), (own_d (((uh / (10 : Int32)) / (10 : Int32)) % (10 : Int32))), (own_d ((uh / (10 : Int32)) % (10 : Int32))), (own_d (uh % (10 : Int32))), own_c, (own_d (um / (10 : Int32))), (own_d (um % (10 : Int32))), own_c, (own_d (us / (10 : Int32))), (own_d (us % (10 : Int32))), own_x, own_x, own_x] 2 5 uh um us :=
  own_16 rfl rfl (congrArg (fun z => some (Value.int z)) (by rw [own_p4 b_h]; exact own_mod10 (own_nn4 b_h))) (congrArg (fun z => some (Value.int z)) (by rw [own_p3 b_h]; exact own_mod10 (own_nn3 b_h))) (congrArg (fun z => some (Value.int z)) (by rw [own_p2 b_h]; exact own_mod10 (own_nn2 b_h))) (congrArg (fun z => some (Value.int z)) (own_mod10 (by have := own_div (x := uh) (y := 10) 10 rfl (by omega) b_h; omega))) (congrArg (fun z => some (Value.int z)) ((own_mod10 b_h).trans (congrArg (fun z => (48 : Int32) + z % 10) (own_q b_h).symm))) rfl (congrArg (fun z => some (Value.int z)) (own_div10 b_m0 b_m1)) (congrArg (fun z => some (Value.int z)) (own_mod10 b_m0)) rfl (congrArg (fun z => some (Value.int z)) (own_div10 b_s0 b_s1)) (congrArg (fun z => some (Value.int z)) (own_mod10 b_s0)) rfl rfl rfl
theorem own_all_2_6 {uh um us : Int32} (b_h : 0 ≤ uh.toInt) (b_m0 : 0 ≤ um.toInt) (b_m1 : um.toInt < 100) (b_s0 : 0 ≤ us.toInt) (b_s1 : us.toInt < 100) : own_all [own_x, own_x, (own_d ((((((uh / (10 : Int32)) / (10 : Int32)) / (10 : Int32)) / (10 : Int32)) / (10 : Int32)) % (10 : Int32))), (own_d (((((uh / (10 : Int32)) / (10 : Int32)) / (10 : Int32)) / (10 : Int32)) % (10 : Int32))), (own_d ((((uh / (10 : Int32)) / (10 : Int32)) / (10 : Int32)) % (10 : Int32))), (own_d (((uh / (10 : Int32)) / (10 : Int32)) % (10 : Int32))), (own_d ((uh / (10 : Int32)) % (10 : Int32))), (own_d (uh % (10 : Int32))), own_c, (own_d (um / (10 : Int32))), (own_d (um % (10 : Int32))), own_c, (own_d (us / (10 : Int32))), (own_d (us % (10 : Int32))), own_x, own_x] 2 6 uh um us :=
  own_16 rfl rfl (congrArg (fun z => some (Value.int z)) (by rw [own_p5 b_h]; exact own_mod10 (own_nn5 b_h))) (congrArg (fun z => some (Value.int z)) (by rw [own_p4 b_h]; exact own_mod10 (own_nn4 b_h))) (congrArg (fun z => some (Value.int z)) (by rw [own_p3 b_h]; exact own_mod10 (own_nn3 b_h))) (congrArg (fun z => some (Value.int z)) (by rw [own_p2 b_h]; exact own_mod10 (own_nn2 b_h))) (congrArg (fun z => some (Value.int z)) (own_mod10 (by have := own_div (x := uh) (y := 10) 10 rfl (by omega) b_h; omega))) (congrArg (fun z => some (Value.int z)) ((own_mod10 b_h).trans (congrArg (fun z => (48 : Int32) + z % 10) (own_q b_h).symm))) rfl (congrArg (fun z => some (Value.int z)) (own_div10 b_m0 b_m1)) (congrArg (fun z => some (Value.int z)) (own_mod10 b_m0)) rfl (congrArg (fun z => some (Value.int z)) (own_div10 b_s0 b_s1)) (congrArg (fun z => some (Value.int z)) (own_mod10 b_s0)) rfl rfl
theorem own_all_3_2 {uh um us : Int32} (b_h : 0 ≤ uh.toInt) (b_m0 : 0 ≤ um.toInt) (b_m1 : um.toInt < 100) (b_s0 : 0 ≤ us.toInt) (b_s1 : us.toInt < 100) : own_all [own_x, own_x, own_x, (own_d ((uh / (10 : Int32)) % (10 : Int32))), (own_d (uh % (10 : Int32))), own_c, (own_d (um / (10 : Int32))), (own_d (um % (10 : Int32))), own_c, (own_d (us / (10 : Int32))), (own_d (us % (10 : Int32))), own_x, own_x, own_x, own_x, own_x] 3 2 uh um us :=
  own_16 rfl rfl rfl (congrArg (fun z => some (Value.int z)) (own_mod10 (by have := own_div (x := uh) (y := 10) 10 rfl (by omega) b_h; omega))) (congrArg (fun z => some (Value.int z)) ((own_mod10 b_h).trans (congrArg (fun z => (48 : Int32) + z % 10) (own_q b_h).symm))) rfl (congrArg (fun z => some (Value.int z)) (own_div10 b_m0 b_m1)) (congrArg (fun z => some (Value.int z)) (own_mod10 b_m0)) rfl (congrArg (fun z => some (Value.int z)) (own_div10 b_s0 b_s1)) (congrArg (fun z => some (Value.int z)) (own_mod10 b_s0)) rfl rfl rfl rfl rfl
theorem own_all_3_3 {uh um us : Int32} (b_h : 0 ≤ uh.toInt) (b_m0 : 0 ≤ um.toInt) (b_m1 : um.toInt < 100) (b_s0 : 0 ≤ us.toInt) (b_s1 : us.toInt < 100) : own_all [own_x, own_x, own_x, (own_d (((uh / (10 : Int32)) / (10 : Int32)) % (10 : Int32))), (own_d ((uh / (10 : Int32)) % (10 : Int32))), (own_d (uh % (10 : Int32))), own_c, (own_d (um / (10 : Int32))), (own_d (um % (10 : Int32))), own_c, (own_d (us / (10 : Int32))), (own_d (us % (10 : Int32))), own_x, own_x, own_x, own_x] 3 3 uh um us :=
  own_16 rfl rfl rfl (congrArg (fun z => some (Value.int z)) (by rw [own_p2 b_h]; exact own_mod10 (own_nn2 b_h))) (congrArg (fun z => some (Value.int z)) (own_mod10 (by have := own_div (x := uh) (y := 10) 10 rfl (by omega) b_h; omega))) (congrArg (fun z => some (Value.int z)) ((own_mod10 b_h).trans (congrArg (fun z => (48 : Int32) + z % 10) (own_q b_h).symm))) rfl (congrArg (fun z => some (Value.int z)) (own_div10 b_m0 b_m1)) (congrArg (fun z => some (Value.int z)) (own_mod10 b_m0)) rfl (congrArg (fun z => some (Value.int z)) (own_div10 b_s0 b_s1)) (congrArg (fun z => some (Value.int z)) (own_mod10 b_s0)) rfl rfl rfl rfl
theorem own_all_3_4 {uh um us : Int32} (b_h : 0 ≤ uh.toInt) (b_m0 : 0 ≤ um.toInt) (b_m1 : um.toInt < 100) (b_s0 : 0 ≤ us.toInt) (b_s1 : us.toInt < 100) : own_all [own_x, own_x, own_x, (own_d ((((uh / (10 : Int32)) / (10 : Int32)) / (10 : Int32)) % (10 : Int32))), (own_d (((uh / (10 : Int32)) / (10 : Int32)) % (10 : Int32))), (own_d ((uh / (10 : Int32)) % (10 : Int32))), (own_d (uh % (10 : Int32))), own_c, (own_d (um / (10 : Int32))), (own_d (um % (10 : Int32))), own_c, (own_d (us / (10 : Int32))), (own_d (us % (10 : Int32))), own_x, own_x, own_x] 3 4 uh um us :=
  own_16 rfl rfl rfl (congrArg (fun z => some (Value.int z)) (by rw [own_p3 b_h]; exact own_mod10 (own_nn3 b_h))) (congrArg (fun z => some (Value.int z)) (by rw [own_p2 b_h]; exact own_mod10 (own_nn2 b_h))) (congrArg (fun z => some (Value.int z)) (own_mod10 (by have := own_div (x := uh) (y := 10) 10 rfl (by omega) b_h; omega))) (congrArg (fun z => some (Value.int z)) ((own_mod10 b_h).trans (congrArg (fun z => (48 : Int32) + z % 10) (own_q b_h).symm))) rfl (congrArg (fun z => some (Value.int z)) (own_div10 b_m0 b_m1)) (congrArg (fun z => some (Value.int z)) (own_mod10 b_m0)) rfl (congrArg (fun z => some (Value.int z)) (own_div10 b_s0 b_s1)) (congrArg (fun z => some (Value.int z)) (own_mod10 b_s0)) rfl rfl rfl
theorem own_all_3_5 {uh um us : Int32} (b_h : 0 ≤ uh.toInt) (b_m0 : 0 ≤ um.toInt) (b_m1 : um.toInt < 100) (b_s0 : 0 ≤ us.toInt) (b_s1 : us.toInt < 100) : own_all [own_x, own_x, own_x, (own_d (((((uh / (10 : Int32)) / (10 : Int32)) / (10 : Int32)) / (10 : Int32)) % (10 : Int32))), (own_d ((((uh / (10 : Int32)) / (10 : Int32)) / (10 : Int32)) % (10 : Int32))), (own_d (((uh / (10 : Int32)) / (10 : Int32)) % (10 : Int32))), (own_d ((uh / (10 : Int32)) % (10 : Int32))), (own_d (uh % (10 : Int32))), own_c, (own_d (um / (10 : Int32))), (own_d (um % (10 : Int32))), own_c, (own_d (us / (10 : Int32))), (own_d (us % (10 : Int32))), own_x, own_x] 3 5 uh um us :=
  own_16 rfl rfl rfl (congrArg (fun z => some (Value.int z)) (by rw [own_p4 b_h]; exact own_mod10 (own_nn4 b_h))) (congrArg (fun z => some (Value.int z)) (by rw [own_p3 b_h]; exact own_mod10 (own_nn3 b_h))) (congrArg (fun z => some (Value.int z)) (by rw [own_p2 b_h]; exact own_mod10 (own_nn2 b_h))) (congrArg (fun z => some (Value.int z)) (own_mod10 (by have := own_div (x := uh) (y := 10) 10 rfl (by omega) b_h; omega))) (congrArg (fun z => some (Value.int z)) ((own_mod10 b_h).trans (congrArg (fun z => (48 : Int32) + z % 10) (own_q b_h).symm))) rfl (congrArg (fun z => some (Value.int z)) (own_div10 b_m0 b_m1)) (congrArg (fun z => some (Value.int z)) (own_mod10 b_m0)) rfl (congrArg (fun z => some (Value.int z)) (own_div10 b_s0 b_s1)) (congrArg (fun z => some (Value.int z)) (own_mod10 b_s0)) rfl rfl
theorem own_all_3_6 {uh um us : Int32} (b_h : 0 ≤ uh.toInt) (b_m0 : 0 ≤ um.toInt) (b_m1 : um.toInt < 100) (b_s0 : 0 ≤ us.toInt) (b_s1 : us.toInt < 100) : own_all [own_x, own_x, own_x, (own_d ((((((uh / (10 : Int32)) / (10 : Int32)) / (10 : Int32)) / (10 : Int32)) / (10 : Int32)) % (10 : Int32))), (own_d (((((uh / (10 : Int32)) / (10 : Int32)) / (10 : Int32)) / (10 : Int32)) % (10 : Int32))), (own_d ((((uh / (10 : Int32)) / (10 : Int32)) / (10 : Int32)) % (10 : Int32))), (own_d (((uh / (10 : Int32)) / (10 : Int32)) % (10 : Int32))), (own_d ((uh / (10 : Int32)) % (10 : Int32))), (own_d (uh % (10 : Int32))), own_c, (own_d (um / (10 : Int32))), (own_d (um % (10 : Int32))), own_c, (own_d (us / (10 : Int32))), (own_d (us % (10 : Int32))), own_x] 3 6 uh um us :=
  own_16 rfl rfl rfl (congrArg (fun z => some (Value.int z)) (by rw [own_p5 b_h]; exact own_mod10 (own_nn5 b_h))) (congrArg (fun z => some (Value.int z)) (by rw [own_p4 b_h]; exact own_mod10 (own_nn4 b_h))) (congrArg (fun z => some (Value.int z)) (by rw [own_p3 b_h]; exact own_mod10 (own_nn3 b_h))) (congrArg (fun z => some (Value.int z)) (by rw [own_p2 b_h]; exact own_mod10 (own_nn2 b_h))) (congrArg (fun z => some (Value.int z)) (own_mod10 (by have := own_div (x := uh) (y := 10) 10 rfl (by omega) b_h; omega))) (congrArg (fun z => some (Value.int z)) ((own_mod10 b_h).trans (congrArg (fun z => (48 : Int32) + z % 10) (own_q b_h).symm))) rfl (congrArg (fun z => some (Value.int z)) (own_div10 b_m0 b_m1)) (congrArg (fun z => some (Value.int z)) (own_mod10 b_m0)) rfl (congrArg (fun z => some (Value.int z)) (own_div10 b_s0 b_s1)) (congrArg (fun z => some (Value.int z)) (own_mod10 b_s0)) rfl
def Q_rmF (Z : State) (a1 : Addr) (ka : ClassId) (ua uh um us : Int32) (h0 : Heap) (v : Option Value) (h : Heap) : Prop := ∃ vs : List Value, v = some (.int (ua + own_ndf uh + 6)) ∧ Keep h0 h [a1] ∧ Arl Z h a1 ka .byte vs ∧ own_all vs ua (own_ndf uh) uh um us
theorem rmF (l : Launch) (Z : State) (a0 : Array Value) (hw : ∀ d ∈ tables_1, d.before a0 Z = true) (ws : List Jvm.Cond) (p0 : Int32) (a1 : Addr) (ka : ClassId) (ua uh um us : Int32) (h0 : Heap) (n0 : Nat) (hn : n0 ≤ h0.size) (V_a1 : Arl Z h0 a1 ka .byte [own_x, own_x, own_x, own_x, own_x, own_x, own_x, own_x, own_x, own_x, own_x, own_x, own_x, own_x, own_x, own_x]) (g_a1 : n0 ≤ a1) (e_h : p0 / (3600 : Int32) = uh) (e_m : (p0 / (60 : Int32)) % (60 : Int32) = um) (e_s : p0 % (60 : Int32) = us) (b_a : ua = 0 ∨ ua = 1 ∨ ua = 2 ∨ ua = 3) (b_h : 0 ≤ uh.toInt) (b_h2 : uh.toInt < 1000000) (b_m0 : 0 ≤ um.toInt) (b_m1 : um.toInt < 100) (b_s0 : 0 ≤ us.toInt) (b_s1 : us.toInt < 100) :
    Met false l Z (⟨"com/example/voznired/voznired/timetable/StopTime", "formatTime", "(I[BI)I"⟩ : MethodName) prog_118_method_10_code 10 (some .int) ({ frames := 1, cells := 0, slots := 0, locals := 14 } : Room) ws #[(.int p0), (.ref a1), (.int ua)] h0 n0 (Q_rmF Z a1 ka ua uh um us h0) := by
  rcases own_nd uh b_h b_h2 with d | d | d | d | d
  · have p2 : uh < 100 := by
      simp only [Int32.lt_iff_toInt_lt, Int32.reduceToInt]; omega
    have en : own_ndf uh = 2 := by rw [own_ndf, if_pos p2]
    rcases b_a with rfl | rfl | rfl | rfl
    · exact (rmF_0_2 l Z a0 hw ws p0 a1 ka uh um us h0 n0 hn V_a1 g_a1 e_h e_m e_s (by omega) (by omega)).imp fun v h q => ⟨_, by rw [en]; exact q.1, q.2.1, q.2.2, by rw [en]; exact own_all_0_2 b_h b_m0 b_m1 b_s0 b_s1⟩
    · exact (rmF_1_2 l Z a0 hw ws p0 a1 ka uh um us h0 n0 hn V_a1 g_a1 e_h e_m e_s (by omega) (by omega)).imp fun v h q => ⟨_, by rw [en]; exact q.1, q.2.1, q.2.2, by rw [en]; exact own_all_1_2 b_h b_m0 b_m1 b_s0 b_s1⟩
    · exact (rmF_2_2 l Z a0 hw ws p0 a1 ka uh um us h0 n0 hn V_a1 g_a1 e_h e_m e_s (by omega) (by omega)).imp fun v h q => ⟨_, by rw [en]; exact q.1, q.2.1, q.2.2, by rw [en]; exact own_all_2_2 b_h b_m0 b_m1 b_s0 b_s1⟩
    · exact (rmF_3_2 l Z a0 hw ws p0 a1 ka uh um us h0 n0 hn V_a1 g_a1 e_h e_m e_s (by omega) (by omega)).imp fun v h q => ⟨_, by rw [en]; exact q.1, q.2.1, q.2.2, by rw [en]; exact own_all_3_2 b_h b_m0 b_m1 b_s0 b_s1⟩
  · have p2 : ¬ uh < 100 := by
      simp only [Int32.lt_iff_toInt_lt, Int32.reduceToInt]; omega
    have p3 : uh < 1000 := by
      simp only [Int32.lt_iff_toInt_lt, Int32.reduceToInt]; omega
    have en : own_ndf uh = 3 := by rw [own_ndf, if_neg p2, if_pos p3]
    rcases b_a with rfl | rfl | rfl | rfl
    · exact (rmF_0_3 l Z a0 hw ws p0 a1 ka uh um us h0 n0 hn V_a1 g_a1 e_h e_m e_s (by omega) (by omega)).imp fun v h q => ⟨_, by rw [en]; exact q.1, q.2.1, q.2.2, by rw [en]; exact own_all_0_3 b_h b_m0 b_m1 b_s0 b_s1⟩
    · exact (rmF_1_3 l Z a0 hw ws p0 a1 ka uh um us h0 n0 hn V_a1 g_a1 e_h e_m e_s (by omega) (by omega)).imp fun v h q => ⟨_, by rw [en]; exact q.1, q.2.1, q.2.2, by rw [en]; exact own_all_1_3 b_h b_m0 b_m1 b_s0 b_s1⟩
    · exact (rmF_2_3 l Z a0 hw ws p0 a1 ka uh um us h0 n0 hn V_a1 g_a1 e_h e_m e_s (by omega) (by omega)).imp fun v h q => ⟨_, by rw [en]; exact q.1, q.2.1, q.2.2, by rw [en]; exact own_all_2_3 b_h b_m0 b_m1 b_s0 b_s1⟩
    · exact (rmF_3_3 l Z a0 hw ws p0 a1 ka uh um us h0 n0 hn V_a1 g_a1 e_h e_m e_s (by omega) (by omega)).imp fun v h q => ⟨_, by rw [en]; exact q.1, q.2.1, q.2.2, by rw [en]; exact own_all_3_3 b_h b_m0 b_m1 b_s0 b_s1⟩
  · have p2 : ¬ uh < 100 := by
      simp only [Int32.lt_iff_toInt_lt, Int32.reduceToInt]; omega
    have p3 : ¬ uh < 1000 := by
      simp only [Int32.lt_iff_toInt_lt, Int32.reduceToInt]; omega
    have p4 : uh < 10000 := by
      simp only [Int32.lt_iff_toInt_lt, Int32.reduceToInt]; omega
    have en : own_ndf uh = 4 := by rw [own_ndf, if_neg p2, if_neg p3, if_pos p4]
    rcases b_a with rfl | rfl | rfl | rfl
    · exact (rmF_0_4 l Z a0 hw ws p0 a1 ka uh um us h0 n0 hn V_a1 g_a1 e_h e_m e_s (by omega) (by omega)).imp fun v h q => ⟨_, by rw [en]; exact q.1, q.2.1, q.2.2, by rw [en]; exact own_all_0_4 b_h b_m0 b_m1 b_s0 b_s1⟩
    · exact (rmF_1_4 l Z a0 hw ws p0 a1 ka uh um us h0 n0 hn V_a1 g_a1 e_h e_m e_s (by omega) (by omega)).imp fun v h q => ⟨_, by rw [en]; exact q.1, q.2.1, q.2.2, by rw [en]; exact own_all_1_4 b_h b_m0 b_m1 b_s0 b_s1⟩
    · exact (rmF_2_4 l Z a0 hw ws p0 a1 ka uh um us h0 n0 hn V_a1 g_a1 e_h e_m e_s (by omega) (by omega)).imp fun v h q => ⟨_, by rw [en]; exact q.1, q.2.1, q.2.2, by rw [en]; exact own_all_2_4 b_h b_m0 b_m1 b_s0 b_s1⟩
    · exact (rmF_3_4 l Z a0 hw ws p0 a1 ka uh um us h0 n0 hn V_a1 g_a1 e_h e_m e_s (by omega) (by omega)).imp fun v h q => ⟨_, by rw [en]; exact q.1, q.2.1, q.2.2, by rw [en]; exact own_all_3_4 b_h b_m0 b_m1 b_s0 b_s1⟩
  · have p2 : ¬ uh < 100 := by
      simp only [Int32.lt_iff_toInt_lt, Int32.reduceToInt]; omega
    have p3 : ¬ uh < 1000 := by
      simp only [Int32.lt_iff_toInt_lt, Int32.reduceToInt]; omega
    have p4 : ¬ uh < 10000 := by
      simp only [Int32.lt_iff_toInt_lt, Int32.reduceToInt]; omega
    have p5 : uh < 100000 := by
      simp only [Int32.lt_iff_toInt_lt, Int32.reduceToInt]; omega
    have en : own_ndf uh = 5 := by rw [own_ndf, if_neg p2, if_neg p3, if_neg p4, if_pos p5]
    rcases b_a with rfl | rfl | rfl | rfl
    · exact (rmF_0_5 l Z a0 hw ws p0 a1 ka uh um us h0 n0 hn V_a1 g_a1 e_h e_m e_s (by omega) (by omega)).imp fun v h q => ⟨_, by rw [en]; exact q.1, q.2.1, q.2.2, by rw [en]; exact own_all_0_5 b_h b_m0 b_m1 b_s0 b_s1⟩
    · exact (rmF_1_5 l Z a0 hw ws p0 a1 ka uh um us h0 n0 hn V_a1 g_a1 e_h e_m e_s (by omega) (by omega)).imp fun v h q => ⟨_, by rw [en]; exact q.1, q.2.1, q.2.2, by rw [en]; exact own_all_1_5 b_h b_m0 b_m1 b_s0 b_s1⟩
    · exact (rmF_2_5 l Z a0 hw ws p0 a1 ka uh um us h0 n0 hn V_a1 g_a1 e_h e_m e_s (by omega) (by omega)).imp fun v h q => ⟨_, by rw [en]; exact q.1, q.2.1, q.2.2, by rw [en]; exact own_all_2_5 b_h b_m0 b_m1 b_s0 b_s1⟩
    · exact (rmF_3_5 l Z a0 hw ws p0 a1 ka uh um us h0 n0 hn V_a1 g_a1 e_h e_m e_s (by omega) (by omega)).imp fun v h q => ⟨_, by rw [en]; exact q.1, q.2.1, q.2.2, by rw [en]; exact own_all_3_5 b_h b_m0 b_m1 b_s0 b_s1⟩
  · have p2 : ¬ uh < 100 := by
      simp only [Int32.lt_iff_toInt_lt, Int32.reduceToInt]; omega
    have p3 : ¬ uh < 1000 := by
      simp only [Int32.lt_iff_toInt_lt, Int32.reduceToInt]; omega
    have p4 : ¬ uh < 10000 := by
      simp only [Int32.lt_iff_toInt_lt, Int32.reduceToInt]; omega
    have p5 : ¬ uh < 100000 := by
      simp only [Int32.lt_iff_toInt_lt, Int32.reduceToInt]; omega
    have en : own_ndf uh = 6 := by rw [own_ndf, if_neg p2, if_neg p3, if_neg p4, if_neg p5]
    rcases b_a with rfl | rfl | rfl | rfl
    · exact (rmF_0_6 l Z a0 hw ws p0 a1 ka uh um us h0 n0 hn V_a1 g_a1 e_h e_m e_s (by omega) (by omega)).imp fun v h q => ⟨_, by rw [en]; exact q.1, q.2.1, q.2.2, by rw [en]; exact own_all_0_6 b_h b_m0 b_m1 b_s0 b_s1⟩
    · exact (rmF_1_6 l Z a0 hw ws p0 a1 ka uh um us h0 n0 hn V_a1 g_a1 e_h e_m e_s (by omega) (by omega)).imp fun v h q => ⟨_, by rw [en]; exact q.1, q.2.1, q.2.2, by rw [en]; exact own_all_1_6 b_h b_m0 b_m1 b_s0 b_s1⟩
    · exact (rmF_2_6 l Z a0 hw ws p0 a1 ka uh um us h0 n0 hn V_a1 g_a1 e_h e_m e_s (by omega) (by omega)).imp fun v h q => ⟨_, by rw [en]; exact q.1, q.2.1, q.2.2, by rw [en]; exact own_all_2_6 b_h b_m0 b_m1 b_s0 b_s1⟩
    · exact (rmF_3_6 l Z a0 hw ws p0 a1 ka uh um us h0 n0 hn V_a1 g_a1 e_h e_m e_s (by omega) (by omega)).imp fun v h q => ⟨_, by rw [en]; exact q.1, q.2.1, q.2.2, by rw [en]; exact own_all_3_6 b_h b_m0 b_m1 b_s0 b_s1⟩
theorem pd_3 : parseMethodDescriptor "(I[BI)I" = some ⟨[.int, (.array .byte), .int], some .int⟩ := by decide +kernel
theorem pd_4 : parseMethodDescriptor "([BIIIIII)Z" = some ⟨[(.array .byte), .int, .int, .int, .int, .int, .int], some .boolean⟩ := by decide +kernel
def Q_rm0 (Z : State)  (h0 : Heap) (n0 : Nat) (v : Option Value) (h : Heap) : Prop := v = some (.int 1)
theorem ef_rm0 (m : MethodId) (p0 : Int32) (p1 : Int32)  : entryFrame m #[(.int p0), (.int p1)] maxLocals = mkF m 0 #[.val (.int p0), .val (.int p1), .unset, .unset, .unset, .unset, .unset, .unset, .unset, .unset, .unset] [] := by first | (simp [entryFrame, mkF, argsToLocals, Value.category, maxLocals]; done) | rfl
theorem pn_0 : plainFor (⟨"com/example/voznired/voznired/timetable/StopTimeFormatTimePinLaw", "law", "(II)Z"⟩ : MethodName) = true := plainFor_of_name (show plainName "com/example/voznired/voznired/timetable/StopTimeFormatTimePinLaw" = true by first | (simp [plainName, overriddenIn]; done) | decide +kernel)
set_option maxRecDepth 65536 in
set_option maxHeartbeats 40000000 in
theorem rm0 (l : Launch) (Z : State) (a0 : Array Value) (hw : ∀ d ∈ tables_1, d.before a0 Z = true) (ws : List Jvm.Cond) (p0 : Int32) (p1 : Int32) (h0 : Heap) (n0 : Nat) (hn : n0 ≤ h0.size) :
    Met false l Z x code maxLocals ret room_1 ws #[(.int p0), (.int p1)] h0 n0 (Q_rm0 Z  h0 n0) := by
  refine Met.of pn_0 (fun m => ef_rm0 m p0 p1) ?_
  refine Own.iloadN at_0 rfl ?_
  refine Own.ldcInt (hw _ (List.mem_of_getElem? (i := 0) rfl)) at_1 ?_
  refine Own.iand at_3 ?_
  obtain ⟨ut, e_ut⟩ : ∃ z : Int32, z = (p0 &&& (2147483647 : Int32)) := ⟨_, rfl⟩
  rw [← e_ut]
  refine Own.istoreN #[.val (.int p0), .val (.int p1), .val (.int ut), .unset, .unset, .unset, .unset, .unset, .unset, .unset, .unset] at_4 rfl ?_
  refine Own.iloadN at_5 rfl ?_
  refine Own.iconst (3 : Int32) at_6 rfl ?_
  refine Own.iand at_7 ?_
  obtain ⟨ua, e_ua⟩ : ∃ z : Int32, z = (p1 &&& (3 : Int32)) := ⟨_, rfl⟩
  rw [← e_ua]
  refine Own.istoreN #[.val (.int p0), .val (.int p1), .val (.int ut), .val (.int ua), .unset, .unset, .unset, .unset, .unset, .unset, .unset] at_8 rfl ?_
  have b_t : 0 ≤ ut.toInt := by rw [e_ut]; exact own_pos p0
  refine Own.bipush (16 : Int32) at_9 rfl ?_
  refine Own.newarray_ 16 .byte rfl (hw _ (List.mem_of_getElem? (i := 1) rfl)) at_11 (N := 16) rfl (by decide) (by decide) (by decide) (by decide) rfl (fun h201 b201 k201 gb201 E201 V201 => ?_)
  have g_b201 : n0 ≤ b201 := by rw [gb201]; exact hn
  have hn := Nat.le_trans hn E201.1
  replace V201 : Arl Z h201 b201 k201 .byte [(.int (0 : Int32)), (.int (0 : Int32)), (.int (0 : Int32)), (.int (0 : Int32)), (.int (0 : Int32)), (.int (0 : Int32)), (.int (0 : Int32)), (.int (0 : Int32)), (.int (0 : Int32)), (.int (0 : Int32)), (.int (0 : Int32)), (.int (0 : Int32)), (.int (0 : Int32)), (.int (0 : Int32)), (.int (0 : Int32)), (.int (0 : Int32))] := V201
  refine Own.dup at_13 rfl ?_
  refine Own.iconst (0 : Int32) at_14 rfl ?_
  refine Own.bipush (120 : Int32) at_15 rfl ?_
  refine Own.bastore_ V201 (i := 0) rfl (Nat.le_of_ble_eq_true rfl) g_b201 at_17 (fun h202 W202 V202 => ?_)
  have hn : n0 ≤ h202.size := by rw [W202.size]; exact hn
  clear V201
  replace V202 : Arl Z h202 b201 k201 .byte [(.int (nar .byte (120 : Int32))), (.int (0 : Int32)), (.int (0 : Int32)), (.int (0 : Int32)), (.int (0 : Int32)), (.int (0 : Int32)), (.int (0 : Int32)), (.int (0 : Int32)), (.int (0 : Int32)), (.int (0 : Int32)), (.int (0 : Int32)), (.int (0 : Int32)), (.int (0 : Int32)), (.int (0 : Int32)), (.int (0 : Int32)), (.int (0 : Int32))] := V202
  refine Own.dup at_18 rfl ?_
  refine Own.iconst (1 : Int32) at_19 rfl ?_
  refine Own.bipush (120 : Int32) at_20 rfl ?_
  refine Own.bastore_ V202 (i := 1) rfl (Nat.le_of_ble_eq_true rfl) g_b201 at_22 (fun h203 W203 V203 => ?_)
  have hn : n0 ≤ h203.size := by rw [W203.size]; exact hn
  clear V202
  replace V203 : Arl Z h203 b201 k201 .byte [(.int (nar .byte (120 : Int32))), (.int (nar .byte (120 : Int32))), (.int (0 : Int32)), (.int (0 : Int32)), (.int (0 : Int32)), (.int (0 : Int32)), (.int (0 : Int32)), (.int (0 : Int32)), (.int (0 : Int32)), (.int (0 : Int32)), (.int (0 : Int32)), (.int (0 : Int32)), (.int (0 : Int32)), (.int (0 : Int32)), (.int (0 : Int32)), (.int (0 : Int32))] := V203
  refine Own.dup at_23 rfl ?_
  refine Own.iconst (2 : Int32) at_24 rfl ?_
  refine Own.bipush (120 : Int32) at_25 rfl ?_
  refine Own.bastore_ V203 (i := 2) rfl (Nat.le_of_ble_eq_true rfl) g_b201 at_27 (fun h204 W204 V204 => ?_)
  have hn : n0 ≤ h204.size := by rw [W204.size]; exact hn
  clear V203
  replace V204 : Arl Z h204 b201 k201 .byte [(.int (nar .byte (120 : Int32))), (.int (nar .byte (120 : Int32))), (.int (nar .byte (120 : Int32))), (.int (0 : Int32)), (.int (0 : Int32)), (.int (0 : Int32)), (.int (0 : Int32)), (.int (0 : Int32)), (.int (0 : Int32)), (.int (0 : Int32)), (.int (0 : Int32)), (.int (0 : Int32)), (.int (0 : Int32)), (.int (0 : Int32)), (.int (0 : Int32)), (.int (0 : Int32))] := V204
  refine Own.dup at_28 rfl ?_
  refine Own.iconst (3 : Int32) at_29 rfl ?_
  refine Own.bipush (120 : Int32) at_30 rfl ?_
  refine Own.bastore_ V204 (i := 3) rfl (Nat.le_of_ble_eq_true rfl) g_b201 at_32 (fun h205 W205 V205 => ?_)
  have hn : n0 ≤ h205.size := by rw [W205.size]; exact hn
  clear V204
  replace V205 : Arl Z h205 b201 k201 .byte [(.int (nar .byte (120 : Int32))), (.int (nar .byte (120 : Int32))), (.int (nar .byte (120 : Int32))), (.int (nar .byte (120 : Int32))), (.int (0 : Int32)), (.int (0 : Int32)), (.int (0 : Int32)), (.int (0 : Int32)), (.int (0 : Int32)), (.int (0 : Int32)), (.int (0 : Int32)), (.int (0 : Int32)), (.int (0 : Int32)), (.int (0 : Int32)), (.int (0 : Int32)), (.int (0 : Int32))] := V205
  refine Own.dup at_33 rfl ?_
  refine Own.iconst (4 : Int32) at_34 rfl ?_
  refine Own.bipush (120 : Int32) at_35 rfl ?_
  refine Own.bastore_ V205 (i := 4) rfl (Nat.le_of_ble_eq_true rfl) g_b201 at_37 (fun h206 W206 V206 => ?_)
  have hn : n0 ≤ h206.size := by rw [W206.size]; exact hn
  clear V205
  replace V206 : Arl Z h206 b201 k201 .byte [(.int (nar .byte (120 : Int32))), (.int (nar .byte (120 : Int32))), (.int (nar .byte (120 : Int32))), (.int (nar .byte (120 : Int32))), (.int (nar .byte (120 : Int32))), (.int (0 : Int32)), (.int (0 : Int32)), (.int (0 : Int32)), (.int (0 : Int32)), (.int (0 : Int32)), (.int (0 : Int32)), (.int (0 : Int32)), (.int (0 : Int32)), (.int (0 : Int32)), (.int (0 : Int32)), (.int (0 : Int32))] := V206
  refine Own.dup at_38 rfl ?_
  refine Own.iconst (5 : Int32) at_39 rfl ?_
  refine Own.bipush (120 : Int32) at_40 rfl ?_
  refine Own.bastore_ V206 (i := 5) rfl (Nat.le_of_ble_eq_true rfl) g_b201 at_42 (fun h207 W207 V207 => ?_)
  have hn : n0 ≤ h207.size := by rw [W207.size]; exact hn
  clear V206
  replace V207 : Arl Z h207 b201 k201 .byte [(.int (nar .byte (120 : Int32))), (.int (nar .byte (120 : Int32))), (.int (nar .byte (120 : Int32))), (.int (nar .byte (120 : Int32))), (.int (nar .byte (120 : Int32))), (.int (nar .byte (120 : Int32))), (.int (0 : Int32)), (.int (0 : Int32)), (.int (0 : Int32)), (.int (0 : Int32)), (.int (0 : Int32)), (.int (0 : Int32)), (.int (0 : Int32)), (.int (0 : Int32)), (.int (0 : Int32)), (.int (0 : Int32))] := V207
  refine Own.dup at_43 rfl ?_
  refine Own.bipush (6 : Int32) at_44 rfl ?_
  refine Own.bipush (120 : Int32) at_46 rfl ?_
  refine Own.bastore_ V207 (i := 6) rfl (Nat.le_of_ble_eq_true rfl) g_b201 at_48 (fun h208 W208 V208 => ?_)
  have hn : n0 ≤ h208.size := by rw [W208.size]; exact hn
  clear V207
  replace V208 : Arl Z h208 b201 k201 .byte [(.int (nar .byte (120 : Int32))), (.int (nar .byte (120 : Int32))), (.int (nar .byte (120 : Int32))), (.int (nar .byte (120 : Int32))), (.int (nar .byte (120 : Int32))), (.int (nar .byte (120 : Int32))), (.int (nar .byte (120 : Int32))), (.int (0 : Int32)), (.int (0 : Int32)), (.int (0 : Int32)), (.int (0 : Int32)), (.int (0 : Int32)), (.int (0 : Int32)), (.int (0 : Int32)), (.int (0 : Int32)), (.int (0 : Int32))] := V208
  refine Own.dup at_49 rfl ?_
  refine Own.bipush (7 : Int32) at_50 rfl ?_
  refine Own.bipush (120 : Int32) at_52 rfl ?_
  refine Own.bastore_ V208 (i := 7) rfl (Nat.le_of_ble_eq_true rfl) g_b201 at_54 (fun h209 W209 V209 => ?_)
  have hn : n0 ≤ h209.size := by rw [W209.size]; exact hn
  clear V208
  replace V209 : Arl Z h209 b201 k201 .byte [(.int (nar .byte (120 : Int32))), (.int (nar .byte (120 : Int32))), (.int (nar .byte (120 : Int32))), (.int (nar .byte (120 : Int32))), (.int (nar .byte (120 : Int32))), (.int (nar .byte (120 : Int32))), (.int (nar .byte (120 : Int32))), (.int (nar .byte (120 : Int32))), (.int (0 : Int32)), (.int (0 : Int32)), (.int (0 : Int32)), (.int (0 : Int32)), (.int (0 : Int32)), (.int (0 : Int32)), (.int (0 : Int32)), (.int (0 : Int32))] := V209
  refine Own.dup at_55 rfl ?_
  refine Own.bipush (8 : Int32) at_56 rfl ?_
  refine Own.bipush (120 : Int32) at_58 rfl ?_
  refine Own.bastore_ V209 (i := 8) rfl (Nat.le_of_ble_eq_true rfl) g_b201 at_60 (fun h210 W210 V210 => ?_)
  have hn : n0 ≤ h210.size := by rw [W210.size]; exact hn
  clear V209
  replace V210 : Arl Z h210 b201 k201 .byte [(.int (nar .byte (120 : Int32))), (.int (nar .byte (120 : Int32))), (.int (nar .byte (120 : Int32))), (.int (nar .byte (120 : Int32))), (.int (nar .byte (120 : Int32))), (.int (nar .byte (120 : Int32))), (.int (nar .byte (120 : Int32))), (.int (nar .byte (120 : Int32))), (.int (nar .byte (120 : Int32))), (.int (0 : Int32)), (.int (0 : Int32)), (.int (0 : Int32)), (.int (0 : Int32)), (.int (0 : Int32)), (.int (0 : Int32)), (.int (0 : Int32))] := V210
  refine Own.dup at_61 rfl ?_
  refine Own.bipush (9 : Int32) at_62 rfl ?_
  refine Own.bipush (120 : Int32) at_64 rfl ?_
  refine Own.bastore_ V210 (i := 9) rfl (Nat.le_of_ble_eq_true rfl) g_b201 at_66 (fun h211 W211 V211 => ?_)
  have hn : n0 ≤ h211.size := by rw [W211.size]; exact hn
  clear V210
  replace V211 : Arl Z h211 b201 k201 .byte [(.int (nar .byte (120 : Int32))), (.int (nar .byte (120 : Int32))), (.int (nar .byte (120 : Int32))), (.int (nar .byte (120 : Int32))), (.int (nar .byte (120 : Int32))), (.int (nar .byte (120 : Int32))), (.int (nar .byte (120 : Int32))), (.int (nar .byte (120 : Int32))), (.int (nar .byte (120 : Int32))), (.int (nar .byte (120 : Int32))), (.int (0 : Int32)), (.int (0 : Int32)), (.int (0 : Int32)), (.int (0 : Int32)), (.int (0 : Int32)), (.int (0 : Int32))] := V211
  refine Own.dup at_67 rfl ?_
  refine Own.bipush (10 : Int32) at_68 rfl ?_
  refine Own.bipush (120 : Int32) at_70 rfl ?_
  refine Own.bastore_ V211 (i := 10) rfl (Nat.le_of_ble_eq_true rfl) g_b201 at_72 (fun h212 W212 V212 => ?_)
  have hn : n0 ≤ h212.size := by rw [W212.size]; exact hn
  clear V211
  replace V212 : Arl Z h212 b201 k201 .byte [(.int (nar .byte (120 : Int32))), (.int (nar .byte (120 : Int32))), (.int (nar .byte (120 : Int32))), (.int (nar .byte (120 : Int32))), (.int (nar .byte (120 : Int32))), (.int (nar .byte (120 : Int32))), (.int (nar .byte (120 : Int32))), (.int (nar .byte (120 : Int32))), (.int (nar .byte (120 : Int32))), (.int (nar .byte (120 : Int32))), (.int (nar .byte (120 : Int32))), (.int (0 : Int32)), (.int (0 : Int32)), (.int (0 : Int32)), (.int (0 : Int32)), (.int (0 : Int32))] := V212
  refine Own.dup at_73 rfl ?_
  refine Own.bipush (11 : Int32) at_74 rfl ?_
  refine Own.bipush (120 : Int32) at_76 rfl ?_
  refine Own.bastore_ V212 (i := 11) rfl (Nat.le_of_ble_eq_true rfl) g_b201 at_78 (fun h213 W213 V213 => ?_)
  have hn : n0 ≤ h213.size := by rw [W213.size]; exact hn
  clear V212
  replace V213 : Arl Z h213 b201 k201 .byte [(.int (nar .byte (120 : Int32))), (.int (nar .byte (120 : Int32))), (.int (nar .byte (120 : Int32))), (.int (nar .byte (120 : Int32))), (.int (nar .byte (120 : Int32))), (.int (nar .byte (120 : Int32))), (.int (nar .byte (120 : Int32))), (.int (nar .byte (120 : Int32))), (.int (nar .byte (120 : Int32))), (.int (nar .byte (120 : Int32))), (.int (nar .byte (120 : Int32))), (.int (nar .byte (120 : Int32))), (.int (0 : Int32)), (.int (0 : Int32)), (.int (0 : Int32)), (.int (0 : Int32))] := V213
  refine Own.dup at_79 rfl ?_
  refine Own.bipush (12 : Int32) at_80 rfl ?_
  refine Own.bipush (120 : Int32) at_82 rfl ?_
  refine Own.bastore_ V213 (i := 12) rfl (Nat.le_of_ble_eq_true rfl) g_b201 at_84 (fun h214 W214 V214 => ?_)
  have hn : n0 ≤ h214.size := by rw [W214.size]; exact hn
  clear V213
  replace V214 : Arl Z h214 b201 k201 .byte [(.int (nar .byte (120 : Int32))), (.int (nar .byte (120 : Int32))), (.int (nar .byte (120 : Int32))), (.int (nar .byte (120 : Int32))), (.int (nar .byte (120 : Int32))), (.int (nar .byte (120 : Int32))), (.int (nar .byte (120 : Int32))), (.int (nar .byte (120 : Int32))), (.int (nar .byte (120 : Int32))), (.int (nar .byte (120 : Int32))), (.int (nar .byte (120 : Int32))), (.int (nar .byte (120 : Int32))), (.int (nar .byte (120 : Int32))), (.int (0 : Int32)), (.int (0 : Int32)), (.int (0 : Int32))] := V214
  refine Own.dup at_85 rfl ?_
  refine Own.bipush (13 : Int32) at_86 rfl ?_
  refine Own.bipush (120 : Int32) at_88 rfl ?_
  refine Own.bastore_ V214 (i := 13) rfl (Nat.le_of_ble_eq_true rfl) g_b201 at_90 (fun h215 W215 V215 => ?_)
  have hn : n0 ≤ h215.size := by rw [W215.size]; exact hn
  clear V214
  replace V215 : Arl Z h215 b201 k201 .byte [(.int (nar .byte (120 : Int32))), (.int (nar .byte (120 : Int32))), (.int (nar .byte (120 : Int32))), (.int (nar .byte (120 : Int32))), (.int (nar .byte (120 : Int32))), (.int (nar .byte (120 : Int32))), (.int (nar .byte (120 : Int32))), (.int (nar .byte (120 : Int32))), (.int (nar .byte (120 : Int32))), (.int (nar .byte (120 : Int32))), (.int (nar .byte (120 : Int32))), (.int (nar .byte (120 : Int32))), (.int (nar .byte (120 : Int32))), (.int (nar .byte (120 : Int32))), (.int (0 : Int32)), (.int (0 : Int32))] := V215
  refine Own.dup at_91 rfl ?_
  refine Own.bipush (14 : Int32) at_92 rfl ?_
  refine Own.bipush (120 : Int32) at_94 rfl ?_
  refine Own.bastore_ V215 (i := 14) rfl (Nat.le_of_ble_eq_true rfl) g_b201 at_96 (fun h216 W216 V216 => ?_)
  have hn : n0 ≤ h216.size := by rw [W216.size]; exact hn
  clear V215
  replace V216 : Arl Z h216 b201 k201 .byte [(.int (nar .byte (120 : Int32))), (.int (nar .byte (120 : Int32))), (.int (nar .byte (120 : Int32))), (.int (nar .byte (120 : Int32))), (.int (nar .byte (120 : Int32))), (.int (nar .byte (120 : Int32))), (.int (nar .byte (120 : Int32))), (.int (nar .byte (120 : Int32))), (.int (nar .byte (120 : Int32))), (.int (nar .byte (120 : Int32))), (.int (nar .byte (120 : Int32))), (.int (nar .byte (120 : Int32))), (.int (nar .byte (120 : Int32))), (.int (nar .byte (120 : Int32))), (.int (nar .byte (120 : Int32))), (.int (0 : Int32))] := V216
  refine Own.dup at_97 rfl ?_
  refine Own.bipush (15 : Int32) at_98 rfl ?_
  refine Own.bipush (120 : Int32) at_100 rfl ?_
  refine Own.bastore_ V216 (i := 15) rfl (Nat.le_of_ble_eq_true rfl) g_b201 at_102 (fun h217 W217 V217 => ?_)
  have hn : n0 ≤ h217.size := by rw [W217.size]; exact hn
  clear V216
  replace V217 : Arl Z h217 b201 k201 .byte [(.int (nar .byte (120 : Int32))), (.int (nar .byte (120 : Int32))), (.int (nar .byte (120 : Int32))), (.int (nar .byte (120 : Int32))), (.int (nar .byte (120 : Int32))), (.int (nar .byte (120 : Int32))), (.int (nar .byte (120 : Int32))), (.int (nar .byte (120 : Int32))), (.int (nar .byte (120 : Int32))), (.int (nar .byte (120 : Int32))), (.int (nar .byte (120 : Int32))), (.int (nar .byte (120 : Int32))), (.int (nar .byte (120 : Int32))), (.int (nar .byte (120 : Int32))), (.int (nar .byte (120 : Int32))), (.int (nar .byte (120 : Int32)))] := V217
  refine Own.astore #[.val (.int p0), .val (.int p1), .val (.int ut), .val (.int ua), .val (.ref b201), .unset, .unset, .unset, .unset, .unset, .unset] at_103 rfl rfl ?_
  obtain ⟨uh, e_h⟩ : ∃ z : Int32, ut / (3600 : Int32) = z := ⟨_, rfl⟩
  obtain ⟨um, e_m⟩ : ∃ z : Int32, (ut / (60 : Int32)) % (60 : Int32) = z := ⟨_, rfl⟩
  obtain ⟨us, e_s⟩ : ∃ z : Int32, ut % (60 : Int32) = z := ⟨_, rfl⟩
  have t_h := own_div (x := ut) (y := 3600) 3600 rfl (by omega) b_t
  have t_l := ut.toInt_lt
  rw [e_h] at t_h
  have b_h : 0 ≤ uh.toInt := by omega
  have b_h2 : uh.toInt < 1000000 := by omega
  have t_1 := own_div (x := ut) (y := 60) 60 rfl (by omega) b_t
  have t_m := own_rem (x := ut / 60) (y := 60) 60 rfl (by omega)
  have t_m' : um.toInt = (ut / 60).toInt % 60 := by rw [← t_m, ← e_m]
  have b_m0 : 0 ≤ um.toInt := by omega
  have b_m1 : um.toInt < 100 := by omega
  have t_s := own_rem (x := ut) (y := 60) 60 rfl b_t
  rw [e_s] at t_s
  have b_s0 : 0 ≤ us.toInt := by omega
  have b_s1 : us.toInt < 100 := by omega
  have b_a : ua = 0 ∨ ua = 1 ∨ ua = 2 ∨ ua = 3 := by rw [e_ua]; exact own_at p1
  refine Own.iloadN at_105 rfl ?_
  refine Own.aload at_106 rfl rfl ?_
  refine Own.iloadN at_108 rfl ?_
  refine Own.callS_ [(.int ut), (.ref b201), (.int ua)] [] 0 (rmF l Z a0 hw [] ut b201 k201 ua uh um us h217 n0 hn V217 g_b201 e_h e_m e_s b_a b_h b_h2 b_m0 b_m1 b_s0 b_s1) (hw _ (List.mem_of_getElem? (i := 2) rfl)) (hw _ (List.mem_of_getElem? (i := 3) rfl)) (hw _ (List.mem_of_getElem? (i := 4) rfl)) (hw _ (List.mem_of_getElem? (i := 5) rfl)) (by decide) at_109 pd_3 rfl rfl rfl rfl (by decide) (by decide) (by decide) (by decide) (fun v218 h218 hq218 => ?_)
  obtain ⟨vs, rfl, KF, VF, hall⟩ := hq218
  have hn := Nat.le_trans hn KF.1
  refine OAt.cast (st' := [(.int (ua + own_ndf uh + 6))]) rfl ?_
  refine Own.istore #[.val (.int p0), .val (.int p1), .val (.int ut), .val (.int ua), .val (.ref b201), .val (.int (ua + own_ndf uh + 6)), .unset, .unset, .unset, .unset, .unset] at_112 rfl ?_
  refine Own.iloadN at_114 rfl ?_
  refine Own.sipush (3600 : Int32) at_115 rfl ?_
  refine Own.idiv at_118 (by decide) ?_
  rw [e_h]
  refine Own.istore #[.val (.int p0), .val (.int p1), .val (.int ut), .val (.int ua), .val (.ref b201), .val (.int (ua + own_ndf uh + 6)), .val (.int uh), .unset, .unset, .unset, .unset] at_119 rfl ?_
  refine Own.iloadN at_121 rfl ?_
  refine Own.iload at_122 rfl ?_
  refine Own.sipush (3600 : Int32) at_124 rfl ?_
  refine Own.imul at_127 ?_
  refine Own.isub at_128 ?_
  refine Own.istore #[.val (.int p0), .val (.int p1), .val (.int ut), .val (.int ua), .val (.ref b201), .val (.int (ua + own_ndf uh + 6)), .val (.int uh), .val (.int (ut - (uh * (3600 : Int32)))), .unset, .unset, .unset] at_129 rfl ?_
  refine Own.iload at_131 rfl ?_
  refine Own.bipush (60 : Int32) at_133 rfl ?_
  refine Own.idiv at_135 (by decide) ?_
  rw [show (ut - uh * 3600) / 60 = um by rw [← e_h, own_min b_t, e_m]]
  refine Own.istore #[.val (.int p0), .val (.int p1), .val (.int ut), .val (.int ua), .val (.ref b201), .val (.int (ua + own_ndf uh + 6)), .val (.int uh), .val (.int (ut - (uh * (3600 : Int32)))), .val (.int um), .unset, .unset] at_136 rfl ?_
  refine Own.iload at_138 rfl ?_
  refine Own.iload at_140 rfl ?_
  refine Own.bipush (60 : Int32) at_142 rfl ?_
  refine Own.imul at_144 ?_
  refine Own.isub at_145 ?_
  rw [show (ut - uh * 3600) - um * 60 = us by rw [← e_h, ← e_m, own_sec b_t, e_s]]
  refine Own.istore #[.val (.int p0), .val (.int p1), .val (.int ut), .val (.int ua), .val (.ref b201), .val (.int (ua + own_ndf uh + 6)), .val (.int uh), .val (.int (ut - (uh * (3600 : Int32)))), .val (.int um), .val (.int us), .unset] at_146 rfl ?_
  refine Own.iload at_148 rfl ?_
  refine Own.bipush (100 : Int32) at_150 rfl ?_
  have J196 : ∀ (un : Int32) (_ : un = own_ndf uh), OAt false l Z code maxLocals "com/example/voznired/voznired/timetable/StopTimeFormatTimePinLaw" "law" ret room_1 n0 h0.size (Q_rm0 Z  h0 n0) h218 1 16 196 #[.val (.int p0), .val (.int p1), .val (.int ut), .val (.int ua), .val (.ref b201), .val (.int (ua + own_ndf uh + 6)), .val (.int uh), .val (.int (ut - (uh * (3600 : Int32)))), .val (.int um), .val (.int us), .unset] [(.int un)] := by
    intro un en
    refine Own.istore #[.val (.int p0), .val (.int p1), .val (.int ut), .val (.int ua), .val (.ref b201), .val (.int (ua + own_ndf uh + 6)), .val (.int uh), .val (.int (ut - (uh * (3600 : Int32)))), .val (.int um), .val (.int us), .val (.int un)] at_196 rfl ?_
    refine Own.iload at_198 rfl ?_
    refine Own.iloadN at_200 rfl ?_
    refine Own.iload at_201 rfl ?_
    refine Own.iadd at_203 ?_
    refine Own.bipush (6 : Int32) at_204 rfl ?_
    refine Own.iadd at_206 ?_
    refine Own.icmp_eq 212 at_207 (by decide) rfl (fun _ => ?_) (fun q => absurd (by rw [en]) q)
    refine Own.aload at_212 rfl rfl ?_
    refine Own.iconst (0 : Int32) at_214 rfl ?_
    refine Own.iloadN at_215 rfl ?_
    refine Own.iload at_216 rfl ?_
    refine Own.iload at_218 rfl ?_
    refine Own.iload at_220 rfl ?_
    refine Own.iload at_222 rfl ?_
    refine Own.callSP [(.ref b201), (.int (0 : Int32)), (.int ua), (.int un), (.int uh), (.int um), (.int us)] [] 0 (rmO l Z a0 hw [] b201 (0 : Int32) ua un uh um us _ _ 0 h218 n0 hn VF rfl (by rw [en]; exact hall 0 (by decide))) (hw _ (List.mem_of_getElem? (i := 9) rfl)) (hw _ (List.mem_of_getElem? (i := 10) rfl)) (hw _ (List.mem_of_getElem? (i := 11) rfl)) (hw _ (List.mem_of_getElem? (i := 12) rfl)) (by decide) at_224 pd_4 rfl rfl rfl rfl (by decide) (by decide) (by decide) (by decide) ?_
    refine Own.if_eq 514 at_227 (by decide) rfl (fun q => absurd q (by decide)) (fun _ => ?_)
    refine Own.aload at_230 rfl rfl ?_
    refine Own.iconst (1 : Int32) at_232 rfl ?_
    refine Own.iloadN at_233 rfl ?_
    refine Own.iload at_234 rfl ?_
    refine Own.iload at_236 rfl ?_
    refine Own.iload at_238 rfl ?_
    refine Own.iload at_240 rfl ?_
    refine Own.callSP [(.ref b201), (.int (1 : Int32)), (.int ua), (.int un), (.int uh), (.int um), (.int us)] [] 0 (rmO l Z a0 hw [] b201 (1 : Int32) ua un uh um us _ _ 1 h218 n0 hn VF rfl (by rw [en]; exact hall 1 (by decide))) (hw _ (List.mem_of_getElem? (i := 9) rfl)) (hw _ (List.mem_of_getElem? (i := 10) rfl)) (hw _ (List.mem_of_getElem? (i := 11) rfl)) (hw _ (List.mem_of_getElem? (i := 12) rfl)) (by decide) at_242 pd_4 rfl rfl rfl rfl (by decide) (by decide) (by decide) (by decide) ?_
    refine Own.if_eq 514 at_245 (by decide) rfl (fun q => absurd q (by decide)) (fun _ => ?_)
    refine Own.aload at_248 rfl rfl ?_
    refine Own.iconst (2 : Int32) at_250 rfl ?_
    refine Own.iloadN at_251 rfl ?_
    refine Own.iload at_252 rfl ?_
    refine Own.iload at_254 rfl ?_
    refine Own.iload at_256 rfl ?_
    refine Own.iload at_258 rfl ?_
    refine Own.callSP [(.ref b201), (.int (2 : Int32)), (.int ua), (.int un), (.int uh), (.int um), (.int us)] [] 0 (rmO l Z a0 hw [] b201 (2 : Int32) ua un uh um us _ _ 2 h218 n0 hn VF rfl (by rw [en]; exact hall 2 (by decide))) (hw _ (List.mem_of_getElem? (i := 9) rfl)) (hw _ (List.mem_of_getElem? (i := 10) rfl)) (hw _ (List.mem_of_getElem? (i := 11) rfl)) (hw _ (List.mem_of_getElem? (i := 12) rfl)) (by decide) at_260 pd_4 rfl rfl rfl rfl (by decide) (by decide) (by decide) (by decide) ?_
    refine Own.if_eq 514 at_263 (by decide) rfl (fun q => absurd q (by decide)) (fun _ => ?_)
    refine Own.aload at_266 rfl rfl ?_
    refine Own.iconst (3 : Int32) at_268 rfl ?_
    refine Own.iloadN at_269 rfl ?_
    refine Own.iload at_270 rfl ?_
    refine Own.iload at_272 rfl ?_
    refine Own.iload at_274 rfl ?_
    refine Own.iload at_276 rfl ?_
    refine Own.callSP [(.ref b201), (.int (3 : Int32)), (.int ua), (.int un), (.int uh), (.int um), (.int us)] [] 0 (rmO l Z a0 hw [] b201 (3 : Int32) ua un uh um us _ _ 3 h218 n0 hn VF rfl (by rw [en]; exact hall 3 (by decide))) (hw _ (List.mem_of_getElem? (i := 9) rfl)) (hw _ (List.mem_of_getElem? (i := 10) rfl)) (hw _ (List.mem_of_getElem? (i := 11) rfl)) (hw _ (List.mem_of_getElem? (i := 12) rfl)) (by decide) at_278 pd_4 rfl rfl rfl rfl (by decide) (by decide) (by decide) (by decide) ?_
    refine Own.if_eq 514 at_281 (by decide) rfl (fun q => absurd q (by decide)) (fun _ => ?_)
    refine Own.aload at_284 rfl rfl ?_
    refine Own.iconst (4 : Int32) at_286 rfl ?_
    refine Own.iloadN at_287 rfl ?_
    refine Own.iload at_288 rfl ?_
    refine Own.iload at_290 rfl ?_
    refine Own.iload at_292 rfl ?_
    refine Own.iload at_294 rfl ?_
    refine Own.callSP [(.ref b201), (.int (4 : Int32)), (.int ua), (.int un), (.int uh), (.int um), (.int us)] [] 0 (rmO l Z a0 hw [] b201 (4 : Int32) ua un uh um us _ _ 4 h218 n0 hn VF rfl (by rw [en]; exact hall 4 (by decide))) (hw _ (List.mem_of_getElem? (i := 9) rfl)) (hw _ (List.mem_of_getElem? (i := 10) rfl)) (hw _ (List.mem_of_getElem? (i := 11) rfl)) (hw _ (List.mem_of_getElem? (i := 12) rfl)) (by decide) at_296 pd_4 rfl rfl rfl rfl (by decide) (by decide) (by decide) (by decide) ?_
    refine Own.if_eq 514 at_299 (by decide) rfl (fun q => absurd q (by decide)) (fun _ => ?_)
    refine Own.aload at_302 rfl rfl ?_
    refine Own.iconst (5 : Int32) at_304 rfl ?_
    refine Own.iloadN at_305 rfl ?_
    refine Own.iload at_306 rfl ?_
    refine Own.iload at_308 rfl ?_
    refine Own.iload at_310 rfl ?_
    refine Own.iload at_312 rfl ?_
    refine Own.callSP [(.ref b201), (.int (5 : Int32)), (.int ua), (.int un), (.int uh), (.int um), (.int us)] [] 0 (rmO l Z a0 hw [] b201 (5 : Int32) ua un uh um us _ _ 5 h218 n0 hn VF rfl (by rw [en]; exact hall 5 (by decide))) (hw _ (List.mem_of_getElem? (i := 9) rfl)) (hw _ (List.mem_of_getElem? (i := 10) rfl)) (hw _ (List.mem_of_getElem? (i := 11) rfl)) (hw _ (List.mem_of_getElem? (i := 12) rfl)) (by decide) at_314 pd_4 rfl rfl rfl rfl (by decide) (by decide) (by decide) (by decide) ?_
    refine Own.if_eq 514 at_317 (by decide) rfl (fun q => absurd q (by decide)) (fun _ => ?_)
    refine Own.aload at_320 rfl rfl ?_
    refine Own.bipush (6 : Int32) at_322 rfl ?_
    refine Own.iloadN at_324 rfl ?_
    refine Own.iload at_325 rfl ?_
    refine Own.iload at_327 rfl ?_
    refine Own.iload at_329 rfl ?_
    refine Own.iload at_331 rfl ?_
    refine Own.callSP [(.ref b201), (.int (6 : Int32)), (.int ua), (.int un), (.int uh), (.int um), (.int us)] [] 0 (rmO l Z a0 hw [] b201 (6 : Int32) ua un uh um us _ _ 6 h218 n0 hn VF rfl (by rw [en]; exact hall 6 (by decide))) (hw _ (List.mem_of_getElem? (i := 9) rfl)) (hw _ (List.mem_of_getElem? (i := 10) rfl)) (hw _ (List.mem_of_getElem? (i := 11) rfl)) (hw _ (List.mem_of_getElem? (i := 12) rfl)) (by decide) at_333 pd_4 rfl rfl rfl rfl (by decide) (by decide) (by decide) (by decide) ?_
    refine Own.if_eq 514 at_336 (by decide) rfl (fun q => absurd q (by decide)) (fun _ => ?_)
    refine Own.aload at_339 rfl rfl ?_
    refine Own.bipush (7 : Int32) at_341 rfl ?_
    refine Own.iloadN at_343 rfl ?_
    refine Own.iload at_344 rfl ?_
    refine Own.iload at_346 rfl ?_
    refine Own.iload at_348 rfl ?_
    refine Own.iload at_350 rfl ?_
    refine Own.callSP [(.ref b201), (.int (7 : Int32)), (.int ua), (.int un), (.int uh), (.int um), (.int us)] [] 0 (rmO l Z a0 hw [] b201 (7 : Int32) ua un uh um us _ _ 7 h218 n0 hn VF rfl (by rw [en]; exact hall 7 (by decide))) (hw _ (List.mem_of_getElem? (i := 9) rfl)) (hw _ (List.mem_of_getElem? (i := 10) rfl)) (hw _ (List.mem_of_getElem? (i := 11) rfl)) (hw _ (List.mem_of_getElem? (i := 12) rfl)) (by decide) at_352 pd_4 rfl rfl rfl rfl (by decide) (by decide) (by decide) (by decide) ?_
    refine Own.if_eq 514 at_355 (by decide) rfl (fun q => absurd q (by decide)) (fun _ => ?_)
    refine Own.aload at_358 rfl rfl ?_
    refine Own.bipush (8 : Int32) at_360 rfl ?_
    refine Own.iloadN at_362 rfl ?_
    refine Own.iload at_363 rfl ?_
    refine Own.iload at_365 rfl ?_
    refine Own.iload at_367 rfl ?_
    refine Own.iload at_369 rfl ?_
    refine Own.callSP [(.ref b201), (.int (8 : Int32)), (.int ua), (.int un), (.int uh), (.int um), (.int us)] [] 0 (rmO l Z a0 hw [] b201 (8 : Int32) ua un uh um us _ _ 8 h218 n0 hn VF rfl (by rw [en]; exact hall 8 (by decide))) (hw _ (List.mem_of_getElem? (i := 9) rfl)) (hw _ (List.mem_of_getElem? (i := 10) rfl)) (hw _ (List.mem_of_getElem? (i := 11) rfl)) (hw _ (List.mem_of_getElem? (i := 12) rfl)) (by decide) at_371 pd_4 rfl rfl rfl rfl (by decide) (by decide) (by decide) (by decide) ?_
    refine Own.if_eq 514 at_374 (by decide) rfl (fun q => absurd q (by decide)) (fun _ => ?_)
    refine Own.aload at_377 rfl rfl ?_
    refine Own.bipush (9 : Int32) at_379 rfl ?_
    refine Own.iloadN at_381 rfl ?_
    refine Own.iload at_382 rfl ?_
    refine Own.iload at_384 rfl ?_
    refine Own.iload at_386 rfl ?_
    refine Own.iload at_388 rfl ?_
    refine Own.callSP [(.ref b201), (.int (9 : Int32)), (.int ua), (.int un), (.int uh), (.int um), (.int us)] [] 0 (rmO l Z a0 hw [] b201 (9 : Int32) ua un uh um us _ _ 9 h218 n0 hn VF rfl (by rw [en]; exact hall 9 (by decide))) (hw _ (List.mem_of_getElem? (i := 9) rfl)) (hw _ (List.mem_of_getElem? (i := 10) rfl)) (hw _ (List.mem_of_getElem? (i := 11) rfl)) (hw _ (List.mem_of_getElem? (i := 12) rfl)) (by decide) at_390 pd_4 rfl rfl rfl rfl (by decide) (by decide) (by decide) (by decide) ?_
    refine Own.if_eq 514 at_393 (by decide) rfl (fun q => absurd q (by decide)) (fun _ => ?_)
    refine Own.aload at_396 rfl rfl ?_
    refine Own.bipush (10 : Int32) at_398 rfl ?_
    refine Own.iloadN at_400 rfl ?_
    refine Own.iload at_401 rfl ?_
    refine Own.iload at_403 rfl ?_
    refine Own.iload at_405 rfl ?_
    refine Own.iload at_407 rfl ?_
    refine Own.callSP [(.ref b201), (.int (10 : Int32)), (.int ua), (.int un), (.int uh), (.int um), (.int us)] [] 0 (rmO l Z a0 hw [] b201 (10 : Int32) ua un uh um us _ _ 10 h218 n0 hn VF rfl (by rw [en]; exact hall 10 (by decide))) (hw _ (List.mem_of_getElem? (i := 9) rfl)) (hw _ (List.mem_of_getElem? (i := 10) rfl)) (hw _ (List.mem_of_getElem? (i := 11) rfl)) (hw _ (List.mem_of_getElem? (i := 12) rfl)) (by decide) at_409 pd_4 rfl rfl rfl rfl (by decide) (by decide) (by decide) (by decide) ?_
    refine Own.if_eq 514 at_412 (by decide) rfl (fun q => absurd q (by decide)) (fun _ => ?_)
    refine Own.aload at_415 rfl rfl ?_
    refine Own.bipush (11 : Int32) at_417 rfl ?_
    refine Own.iloadN at_419 rfl ?_
    refine Own.iload at_420 rfl ?_
    refine Own.iload at_422 rfl ?_
    refine Own.iload at_424 rfl ?_
    refine Own.iload at_426 rfl ?_
    refine Own.callSP [(.ref b201), (.int (11 : Int32)), (.int ua), (.int un), (.int uh), (.int um), (.int us)] [] 0 (rmO l Z a0 hw [] b201 (11 : Int32) ua un uh um us _ _ 11 h218 n0 hn VF rfl (by rw [en]; exact hall 11 (by decide))) (hw _ (List.mem_of_getElem? (i := 9) rfl)) (hw _ (List.mem_of_getElem? (i := 10) rfl)) (hw _ (List.mem_of_getElem? (i := 11) rfl)) (hw _ (List.mem_of_getElem? (i := 12) rfl)) (by decide) at_428 pd_4 rfl rfl rfl rfl (by decide) (by decide) (by decide) (by decide) ?_
    refine Own.if_eq 514 at_431 (by decide) rfl (fun q => absurd q (by decide)) (fun _ => ?_)
    refine Own.aload at_434 rfl rfl ?_
    refine Own.bipush (12 : Int32) at_436 rfl ?_
    refine Own.iloadN at_438 rfl ?_
    refine Own.iload at_439 rfl ?_
    refine Own.iload at_441 rfl ?_
    refine Own.iload at_443 rfl ?_
    refine Own.iload at_445 rfl ?_
    refine Own.callSP [(.ref b201), (.int (12 : Int32)), (.int ua), (.int un), (.int uh), (.int um), (.int us)] [] 0 (rmO l Z a0 hw [] b201 (12 : Int32) ua un uh um us _ _ 12 h218 n0 hn VF rfl (by rw [en]; exact hall 12 (by decide))) (hw _ (List.mem_of_getElem? (i := 9) rfl)) (hw _ (List.mem_of_getElem? (i := 10) rfl)) (hw _ (List.mem_of_getElem? (i := 11) rfl)) (hw _ (List.mem_of_getElem? (i := 12) rfl)) (by decide) at_447 pd_4 rfl rfl rfl rfl (by decide) (by decide) (by decide) (by decide) ?_
    refine Own.if_eq 514 at_450 (by decide) rfl (fun q => absurd q (by decide)) (fun _ => ?_)
    refine Own.aload at_453 rfl rfl ?_
    refine Own.bipush (13 : Int32) at_455 rfl ?_
    refine Own.iloadN at_457 rfl ?_
    refine Own.iload at_458 rfl ?_
    refine Own.iload at_460 rfl ?_
    refine Own.iload at_462 rfl ?_
    refine Own.iload at_464 rfl ?_
    refine Own.callSP [(.ref b201), (.int (13 : Int32)), (.int ua), (.int un), (.int uh), (.int um), (.int us)] [] 0 (rmO l Z a0 hw [] b201 (13 : Int32) ua un uh um us _ _ 13 h218 n0 hn VF rfl (by rw [en]; exact hall 13 (by decide))) (hw _ (List.mem_of_getElem? (i := 9) rfl)) (hw _ (List.mem_of_getElem? (i := 10) rfl)) (hw _ (List.mem_of_getElem? (i := 11) rfl)) (hw _ (List.mem_of_getElem? (i := 12) rfl)) (by decide) at_466 pd_4 rfl rfl rfl rfl (by decide) (by decide) (by decide) (by decide) ?_
    refine Own.if_eq 514 at_469 (by decide) rfl (fun q => absurd q (by decide)) (fun _ => ?_)
    refine Own.aload at_472 rfl rfl ?_
    refine Own.bipush (14 : Int32) at_474 rfl ?_
    refine Own.iloadN at_476 rfl ?_
    refine Own.iload at_477 rfl ?_
    refine Own.iload at_479 rfl ?_
    refine Own.iload at_481 rfl ?_
    refine Own.iload at_483 rfl ?_
    refine Own.callSP [(.ref b201), (.int (14 : Int32)), (.int ua), (.int un), (.int uh), (.int um), (.int us)] [] 0 (rmO l Z a0 hw [] b201 (14 : Int32) ua un uh um us _ _ 14 h218 n0 hn VF rfl (by rw [en]; exact hall 14 (by decide))) (hw _ (List.mem_of_getElem? (i := 9) rfl)) (hw _ (List.mem_of_getElem? (i := 10) rfl)) (hw _ (List.mem_of_getElem? (i := 11) rfl)) (hw _ (List.mem_of_getElem? (i := 12) rfl)) (by decide) at_485 pd_4 rfl rfl rfl rfl (by decide) (by decide) (by decide) (by decide) ?_
    refine Own.if_eq 514 at_488 (by decide) rfl (fun q => absurd q (by decide)) (fun _ => ?_)
    refine Own.aload at_491 rfl rfl ?_
    refine Own.bipush (15 : Int32) at_493 rfl ?_
    refine Own.iloadN at_495 rfl ?_
    refine Own.iload at_496 rfl ?_
    refine Own.iload at_498 rfl ?_
    refine Own.iload at_500 rfl ?_
    refine Own.iload at_502 rfl ?_
    refine Own.callSP [(.ref b201), (.int (15 : Int32)), (.int ua), (.int un), (.int uh), (.int um), (.int us)] [] 0 (rmO l Z a0 hw [] b201 (15 : Int32) ua un uh um us _ _ 15 h218 n0 hn VF rfl (by rw [en]; exact hall 15 (by decide))) (hw _ (List.mem_of_getElem? (i := 9) rfl)) (hw _ (List.mem_of_getElem? (i := 10) rfl)) (hw _ (List.mem_of_getElem? (i := 11) rfl)) (hw _ (List.mem_of_getElem? (i := 12) rfl)) (by decide) at_504 pd_4 rfl rfl rfl rfl (by decide) (by decide) (by decide) (by decide) ?_
    refine Own.if_eq 514 at_507 (by decide) rfl (fun q => absurd q (by decide)) (fun _ => ?_)
    refine Own.iconst (1 : Int32) at_510 rfl ?_
    refine Own.goto_ 515 at_511 (by decide) rfl ?_
    refine Own.ret_nar (t := .boolean) (by simp) rfl at_515 (by decide) (by decide) ?_
    exact rfl
  refine Own.icmp_ge 159 at_152 (by decide) rfl (fun c152 => ?_) (fun c152 => ?_)
  · refine Own.iload at_159 rfl ?_
    refine Own.sipush (1000 : Int32) at_161 rfl ?_
    refine Own.icmp_ge 171 at_164 (by decide) rfl (fun c164 => ?_) (fun c164 => ?_)
    · refine Own.iload at_171 rfl ?_
      refine Own.sipush (10000 : Int32) at_173 rfl ?_
      refine Own.icmp_ge 183 at_176 (by decide) rfl (fun c176 => ?_) (fun c176 => ?_)
      · refine Own.iload at_183 rfl ?_
        refine Own.ldcInt (hw _ (List.mem_of_getElem? (i := 19) rfl)) at_185 ?_
        refine Own.icmp_ge 194 at_187 (by decide) rfl (fun c187 => ?_) (fun c187 => ?_)
        · refine Own.bipush (6 : Int32) at_194 rfl ?_
          exact J196 _ (by rw [own_ndf, if_neg c152, if_neg c164, if_neg c176, if_neg c187])
        · refine Own.iconst (5 : Int32) at_190 rfl ?_
          refine Own.goto_ 196 at_191 (by decide) rfl ?_
          exact J196 _ (by rw [own_ndf, if_neg c152, if_neg c164, if_neg c176, if_pos c187])
      · refine Own.iconst (4 : Int32) at_179 rfl ?_
        refine Own.goto_ 196 at_180 (by decide) rfl ?_
        exact J196 _ (by rw [own_ndf, if_neg c152, if_neg c164, if_pos c176])
    · refine Own.iconst (3 : Int32) at_167 rfl ?_
      refine Own.goto_ 196 at_168 (by decide) rfl ?_
      exact J196 _ (by rw [own_ndf, if_neg c152, if_pos c164])
  · refine Own.iconst (2 : Int32) at_155 rfl ?_
    refine Own.goto_ 196 at_156 (by decide) rfl ?_
    exact J196 _ (by rw [own_ndf, if_pos c152])
set_option maxRecDepth 65536 in
set_option maxHeartbeats 40000000 in
theorem comes_1 {Post : Tables → Env → Array Value → State → Outcome → State → Prop} (hpost : ∀ tb e args s v u, (limb_1_1.after args s (.returned v) u = true ∧ limb_1_2.after args s (.returned v) u = true ∧ True) → FrameEnd s (.returned v) u (Jvm.fieldLocs frame_1_writes args s ++ Jvm.arrayLocs frame_1_arrays args s ++ Jvm.staticLocs frame_1_statics s) 16 128 → Post tb e args s (.returned v) u) :
    ArmFor flags0 classFile x code maxLocals ret World_1 tables_1 room_1 Calls_1 rest_1 Pre_1 Post := by
  intro l hfl _ _ p e ha hc hk s m args below hf hA hF happ hP
  obtain ⟨hcalls, hrest, hpre⟩ := hP
  obtain ⟨-, -, -, hnamed, -, -, -, hat⟩ := (Spec.applies_iff hf).mp happ
  obtain ⟨hg, hn⟩ := and_e (Cond.before_iff.mp (show (Jvm.Cond.and given_1 narrow_1).before args s = true from hpre))
  obtain ⟨gc, ga0⟩ := and_e hg
  obtain ⟨g0, ga1⟩ := and_e ga0
  have g1 := ga1
  obtain ⟨w0, w1, rfl⟩ : ∃ w0 w1 : Value, args = #[w0, w1] := by
    have hs : args.size = 2 := by simpa [Cond.value, given_1] using gc
    obtain ⟨L⟩ := args
    match L, hs with
    | [w0, w1], _ => exact ⟨w0, w1, rfl⟩
  have hw := fun d (hd : d ∈ tables_1) => atoms_spec (ws := Jvm.Cond.code x code maxLocals ret :: tables_1) hat d (List.mem_cons_of_mem _ hd)
  have hfit : Fit s := fun {y c} hc i hi => by
    obtain ⟨ha, rfl⟩ := Array.getElem?_eq_some_iff.mp hc
    have q := List.all_eq_true.mp ((Array.all_eq_true_iff_forall_mem.mp hF) _ (Array.getElem_mem ha)) i (List.mem_range.mpr hi)
    simpa [Array.getElem?_eq_getElem hi] using q
  obtain ⟨i0, ei0⟩ := is_v g0
  obtain rfl : w0 = (.int i0) := Option.some.inj ei0
  obtain ⟨i1, ei1⟩ := is_v g1
  obtain rfl : w1 = (.int i1) := Option.some.inj ei1
  obtain ⟨n, o, h1, h2, h3, _, L, rfl, ⟨N, -, rfl⟩, hq⟩ := rm0 l s _ hw tables_1 i0 i1 s.heap s.heap.size (Nat.le_refl _) p e ha hc hk s m _ below hf ((Spec.applies_iff_loose hf).mp happ).1 ⟨rfl, State.Warmed39.refl s, rfl⟩ trivial
  refine ⟨n, _, h1, h2, h3, hpost _ _ _ _ _ _ ⟨Cond.after_iff.mpr rfl, Cond.after_iff.mpr (eq_i res_at (Term.int_eval (1)) rfl), trivial⟩ ⟨hq.1, hq.2.1, (hq.2.2.sift fun y hy => Or.inr (N y hy)).mono (by decide) (by decide)⟩⟩
theorem main_1_1 : Claimed_1_1 := comes_1 fun _ _ _ _ _ _ h hF => ⟨h.1, hF⟩
theorem main_1_2 : Claimed_1_2 := comes_1 fun _ _ _ _ _ _ h hF => ⟨h.2.1, hF⟩
end Jvm.Pilot.@@N@@
namespace Jvm.Pilot.@@N@@
open Jvm Jvm.ClassFile Sem Op Lib Jvm.Free Jvm.Stand Jvm.Pilot.@@N@@.Jvm.D
/-! MADE BY PROGRAM (witnessworld.py) out of the Statement's table words and the real class files: 10 classes; the members and pool entries that the words name. The judged class is class 1, her method 1. -/
namespace start1
open Jvm.ClassFile
def u (s : String) : CpInfo := .utf8 (stringToUtf16 s)
/-- a pool by its gaps: so many unusable entries, then the entry; so many at the end -/
def gap : Nat → List CpInfo → List CpInfo
  | 0, r => r
  | n + 1, r => .unusable :: gap n r
def poolList (es : List (Nat × CpInfo)) (last : Nat) : List CpInfo := es.foldr (fun e r => gap e.1 (e.2 :: r)) (gap last [])
def pool (es : List (Nat × CpInfo)) (last : Nat) : Array CpInfo := ⟨poolList es last⟩
def fileOf (pool : Array CpInfo) (this : Nat) (attrs : Array Attribute := #[]) (ms : Array MethodInfo := #[]) (fl : Nat := 33) (sup : Nat := 0) (ifs : Array Nat := #[]) (fds : Array FieldInfo := #[]) : ClassFile where
  minorVersion := 0
  majorVersion := 65
  constantPool := pool
  accessFlags := fl
  thisClass := this
  superClass := sup
  interfaces := ifs
  fields := fds
  methods := ms
  attributes := attrs
def plain (name : String) (sup : Option ClassId) : Class where
  name := name
  kind := .ordinary
  loader := none
  accessFlags := 33
  super := sup
  interfaces := #[]
  cf := none
  fields := #[]
  methods := #[]
  instanceTypes := #[]
  staticTypes := #[]
  resolved := #[]
  callSites := []
  init := .initialized
  statics := none
  mirror := none

def pool0 : Array CpInfo := pool [(5, u "<init>"), (0, u "()V"), (1, .class_ 10), (1, u "java/lang/Object")] 113

def k0m0 : Method := { name := "<init>", desc := "()V", sig := { parameters := [], returnType := none }, accessFlags := 1, code := none }
/-- java/lang/Object -/
def k0 : Class := { plain "java/lang/Object" none with
  accessFlags := 33
  interfaces := #[]
  cf := some (fileOf pool0 8 #[] #[{ accessFlags := 1, nameIndex := 5, descriptorIndex := 6, attributes := #[] }] 33 0 #[] #[])
  fields := #[]
  methods := #[k0m0]
  instanceTypes := #[]
  staticTypes := #[]
  resolved := Array.replicate 124 none
  statics := none }

def pool1 : Array CpInfo := pool [(2, .class_ 4), (1, u "java/lang/Object"), (0, u "<init>"), (0, u "()V"), (0, .integer 2147483647), (0, .methodref 9 10), (0, .class_ 11), (0, .nameAndType 12 13), (0, u "com/example/voznired/voznired/timetable/StopTime"), (0, u "formatTime"), (0, u "(I[BI)I"), (0, .integer 100000), (0, .methodref 16 17), (0, .class_ 18), (0, .nameAndType 19 20), (0, u "com/example/voznired/voznired/timetable/StopTimeFormatTimePinLaw"), (0, u "ok"), (0, u "([BIIIIII)Z"), (0, .methodref 16 22), (0, .nameAndType 23 24), (0, u "expected"), (0, u "(IIIIII)I"), (0, .methodref 16 26), (0, .nameAndType 27 28), (0, u "pow10"), (0, u "(I)I"), (2, u "law"), (0, u "(II)Z")] 5

def k1m0 : Method := { name := "<init>", desc := "()V", sig := { parameters := [], returnType := none }, accessFlags := 1, code := none }
def k1c1 : Code := { maxStack := 7, maxLocals := 11, code := code, exceptionTable := #[], attributes := #[] }
def k1m1 : Method := { name := "law", desc := "(II)Z", sig := { parameters := [.int, .int], returnType := some .boolean }, accessFlags := 9, code := some k1c1 }
def k1c2 : Code := { maxStack := 7, maxLocals := 7, code := method_3_code, exceptionTable := #[], attributes := #[] }
def k1m2 : Method := { name := "ok", desc := "([BIIIIII)Z", sig := { parameters := [(.array .byte), .int, .int, .int, .int, .int, .int], returnType := some .boolean }, accessFlags := 10, code := some k1c2 }
def k1c3 : Code := { maxStack := 4, maxLocals := 7, code := method_4_code, exceptionTable := #[], attributes := #[] }
def k1m3 : Method := { name := "expected", desc := "(IIIIII)I", sig := { parameters := [.int, .int, .int, .int, .int, .int], returnType := some .int }, accessFlags := 10, code := some k1c3 }
def k1c4 : Code := { maxStack := 2, maxLocals := 1, code := method_5_code, exceptionTable := #[], attributes := #[] }
def k1m4 : Method := { name := "pow10", desc := "(I)I", sig := { parameters := [.int], returnType := some .int }, accessFlags := 10, code := some k1c4 }
/-- com/example/voznired/voznired/timetable/StopTimeFormatTimePinLaw -/
def k1 : Class := { plain "com/example/voznired/voznired/timetable/StopTimeFormatTimePinLaw" (some 0) with
  accessFlags := 49
  interfaces := #[]
  cf := some (fileOf pool1 16 #[] #[{ accessFlags := 1, nameIndex := 5, descriptorIndex := 6, attributes := #[] }, { accessFlags := 9, nameIndex := 31, descriptorIndex := 32, attributes := #[] }, { accessFlags := 10, nameIndex := 19, descriptorIndex := 20, attributes := #[] }, { accessFlags := 10, nameIndex := 23, descriptorIndex := 24, attributes := #[] }, { accessFlags := 10, nameIndex := 27, descriptorIndex := 28, attributes := #[] }] 49 2 #[] #[])
  fields := #[]
  methods := #[k1m0, k1m1, k1m2, k1m3, k1m4]
  instanceTypes := #[]
  staticTypes := #[]
  resolved := Array.replicate 38 none
  statics := none }

def pool2 : Array CpInfo := pool [(2, .class_ 4), (1, u "java/lang/Object"), (0, u "<init>"), (0, u "()V"), (0, .class_ 8), (0, u "java/lang/Record")] 13

def k2m0 : Method := { name := "<init>", desc := "()V", sig := { parameters := [], returnType := none }, accessFlags := 4, code := none }
/-- java/lang/Record -/
def k2 : Class := { plain "java/lang/Record" (some 0) with
  accessFlags := 1057
  interfaces := #[]
  cf := some (fileOf pool2 7 #[] #[{ accessFlags := 4, nameIndex := 5, descriptorIndex := 6, attributes := #[] }] 1057 2 #[] #[])
  fields := #[]
  methods := #[k2m0]
  instanceTypes := #[]
  staticTypes := #[]
  resolved := Array.replicate 22 none
  statics := none }

def pool3 : Array CpInfo := pool [(2, .class_ 4), (1, u "java/lang/Record"), (3, .class_ 10), (1, u "com/example/voznired/voznired/timetable/StopTime"), (0, u "tripId"), (0, u "Ljava/lang/String;"), (2, u "arrival"), (0, u "I"), (2, u "departure"), (2, u "stopId"), (2, u "sequence"), (2, u "stopHeadsign"), (2, u "pickupType"), (2, u "dropOffType"), (2, u "shapeDistTraveled"), (0, u "Ljava/math/BigDecimal;"), (2, u "timepoint"), (2, u "window"), (0, u "Lcom/example/voznired/voznired/timetable/StopTime$Window;"), (2, u "locationGroupId"), (2, u "locationId"), (45, u "formatTime"), (0, u "(I[BI)I"), (9, .methodref 8 109), (0, .nameAndType 110 111), (0, u "digit"), (0, u "(I)B"), (12, u "NO_TIME"), (2, u "NOT_GIVEN"), (0, u "TIME_TEXT_MAX"), (21, .class_ 151), (0, u "com/example/voznired/voznired/timetable/StopTime$Window")] 31

def k3c0 : Code := { maxStack := 4, maxLocals := 10, code := prog_118_method_10_code, exceptionTable := #[], attributes := #[] }
def k3m0 : Method := { name := "formatTime", desc := "(I[BI)I", sig := { parameters := [.int, (.array .byte), .int], returnType := some .int }, accessFlags := 9, code := some k3c0 }
def k3c1 : Code := { maxStack := 2, maxLocals := 1, code := prog_118_method_11_code, exceptionTable := #[], attributes := #[] }
def k3m1 : Method := { name := "digit", desc := "(I)B", sig := { parameters := [.int], returnType := some .byte }, accessFlags := 10, code := some k3c1 }
/-- com/example/voznired/voznired/timetable/StopTime -/
def k3 : Class := { plain "com/example/voznired/voznired/timetable/StopTime" (some 2) with
  accessFlags := 49
  interfaces := #[]
  cf := some (fileOf pool3 8 #[.nestMembers #[150]] #[{ accessFlags := 9, nameIndex := 97, descriptorIndex := 98, attributes := #[] }, { accessFlags := 10, nameIndex := 110, descriptorIndex := 111, attributes := #[] }] 49 2 #[] #[{ accessFlags := 18, nameIndex := 11, descriptorIndex := 12, attributes := #[] }, { accessFlags := 18, nameIndex := 15, descriptorIndex := 16, attributes := #[] }, { accessFlags := 18, nameIndex := 19, descriptorIndex := 16, attributes := #[] }, { accessFlags := 18, nameIndex := 22, descriptorIndex := 12, attributes := #[] }, { accessFlags := 18, nameIndex := 25, descriptorIndex := 16, attributes := #[] }, { accessFlags := 18, nameIndex := 28, descriptorIndex := 12, attributes := #[] }, { accessFlags := 18, nameIndex := 31, descriptorIndex := 16, attributes := #[] }, { accessFlags := 18, nameIndex := 34, descriptorIndex := 16, attributes := #[] }, { accessFlags := 18, nameIndex := 37, descriptorIndex := 38, attributes := #[] }, { accessFlags := 18, nameIndex := 41, descriptorIndex := 16, attributes := #[] }, { accessFlags := 18, nameIndex := 44, descriptorIndex := 45, attributes := #[] }, { accessFlags := 18, nameIndex := 48, descriptorIndex := 12, attributes := #[] }, { accessFlags := 18, nameIndex := 51, descriptorIndex := 12, attributes := #[] }, { accessFlags := 25, nameIndex := 124, descriptorIndex := 16, attributes := #[] }, { accessFlags := 25, nameIndex := 127, descriptorIndex := 16, attributes := #[] }, { accessFlags := 25, nameIndex := 128, descriptorIndex := 16, attributes := #[] }])
  fields := #[{ name := "tripId", type := (.object "java/lang/String"), accessFlags := 18, slot := 0, constantValue := 0 }, { name := "arrival", type := .int, accessFlags := 18, slot := 1, constantValue := 0 }, { name := "departure", type := .int, accessFlags := 18, slot := 2, constantValue := 0 }, { name := "stopId", type := (.object "java/lang/String"), accessFlags := 18, slot := 3, constantValue := 0 }, { name := "sequence", type := .int, accessFlags := 18, slot := 4, constantValue := 0 }, { name := "stopHeadsign", type := (.object "java/lang/String"), accessFlags := 18, slot := 5, constantValue := 0 }, { name := "pickupType", type := .int, accessFlags := 18, slot := 6, constantValue := 0 }, { name := "dropOffType", type := .int, accessFlags := 18, slot := 7, constantValue := 0 }, { name := "shapeDistTraveled", type := (.object "java/math/BigDecimal"), accessFlags := 18, slot := 8, constantValue := 0 }, { name := "timepoint", type := .int, accessFlags := 18, slot := 9, constantValue := 0 }, { name := "window", type := (.object "com/example/voznired/voznired/timetable/StopTime$Window"), accessFlags := 18, slot := 10, constantValue := 0 }, { name := "locationGroupId", type := (.object "java/lang/String"), accessFlags := 18, slot := 11, constantValue := 0 }, { name := "locationId", type := (.object "java/lang/String"), accessFlags := 18, slot := 12, constantValue := 0 }, { name := "NO_TIME", type := .int, accessFlags := 25, slot := 0, constantValue := 0 }, { name := "NOT_GIVEN", type := .int, accessFlags := 25, slot := 1, constantValue := 0 }, { name := "TIME_TEXT_MAX", type := .int, accessFlags := 25, slot := 2, constantValue := 0 }]
  methods := #[k3m0, k3m1]
  instanceTypes := #[(.object "java/lang/String"), .int, .int, (.object "java/lang/String"), .int, (.object "java/lang/String"), .int, .int, (.object "java/math/BigDecimal"), .int, (.object "com/example/voznired/voznired/timetable/StopTime$Window"), (.object "java/lang/String"), (.object "java/lang/String")]
  staticTypes := #[.int, .int, .int]
  resolved := Array.replicate 183 none
  statics := none }

def pool4 : Array CpInfo := pool [(1, u "java/lang/Cloneable"), (0, .class_ 1), (0, u "java/lang/Object"), (0, .class_ 3)] 3

/-- java/lang/Cloneable -/
def k4 : Class := { plain "java/lang/Cloneable" (some 0) with
  accessFlags := 1537
  interfaces := #[]
  cf := some (fileOf pool4 2 #[] #[] 1537 4 #[] #[])
  fields := #[]
  methods := #[]
  instanceTypes := #[]
  staticTypes := #[]
  resolved := Array.replicate 8 none
  statics := none }

def pool5 : Array CpInfo := pool [(1, u "java/io/Serializable"), (0, .class_ 1), (0, u "java/lang/Object"), (0, .class_ 3)] 3

/-- java/io/Serializable -/
def k5 : Class := { plain "java/io/Serializable" (some 0) with
  accessFlags := 1537
  interfaces := #[]
  cf := some (fileOf pool5 2 #[] #[] 1537 4 #[] #[])
  fields := #[]
  methods := #[]
  instanceTypes := #[]
  staticTypes := #[]
  resolved := Array.replicate 8 none
  statics := none }

/-- the primitive byte -/
def k6 : Class := { plain "byte" none with kind := .primitive 'B', accessFlags := 0x411 }
/-- [B -/
def k7 : Class := { plain "[B" (some 0) with kind := .array 6 .byte, interfaces := #[4, 5], accessFlags := 1041 }

/-- the primitive int -/
def k8 : Class := { plain "int" none with kind := .primitive 'I', accessFlags := 0x411 }
/-- [I -/
def k9 : Class := { plain "[I" (some 0) with kind := .array 8 .int, interfaces := #[4, 5], accessFlags := 1041 }

def heap : Heap := #[]
def classes : Array Class := #[k0, k1, k2, k3, k4, k5, k6, k7, k8, k9]
def interned : List (Array UInt16 × Addr) := []
def slotsUsed : Nat := 0
def theMethod : MethodId := ⟨1, 1⟩
def args0 : Array Value := #[.int 45296, .int 1]
def aboutOver (below : List Frame) : State where
  vm := { classes := classes, interned := interned.toArray }
  heap := heap
  slotsUsed := slotsUsed
  threads := #[{ frames := .invoking theMethod args0 :: below }]
def below0 : List Frame := [.native { method := ⟨0, 0⟩, args := #[] }]
def about1 : State := aboutOver below0
def p0 : Program := .bare "" "" ""
def e0 : Env := launch0.env 0 0 0
theorem w_frames : about1.frames = Frame.invoking theMethod args0 :: below0 := rfl
set_option maxRecDepth 65536 in
theorem w_args : argsFit about1.vm theMethod args0 = true := by decide +kernel
set_option maxRecDepth 65536 in
theorem w_heap : heapFits about1 = true := by decide +kernel
set_option maxRecDepth 65536 in
theorem w_runnable : about1.curStatus? = some .runnable := by decide +kernel
set_option maxRecDepth 65536 in
theorem w_alone : about1.alone = true := by decide +kernel
set_option maxRecDepth 65536 in
theorem w_named : about1.methodNamed? x = some theMethod := by decide +kernel
set_option maxRecDepth 65536 in
theorem w_hears : about1.hears theMethod below0 = true := by decide +kernel
set_option maxRecDepth 65536 in
theorem w_ripe : about1.ripe theMethod args0 below0 = true := by decide +kernel
theorem w_running : about1.status = .running := rfl
set_option maxRecDepth 65536 in
theorem w_room : about1.hasRoom e0.platform room_1 = true :=
  launch0.hasRoom_least _ room_1 (by decide +kernel) (by decide +kernel) (by decide +kernel) (by decide +kernel) (by decide +kernel) (by decide +kernel)
theorem allAtoms_all (ts : List Jvm.Cond) (a : Array Jvm.Value) (st : Jvm.State) : (allAtoms ts).before a st = ts.all (fun c => c.before a st) := by
  induction ts with
  | nil => rfl
  | cons c t ih =>
    show (Jvm.Cond.and c (allAtoms t)).before a st = _
    rw [Jvm.Cond.before_and, ih, List.all_cons]
def words1 : List Jvm.Cond := Jvm.Cond.code x code maxLocals ret :: tables_1
/-- a 'code' word, met by the world's own term for the bytes: nothing is compared byte by byte -/
theorem code_word {y : MethodName} {bytes : ByteArray} {mx : Nat} {rt : Option FieldType} {a : Array Value} {s : State} {m : MethodId} {meth : Method} {c : Code} (h1 : s.methodNamed? y = some m) (h2 : s.vm.method? m = some meth) (h3 : meth.code = some c) (h4 : c.code = bytes)
    (h5 : (c.maxLocals == mx && c.exceptionTable.isEmpty && decide (c.maxStack ≤ mostOperands) && decide (meth.sig.returnType = rt) && !meth.locks && decide (parseMethodDescriptor y.desc = some meth.sig)) = true) : (Jvm.Cond.code y bytes mx rt).before a s = true := by
  simp only [Bool.and_eq_true, beq_iff_eq, Bool.not_eq_true', decide_eq_true_eq] at h5
  obtain ⟨⟨⟨⟨⟨g1, g2⟩, g3⟩, g4⟩, g5⟩, g6⟩ := h5
  simp [Cond.before, Cond.holds, Cond.value, h1, h2, h3, h4, g1, g2, g3, g4, g5, g6]
def isCode : Jvm.Cond → Bool
  | .code _ _ _ _ => true
  | _ => false
theorem all_split {L : List Jvm.Cond} {P : Jvm.Cond → Bool} (h1 : L.all (fun c => isCode c || P c) = true) (h2 : ∀ c ∈ L.filter isCode, P c = true) : L.all P = true := by
  refine List.all_eq_true.mpr fun c hc => ?_
  have h := List.all_eq_true.mp h1 c hc
  rcases Bool.eq_false_or_eq_true (isCode c) with hi | hi
  · exact h2 c (List.mem_filter.mpr ⟨hc, hi⟩)
  · simpa [hi] using h
set_option maxRecDepth 65536 in
theorem w_c0 : (Jvm.Cond.code x code maxLocals ret).before args0 about1 = true := code_word (m := ⟨1, 1⟩) (meth := k1m1) (c := k1c1) (by decide +kernel) rfl rfl rfl (by decide +kernel)
set_option maxRecDepth 65536 in
theorem w_c1 : (Jvm.Cond.code ({ cls := "com/example/voznired/voznired/timetable/StopTime", name := "formatTime", desc := "(I[BI)I" } : Jvm.MethodName) prog_118_method_10_code (10 : Nat) (Option.some Jvm.ClassFile.FieldType.int)).before args0 about1 = true := code_word (m := ⟨3, 0⟩) (meth := k3m0) (c := k3c0) (by decide +kernel) rfl rfl rfl (by decide +kernel)
set_option maxRecDepth 65536 in
theorem w_c2 : (Jvm.Cond.code ({ cls := "com/example/voznired/voznired/timetable/StopTime", name := "digit", desc := "(I)B" } : Jvm.MethodName) prog_118_method_11_code (1 : Nat) (Option.some Jvm.ClassFile.FieldType.byte)).before args0 about1 = true := code_word (m := ⟨3, 1⟩) (meth := k3m1) (c := k3c1) (by decide +kernel) rfl rfl rfl (by decide +kernel)
set_option maxRecDepth 65536 in
theorem w_c3 : (Jvm.Cond.code ({ cls := "com/example/voznired/voznired/timetable/StopTimeFormatTimePinLaw", name := "ok", desc := "([BIIIIII)Z" } : Jvm.MethodName) method_3_code (7 : Nat) (Option.some Jvm.ClassFile.FieldType.boolean)).before args0 about1 = true := code_word (m := ⟨1, 2⟩) (meth := k1m2) (c := k1c2) (by decide +kernel) rfl rfl rfl (by decide +kernel)
set_option maxRecDepth 65536 in
theorem w_c4 : (Jvm.Cond.code ({ cls := "com/example/voznired/voznired/timetable/StopTimeFormatTimePinLaw", name := "expected", desc := "(IIIIII)I" } : Jvm.MethodName) method_4_code (7 : Nat) (Option.some Jvm.ClassFile.FieldType.int)).before args0 about1 = true := code_word (m := ⟨1, 3⟩) (meth := k1m3) (c := k1c3) (by decide +kernel) rfl rfl rfl (by decide +kernel)
set_option maxRecDepth 65536 in
theorem w_c5 : (Jvm.Cond.code ({ cls := "com/example/voznired/voznired/timetable/StopTimeFormatTimePinLaw", name := "pow10", desc := "(I)I" } : Jvm.MethodName) method_5_code (1 : Nat) (Option.some Jvm.ClassFile.FieldType.int)).before args0 about1 = true := code_word (m := ⟨1, 4⟩) (meth := k1m4) (c := k1c4) (by decide +kernel) rfl rfl rfl (by decide +kernel)
def codes1 : List Jvm.Cond := [Jvm.Cond.code x code maxLocals ret, Jvm.Cond.code ({ cls := "com/example/voznired/voznired/timetable/StopTime", name := "formatTime", desc := "(I[BI)I" } : Jvm.MethodName) prog_118_method_10_code (10 : Nat) (Option.some Jvm.ClassFile.FieldType.int), Jvm.Cond.code ({ cls := "com/example/voznired/voznired/timetable/StopTime", name := "digit", desc := "(I)B" } : Jvm.MethodName) prog_118_method_11_code (1 : Nat) (Option.some Jvm.ClassFile.FieldType.byte), Jvm.Cond.code ({ cls := "com/example/voznired/voznired/timetable/StopTimeFormatTimePinLaw", name := "ok", desc := "([BIIIIII)Z" } : Jvm.MethodName) method_3_code (7 : Nat) (Option.some Jvm.ClassFile.FieldType.boolean), Jvm.Cond.code ({ cls := "com/example/voznired/voznired/timetable/StopTimeFormatTimePinLaw", name := "expected", desc := "(IIIIII)I" } : Jvm.MethodName) method_4_code (7 : Nat) (Option.some Jvm.ClassFile.FieldType.int), Jvm.Cond.code ({ cls := "com/example/voznired/voznired/timetable/StopTimeFormatTimePinLaw", name := "pow10", desc := "(I)I" } : Jvm.MethodName) method_5_code (1 : Nat) (Option.some Jvm.ClassFile.FieldType.int)]
set_option maxRecDepth 65536 in
theorem codes_eq : words1.filter isCode = codes1 := rfl
theorem w_codes : ∀ c ∈ words1.filter isCode, c.before args0 about1 = true := by
  rw [codes_eq]
  intro c hc
  simp only [codes1, List.mem_cons, List.not_mem_nil, or_false] at hc
  rcases hc with rfl | rfl | rfl | rfl | rfl | rfl
  · exact w_c0
  · exact w_c1
  · exact w_c2
  · exact w_c3
  · exact w_c4
  · exact w_c5
set_option maxRecDepth 65536 in
theorem w_t1 : words1.all (fun c => isCode c || c.before args0 about1) = true := by decide +kernel
theorem w_tables : (allAtoms (Jvm.Cond.code x code maxLocals ret :: tables_1)).before args0 about1 = true := by
  rw [allAtoms_all]
  show words1.all (fun c => c.before args0 about1) = true
  refine all_split ?_ w_codes
  rw [w_t1]
set_option maxRecDepth 65536 in
theorem w_case : (Jvm.Cond.and given_1 narrow_1).before args0 about1 = true := by decide +kernel
theorem w_applies : (headSpec (Jvm.Cond.code x code maxLocals ret :: tables_1) room_1).applies x e0.platform about1 = true :=
  (Spec.applies_iff w_frames).mpr ⟨w_running, w_runnable, w_alone, w_named, w_hears, w_ripe, w_room, w_tables⟩
theorem atStart : AtStart classFile x code maxLocals ret World_1 tables_1 room_1 Calls_1 rest_1 Pre_1 launch0 p0 e0 about1 theMethod args0 below0 :=
  ⟨lists_1, trivial, launch0.admits_env _ _ _, launch0.least_env, fairChoices_fair.cas, fairChoices_fair.clock, w_frames, w_args, w_heap, w_applies, trivial, trivial, w_case⟩
end start1
theorem witness_1 : WitnessClaimed_1 := ⟨start1.p0, start1.e0, start1.about1, start1.theMethod, start1.args0, start1.below0, start1.atStart⟩
end Jvm.Pilot.@@N@@
