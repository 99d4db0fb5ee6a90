import JvmDerived
import JvmDerived.Pilot.@@N@@Statement
import JvmDerived.Pilot.@@N@@Code
set_option linter.unusedVariables false
set_option linter.unusedSimpArgs false

namespace Jvm.Own
open Sem ClassFile Op Lib Jvm.Stand Jvm.Free Jvm.LawKit Jvm.RoadKit Bundle
/-- how the tables over which the walk stands are related to the true start's: the same (narrow), or wider by interned constants -/
def Rel (W : Bool) (s : State) (vm0 : Vm) (n : Nat) : Prop := match W with
  | false => vm0 = s.vm
  | true => ∃ k0, s.Since vm0 k0 ∧ k0 ≤ n
theorem Rel.mono {W : Bool} {s : State} {vm0 : Vm} {n n' : Nat} (h : Rel W s vm0 n) (q : n ≤ n') : Rel W s vm0 n' := by
  cases W
  · exact h
  · obtain ⟨k0, h1, h2⟩ := h; exact ⟨k0, h1, Nat.le_trans h2 q⟩
def EndW (W : Bool) (s : State) (o : Outcome) (t : State) (L : List Loc) (k n : Nat) : Prop := match W with
  | false => FrameEnd s o t L k n
  | true => ReturnedEndW s o t L k n
def Prom (W : Bool) (n0 hz : Nat) (Q : Option Value → Heap → Prop) (R : Room) (s : State) (o : Outcome) (t : State) : Prop :=
  ∃ v L, o = .returned v ∧ (Fr n0 L ∧ hz ≤ t.heap.size ∧ Q v t.heap) ∧ EndW W s o t L R.cells R.slots
def Go (p : Program) (e : Env) (below : List Frame) (P : Outcome → State → Prop) (U : State) : Prop :=
  ∃ t o, Steps p.tables e below U t ∧ t.status = .running ∧ Ended t below o ∧ P o t
theorem Go.step {p : Program} {e : Env} {below : List Frame} {P : Outcome → State → Prop} {U V : State} (f : ∀ t, Steps p.tables e below V t → Steps p.tables e below U t) (g : Go p e below P V) : Go p e below P U := by
  obtain ⟨t, o, h1, h2⟩ := g; exact ⟨t, o, f t h1, h2⟩
def Cx (Z : State) (bytes : ByteArray) (maxL : Nat) (own nm : String) (ret : Option FieldType) (p : Program) (vm0 : Vm) (m : MethodId) (meth : Method) (c : Code) : Prop :=
  p.tables.exec = Jvm.exec ∧ c.code = bytes ∧ c.maxLocals = maxL ∧ meth.sig.returnType = ret ∧ meth.locks = false ∧ meth.name = nm ∧ Z.Warmed39 vm0 ∧ vm0.findClass own = some m.cls
/-- the contract of a body -/
def Met (W : Bool) (l : Launch) (Z : State) (y : MethodName) (bytes : ByteArray) (maxL : Nat) (ret : Option FieldType) (R : Room) (ws : List Jvm.Cond) (as' : Array Value) (h0 : Heap) (n0 : Nat) (Q : Option Value → Heap → Prop) : Prop :=
  MetFree l y (head1 (Jvm.Cond.code y bytes maxL ret :: ws) R) (fun a U => a = as' ∧ Z.Warmed39 U.vm ∧ U.heap = h0) (fun _ _ _ _ _ => True) (fun _ U o U' => Prom W n0 h0.size Q R U o U')
/-- from this point of the body on the run ends as Q says -/
def OAt (W : Bool) (l : Launch) (Z : State) (bytes : ByteArray) (maxL : Nat) (own nm : String) (ret : Option FieldType) (R : Room) (n0 hz : Nat) (Q : Option Value → Heap → Prop)
    (h : Heap) (cells slots pc : Nat) (Ls : Array Slot) (st : List Value) : Prop :=
  hz ≤ h.size → ∀ (p : Program) (e : Env) (s : State) (vm0 : Vm) (m : MethodId) (args : Array Value) (below : List Frame) (meth : Method) (c : Code) (T : State) (locs : List Loc),
    Cx Z bytes maxL own nm ret p vm0 m meth c → Rel W s vm0 h.size → Stand p l e R (s.setVm vm0) m args below meth c T locs cells slots → T.heap = h → Fr n0 locs →
    Go p e below (Prom W n0 hz Q R s) (T.setTop (mkF m pc Ls st))
section Walk
variable {W : Bool} {l : Launch} {Z : State} {a0 : Array Value} {bytes : ByteArray} {maxL : Nat} {own nm : String} {ret : Option FieldType} {R : Room} {n0 hz : Nat} {Q : Option Value → Heap → Prop} {h h' : Heap} {cells slots pc : Nat} {Ls : Array Slot} {st : List Value}
theorem Met.of {y : MethodName} {ws : List Jvm.Cond} {as' : Array Value} {h0 : Heap} (hp : plainFor y = true) {Ls : Array Slot} (hef : ∀ m, entryFrame m as' maxL = mkF m 0 Ls [])
    (k : OAt W l Z bytes maxL y.cls y.name ret R n0 h0.size Q h0 0 0 0 Ls []) : Met W l Z y bytes maxL ret R ws as' h0 n0 Q := by
  refine MetFree.of_bodySF hp hisR ?_
  intro p e s m args below meth c s₁ Bd hml0 hP hK
  obtain ⟨rfl, hZ, hh⟩ := hP
  have X0 : Stand p l e R s m args below meth c s₁ [] 0 0 := Stand.of_body Bd
  have e0 : s₁.heap = h0 := by rw [← hh, Bd.state]; rfl
  have hr : Rel W s s.vm h0.size := by
    cases W
    · exact rfl
    · exact ⟨0, State.WarmedH.since (State.WarmedH.refl s) 0, Nat.zero_le _⟩
  have g := k (Nat.le_refl _) p e s s.vm m args below meth c s₁ [] ⟨Bd.exec, Bd.bytes, hml0, Bd.returns, Bd.notSynchronized, (name_of_methodNamed Bd.named Bd.method).1, hZ, findClass_of_methodNamed Bd.named⟩ hr X0 e0 (Fr.nil n0)
  rw [← hef m] at g
  exact g
theorem Met.imp {y : MethodName} {ws : List Jvm.Cond} {as' : Array Value} {h0 : Heap} {Q' : Option Value → Heap → Prop} (k : Met W l Z y bytes maxL ret R ws as' h0 n0 Q) (f : ∀ v h, Q v h → Q' v h) : Met W l Z y bytes maxL ret R ws as' h0 n0 Q' :=
  fun p e h1 h2 h3 s m args below h4 h5 h6 h7 => by
    obtain ⟨n, o, g1, g2, g3, v, L, g4, ⟨g5, g6, g7⟩, g8⟩ := k p e h1 h2 h3 s m args below h4 h5 h6 h7
    exact ⟨n, o, g1, g2, g3, v, L, g4, ⟨g5, g6, f _ _ g7⟩, g8⟩
theorem OAt.cast {st' : List Value} (q : st' = st) (k : OAt W l Z bytes maxL own nm ret R n0 hz Q h cells slots pc Ls st') : OAt W l Z bytes maxL own nm ret R n0 hz Q h cells slots pc Ls st := q ▸ k
theorem OAt.castL {Ls' : Array Slot} {st' : List Value} (q : Ls' = Ls) (q2 : st' = st) (k : OAt W l Z bytes maxL own nm ret R n0 hz Q h cells slots pc Ls' st') : OAt W l Z bytes maxL own nm ret R n0 hz Q h cells slots pc Ls st := q ▸ q2 ▸ k
theorem OAt.mono {cells' slots' : Nat} (q1 : cells ≤ cells') (q2 : slots ≤ slots') (k : OAt W l Z bytes maxL own nm ret R n0 hz Q h cells' slots' pc Ls st) : OAt W l Z bytes maxL own nm ret R n0 hz Q h cells slots pc Ls st :=
  fun hs p e s vm0 m args below meth c T locs C r X eT N => k hs p e s vm0 m args below meth c T locs C r (X.mono q1 q2) eT N
/-- a step that leaves the state but for the frame -/
theorem OAt.plain {pc' : Nat} {Ls' : Array Slot} {st' : List Value} (k : OAt W l Z bytes maxL own nm ret R n0 hz Q h cells slots pc' Ls' st')
    (f : ∀ {p : Program} {e : Env} {below : List Frame} {m : MethodId} {c : Code} {T : State}, At T m c below → p.tables.exec = Jvm.exec → c.code = bytes → ∀ target, Steps p.tables e below (T.setTop (mkF m pc' Ls' st')) target → Steps p.tables e below (T.setTop (mkF m pc Ls st)) target) :
    OAt W l Z bytes maxL own nm ret R n0 hz Q h cells slots pc Ls st :=
  fun hs p e s vm0 m args below meth c T locs C r X eT N => (k hs p e s vm0 m args below meth c T locs C r X eT N).step (f X.here C.1 C.2.1)
/-- a step by a law over the Stand: same heap -/
theorem OAt.warm {pc' : Nat} {Ls' : Array Slot} {st' : List Value} (k : OAt W l Z bytes maxL own nm ret R n0 hz Q h cells slots pc' Ls' st')
    (f : ∀ {p : Program} {e : Env} {s : State} {m : MethodId} {args : Array Value} {below : List Frame} {meth : Method} {c : Code} {T : State} {locs : List Loc}, Cx Z bytes maxL own nm ret p s.vm m meth c → Stand p l e R s m args below meth c T locs cells slots → T.heap = h →
      ∃ T', Stand p l e R s m args below meth c T' locs cells slots ∧ T'.heap = h ∧ ∀ target, Steps p.tables e below (T'.setTop (mkF m pc' Ls' st')) target → Steps p.tables e below (T.setTop (mkF m pc Ls st)) target) :
    OAt W l Z bytes maxL own nm ret R n0 hz Q h cells slots pc Ls st :=
  fun hs p e s vm0 m args below meth c T locs C r X eT N => by
    obtain ⟨T', X', e', g⟩ := f (s := s.setVm vm0) C X eT
    exact (k hs p e s vm0 m args below meth c T' locs C r X' e' N).step g
/-- a step by a law over the Stand: the heap grows or is written at fresh places -/
theorem OAt.move {pc' : Nat} {Ls' : Array Slot} {st' : Heap → List Value} {cells' slots' : Nat} {P : Heap → Prop} (hg : ∀ h', P h' → h.size ≤ h'.size) (k : ∀ h', P h' → OAt W l Z bytes maxL own nm ret R n0 hz Q h' cells' slots' pc' Ls' (st' h'))
    (f : ∀ {p : Program} {e : Env} {s : State} {m : MethodId} {args : Array Value} {below : List Frame} {meth : Method} {c : Code} {T : State} {locs : List Loc}, Cx Z bytes maxL own nm ret p s.vm m meth c → Stand p l e R s m args below meth c T locs cells slots → T.heap = h → Fr n0 locs →
      ∃ T' h' locs', Stand p l e R s m args below meth c T' locs' cells' slots' ∧ T'.heap = h' ∧ Fr n0 locs' ∧ P h' ∧ ∀ target, Steps p.tables e below (T'.setTop (mkF m pc' Ls' (st' h'))) target → Steps p.tables e below (T.setTop (mkF m pc Ls st)) target) :
    OAt W l Z bytes maxL own nm ret R n0 hz Q h cells slots pc Ls st :=
  fun hs p e s vm0 m args below meth c T locs C r X eT N => by
    obtain ⟨T', h', locs', X', e', N', p', g⟩ := f (s := s.setVm vm0) C X eT N
    exact (k h' p' (Nat.le_trans hs (hg h' p')) p e s vm0 m args below meth c T' locs' C (r.mono (hg h' p')) X' e' N').step g
/-- the end -/
theorem OAt.done {v : Option Value} (hv : ret = none → v = none) (hq : Q v h) (hc : cells ≤ R.cells) (hn : slots ≤ R.slots)
    (f : ∀ {p : Program} {e : Env} {s : State} {m : MethodId} {args : Array Value} {below : List Frame} {meth : Method} {c : Code} {T : State} {locs : List Loc} {fs : List Frame}, Cx Z bytes maxL own nm ret p s.vm m meth c → Stand p l e R s m args below meth c T locs cells slots →
      (∀ (f : JFrame) (acts : List Action), f.method = m → f.locked = none → f.entered = [] → (doReturn e (T.setTop f) acts v).1 = T.setFrames fs) → Steps p.tables e below (T.setTop (mkF m pc Ls st)) (T.setFrames fs)) :
    OAt W l Z bytes maxL own nm ret R n0 hz Q h cells slots pc Ls st :=
  fun hs p e s vm0 m args below meth c T locs C r X eT N => by
    have hl : meth.locks = false := C.2.2.2.2.1
    have hv' : meth.sig.returnType = none → v = none := fun q => hv (C.2.2.2.1.symm.trans q)
    have hh : ∀ fs, (T.setFrames fs).heap = h := fun fs => eT
    cases W
    · obtain rfl : vm0 = s.vm := r
      obtain ⟨fs, h1, h2, h3, h4, h5⟩ := X.leave (v := v) hv' hl
      exact ⟨_, _, f C X h1, h2, h3, v, locs, rfl, ⟨N, by rw [hh]; exact hs, by rw [hh]; exact hq⟩, ⟨v, rfl⟩, h4, h5.mono hc hn⟩
    · obtain ⟨k0, r1, r2⟩ := r
      obtain ⟨fs, h1, h2, h3, h4⟩ := X.leaveW (v := v) r1 (by rw [eT]; exact r2) hv' hl
      exact ⟨_, _, f (s := s.setVm vm0) C X h1, h2, h3, v, locs, rfl, ⟨N, by rw [hh]; exact hs, by rw [hh]; exact hq⟩, h4.1, h4.2.1, h4.2.2.1, h4.2.2.2.mono hc hn⟩
theorem iconst {i : Int} (v : Int32) (hd : decode bytes pc = .ok (.iconst i, 1)) (hv : Int32.ofInt i = v) (k : OAt W l Z bytes maxL own nm ret R n0 hz Q h cells slots (pc + 1) Ls (.int v :: st)) : OAt W l Z bytes maxL own nm ret R n0 hz Q h cells slots pc Ls st :=
  k.plain fun hh hx hby _ q => XS.iconst hh hx rfl (hb hby hd) (by rw [hv]; exact q)
theorem bipush {i : Int} (v : Int32) (hd : decode bytes pc = .ok (.bipush i, 2)) (hv : (Int8.ofInt i).toInt32 = v) (k : OAt W l Z bytes maxL own nm ret R n0 hz Q h cells slots (pc + 2) Ls (.int v :: st)) : OAt W l Z bytes maxL own nm ret R n0 hz Q h cells slots pc Ls st :=
  k.plain fun hh hx hby _ q => XS.bipush hh hx rfl (hb hby hd) (by rw [hv]; exact q)
theorem sipush {i : Int} (v : Int32) (hd : decode bytes pc = .ok (.sipush i, 3)) (hv : (Int16.ofInt i).toInt32 = v) (k : OAt W l Z bytes maxL own nm ret R n0 hz Q h cells slots (pc + 3) Ls (.int v :: st)) : OAt W l Z bytes maxL own nm ret R n0 hz Q h cells slots pc Ls st :=
  k.plain fun hh hx hby _ q => XS.sipush hh hx rfl (hb hby hd) (by rw [hv]; exact q)
theorem lconst {i : Fin 2} (v : Int64) (hd : decode bytes pc = .ok (.lconst i, 1)) (hv : Int64.ofNat i = v) (k : OAt W l Z bytes maxL own nm ret R n0 hz Q h cells slots (pc + 1) Ls (.long v :: st)) : OAt W l Z bytes maxL own nm ret R n0 hz Q h cells slots pc Ls st :=
  k.plain fun hh hx hby _ q => XS.lconst hh hx rfl (hb hby hd) (by rw [hv]; exact q)
theorem aconstNull (hd : decode bytes pc = .ok (.aconst_null, 1)) (k : OAt W l Z bytes maxL own nm ret R n0 hz Q h cells slots (pc + 1) Ls (.null :: st)) : OAt W l Z bytes maxL own nm ret R n0 hz Q h cells slots pc Ls st :=
  k.plain fun hh hx hby _ q => XS.aconstNull hh hx rfl (hb hby hd) q
theorem iload {i : Nat} {v : Int32} (hd : decode bytes pc = .ok (.iload i, 2)) (hl : Ls[i]? = some (.val (.int v))) (k : OAt W l Z bytes maxL own nm ret R n0 hz Q h cells slots (pc + 2) Ls (.int v :: st)) : OAt W l Z bytes maxL own nm ret R n0 hz Q h cells slots pc Ls st :=
  k.plain fun hh hx hby _ q => XS.iload hh hx rfl (hb hby hd) hl q
theorem iloadN {i : Fin 4} {v : Int32} (hd : decode bytes pc = .ok (.iload_n i, 1)) (hl : Ls[i.val]? = some (.val (.int v))) (k : OAt W l Z bytes maxL own nm ret R n0 hz Q h cells slots (pc + 1) Ls (.int v :: st)) : OAt W l Z bytes maxL own nm ret R n0 hz Q h cells slots pc Ls st :=
  k.plain fun hh hx hby _ q => XS.iloadN hh hx rfl (hb hby hd) hl q
theorem lload {i : Nat} {v : Int64} (hd : decode bytes pc = .ok (.lload i, 2)) (hl : Ls[i]? = some (.val (.long v))) (k : OAt W l Z bytes maxL own nm ret R n0 hz Q h cells slots (pc + 2) Ls (.long v :: st)) : OAt W l Z bytes maxL own nm ret R n0 hz Q h cells slots pc Ls st :=
  k.plain fun hh hx hby _ q => XS.lload hh hx rfl (hb hby hd) hl q
theorem lloadN {i : Fin 4} {v : Int64} (hd : decode bytes pc = .ok (.lload_n i, 1)) (hl : Ls[i.val]? = some (.val (.long v))) (k : OAt W l Z bytes maxL own nm ret R n0 hz Q h cells slots (pc + 1) Ls (.long v :: st)) : OAt W l Z bytes maxL own nm ret R n0 hz Q h cells slots pc Ls st :=
  k.plain fun hh hx hby _ q => XS.lloadN hh hx rfl (hb hby hd) hl q
theorem aload {i : Nat} {v : Value} (hd : decode bytes pc = .ok (.aload i, 2)) (hl : Ls[i]? = some (.val v)) (hv : v.isRef = true) (k : OAt W l Z bytes maxL own nm ret R n0 hz Q h cells slots (pc + 2) Ls (v :: st)) : OAt W l Z bytes maxL own nm ret R n0 hz Q h cells slots pc Ls st :=
  k.plain fun hh hx hby _ q => XS.aload hh hx rfl (hb hby hd) hl hv q
theorem aloadN {i : Fin 4} {v : Value} (hd : decode bytes pc = .ok (.aload_n i, 1)) (hl : Ls[i.val]? = some (.val v)) (hv : v.isRef = true) (k : OAt W l Z bytes maxL own nm ret R n0 hz Q h cells slots (pc + 1) Ls (v :: st)) : OAt W l Z bytes maxL own nm ret R n0 hz Q h cells slots pc Ls st :=
  k.plain fun hh hx hby _ q => XS.aloadN hh hx rfl (hb hby hd) hl hv q
theorem istore {i : Nat} {v : Int32} (L2 : Array Slot) (hd : decode bytes pc = .ok (.istore i, 2)) (hl : storeLocals Ls i (.int v) = some L2) (k : OAt W l Z bytes maxL own nm ret R n0 hz Q h cells slots (pc + 2) L2 st) : OAt W l Z bytes maxL own nm ret R n0 hz Q h cells slots pc Ls (.int v :: st) :=
  k.plain fun hh hx hby _ q => XS.istore hh hx rfl (hb hby hd) rfl hl q
theorem istoreN {i : Fin 4} {v : Int32} (L2 : Array Slot) (hd : decode bytes pc = .ok (.istore_n i, 1)) (hl : storeLocals Ls i.val (.int v) = some L2) (k : OAt W l Z bytes maxL own nm ret R n0 hz Q h cells slots (pc + 1) L2 st) : OAt W l Z bytes maxL own nm ret R n0 hz Q h cells slots pc Ls (.int v :: st) :=
  k.plain fun hh hx hby _ q => XS.istoreN hh hx rfl (hb hby hd) rfl hl q
theorem lstore {i : Nat} {v : Int64} (L2 : Array Slot) (hd : decode bytes pc = .ok (.lstore i, 2)) (hl : storeLocals Ls i (.long v) = some L2) (k : OAt W l Z bytes maxL own nm ret R n0 hz Q h cells slots (pc + 2) L2 st) : OAt W l Z bytes maxL own nm ret R n0 hz Q h cells slots pc Ls (.long v :: st) :=
  k.plain fun hh hx hby _ q => XS.lstore hh hx rfl (hb hby hd) rfl hl q
theorem lstoreN {i : Fin 4} {v : Int64} (L2 : Array Slot) (hd : decode bytes pc = .ok (.lstore_n i, 1)) (hl : storeLocals Ls i.val (.long v) = some L2) (k : OAt W l Z bytes maxL own nm ret R n0 hz Q h cells slots (pc + 1) L2 st) : OAt W l Z bytes maxL own nm ret R n0 hz Q h cells slots pc Ls (.long v :: st) :=
  k.plain fun hh hx hby _ q => XS.lstoreN hh hx rfl (hb hby hd) rfl hl q
theorem astore {i : Nat} {v : Value} (L2 : Array Slot) (hd : decode bytes pc = .ok (.astore i, 2)) (hv : v.isRef = true) (hl : storeLocals Ls i v = some L2) (k : OAt W l Z bytes maxL own nm ret R n0 hz Q h cells slots (pc + 2) L2 st) : OAt W l Z bytes maxL own nm ret R n0 hz Q h cells slots pc Ls (v :: st) :=
  k.plain fun hh hx hby _ q => XS.astore hh hx rfl (hb hby hd) rfl hv hl q
theorem astoreN {i : Fin 4} {v : Value} (L2 : Array Slot) (hd : decode bytes pc = .ok (.astore_n i, 1)) (hv : v.isRef = true) (hl : storeLocals Ls i.val v = some L2) (k : OAt W l Z bytes maxL own nm ret R n0 hz Q h cells slots (pc + 1) L2 st) : OAt W l Z bytes maxL own nm ret R n0 hz Q h cells slots pc Ls (v :: st) :=
  k.plain fun hh hx hby _ q => XS.astoreN hh hx rfl (hb hby hd) rfl hv hl q
theorem iinc {i : Nat} {z : Int} {v : Int32} (w : Int32) (L2 : Array Slot) (hd : decode bytes pc = .ok (.iinc i z, 3)) (hw : Int32.ofInt z = w) (hl : Ls[i]? = some (.val (.int v))) (hl' : storeLocals Ls i (.int (v + w)) = some L2) (k : OAt W l Z bytes maxL own nm ret R n0 hz Q h cells slots (pc + 3) L2 st) : OAt W l Z bytes maxL own nm ret R n0 hz Q h cells slots pc Ls st :=
  k.plain fun hh hx hby _ q => XS.iinc hh hx rfl (hb hby hd) hl (by rw [hw]; exact hl') q
theorem iadd {x y : Int32} (hd : decode bytes pc = .ok (.iadd, 1)) (k : OAt W l Z bytes maxL own nm ret R n0 hz Q h cells slots (pc + 1) Ls (.int (x + y) :: st)) : OAt W l Z bytes maxL own nm ret R n0 hz Q h cells slots pc Ls (.int y :: .int x :: st) :=
  k.plain fun hh hx hby _ q => XS.iadd hh hx rfl (hb hby hd) rfl q
theorem isub {x y : Int32} (hd : decode bytes pc = .ok (.isub, 1)) (k : OAt W l Z bytes maxL own nm ret R n0 hz Q h cells slots (pc + 1) Ls (.int (x - y) :: st)) : OAt W l Z bytes maxL own nm ret R n0 hz Q h cells slots pc Ls (.int y :: .int x :: st) :=
  k.plain fun hh hx hby _ q => XS.isub hh hx rfl (hb hby hd) rfl q
theorem imul {x y : Int32} (hd : decode bytes pc = .ok (.imul, 1)) (k : OAt W l Z bytes maxL own nm ret R n0 hz Q h cells slots (pc + 1) Ls (.int (x * y) :: st)) : OAt W l Z bytes maxL own nm ret R n0 hz Q h cells slots pc Ls (.int y :: .int x :: st) :=
  k.plain fun hh hx hby _ q => XS.imul hh hx rfl (hb hby hd) rfl q
theorem iand {x y : Int32} (hd : decode bytes pc = .ok (.iand, 1)) (k : OAt W l Z bytes maxL own nm ret R n0 hz Q h cells slots (pc + 1) Ls (.int (x &&& y) :: st)) : OAt W l Z bytes maxL own nm ret R n0 hz Q h cells slots pc Ls (.int y :: .int x :: st) :=
  k.plain fun hh hx hby _ q => XS.iand hh hx rfl (hb hby hd) rfl q
theorem ior {x y : Int32} (hd : decode bytes pc = .ok (.ior, 1)) (k : OAt W l Z bytes maxL own nm ret R n0 hz Q h cells slots (pc + 1) Ls (.int (x ||| y) :: st)) : OAt W l Z bytes maxL own nm ret R n0 hz Q h cells slots pc Ls (.int y :: .int x :: st) :=
  k.plain fun hh hx hby _ q => XS.ior hh hx rfl (hb hby hd) rfl q
theorem ixor {x y : Int32} (hd : decode bytes pc = .ok (.ixor, 1)) (k : OAt W l Z bytes maxL own nm ret R n0 hz Q h cells slots (pc + 1) Ls (.int (x ^^^ y) :: st)) : OAt W l Z bytes maxL own nm ret R n0 hz Q h cells slots pc Ls (.int y :: .int x :: st) :=
  k.plain fun hh hx hby _ q => XS.ixor hh hx rfl (hb hby hd) rfl q
theorem ishl {x y : Int32} (hd : decode bytes pc = .ok (.ishl, 1)) (k : OAt W l Z bytes maxL own nm ret R n0 hz Q h cells slots (pc + 1) Ls (.int (x <<< (y &&& 31)) :: st)) : OAt W l Z bytes maxL own nm ret R n0 hz Q h cells slots pc Ls (.int y :: .int x :: st) :=
  k.plain fun hh hx hby _ q => XS.ishl hh hx rfl (hb hby hd) rfl q
theorem ishr {x y : Int32} (hd : decode bytes pc = .ok (.ishr, 1)) (k : OAt W l Z bytes maxL own nm ret R n0 hz Q h cells slots (pc + 1) Ls (.int (x >>> (y &&& 31)) :: st)) : OAt W l Z bytes maxL own nm ret R n0 hz Q h cells slots pc Ls (.int y :: .int x :: st) :=
  k.plain fun hh hx hby _ q => XS.ishr hh hx rfl (hb hby hd) rfl q
theorem iushr {x y : Int32} (hd : decode bytes pc = .ok (.iushr, 1)) (k : OAt W l Z bytes maxL own nm ret R n0 hz Q h cells slots (pc + 1) Ls (.int ((x.toUInt32 >>> (y &&& 31).toUInt32).toInt32) :: st)) : OAt W l Z bytes maxL own nm ret R n0 hz Q h cells slots pc Ls (.int y :: .int x :: st) :=
  k.plain fun hh hx hby _ q => XS.iushr hh hx rfl (hb hby hd) rfl q
theorem idiv {x y : Int32} (hd : decode bytes pc = .ok (.idiv, 1)) (hy : y ≠ 0) (k : OAt W l Z bytes maxL own nm ret R n0 hz Q h cells slots (pc + 1) Ls (.int (x / y) :: st)) : OAt W l Z bytes maxL own nm ret R n0 hz Q h cells slots pc Ls (.int y :: .int x :: st) :=
  k.plain fun hh hx hby _ q => XS.idiv hh hx rfl (hb hby hd) rfl hy q
theorem ladd {x y : Int64} (hd : decode bytes pc = .ok (.ladd, 1)) (k : OAt W l Z bytes maxL own nm ret R n0 hz Q h cells slots (pc + 1) Ls (.long (x + y) :: st)) : OAt W l Z bytes maxL own nm ret R n0 hz Q h cells slots pc Ls (.long y :: .long x :: st) :=
  k.plain fun hh hx hby _ q => XS.ladd hh hx rfl (hb hby hd) rfl q
theorem lsub {x y : Int64} (hd : decode bytes pc = .ok (.lsub, 1)) (k : OAt W l Z bytes maxL own nm ret R n0 hz Q h cells slots (pc + 1) Ls (.long (x - y) :: st)) : OAt W l Z bytes maxL own nm ret R n0 hz Q h cells slots pc Ls (.long y :: .long x :: st) :=
  k.plain fun hh hx hby _ q => XS.lsub hh hx rfl (hb hby hd) rfl q
theorem lmul {x y : Int64} (hd : decode bytes pc = .ok (.lmul, 1)) (k : OAt W l Z bytes maxL own nm ret R n0 hz Q h cells slots (pc + 1) Ls (.long (x * y) :: st)) : OAt W l Z bytes maxL own nm ret R n0 hz Q h cells slots pc Ls (.long y :: .long x :: st) :=
  k.plain fun hh hx hby _ q => XS.lmul hh hx rfl (hb hby hd) rfl q
theorem land {x y : Int64} (hd : decode bytes pc = .ok (.land, 1)) (k : OAt W l Z bytes maxL own nm ret R n0 hz Q h cells slots (pc + 1) Ls (.long (x &&& y) :: st)) : OAt W l Z bytes maxL own nm ret R n0 hz Q h cells slots pc Ls (.long y :: .long x :: st) :=
  k.plain fun hh hx hby _ q => XS.land hh hx rfl (hb hby hd) rfl q
theorem lor {x y : Int64} (hd : decode bytes pc = .ok (.lor, 1)) (k : OAt W l Z bytes maxL own nm ret R n0 hz Q h cells slots (pc + 1) Ls (.long (x ||| y) :: st)) : OAt W l Z bytes maxL own nm ret R n0 hz Q h cells slots pc Ls (.long y :: .long x :: st) :=
  k.plain fun hh hx hby _ q => XS.lor hh hx rfl (hb hby hd) rfl q
theorem lxor {x y : Int64} (hd : decode bytes pc = .ok (.lxor, 1)) (k : OAt W l Z bytes maxL own nm ret R n0 hz Q h cells slots (pc + 1) Ls (.long (x ^^^ y) :: st)) : OAt W l Z bytes maxL own nm ret R n0 hz Q h cells slots pc Ls (.long y :: .long x :: st) :=
  k.plain fun hh hx hby _ q => XS.lxor hh hx rfl (hb hby hd) rfl q
theorem lshl {x : Int64} {y : Int32} (hd : decode bytes pc = .ok (.lshl, 1)) (k : OAt W l Z bytes maxL own nm ret R n0 hz Q h cells slots (pc + 1) Ls (.long (x <<< (y &&& 0x3f).toInt64) :: st)) : OAt W l Z bytes maxL own nm ret R n0 hz Q h cells slots pc Ls (.int y :: .long x :: st) :=
  k.plain fun hh hx hby _ q => XS.lshl hh hx rfl (hb hby hd) rfl q
theorem lshr {x : Int64} {y : Int32} (hd : decode bytes pc = .ok (.lshr, 1)) (k : OAt W l Z bytes maxL own nm ret R n0 hz Q h cells slots (pc + 1) Ls (.long (x >>> (y &&& 0x3f).toInt64) :: st)) : OAt W l Z bytes maxL own nm ret R n0 hz Q h cells slots pc Ls (.int y :: .long x :: st) :=
  k.plain fun hh hx hby _ q => XS.lshr hh hx rfl (hb hby hd) rfl q
theorem lushr {x : Int64} {y : Int32} (hd : decode bytes pc = .ok (.lushr, 1)) (k : OAt W l Z bytes maxL own nm ret R n0 hz Q h cells slots (pc + 1) Ls (.long ((x.toUInt64 >>> (y &&& 0x3f).toInt64.toUInt64).toInt64) :: st)) : OAt W l Z bytes maxL own nm ret R n0 hz Q h cells slots pc Ls (.int y :: .long x :: st) :=
  k.plain fun hh hx hby _ q => XS.lushr hh hx rfl (hb hby hd) rfl q
theorem ldiv {x y : Int64} (hd : decode bytes pc = .ok (.ldiv, 1)) (hy : y ≠ 0) (k : OAt W l Z bytes maxL own nm ret R n0 hz Q h cells slots (pc + 1) Ls (.long (x / y) :: st)) : OAt W l Z bytes maxL own nm ret R n0 hz Q h cells slots pc Ls (.long y :: .long x :: st) :=
  k.plain fun hh hx hby _ q => XS.ldiv hh hx rfl (hb hby hd) rfl hy q
theorem lrem {x y : Int64} (hd : decode bytes pc = .ok (.lrem, 1)) (hy : y ≠ 0) (k : OAt W l Z bytes maxL own nm ret R n0 hz Q h cells slots (pc + 1) Ls (.long (x - (x / y) * y) :: st)) : OAt W l Z bytes maxL own nm ret R n0 hz Q h cells slots pc Ls (.long y :: .long x :: st) :=
  k.plain fun hh hx hby _ q => XS.lrem hh hx rfl (hb hby hd) rfl hy q
theorem ineg {x : Int32} (hd : decode bytes pc = .ok (.ineg, 1)) (k : OAt W l Z bytes maxL own nm ret R n0 hz Q h cells slots (pc + 1) Ls (.int (-x) :: st)) : OAt W l Z bytes maxL own nm ret R n0 hz Q h cells slots pc Ls (.int x :: st) :=
  k.plain fun hh hx hby _ q => XS.ineg hh hx rfl (hb hby hd) rfl q
theorem lneg {x : Int64} (hd : decode bytes pc = .ok (.lneg, 1)) (k : OAt W l Z bytes maxL own nm ret R n0 hz Q h cells slots (pc + 1) Ls (.long (-x) :: st)) : OAt W l Z bytes maxL own nm ret R n0 hz Q h cells slots pc Ls (.long x :: st) :=
  k.plain fun hh hx hby _ q => XS.lneg hh hx rfl (hb hby hd) rfl q
theorem i2l {x : Int32} (hd : decode bytes pc = .ok (.i2l, 1)) (k : OAt W l Z bytes maxL own nm ret R n0 hz Q h cells slots (pc + 1) Ls (.long x.toInt64 :: st)) : OAt W l Z bytes maxL own nm ret R n0 hz Q h cells slots pc Ls (.int x :: st) :=
  k.plain fun hh hx hby _ q => XS.i2l hh hx rfl (hb hby hd) rfl q
theorem l2i {x : Int64} (hd : decode bytes pc = .ok (.l2i, 1)) (k : OAt W l Z bytes maxL own nm ret R n0 hz Q h cells slots (pc + 1) Ls (.int x.toInt32 :: st)) : OAt W l Z bytes maxL own nm ret R n0 hz Q h cells slots pc Ls (.long x :: st) :=
  k.plain fun hh hx hby _ q => XS.l2i hh hx rfl (hb hby hd) rfl q
theorem i2b {x : Int32} (hd : decode bytes pc = .ok (.i2b, 1)) (k : OAt W l Z bytes maxL own nm ret R n0 hz Q h cells slots (pc + 1) Ls (.int x.toInt8.toInt32 :: st)) : OAt W l Z bytes maxL own nm ret R n0 hz Q h cells slots pc Ls (.int x :: st) :=
  k.plain fun hh hx hby _ q => XS.i2b hh hx rfl (hb hby hd) rfl q
theorem i2s {x : Int32} (hd : decode bytes pc = .ok (.i2s, 1)) (k : OAt W l Z bytes maxL own nm ret R n0 hz Q h cells slots (pc + 1) Ls (.int x.toInt16.toInt32 :: st)) : OAt W l Z bytes maxL own nm ret R n0 hz Q h cells slots pc Ls (.int x :: st) :=
  k.plain fun hh hx hby _ q => XS.i2s hh hx rfl (hb hby hd) rfl q
theorem i2c {x : Int32} (hd : decode bytes pc = .ok (.i2c, 1)) (k : OAt W l Z bytes maxL own nm ret R n0 hz Q h cells slots (pc + 1) Ls (.int x.toUInt32.toUInt16.toUInt32.toInt32 :: st)) : OAt W l Z bytes maxL own nm ret R n0 hz Q h cells slots pc Ls (.int x :: st) :=
  k.plain fun hh hx hby _ q => XS.i2c hh hx rfl (hb hby hd) rfl q
theorem lcmp {x y : Int64} (hd : decode bytes pc = .ok (.lcmp, 1)) (k : OAt W l Z bytes maxL own nm ret R n0 hz Q h cells slots (pc + 1) Ls (.int (lcmpV x y) :: st)) : OAt W l Z bytes maxL own nm ret R n0 hz Q h cells slots pc Ls (.long y :: .long x :: st) :=
  k.plain fun hh hx hby _ q => XS.lcmp hh hx rfl (hb hby hd) rfl (by rw [← lcW] at q; exact q)
theorem pop {v : Value} (hd : decode bytes pc = .ok (.pop, 1)) (hc : v.category = 1) (k : OAt W l Z bytes maxL own nm ret R n0 hz Q h cells slots (pc + 1) Ls st) : OAt W l Z bytes maxL own nm ret R n0 hz Q h cells slots pc Ls (v :: st) :=
  k.plain fun hh hx hby _ q => XS.pop hh hx rfl (hb hby hd) rfl hc q
theorem dup {v : Value} (hd : decode bytes pc = .ok (.dup, 1)) (hc : v.category = 1) (k : OAt W l Z bytes maxL own nm ret R n0 hz Q h cells slots (pc + 1) Ls (v :: v :: st)) : OAt W l Z bytes maxL own nm ret R n0 hz Q h cells slots pc Ls (v :: st) :=
  k.plain fun hh hx hby _ q => XS.dup hh hx rfl (hb hby hd) rfl hc q
theorem dupX1 {v w : Value} (hd : decode bytes pc = .ok (.dup_x1, 1)) (hc : v.category = 1) (hc' : w.category = 1) (k : OAt W l Z bytes maxL own nm ret R n0 hz Q h cells slots (pc + 1) Ls (v :: w :: v :: st)) : OAt W l Z bytes maxL own nm ret R n0 hz Q h cells slots pc Ls (v :: w :: st) :=
  k.plain fun hh hx hby _ q => XS.dupX1 hh hx rfl (hb hby hd) rfl hc hc' q
theorem dup2 {v w : Value} (hd : decode bytes pc = .ok (.dup2, 1)) (hc : v.category = 1) (hc' : w.category = 1) (k : OAt W l Z bytes maxL own nm ret R n0 hz Q h cells slots (pc + 1) Ls (v :: w :: v :: w :: st)) : OAt W l Z bytes maxL own nm ret R n0 hz Q h cells slots pc Ls (v :: w :: st) :=
  k.plain fun hh hx hby _ q => Jvm.Free.XT.dup2 hh hx rfl (hb hby hd) rfl hc hc' q
theorem dup2L {x : Int64} (hd : decode bytes pc = .ok (.dup2, 1)) (k : OAt W l Z bytes maxL own nm ret R n0 hz Q h cells slots (pc + 1) Ls (.long x :: .long x :: st)) : OAt W l Z bytes maxL own nm ret R n0 hz Q h cells slots pc Ls (.long x :: st) :=
  k.plain fun hh hx hby _ q => Jvm.Free.XT.dup2L hh hx rfl (hb hby hd) rfl q
theorem goto_ {o : Int} (pc' : Nat) (hd : decode bytes pc = .ok (.goto o, 3)) (ho : 0 ≤ (pc : Int) + o) (hp : ((pc : Int) + o).toNat = pc') (k : OAt W l Z bytes maxL own nm ret R n0 hz Q h cells slots pc' Ls st) : OAt W l Z bytes maxL own nm ret R n0 hz Q h cells slots pc Ls st :=
  k.plain fun hh hx hby _ q => XS.goto hh hx rfl rfl (hb hby hd) ho hp q
theorem icmp_eq {x y : Int32} {o : Int} (pc' : Nat) (hd : decode bytes pc = .ok (.if_icmp .eq o, 3)) (ho : 0 ≤ (pc : Int) + o) (hp : ((pc : Int) + o).toNat = pc') (kt : x = y → OAt W l Z bytes maxL own nm ret R n0 hz Q h cells slots pc' Ls st) (kf : ¬ x = y → OAt W l Z bytes maxL own nm ret R n0 hz Q h cells slots (pc + 3) Ls st) : OAt W l Z bytes maxL own nm ret R n0 hz Q h cells slots pc Ls (.int y :: .int x :: st) := by
  by_cases hc : x = y
  · exact (kt hc).plain fun hh hx hby _ q => XS.icmpYes hh hx rfl rfl (hb hby hd) rfl (teq hc).1 ho hp q
  · exact (kf hc).plain fun hh hx hby _ q => XS.icmpNo hh hx rfl (hb hby hd) rfl (feq hc).1 q
theorem if_eq {x : Int32} {o : Int} (pc' : Nat) (hd : decode bytes pc = .ok (.ifCond .eq o, 3)) (ho : 0 ≤ (pc : Int) + o) (hp : ((pc : Int) + o).toNat = pc') (kt : x = (0 : Int32) → OAt W l Z bytes maxL own nm ret R n0 hz Q h cells slots pc' Ls st) (kf : ¬ x = (0 : Int32) → OAt W l Z bytes maxL own nm ret R n0 hz Q h cells slots (pc + 3) Ls st) : OAt W l Z bytes maxL own nm ret R n0 hz Q h cells slots pc Ls (.int x :: st) := by
  by_cases hc : x = (0 : Int32)
  · exact (kt hc).plain fun hh hx hby _ q => XS.ifYes hh hx rfl rfl (hb hby hd) rfl ((if0 _ _).trans (teq hc).1) ho hp q
  · exact (kf hc).plain fun hh hx hby _ q => XS.ifNo hh hx rfl (hb hby hd) rfl ((if0 _ _).trans (feq hc).1) q
theorem icmp_ne {x y : Int32} {o : Int} (pc' : Nat) (hd : decode bytes pc = .ok (.if_icmp .ne o, 3)) (ho : 0 ≤ (pc : Int) + o) (hp : ((pc : Int) + o).toNat = pc') (kt : ¬ x = y → OAt W l Z bytes maxL own nm ret R n0 hz Q h cells slots pc' Ls st) (kf : x = y → OAt W l Z bytes maxL own nm ret R n0 hz Q h cells slots (pc + 3) Ls st) : OAt W l Z bytes maxL own nm ret R n0 hz Q h cells slots pc Ls (.int y :: .int x :: st) := by
  by_cases hc : ¬ x = y
  · exact (kt hc).plain fun hh hx hby _ q => XS.icmpYes hh hx rfl rfl (hb hby hd) rfl (feq hc).2 ho hp q
  · have hc' := Classical.not_not.mp hc; exact (kf hc').plain fun hh hx hby _ q => XS.icmpNo hh hx rfl (hb hby hd) rfl (teq hc').2 q
theorem if_ne {x : Int32} {o : Int} (pc' : Nat) (hd : decode bytes pc = .ok (.ifCond .ne o, 3)) (ho : 0 ≤ (pc : Int) + o) (hp : ((pc : Int) + o).toNat = pc') (kt : ¬ x = (0 : Int32) → OAt W l Z bytes maxL own nm ret R n0 hz Q h cells slots pc' Ls st) (kf : x = (0 : Int32) → OAt W l Z bytes maxL own nm ret R n0 hz Q h cells slots (pc + 3) Ls st) : OAt W l Z bytes maxL own nm ret R n0 hz Q h cells slots pc Ls (.int x :: st) := by
  by_cases hc : ¬ x = (0 : Int32)
  · exact (kt hc).plain fun hh hx hby _ q => XS.ifYes hh hx rfl rfl (hb hby hd) rfl ((if0 _ _).trans (feq hc).2) ho hp q
  · have hc' := Classical.not_not.mp hc; exact (kf hc').plain fun hh hx hby _ q => XS.ifNo hh hx rfl (hb hby hd) rfl ((if0 _ _).trans (teq hc').2) q
theorem icmp_lt {x y : Int32} {o : Int} (pc' : Nat) (hd : decode bytes pc = .ok (.if_icmp .lt o, 3)) (ho : 0 ≤ (pc : Int) + o) (hp : ((pc : Int) + o).toNat = pc') (kt : x < y → OAt W l Z bytes maxL own nm ret R n0 hz Q h cells slots pc' Ls st) (kf : ¬ x < y → OAt W l Z bytes maxL own nm ret R n0 hz Q h cells slots (pc + 3) Ls st) : OAt W l Z bytes maxL own nm ret R n0 hz Q h cells slots pc Ls (.int y :: .int x :: st) := by
  by_cases hc : x < y
  · exact (kt hc).plain fun hh hx hby _ q => XS.icmpYes hh hx rfl rfl (hb hby hd) rfl (tlt hc).1 ho hp q
  · exact (kf hc).plain fun hh hx hby _ q => XS.icmpNo hh hx rfl (hb hby hd) rfl (flt hc).1 q
theorem if_lt {x : Int32} {o : Int} (pc' : Nat) (hd : decode bytes pc = .ok (.ifCond .lt o, 3)) (ho : 0 ≤ (pc : Int) + o) (hp : ((pc : Int) + o).toNat = pc') (kt : x < (0 : Int32) → OAt W l Z bytes maxL own nm ret R n0 hz Q h cells slots pc' Ls st) (kf : ¬ x < (0 : Int32) → OAt W l Z bytes maxL own nm ret R n0 hz Q h cells slots (pc + 3) Ls st) : OAt W l Z bytes maxL own nm ret R n0 hz Q h cells slots pc Ls (.int x :: st) := by
  by_cases hc : x < (0 : Int32)
  · exact (kt hc).plain fun hh hx hby _ q => XS.ifYes hh hx rfl rfl (hb hby hd) rfl ((if0 _ _).trans (tlt hc).1) ho hp q
  · exact (kf hc).plain fun hh hx hby _ q => XS.ifNo hh hx rfl (hb hby hd) rfl ((if0 _ _).trans (flt hc).1) q
theorem icmp_ge {x y : Int32} {o : Int} (pc' : Nat) (hd : decode bytes pc = .ok (.if_icmp .ge o, 3)) (ho : 0 ≤ (pc : Int) + o) (hp : ((pc : Int) + o).toNat = pc') (kt : ¬ x < y → OAt W l Z bytes maxL own nm ret R n0 hz Q h cells slots pc' Ls st) (kf : x < y → OAt W l Z bytes maxL own nm ret R n0 hz Q h cells slots (pc + 3) Ls st) : OAt W l Z bytes maxL own nm ret R n0 hz Q h cells slots pc Ls (.int y :: .int x :: st) := by
  by_cases hc : ¬ x < y
  · exact (kt hc).plain fun hh hx hby _ q => XS.icmpYes hh hx rfl rfl (hb hby hd) rfl (flt hc).2.1 ho hp q
  · have hc' := Classical.not_not.mp hc; exact (kf hc').plain fun hh hx hby _ q => XS.icmpNo hh hx rfl (hb hby hd) rfl (tlt hc').2.1 q
theorem if_ge {x : Int32} {o : Int} (pc' : Nat) (hd : decode bytes pc = .ok (.ifCond .ge o, 3)) (ho : 0 ≤ (pc : Int) + o) (hp : ((pc : Int) + o).toNat = pc') (kt : ¬ x < (0 : Int32) → OAt W l Z bytes maxL own nm ret R n0 hz Q h cells slots pc' Ls st) (kf : x < (0 : Int32) → OAt W l Z bytes maxL own nm ret R n0 hz Q h cells slots (pc + 3) Ls st) : OAt W l Z bytes maxL own nm ret R n0 hz Q h cells slots pc Ls (.int x :: st) := by
  by_cases hc : ¬ x < (0 : Int32)
  · exact (kt hc).plain fun hh hx hby _ q => XS.ifYes hh hx rfl rfl (hb hby hd) rfl ((if0 _ _).trans (flt hc).2.1) ho hp q
  · have hc' := Classical.not_not.mp hc; exact (kf hc').plain fun hh hx hby _ q => XS.ifNo hh hx rfl (hb hby hd) rfl ((if0 _ _).trans (tlt hc').2.1) q
theorem icmp_gt {x y : Int32} {o : Int} (pc' : Nat) (hd : decode bytes pc = .ok (.if_icmp .gt o, 3)) (ho : 0 ≤ (pc : Int) + o) (hp : ((pc : Int) + o).toNat = pc') (kt : y < x → OAt W l Z bytes maxL own nm ret R n0 hz Q h cells slots pc' Ls st) (kf : ¬ y < x → OAt W l Z bytes maxL own nm ret R n0 hz Q h cells slots (pc + 3) Ls st) : OAt W l Z bytes maxL own nm ret R n0 hz Q h cells slots pc Ls (.int y :: .int x :: st) := by
  by_cases hc : y < x
  · exact (kt hc).plain fun hh hx hby _ q => XS.icmpYes hh hx rfl rfl (hb hby hd) rfl (tlt hc).2.2.1 ho hp q
  · exact (kf hc).plain fun hh hx hby _ q => XS.icmpNo hh hx rfl (hb hby hd) rfl (flt hc).2.2.1 q
theorem if_gt {x : Int32} {o : Int} (pc' : Nat) (hd : decode bytes pc = .ok (.ifCond .gt o, 3)) (ho : 0 ≤ (pc : Int) + o) (hp : ((pc : Int) + o).toNat = pc') (kt : (0 : Int32) < x → OAt W l Z bytes maxL own nm ret R n0 hz Q h cells slots pc' Ls st) (kf : ¬ (0 : Int32) < x → OAt W l Z bytes maxL own nm ret R n0 hz Q h cells slots (pc + 3) Ls st) : OAt W l Z bytes maxL own nm ret R n0 hz Q h cells slots pc Ls (.int x :: st) := by
  by_cases hc : (0 : Int32) < x
  · exact (kt hc).plain fun hh hx hby _ q => XS.ifYes hh hx rfl rfl (hb hby hd) rfl ((if0 _ _).trans (tlt hc).2.2.1) ho hp q
  · exact (kf hc).plain fun hh hx hby _ q => XS.ifNo hh hx rfl (hb hby hd) rfl ((if0 _ _).trans (flt hc).2.2.1) q
theorem icmp_le {x y : Int32} {o : Int} (pc' : Nat) (hd : decode bytes pc = .ok (.if_icmp .le o, 3)) (ho : 0 ≤ (pc : Int) + o) (hp : ((pc : Int) + o).toNat = pc') (kt : ¬ y < x → OAt W l Z bytes maxL own nm ret R n0 hz Q h cells slots pc' Ls st) (kf : y < x → OAt W l Z bytes maxL own nm ret R n0 hz Q h cells slots (pc + 3) Ls st) : OAt W l Z bytes maxL own nm ret R n0 hz Q h cells slots pc Ls (.int y :: .int x :: st) := by
  by_cases hc : ¬ y < x
  · exact (kt hc).plain fun hh hx hby _ q => XS.icmpYes hh hx rfl rfl (hb hby hd) rfl (flt hc).2.2.2 ho hp q
  · have hc' := Classical.not_not.mp hc; exact (kf hc').plain fun hh hx hby _ q => XS.icmpNo hh hx rfl (hb hby hd) rfl (tlt hc').2.2.2 q
theorem if_le {x : Int32} {o : Int} (pc' : Nat) (hd : decode bytes pc = .ok (.ifCond .le o, 3)) (ho : 0 ≤ (pc : Int) + o) (hp : ((pc : Int) + o).toNat = pc') (kt : ¬ (0 : Int32) < x → OAt W l Z bytes maxL own nm ret R n0 hz Q h cells slots pc' Ls st) (kf : (0 : Int32) < x → OAt W l Z bytes maxL own nm ret R n0 hz Q h cells slots (pc + 3) Ls st) : OAt W l Z bytes maxL own nm ret R n0 hz Q h cells slots pc Ls (.int x :: st) := by
  by_cases hc : ¬ (0 : Int32) < x
  · exact (kt hc).plain fun hh hx hby _ q => XS.ifYes hh hx rfl rfl (hb hby hd) rfl ((if0 _ _).trans (flt hc).2.2.2) ho hp q
  · have hc' := Classical.not_not.mp hc; exact (kf hc').plain fun hh hx hby _ q => XS.ifNo hh hx rfl (hb hby hd) rfl ((if0 _ _).trans (tlt hc').2.2.2) q
theorem ifnullYes {o : Int} (pc' : Nat) (hd : decode bytes pc = .ok (.ifnull o, 3)) (ho : 0 ≤ (pc : Int) + o) (hp : ((pc : Int) + o).toNat = pc') (k : OAt W l Z bytes maxL own nm ret R n0 hz Q h cells slots pc' Ls st) : OAt W l Z bytes maxL own nm ret R n0 hz Q h cells slots pc Ls (.null :: st) :=
  k.plain fun hh hx hby _ q => XS.ifnullYes hh hx rfl rfl (hb hby hd) rfl ho hp q
theorem ifnullNo {b : Addr} {o : Int} (hd : decode bytes pc = .ok (.ifnull o, 3)) (k : OAt W l Z bytes maxL own nm ret R n0 hz Q h cells slots (pc + 3) Ls st) : OAt W l Z bytes maxL own nm ret R n0 hz Q h cells slots pc Ls (.ref b :: st) :=
  k.plain fun hh hx hby _ q => XS.ifnullNo hh hx rfl (hb hby hd) rfl q
theorem ifnonnullYes {b : Addr} {o : Int} (pc' : Nat) (hd : decode bytes pc = .ok (.ifnonnull o, 3)) (ho : 0 ≤ (pc : Int) + o) (hp : ((pc : Int) + o).toNat = pc') (k : OAt W l Z bytes maxL own nm ret R n0 hz Q h cells slots pc' Ls st) : OAt W l Z bytes maxL own nm ret R n0 hz Q h cells slots pc Ls (.ref b :: st) :=
  k.plain fun hh hx hby _ q => XS.ifnonnullYes hh hx rfl rfl (hb hby hd) rfl ho hp q
theorem ifnonnullNo {o : Int} (hd : decode bytes pc = .ok (.ifnonnull o, 3)) (k : OAt W l Z bytes maxL own nm ret R n0 hz Q h cells slots (pc + 3) Ls st) : OAt W l Z bytes maxL own nm ret R n0 hz Q h cells slots pc Ls (.null :: st) :=
  k.plain fun hh hx hby _ q => XS.ifnonnullNo hh hx rfl (hb hby hd) rfl q
theorem acmp_eq {x y : Value} {o : Int} (pc' : Nat) (hd : decode bytes pc = .ok (.if_acmp .eq o, 3)) (ho : 0 ≤ (pc : Int) + o) (hp : ((pc : Int) + o).toNat = pc') (hx' : x.isRef = true) (hy' : y.isRef = true) (kt : x = y → OAt W l Z bytes maxL own nm ret R n0 hz Q h cells slots pc' Ls st) (kf : ¬ x = y → OAt W l Z bytes maxL own nm ret R n0 hz Q h cells slots (pc + 3) Ls st) : OAt W l Z bytes maxL own nm ret R n0 hz Q h cells slots pc Ls (y :: x :: st) := by
  by_cases hc : x = y
  · exact (kt hc).plain fun hh hx hby _ q => Jvm.Free.XT.acmpYes hh hx rfl rfl (hb hby hd) rfl hx' hy' (Jvm.Free.XT.aa_eq_t hc) ho hp q
  · exact (kf hc).plain fun hh hx hby _ q => Jvm.Free.XT.acmpNo hh hx rfl (hb hby hd) rfl hx' hy' (Jvm.Free.XT.aa_eq_f hc) q
theorem acmp_ne {x y : Value} {o : Int} (pc' : Nat) (hd : decode bytes pc = .ok (.if_acmp .ne o, 3)) (ho : 0 ≤ (pc : Int) + o) (hp : ((pc : Int) + o).toNat = pc') (hx' : x.isRef = true) (hy' : y.isRef = true) (kt : ¬ x = y → OAt W l Z bytes maxL own nm ret R n0 hz Q h cells slots pc' Ls st) (kf : x = y → OAt W l Z bytes maxL own nm ret R n0 hz Q h cells slots (pc + 3) Ls st) : OAt W l Z bytes maxL own nm ret R n0 hz Q h cells slots pc Ls (y :: x :: st) := by
  by_cases hc : ¬ x = y
  · exact (kt hc).plain fun hh hx hby _ q => Jvm.Free.XT.acmpYes hh hx rfl rfl (hb hby hd) rfl hx' hy' (Jvm.Free.XT.aa_ne_t hc) ho hp q
  · have hc' := Classical.not_not.mp hc; exact (kf hc').plain fun hh hx hby _ q => Jvm.Free.XT.acmpNo hh hx rfl (hb hby hd) rfl hx' hy' (Jvm.Free.XT.aa_ne_f hc') q
theorem irem_ {x y : Int32} (hd : decode bytes pc = .ok (.irem, 1)) (hy : y ≠ 0) (k : OAt W l Z bytes maxL own nm ret R n0 hz Q h cells slots (pc + 1) Ls (.int (x % y) :: st)) : OAt W l Z bytes maxL own nm ret R n0 hz Q h cells slots pc Ls (.int y :: .int x :: st) :=
  k.warm fun C X e => ⟨_, X, e, fun _ q => iremM X C.1 rfl (hb C.2.1 hd) rfl hy q⟩
theorem ldcInt {v : Int32} {i : Nat} (w : (Jvm.Cond.constant own i v).before a0 Z = true) (hd : decode bytes pc = .ok (.ldc i, 2)) (k : OAt W l Z bytes maxL own nm ret R n0 hz Q h cells slots (pc + 2) Ls (.int v :: st)) : OAt W l Z bytes maxL own nm ret R n0 hz Q h cells slots pc Ls st :=
  k.warm fun C X e => ⟨_, X, e, fun _ q => X.ldcI C.1 C.2.2.2.2.2.2.2 (mvT C.2.2.2.2.2.2.1 w) rfl (hb C.2.1 hd) q⟩
theorem ldcWInt {v : Int32} {i : Nat} (w : (Jvm.Cond.constant own i v).before a0 Z = true) (hd : decode bytes pc = .ok (.ldc_w i, 3)) (k : OAt W l Z bytes maxL own nm ret R n0 hz Q h cells slots (pc + 3) Ls (.int v :: st)) : OAt W l Z bytes maxL own nm ret R n0 hz Q h cells slots pc Ls st :=
  k.warm fun C X e => ⟨_, X, e, fun _ q => X.ldcWI C.1 C.2.2.2.2.2.2.2 (mvT C.2.2.2.2.2.2.1 w) rfl (hb C.2.1 hd) q⟩
theorem ldc2Long {v : Int64} {i : Nat} (w : (Jvm.Cond.constantLong own i v).before a0 Z = true) (hd : decode bytes pc = .ok (.ldc2_w i, 3)) (k : OAt W l Z bytes maxL own nm ret R n0 hz Q h cells slots (pc + 3) Ls (.long v :: st)) : OAt W l Z bytes maxL own nm ret R n0 hz Q h cells slots pc Ls st :=
  k.warm fun C X e => ⟨_, X, e, fun _ q => X.ldc2J C.1 C.2.2.2.2.2.2.2 (mvT C.2.2.2.2.2.2.1 w) rfl (hb C.2.1 hd) q⟩
/-! returns -/
theorem ret_int {z : Int32} (hret : ret = some .int) (hd : decode bytes pc = .ok (.ireturn, 1)) (hc : cells ≤ R.cells) (hn : slots ≤ R.slots) (hq : Q (some (.int z)) h) : OAt W l Z bytes maxL own nm ret R n0 hz Q h cells slots pc Ls (.int z :: st) :=
  OAt.done (by rw [hret]; nofun) hq hc hn fun C X hl => retOut X C.1 (t := .int) (C.2.2.2.1.trans hret) rfl (Or.inl ⟨rfl, Or.inl rfl, z, rfl⟩) (hb C.2.1 hd) hl
theorem ret_nar {z : Int32} {t : FieldType} (ht : t = .boolean ∨ t = .byte ∨ t = .char ∨ t = .short) (hret : ret = some t) (hd : decode bytes pc = .ok (.ireturn, 1)) (hc : cells ≤ R.cells) (hn : slots ≤ R.slots) (hq : Q (some (.int (nar t z))) h) : OAt W l Z bytes maxL own nm ret R n0 hz Q h cells slots pc Ls (.int z :: st) :=
  OAt.done (by rw [hret]; nofun) hq hc hn fun C X hl => retN X C.1 (C.2.2.2.1.trans hret) ht (hb C.2.1 hd) hl
theorem ret_long {z : Int64} (hret : ret = some .long) (hd : decode bytes pc = .ok (.lreturn, 1)) (hc : cells ≤ R.cells) (hn : slots ≤ R.slots) (hq : Q (some (.long z)) h) : OAt W l Z bytes maxL own nm ret R n0 hz Q h cells slots pc Ls (.long z :: st) :=
  OAt.done (by rw [hret]; nofun) hq hc hn fun C X hl => retOut X C.1 (t := .long) (C.2.2.2.1.trans hret) rfl (Or.inr (Or.inl ⟨rfl, rfl, z, rfl⟩)) (hb C.2.1 hd) hl
theorem ret_ref {v : Value} {t : FieldType} (hv : v.isRef = true) (ht : t.isReference = true) (hret : ret = some t) (hd : decode bytes pc = .ok (.areturn, 1)) (hc : cells ≤ R.cells) (hn : slots ≤ R.slots) (hq : Q (some v) h) : OAt W l Z bytes maxL own nm ret R n0 hz Q h cells slots pc Ls (v :: st) :=
  OAt.done (by rw [hret]; nofun) hq hc hn fun C X hl => retOut X C.1 (t := t) (C.2.2.2.1.trans hret) (by rcases ref_cases hv with rfl | ⟨a, rfl⟩ <;> cases t <;> first | rfl | (simp [FieldType.isReference] at ht)) (Or.inr (Or.inr (Or.inr (Or.inr ⟨rfl, ht, hv⟩)))) (hb C.2.1 hd) hl
theorem ret_void (hret : ret = none) (hd : decode bytes pc = .ok (.return_, 1)) (hc : cells ≤ R.cells) (hn : slots ≤ R.slots) (hq : Q none h) : OAt W l Z bytes maxL own nm ret R n0 hz Q h cells slots pc Ls [] :=
  OAt.done (fun _ => rfl) hq hc hn fun C X hl => X.returnOut C.1 (C.2.2.2.1.trans hret) (hb C.2.1 hd) hl

theorem Cx.exec {p : Program} {vm0 : Vm} {m : MethodId} {meth : Method} {c : Code} (C : Cx Z bytes maxL own nm ret p vm0 m meth c) : p.tables.exec = Jvm.exec := C.1
theorem Cx.by {p : Program} {vm0 : Vm} {m : MethodId} {meth : Method} {c : Code} (C : Cx Z bytes maxL own nm ret p vm0 m meth c) : c.code = bytes := C.2.1
theorem Cx.ml {p : Program} {vm0 : Vm} {m : MethodId} {meth : Method} {c : Code} (C : Cx Z bytes maxL own nm ret p vm0 m meth c) : c.maxLocals = maxL := C.2.2.1
theorem Cx.name {p : Program} {vm0 : Vm} {m : MethodId} {meth : Method} {c : Code} (C : Cx Z bytes maxL own nm ret p vm0 m meth c) : meth.name = nm := C.2.2.2.2.2.1
theorem Cx.zz {p : Program} {vm0 : Vm} {m : MethodId} {meth : Method} {c : Code} (C : Cx Z bytes maxL own nm ret p vm0 m meth c) : Z.Warmed39 vm0 := C.2.2.2.2.2.2.1
theorem Cx.ow {p : Program} {vm0 : Vm} {m : MethodId} {meth : Method} {c : Code} (C : Cx Z bytes maxL own nm ret p vm0 m meth c) : vm0.findClass own = some m.cls := C.2.2.2.2.2.2.2
/-! objects and fields -/
theorem new_ {C : String} {i n : Nat} (w : (Jvm.Cond.classLink own i C).before a0 Z = true) (wi : (Jvm.Cond.instantiable C n).before a0 Z = true) (wz : (Jvm.Cond.initialized C).before a0 Z = true) (hd : decode bytes pc = .ok (.new i, 3)) (hc : cells + 1 ≤ R.cells) (hl : slots + n ≤ R.slots)
    (k : ∀ (h' : Heap) (a : Addr), a = h.size → Ext h h' → Exa Z h' a C → (∀ {O f d : String} {ty : FieldType}, Laid Z a0 C O f d → parseFieldDescriptor d = some ty → Fld Z h' a O f d (defaultValue ty)) → OAt W l Z bytes maxL own nm ret R n0 hz Q h' (cells + 1) (slots + n) (pc + 3) Ls (.ref a :: st)) : OAt W l Z bytes maxL own nm ret R n0 hz Q h cells slots pc Ls st :=
  OAt.move (P := fun h' => Ext h h' ∧ Exa Z h' h.size C ∧ ∀ {O f d : String} {ty : FieldType}, Laid Z a0 C O f d → parseFieldDescriptor d = some ty → Fld Z h' h.size O f d (defaultValue ty)) (st' := fun _ => .ref h.size :: st) (fun _ q => q.1.1) (fun h' q => k h' _ rfl q.1 q.2.1 q.2.2) fun C X e N => by
    obtain ⟨T', h', X', e', E, A, D, -, g⟩ := newO X C.exec C.zz C.ow w wi wz e (g := mkF _ pc Ls st) rfl (hb C.by hd) hc hl
    exact ⟨T', h', _, X', e', N, ⟨E, A, D⟩, g⟩
theorem getF_ {R0 O f d host : String} {i : Nat} {a : Addr} {v : Value} (w : (Jvm.Cond.fieldLink own i R0 f d).before a0 Z = true ∨ (Jvm.Cond.fieldLinkNest own i R0 f d host).before a0 Z = true) (via : Via Z R0 O f d) (F : Fld Z h a O f d v) (hd : decode bytes pc = .ok (.getfield i, 3)) (k : OAt W l Z bytes maxL own nm ret R n0 hz Q h cells slots (pc + 3) Ls (v :: st)) : OAt W l Z bytes maxL own nm ret R n0 hz Q h cells slots pc Ls (.ref a :: st) :=
  k.warm fun C X e => Jvm.RoadKit.getF X C.exec C.zz C.ow w via e F (g := mkF _ pc Ls (.ref a :: st)) rfl rfl (hb C.by hd)
theorem getS_ {R0 O f d host : String} {i : Nat} {v : Value} (w : (Jvm.Cond.fieldLink own i R0 f d).before a0 Z = true ∨ (Jvm.Cond.fieldLinkNest own i R0 f d host).before a0 Z = true) (via : Via Z R0 O f d) (F : Sta Z h O f d v) (hd : decode bytes pc = .ok (.getstatic i, 3)) (k : OAt W l Z bytes maxL own nm ret R n0 hz Q h cells slots (pc + 3) Ls (v :: st)) : OAt W l Z bytes maxL own nm ret R n0 hz Q h cells slots pc Ls st :=
  k.warm fun C X e => getS2 X C.exec C.zz C.ow w via e F (g := mkF _ pc Ls st) rfl (hb C.by hd)
theorem putF_ {R0 O f d host K : String} {i kk : Nat} {ty : FieldType} {a : Addr} {v old : Value} (w : (Jvm.Cond.fieldLink own i R0 f d).before a0 Z = true ∨ (Jvm.Cond.fieldLinkNest own i R0 f d host).before a0 Z = true) (via : Via Z R0 O f d) (F : Fld Z h a O f d old) (E : Exa Z h a K)
    (L : (Jvm.Cond.lays K O f d).before a0 Z = true ∨ ((Jvm.Cond.laysFinal K O f d).before a0 Z = true ∧ own = O ∧ nm = "<init>")) (wi : (Jvm.Cond.instantiable K kk).before a0 Z = true) (hty : parseFieldDescriptor d = some ty) (hn : narrow ty v = v) (hf : fits ty v = true) (ha : n0 ≤ a) (hd : decode bytes pc = .ok (.putfield i, 3))
    (k : ∀ h', Wr h h' a (Jvm.RoadKit.slotOf Z O f d) v → OAt W l Z bytes maxL own nm ret R n0 hz Q h' cells slots (pc + 3) Ls st) : OAt W l Z bytes maxL own nm ret R n0 hz Q h cells slots pc Ls (v :: .ref a :: st) :=
  OAt.move (P := fun h' => Wr h h' a (Jvm.RoadKit.slotOf Z O f d) v) (st' := fun _ => st) (fun _ q => Nat.le_of_eq q.size.symm) k fun C X e N => by
    obtain ⟨T', h', X', e', W', g⟩ := putF X C.exec C.zz C.ow w via e F E (L.imp id fun q => ⟨q.1, q.2.1, C.name.trans q.2.2⟩) wi hty hn hf (g := mkF _ pc Ls (v :: .ref a :: st)) rfl rfl (hb C.by hd)
    exact ⟨T', h', _, X', e', Fr.snoc X' N ha, W', g⟩
theorem putFN_ {R0 O f d K : String} {i kk : Nat} {ty : FieldType} {a : Addr} {v v' old : Value} (w : (Jvm.Cond.fieldLink own i R0 f d).before a0 Z = true) (via : Via Z R0 O f d) (F : Fld Z h a O f d old) (E : Exa Z h a K)
    (L : (Jvm.Cond.lays K O f d).before a0 Z = true ∨ ((Jvm.Cond.laysFinal K O f d).before a0 Z = true ∧ own = O ∧ nm = "<init>")) (wi : (Jvm.Cond.instantiable K kk).before a0 Z = true) (hty : parseFieldDescriptor d = some ty) (hn : narrow ty v = v') (hf : fits ty v' = true) (ha : n0 ≤ a) (hd : decode bytes pc = .ok (.putfield i, 3))
    (k : ∀ h', Wr h h' a (Jvm.RoadKit.slotOf Z O f d) v' → OAt W l Z bytes maxL own nm ret R n0 hz Q h' cells slots (pc + 3) Ls st) : OAt W l Z bytes maxL own nm ret R n0 hz Q h cells slots pc Ls (v :: .ref a :: st) :=
  OAt.move (P := fun h' => Wr h h' a (Jvm.RoadKit.slotOf Z O f d) v') (st' := fun _ => st) (fun _ q => Nat.le_of_eq q.size.symm) k fun C X e N => by
    obtain ⟨T', h', X', e', W', g⟩ := putFN X C.exec C.zz C.ow w via e F E (L.imp id fun q => ⟨q.1, q.2.1, C.name.trans q.2.2⟩) wi hty hn hf (g := mkF _ pc Ls (v :: .ref a :: st)) rfl rfl (hb C.by hd)
    exact ⟨T', h', _, X', e', Fr.snoc X' N ha, W', g⟩
theorem initO_ {i : Nat} {a : Addr} (w1 : (Jvm.Cond.methodLink own i Lib.objectInit).before a0 Z = true) (w2 : (Jvm.Cond.instanceMethod Lib.objectInit).before a0 Z = true) (w3 : (Jvm.Cond.code Lib.objectInit ⟨#[0xb1]⟩ 1 none).before a0 Z = true) (hd : decode bytes pc = .ok (.invokespecial i, 3)) (hs : Ls.size = maxL) (hf : 1 ≤ R.frames)
    (wt : Nat) (hW : (st.map fun v => v.category).sum = wt) (hl : wt + 12 ≤ R.locals) (k : OAt W l Z bytes maxL own nm ret R n0 hz Q h cells slots (pc + 3) Ls st) : OAt W l Z bytes maxL own nm ret R n0 hz Q h cells slots pc Ls (.ref a :: st) :=
  k.warm fun C X e => initO X C.exec C.zz C.ow w1 w2 w3 e (g := mkF _ pc Ls (.ref a :: st)) rfl (by rw [C.ml]; exact hs) rfl (hb C.by hd) hf (W := wt) (by show 2 * 0 + _ ≤ _; rw [hW]; omega) hl
theorem castY_ {K : String} {i : Nat} {a : Addr} (w : (Jvm.Cond.classLink own i K).before a0 Z = true) (F : Ins Z h a K true) (hd : decode bytes pc = .ok (.checkcast i, 3)) (k : OAt W l Z bytes maxL own nm ret R n0 hz Q h cells slots (pc + 3) Ls (.ref a :: st)) : OAt W l Z bytes maxL own nm ret R n0 hz Q h cells slots pc Ls (.ref a :: st) :=
  k.warm fun C X e => castY X C.exec C.zz C.ow w e F (g := mkF _ pc Ls (.ref a :: st)) rfl rfl (hb C.by hd)
theorem castNull {i : Nat} (hd : decode bytes pc = .ok (.checkcast i, 3)) (k : OAt W l Z bytes maxL own nm ret R n0 hz Q h cells slots (pc + 3) Ls (.null :: st)) : OAt W l Z bytes maxL own nm ret R n0 hz Q h cells slots pc Ls (.null :: st) :=
  k.warm fun C X e => ⟨_, X, e, X.checkcastNull C.exec (g := mkF _ pc Ls (.null :: st)) rfl rfl (hb C.by hd)⟩
theorem instY_ {K : String} {i : Nat} {a : Addr} (w : (Jvm.Cond.classLink own i K).before a0 Z = true) (F : Ins Z h a K true) (hd : decode bytes pc = .ok (.instanceof i, 3)) (k : OAt W l Z bytes maxL own nm ret R n0 hz Q h cells slots (pc + 3) Ls (.int 1 :: st)) : OAt W l Z bytes maxL own nm ret R n0 hz Q h cells slots pc Ls (.ref a :: st) :=
  k.warm fun C X e => instY X C.exec C.zz C.ow w e F (g := mkF _ pc Ls (.ref a :: st)) rfl rfl (hb C.by hd)
/-! arrays: a list of what they hold -/
def Arl (Z : State) (h : Heap) (a : Addr) (k : ClassId) (ty : FieldType) (vs : List Value) : Prop := ∃ c : Cell, Arr Z h a c ty ∧ c.cls = k ∧ c.slots.toList = vs ∧ vs.length < 2 ^ 31 ∧ ∀ v ∈ vs, fits ty v = true
section Arl
variable {a b : Addr} {ka : ClassId} {ty : FieldType} {vs : List Value} {v : Value} {sl : Nat} {ws : List Addr}
theorem Arl.lt (F : Arl Z h a ka ty vs) : a < h.size := by obtain ⟨c, A, -⟩ := F; exact A.lt
theorem Arl.len (F : Arl Z h a ka ty vs) : vs.length < 2 ^ 31 := by obtain ⟨c, -, -, -, q, -⟩ := F; exact q
theorem Arl.fits (F : Arl Z h a ka ty vs) : ∀ v ∈ vs, Jvm.fits ty v = true := by obtain ⟨c, -, -, -, -, q⟩ := F; exact q
theorem Arl.ext (F : Arl Z h a ka ty vs) (E : Ext h h') : Arl Z h' a ka ty vs := by obtain ⟨c, A, r⟩ := F; exact ⟨c, A.ext E, r⟩
theorem Arl.other (F : Arl Z h b ka ty vs) (W : Wr h h' a sl v) (q : b ≠ a) : Arl Z h' b ka ty vs := by obtain ⟨c, A, r⟩ := F; exact ⟨c, A.other W q, r⟩
theorem Arl.keep (F : Arl Z h a ka ty vs) (K : Keep h h' ws) (q : a ∉ ws) : Arl Z h' a ka ty vs := by obtain ⟨c, A, r⟩ := F; exact ⟨c, ⟨K.2.1 a c A.1 q, A.2⟩, r⟩
theorem Arl.of_new {n : Int32} {N : Nat} (A : Arr Z h a (newA ka ty n) ty) (hn : n.toInt = N) (hf : Jvm.fits ty (defaultValue ty) = true) : Arl Z h a ka ty (List.replicate N (defaultValue ty)) := by
  have hN : n.toNatClampNeg = N := by have h1 : n.toNatClampNeg = n.toInt.toNat := rfl; rw [h1, hn]; rfl
  refine ⟨_, A, rfl, ?_, ?_, ?_⟩
  · simp [newA, hN]
  · rw [List.length_replicate]; have := n.toInt_lt; omega
  · intro v hv; rw [List.mem_replicate] at hv; rw [hv.2]; exact hf
theorem idx_of {j : Int32} {i : Nat} (hj : j.toInt = i) : ¬ j < 0 ∧ j.toNatClampNeg = i := by
  refine ⟨fun q => ?_, ?_⟩
  · rw [Int32.lt_iff_toInt_lt, hj] at q; have : (0 : Int32).toInt = 0 := rfl; omega
  · have h1 : j.toNatClampNeg = j.toInt.toNat := rfl
    rw [h1, hj]; rfl
theorem Arl.at (F : Arl Z h a ka ty vs) {j : Int32} {i : Nat} (hj : j.toInt = i) (hv : vs[i]? = some v) : ∃ c : Cell, Arr Z h a c ty ∧ ¬ (j < 0 ∨ c.slots.size ≤ j.toNatClampNeg) ∧ c.slots[j.toNatClampNeg]? = some v := by
  obtain ⟨c, A, h1, h2, h3, h4⟩ := F
  obtain ⟨q1, q2⟩ := idx_of hj
  have hi : i < vs.length := (List.getElem?_eq_some_iff.mp hv).1
  have hs : c.slots.size = vs.length := by rw [← h2]; simp
  refine ⟨c, A, ?_, ?_⟩
  · rw [q2]; rintro (x | x)
    · exact q1 x
    · omega
  · rw [q2, ← Array.getElem?_toList, h2]; exact hv
theorem Arl.set (F : Arl Z h a ka ty vs) {i : Nat} (hf : Jvm.fits ty v = true) (W : Wr h h' a i v) : Arl Z h' a ka ty (vs.set i v) := by
  obtain ⟨c, A, h1, h2, h3, h4⟩ := F
  refine ⟨_, A.same W, h1, ?_, by simpa using h3, ?_⟩
  · subst h2; simp [Cell.setSlot]
  · intro w hw
    rcases List.mem_or_eq_of_mem_set hw with q | q
    · exact h4 _ q
    · rw [q]; exact hf
theorem Arl.inb (F : Arl Z h a ka ty vs) {j : Int32} {i : Nat} (hj : j.toInt = i) (hi : i < vs.length) : ∃ c : Cell, Arr Z h a c ty ∧ ¬ (j < 0 ∨ c.slots.size ≤ j.toNatClampNeg) := by
  obtain ⟨c, A, q, -⟩ := F.at hj (v := vs[i]) (List.getElem?_eq_getElem hi)
  exact ⟨c, A, q⟩
theorem Arl.nostat (F : Arl Z h a ka ty vs) : ∀ cell : Cell, h[a]? = some cell → cell.vm.isStatics = false := by obtain ⟨c, A, -⟩ := F; exact A.nostat
theorem sto_of {y : Addr} {C : String} (F : Arl Z h a ka ty vs) (O : Ovr Z ka C) (I : Ins Z h y C true) : Sto Z h a (.ref y) := by obtain ⟨c, A, q, -⟩ := F; exact Sto.ofV A q O I
theorem sta_keep {C n d : String} {w : Value} (F : Sta Z h C n d w) (K : Keep h h' ws) (hw : ∀ x ∈ ws, ∀ cell : Cell, h[x]? = some cell → cell.vm.isStatics = false) : Sta Z h' C n d w := by
  obtain ⟨cf, i, k, f, st, cell, h1, h2, h3, h4, h5, h6, h7⟩ := F
  refine ⟨cf, i, k, f, st, cell, h1, h2, h3, h4, K.2.1 _ _ h5 fun q => ?_, h6, h7⟩
  rw [hw st q cell h5] at h6; cases h6
theorem narrow_ref {t : FieldType} {w : Value} (hv : w.isRef = true) (ht : t.isReference = true) : narrow t w = w := by rcases ref_cases hv with rfl | ⟨x, rfl⟩ <;> cases t <;> first | rfl | (simp [FieldType.isReference] at ht)
theorem fits_ref' {t : FieldType} {w : Value} (hv : w.isRef = true) (ht : t.isReference = true) : Jvm.fits t w = true := by rcases ref_cases hv with rfl | ⟨x, rfl⟩ <;> cases t <;> first | rfl | (simp [FieldType.isReference] at ht)
theorem Arl.arv (F : Arl Z h a ka ty vs) (d : Value) {z : Int32} (hz : z.toInt = vs.length) : Arv Z h a ka ty z vs d := by
  obtain ⟨c, A, h1, h2, h3, h4⟩ := F
  obtain ⟨q1, q2⟩ := idx_of hz
  have hs : c.slots.size = vs.length := by rw [← h2]; simp
  refine ⟨c, A, h1, hs.trans q2.symm, q1, ?_, ?_⟩
  · intro k hk
    have hk' : k < vs.length := by omega
    rw [← Array.getElem?_toList, h2, List.getD_eq_getElem?_getD, List.getElem?_eq_getElem hk']; rfl
  · intro i hi
    have hi' : i < vs.length := by omega
    rw [List.getD_eq_getElem?_getD, List.getElem?_eq_getElem hi']
    exact h4 _ (List.getElem_mem hi')
theorem Arl.of_arv {d : Value} {z : Int32} (F : Arv Z h a ka ty z vs d) (hz : z.toInt = vs.length) : Arl Z h a ka ty vs := by
  obtain ⟨c, A, h1, h2, h3, h4, h5⟩ := F
  obtain ⟨q1, q2⟩ := idx_of hz
  have hs : c.slots.size = vs.length := h2.trans q2
  have hv : ∀ k (hk : k < vs.length), vs.getD k d = vs[k] := fun k hk => by rw [List.getD_eq_getElem?_getD, List.getElem?_eq_getElem hk]; rfl
  refine ⟨c, A, h1, ?_, ?_, ?_⟩
  · apply List.ext_getElem?
    intro k
    rw [Array.getElem?_toList]
    by_cases hk : k < vs.length
    · rw [h4 k (by omega), List.getElem?_eq_getElem hk, hv k hk]
    · rw [List.getElem?_eq_none (by omega), Array.getElem?_eq_none (by omega)]
  · have := z.toInt_lt; omega
  · intro v hm
    obtain ⟨i, hi, rfl⟩ := List.getElem_of_mem hm
    rw [← hv i hi]; exact h5 i (by omega)
end Arl
theorem newarray_ {aty : ArrayType} {n : Int32} {N : Nat} (cap : Nat) (ty : FieldType) (hty : newarray.typeOf aty = ty) (w : (Jvm.Cond.arrayClass ty).before a0 Z = true) (hd : decode bytes pc = .ok (.newarray aty, 2)) (hn : n.toInt = N) (hcap : N ≤ cap) (hb' : cap * 8 ≤ 536870912) (hc : cells + 1 ≤ R.cells) (hl : slots + cap ≤ R.slots) (hf : fits ty (defaultValue ty) = true)
    (k : ∀ (h' : Heap) (a : Addr) (ka : ClassId), a = h.size → Ext h h' → Arl Z h' a ka ty (List.replicate N (defaultValue ty)) → OAt W l Z bytes maxL own nm ret R n0 hz Q h' (cells + 1) (slots + cap) (pc + 2) Ls (.ref a :: st)) : OAt W l Z bytes maxL own nm ret R n0 hz Q h cells slots pc Ls (.int n :: st) := by
  subst hty
  obtain ⟨q1, q2⟩ := idx_of hn
  exact OAt.move (P := fun h' => Ext h h' ∧ ∃ ka, Arl Z h' h.size ka (newarray.typeOf aty) (List.replicate N (defaultValue (newarray.typeOf aty)))) (st' := fun _ => .ref h.size :: st) (fun _ q => q.1.1) (fun h' q => by obtain ⟨q1, ka, q2⟩ := q; exact k h' _ ka rfl q1 q2) fun C X e N => by
    obtain ⟨T', h', cA, X', e', E, A, g⟩ := newP X C.exec C.zz w e (g := mkF _ pc Ls (.int n :: st)) rfl (hb C.by hd) rfl q1 (cap := cap) (by omega) hb' hc hl
    exact ⟨T', h', _, X', e', N, ⟨E, cA, Arl.of_new A hn hf⟩, g⟩
theorem anewarray_ {K : String} {i : Nat} {n : Int32} {N : Nat} (cap : Nat) (w1 : (Jvm.Cond.classLink own i K).before a0 Z = true) (w2 : (Jvm.Cond.arrayOver (.object K)).before a0 Z = true) (hd : decode bytes pc = .ok (.anewarray i, 3)) (hn : n.toInt = N) (hcap : N ≤ cap) (hb' : cap * 8 ≤ 536870912) (hc : cells + 1 ≤ R.cells) (hl : slots + cap ≤ R.slots)
    (k : ∀ (h' : Heap) (a : Addr) (ka : ClassId), a = h.size → Ext h h' → Ovr Z ka K → Arl Z h' a ka (.object K) (List.replicate N .null) → OAt W l Z bytes maxL own nm ret R n0 hz Q h' (cells + 1) (slots + cap) (pc + 3) Ls (.ref a :: st)) : OAt W l Z bytes maxL own nm ret R n0 hz Q h cells slots pc Ls (.int n :: st) := by
  obtain ⟨q1, q2⟩ := idx_of hn
  exact OAt.move (P := fun h' => Ext h h' ∧ ∃ ka, Ovr Z ka K ∧ Arl Z h' h.size ka (.object K) (List.replicate N .null)) (st' := fun _ => .ref h.size :: st) (fun _ q => q.1.1) (fun h' q => by obtain ⟨q1, ka, q3, q2⟩ := q; exact k h' _ ka rfl q1 q3 q2) fun C X e N => by
    obtain ⟨T', h', cA, X', e', E, A, O, g⟩ := newR X C.exec C.zz C.ow w1 w2 e (g := mkF _ pc Ls (.int n :: st)) rfl (hb C.by hd) rfl q1 (cap := cap) (by omega) hb' hc hl
    exact ⟨T', h', _, X', e', N, ⟨E, cA, O, Arl.of_new A hn rfl⟩, g⟩
theorem arraylength_ {a : Addr} {ka : ClassId} {ty : FieldType} {vs : List Value} (z : Int32) (F : Arl Z h a ka ty vs) (hz' : vs.length.toInt32 = z) (hd : decode bytes pc = .ok (.arraylength, 1)) (k : OAt W l Z bytes maxL own nm ret R n0 hz Q h cells slots (pc + 1) Ls (.int z :: st)) : OAt W l Z bytes maxL own nm ret R n0 hz Q h cells slots pc Ls (.ref a :: st) :=
  k.warm fun C X e => by
    obtain ⟨c, A, h1, h2, h3, h4⟩ := F
    have hs : c.slots.size.toInt32 = z := by rw [← hz', ← h2]; simp
    refine ⟨_, X, e, fun t q => X.arraylength C.exec (by rw [e]; exact A.1) (State.isArrayOf_alike C.zz.alike A.2.1) (g := mkF _ pc Ls (.ref a :: st)) rfl rfl (hb C.by hd) t ?_⟩
    rw [hs]; exact q
theorem iaload_ {a : Addr} {ka : ClassId} {vs : List Value} {j : Int32} {i : Nat} {v : Value} (F : Arl Z h a ka .int vs) (hj : j.toInt = i) (hv : vs[i]? = some v) (hd : decode bytes pc = .ok (.iaload, 1)) (k : OAt W l Z bytes maxL own nm ret R n0 hz Q h cells slots (pc + 1) Ls (v :: st)) : OAt W l Z bytes maxL own nm ret R n0 hz Q h cells slots pc Ls (.int j :: .ref a :: st) :=
  k.warm fun C X e => by
    obtain ⟨c, A, h1, h2⟩ := F.at hj hv
    exact ⟨_, X, e, fun t q => X.iaload C.exec (by rw [e]; exact A.1) (State.isArrayOf_alike C.zz.alike A.2.1) A.2.2 h1 h2 (g := mkF _ pc Ls (.int j :: .ref a :: st)) rfl rfl (hb C.by hd) t q⟩
theorem laload_ {a : Addr} {ka : ClassId} {vs : List Value} {j : Int32} {i : Nat} {v : Value} (F : Arl Z h a ka .long vs) (hj : j.toInt = i) (hv : vs[i]? = some v) (hd : decode bytes pc = .ok (.laload, 1)) (k : OAt W l Z bytes maxL own nm ret R n0 hz Q h cells slots (pc + 1) Ls (v :: st)) : OAt W l Z bytes maxL own nm ret R n0 hz Q h cells slots pc Ls (.int j :: .ref a :: st) :=
  k.warm fun C X e => by
    obtain ⟨c, A, h1, h2⟩ := F.at hj hv
    exact ⟨_, X, e, fun t q => X.laload C.exec (by rw [e]; exact A.1) (State.isArrayOf_alike C.zz.alike A.2.1) A.2.2 h1 h2 (g := mkF _ pc Ls (.int j :: .ref a :: st)) rfl rfl (hb C.by hd) t q⟩
theorem caload_ {a : Addr} {ka : ClassId} {vs : List Value} {j : Int32} {i : Nat} {v : Value} (F : Arl Z h a ka .char vs) (hj : j.toInt = i) (hv : vs[i]? = some v) (hd : decode bytes pc = .ok (.caload, 1)) (k : OAt W l Z bytes maxL own nm ret R n0 hz Q h cells slots (pc + 1) Ls (v :: st)) : OAt W l Z bytes maxL own nm ret R n0 hz Q h cells slots pc Ls (.int j :: .ref a :: st) :=
  k.warm fun C X e => by
    obtain ⟨c, A, h1, h2⟩ := F.at hj hv
    exact ⟨_, X, e, fun t q => X.caload C.exec (by rw [e]; exact A.1) (State.isArrayOf_alike C.zz.alike A.2.1) A.2.2 h1 h2 (g := mkF _ pc Ls (.int j :: .ref a :: st)) rfl rfl (hb C.by hd) t q⟩
theorem baload_ {a : Addr} {ka : ClassId} {vs : List Value} {j : Int32} {i : Nat} {v : Value} (F : Arl Z h a ka .byte vs) (hj : j.toInt = i) (hv : vs[i]? = some v) (hd : decode bytes pc = .ok (.baload, 1)) (k : OAt W l Z bytes maxL own nm ret R n0 hz Q h cells slots (pc + 1) Ls (v :: st)) : OAt W l Z bytes maxL own nm ret R n0 hz Q h cells slots pc Ls (.int j :: .ref a :: st) :=
  k.warm fun C X e => by
    obtain ⟨c, A, h1, h2⟩ := F.at hj hv
    exact ⟨_, X, e, fun t q => X.baloadBytes C.exec (by rw [e]; exact A.1) (State.isArrayOf_alike C.zz.alike A.2.1) A.2.2 h1 h2 (g := mkF _ pc Ls (.int j :: .ref a :: st)) rfl rfl (hb C.by hd) t q⟩
theorem zaload_ {a : Addr} {ka : ClassId} {vs : List Value} {j : Int32} {i : Nat} {v : Value} (F : Arl Z h a ka .boolean vs) (hj : j.toInt = i) (hv : vs[i]? = some v) (hd : decode bytes pc = .ok (.baload, 1)) (k : OAt W l Z bytes maxL own nm ret R n0 hz Q h cells slots (pc + 1) Ls (v :: st)) : OAt W l Z bytes maxL own nm ret R n0 hz Q h cells slots pc Ls (.int j :: .ref a :: st) :=
  k.warm fun C X e => by
    obtain ⟨c, A, h1, h2⟩ := F.at hj hv
    exact ⟨_, X, e, fun t q => X.baloadBooleans C.exec (by rw [e]; exact A.1) (State.isArrayOf_alike C.zz.alike A.2.1) A.2.2 h1 h2 (g := mkF _ pc Ls (.int j :: .ref a :: st)) rfl rfl (hb C.by hd) t q⟩
theorem aaload_ {a : Addr} {ka : ClassId} {ty : FieldType} {vs : List Value} {j : Int32} {i : Nat} {v : Value} (F : Arl Z h a ka ty vs) (hty : ty.isReference = true) (hj : j.toInt = i) (hv : vs[i]? = some v) (hd : decode bytes pc = .ok (.aaload, 1)) (k : OAt W l Z bytes maxL own nm ret R n0 hz Q h cells slots (pc + 1) Ls (v :: st)) : OAt W l Z bytes maxL own nm ret R n0 hz Q h cells slots pc Ls (.int j :: .ref a :: st) :=
  k.warm fun C X e => by
    obtain ⟨c, A, h1, h2⟩ := F.at hj hv
    exact ⟨_, X, e, fun t q => X.aaload C.exec (by rw [e]; exact A.1) (State.isArrayOf_alike C.zz.alike A.2.1) hty A.2.2 h1 h2 (g := mkF _ pc Ls (.int j :: .ref a :: st)) rfl rfl (hb C.by hd) t q⟩
theorem iastore_ {a : Addr} {ka : ClassId} {vs : List Value} {j : Int32} {x : Int32} {i : Nat} (F : Arl Z h a ka .int vs) (hj : j.toInt = i) (hi : i < vs.length) (ha : n0 ≤ a) (hd : decode bytes pc = .ok (.iastore, 1)) (k : ∀ h', Wr h h' a i (.int x) → Arl Z h' a ka .int (vs.set i (.int x)) → OAt W l Z bytes maxL own nm ret R n0 hz Q h' cells slots (pc + 1) Ls st) : OAt W l Z bytes maxL own nm ret R n0 hz Q h cells slots pc Ls (.int x :: .int j :: .ref a :: st) :=
  OAt.move (P := fun h' => Wr h h' a i (.int x) ∧ Arl Z h' a ka .int (vs.set i (.int x))) (st' := fun _ => st) (fun _ q => Nat.le_of_eq q.1.size.symm) (fun h' q => k h' q.1 q.2) fun C X e N => by
    obtain ⟨c, A, h1⟩ := F.inb hj hi
    obtain ⟨T', h', X', e', W', g⟩ := stI X C.exec C.zz e A h1 (g := mkF _ pc Ls (.int x :: .int j :: .ref a :: st)) rfl rfl (hb C.by hd)
    rw [(idx_of hj).2] at W'
    exact ⟨T', h', _, X', e', Fr.snoc X' N ha, ⟨W', F.set (rfl) W'⟩, g⟩
theorem lastore_ {a : Addr} {ka : ClassId} {vs : List Value} {j : Int32} {x : Int64} {i : Nat} (F : Arl Z h a ka .long vs) (hj : j.toInt = i) (hi : i < vs.length) (ha : n0 ≤ a) (hd : decode bytes pc = .ok (.lastore, 1)) (k : ∀ h', Wr h h' a i (.long x) → Arl Z h' a ka .long (vs.set i (.long x)) → OAt W l Z bytes maxL own nm ret R n0 hz Q h' cells slots (pc + 1) Ls st) : OAt W l Z bytes maxL own nm ret R n0 hz Q h cells slots pc Ls (.long x :: .int j :: .ref a :: st) :=
  OAt.move (P := fun h' => Wr h h' a i (.long x) ∧ Arl Z h' a ka .long (vs.set i (.long x))) (st' := fun _ => st) (fun _ q => Nat.le_of_eq q.1.size.symm) (fun h' q => k h' q.1 q.2) fun C X e N => by
    obtain ⟨c, A, h1⟩ := F.inb hj hi
    obtain ⟨T', h', X', e', W', g⟩ := stJ X C.exec C.zz e A h1 (g := mkF _ pc Ls (.long x :: .int j :: .ref a :: st)) rfl rfl (hb C.by hd)
    rw [(idx_of hj).2] at W'
    exact ⟨T', h', _, X', e', Fr.snoc X' N ha, ⟨W', F.set (rfl) W'⟩, g⟩
theorem castore_ {a : Addr} {ka : ClassId} {vs : List Value} {j : Int32} {x : Int32} {i : Nat} (F : Arl Z h a ka .char vs) (hj : j.toInt = i) (hi : i < vs.length) (ha : n0 ≤ a) (hd : decode bytes pc = .ok (.castore, 1)) (k : ∀ h', Wr h h' a i (.int (nar .char x)) → Arl Z h' a ka .char (vs.set i (.int (nar .char x))) → OAt W l Z bytes maxL own nm ret R n0 hz Q h' cells slots (pc + 1) Ls st) : OAt W l Z bytes maxL own nm ret R n0 hz Q h cells slots pc Ls (.int x :: .int j :: .ref a :: st) :=
  OAt.move (P := fun h' => Wr h h' a i (.int (nar .char x)) ∧ Arl Z h' a ka .char (vs.set i (.int (nar .char x)))) (st' := fun _ => st) (fun _ q => Nat.le_of_eq q.1.size.symm) (fun h' q => k h' q.1 q.2) fun C X e N => by
    obtain ⟨c, A, h1⟩ := F.inb hj hi
    obtain ⟨T', h', X', e', W', g⟩ := stC X C.exec C.zz e A h1 (g := mkF _ pc Ls (.int x :: .int j :: .ref a :: st)) rfl rfl (hb C.by hd)
    rw [(idx_of hj).2] at W'
    exact ⟨T', h', _, X', e', Fr.snoc X' N ha, ⟨W', F.set (fits_nar_char x) W'⟩, g⟩
theorem bastore_ {a : Addr} {ka : ClassId} {vs : List Value} {j : Int32} {x : Int32} {i : Nat} (F : Arl Z h a ka .byte vs) (hj : j.toInt = i) (hi : i < vs.length) (ha : n0 ≤ a) (hd : decode bytes pc = .ok (.bastore, 1)) (k : ∀ h', Wr h h' a i (.int (nar .byte x)) → Arl Z h' a ka .byte (vs.set i (.int (nar .byte x))) → OAt W l Z bytes maxL own nm ret R n0 hz Q h' cells slots (pc + 1) Ls st) : OAt W l Z bytes maxL own nm ret R n0 hz Q h cells slots pc Ls (.int x :: .int j :: .ref a :: st) :=
  OAt.move (P := fun h' => Wr h h' a i (.int (nar .byte x)) ∧ Arl Z h' a ka .byte (vs.set i (.int (nar .byte x)))) (st' := fun _ => st) (fun _ q => Nat.le_of_eq q.1.size.symm) (fun h' q => k h' q.1 q.2) fun C X e N => by
    obtain ⟨c, A, h1⟩ := F.inb hj hi
    obtain ⟨T', h', X', e', W', g⟩ := stB X C.exec C.zz e A h1 (g := mkF _ pc Ls (.int x :: .int j :: .ref a :: st)) rfl rfl (hb C.by hd)
    rw [(idx_of hj).2] at W'
    exact ⟨T', h', _, X', e', Fr.snoc X' N ha, ⟨W', F.set (fits_nar_byte x) W'⟩, g⟩
theorem zastore_ {a : Addr} {ka : ClassId} {vs : List Value} {j : Int32} {x : Int32} {i : Nat} (F : Arl Z h a ka .boolean vs) (hj : j.toInt = i) (hi : i < vs.length) (ha : n0 ≤ a) (hd : decode bytes pc = .ok (.bastore, 1)) (k : ∀ h', Wr h h' a i (.int (nar .boolean x)) → Arl Z h' a ka .boolean (vs.set i (.int (nar .boolean x))) → OAt W l Z bytes maxL own nm ret R n0 hz Q h' cells slots (pc + 1) Ls st) : OAt W l Z bytes maxL own nm ret R n0 hz Q h cells slots pc Ls (.int x :: .int j :: .ref a :: st) :=
  OAt.move (P := fun h' => Wr h h' a i (.int (nar .boolean x)) ∧ Arl Z h' a ka .boolean (vs.set i (.int (nar .boolean x)))) (st' := fun _ => st) (fun _ q => Nat.le_of_eq q.1.size.symm) (fun h' q => k h' q.1 q.2) fun C X e N => by
    obtain ⟨c, A, h1⟩ := F.inb hj hi
    obtain ⟨T', h', X', e', W', g⟩ := stZ X C.exec C.zz e A h1 (g := mkF _ pc Ls (.int x :: .int j :: .ref a :: st)) rfl rfl (hb C.by hd)
    rw [(idx_of hj).2] at W'
    exact ⟨T', h', _, X', e', Fr.snoc X' N ha, ⟨W', F.set (fits_nar_bool x) W'⟩, g⟩
theorem aastore_ {a : Addr} {ka : ClassId} {ty : FieldType} {vs : List Value} {j : Int32} {x : Value} {i : Nat} (F : Arl Z h a ka ty vs) (hty : ty.isReference = true) (hx : x.isRef = true) (S : Sto Z h a x) (hj : j.toInt = i) (hi : i < vs.length) (ha : n0 ≤ a) (hd : decode bytes pc = .ok (.aastore, 1)) (k : ∀ h', Wr h h' a i x → Arl Z h' a ka ty (vs.set i x) → OAt W l Z bytes maxL own nm ret R n0 hz Q h' cells slots (pc + 1) Ls st) : OAt W l Z bytes maxL own nm ret R n0 hz Q h cells slots pc Ls (x :: .int j :: .ref a :: st) :=
  OAt.move (P := fun h' => Wr h h' a i x ∧ Arl Z h' a ka ty (vs.set i x)) (st' := fun _ => st) (fun _ q => Nat.le_of_eq q.1.size.symm) (fun h' q => k h' q.1 q.2) fun C X e N => by
    obtain ⟨c, A, h1⟩ := F.inb hj hi
    obtain ⟨T', h', X', e', W', g⟩ := stR X C.exec C.zz e A h1 hty S (g := mkF _ pc Ls (x :: .int j :: .ref a :: st)) rfl rfl (hb C.by hd)
    rw [(idx_of hj).2] at W'
    have hf : fits ty x = true := by rcases ref_cases hx with rfl | ⟨y, rfl⟩ <;> cases ty <;> first | rfl | (simp [FieldType.isReference] at hty)
    exact ⟨T', h', _, X', e', Fr.snoc X' N ha, ⟨W', F.set hf W'⟩, g⟩
/-! calls by contract: a callee that interns nothing -/
theorem OAt.callN {y : MethodName} {bytes' : ByteArray} {maxL' : Nat} {ret' : Option FieldType} {R' : Room} {as' : Array Value} {Q' : Option Value → Heap → Prop} {len wt : Nat} {rest : List Value} (hM : Met false l Z y bytes' maxL' ret' R' [] as' h n0 Q')
    (wc : (Jvm.Cond.code y bytes' maxL' ret').before a0 Z = true) (wz : (Jvm.Cond.initialized y.cls).before a0 Z = true) (hf : R'.frames + 1 ≤ R.frames) (hl : wt + (maxL' + 11) + R'.locals ≤ R.locals) (hc : cells + R'.cells ≤ R.cells) (hs : slots + R'.slots ≤ R.slots)
    (f : ∀ {p : Program} {e : Env} {s : State} {m : MethodId} {args : Array Value} {below : List Frame} {meth : Method} {c : Code} {T : State} {locs : List Loc}, Cx Z bytes maxL own nm ret p s.vm m meth c → Stand p l e R s m args below meth c T locs cells slots → T.heap = h → ∀ (Pre : Pt → Array Value → Prop) (Post : Pt → Array Value → Option Value → Pt → Prop), Back l R p e below s args y len wt Pre Post → (∀ vm₁, s.WarmedH vm₁ → Pre ⟨T.setVm vm₁, locs, cells, slots⟩ as') →
      ∃ (v : Option Value) (vm₁ : Vm) (B : Pt), s.WarmedH vm₁ ∧ Stand p l e R s m args below meth c B.U B.locs B.cells B.slots ∧ Post ⟨T.setVm vm₁, locs, cells, slots⟩ as' v B ∧ ∀ target, Steps p.tables e below (B.U.setTop (mkF m (pc + len) Ls (v.toList ++ rest))) target → Steps p.tables e below (T.setTop (mkF m pc Ls st)) target)
    (k : ∀ v h', Q' v h' → OAt W l Z bytes maxL own nm ret R n0 hz Q h' (cells + R'.cells) (slots + R'.slots) (pc + len) Ls (v.toList ++ rest)) : OAt W l Z bytes maxL own nm ret R n0 hz Q h cells slots pc Ls st :=
  fun hs' p e s vm0 m args below meth c T locs C r X eT N => by
    have hB : Back l R p e below (s.setVm vm0) args y len wt _ _ := backOf (Q := fun v h' L => Fr n0 L ∧ h.size ≤ h'.size ∧ Q' v h') hM C.zz wc wz hf hl
    obtain ⟨v, vm₁, ⟨T', L', k', n'⟩, hW, X', ⟨Lc, ⟨N', hg, hq⟩, l1, l2, l3⟩, g⟩ := f (s := s.setVm vm0) C X eT _ _ hB (fun vm₁ _ => ⟨rfl, eT, hc, hs⟩)
    dsimp only [Pt.U, Pt.locs, Pt.cells, Pt.slots] at X' l1 l2 l3 g hg hq
    subst l1 l2 l3
    exact (k v T'.heap hq (Nat.le_trans hs' hg) p e s vm0 m args below meth c T' _ C (r.mono hg) X' rfl (N.app N')).step g
/-- what a call of a contract asks of room and words -/
theorem callS_ {y : MethodName} {bytes' : ByteArray} {maxL' : Nat} {ret' : Option FieldType} {R' : Room} {Q' : Option Value → Heap → Prop} {i : Nat} {ps : List FieldType} {rt : Option FieldType} (argsL rest : List Value) (wt : Nat) (hM : Met false l Z y bytes' maxL' ret' R' [] argsL.toArray h n0 Q')
    (w1 : (Jvm.Cond.methodLink own i y).before a0 Z = true) (w2 : (Jvm.Cond.static y).before a0 Z = true) (wz : (Jvm.Cond.initialized y.cls).before a0 Z = true) (wc : (Jvm.Cond.code y bytes' maxL' ret').before a0 Z = true) (hy : y.cls ≠ "java/lang/invoke/MethodHandle" ∧ y.cls ≠ "java/lang/invoke/VarHandle")
    (hd : decode bytes pc = .ok (.invokestatic i, 3)) (hp : parseMethodDescriptor y.desc = some ⟨ps, rt⟩) (hn : argsL.length = ps.length) (hst : st = argsL.reverse ++ rest) (hwt : (rest.map fun v => v.category).sum = wt) (hs : Ls.size = maxL)
    (hf : R'.frames + 1 ≤ R.frames) (hl : wt + (maxL' + 11) + R'.locals ≤ R.locals) (hc : cells + R'.cells ≤ R.cells) (hsl : slots + R'.slots ≤ R.slots)
    (k : ∀ v h', Q' v h' → OAt W l Z bytes maxL own nm ret R n0 hz Q h' (cells + R'.cells) (slots + R'.slots) (pc + 3) Ls (v.toList ++ rest)) : OAt W l Z bytes maxL own nm ret R n0 hz Q h cells slots pc Ls st :=
  OAt.callN (len := 3) hM wc wz hf hl hc hsl (fun C X eT _ _ hB hpre => by
    obtain ⟨v, vm₁, B, h1, h2, h3, h4⟩ := Jvm.LawKit.callS X C.exec C.ow (mvT C.zz w1) (mvT C.zz w2) (mvT C.zz wz) (mvT C.zz wc) hy hB (g := mkF _ pc Ls st) rfl (by rw [C.ml]; exact hs) (lenOf hp hn) hst (by show 2 * 0 + _ ≤ _; rw [hwt]; omega) (hb C.by hd) hpre
    exact ⟨v, vm₁, B, h1, h2, h3, h4⟩) k
/-- a static call of a body that writes nothing and returns val -/
def Pur (val : Value) (h : Heap) : Option Value → Heap → Prop := fun v h' => v = some val ∧ h' = h
theorem callSP {y : MethodName} {bytes' : ByteArray} {maxL' : Nat} {ret' : Option FieldType} {R' : Room} {val : Value} {i : Nat} {ps : List FieldType} {rt : Option FieldType} (argsL rest : List Value) (wt : Nat) (hM : Met false l Z y bytes' maxL' ret' R' [] argsL.toArray h n0 (Pur val h))
    (w1 : (Jvm.Cond.methodLink own i y).before a0 Z = true) (w2 : (Jvm.Cond.static y).before a0 Z = true) (wz : (Jvm.Cond.initialized y.cls).before a0 Z = true) (wc : (Jvm.Cond.code y bytes' maxL' ret').before a0 Z = true) (hy : y.cls ≠ "java/lang/invoke/MethodHandle" ∧ y.cls ≠ "java/lang/invoke/VarHandle")
    (hd : decode bytes pc = .ok (.invokestatic i, 3)) (hp : parseMethodDescriptor y.desc = some ⟨ps, rt⟩) (hn : argsL.length = ps.length) (hst : st = argsL.reverse ++ rest) (hwt : (rest.map fun v => v.category).sum = wt) (hs : Ls.size = maxL)
    (hf : R'.frames + 1 ≤ R.frames) (hl : wt + (maxL' + 11) + R'.locals ≤ R.locals) (hc : cells + R'.cells ≤ R.cells) (hsl : slots + R'.slots ≤ R.slots)
    (k : OAt W l Z bytes maxL own nm ret R n0 hz Q h (cells + R'.cells) (slots + R'.slots) (pc + 3) Ls (val :: rest)) : OAt W l Z bytes maxL own nm ret R n0 hz Q h cells slots pc Ls st :=
  callS_ argsL rest wt hM w1 w2 wz wc hy hd hp hn hst hwt hs hf hl hc hsl (fun v h' q => by obtain ⟨rfl, rfl⟩ := q; exact k)
/-- a constructor -/
theorem callI_ {y : MethodName} {bytes' : ByteArray} {maxL' : Nat} {R' : Room} {Q' : Option Value → Heap → Prop} {i : Nat} {ps : List FieldType} {rt : Option FieldType} (a : Addr) (argsL rest : List Value) (wt : Nat) (hM : Met false l Z y bytes' maxL' none R' [] (.ref a :: argsL).toArray h n0 Q')
    (w1 : (Jvm.Cond.methodLink own i y).before a0 Z = true) (w2 : (Jvm.Cond.instanceMethod y).before a0 Z = true) (wz : (Jvm.Cond.initialized y.cls).before a0 Z = true) (wc : (Jvm.Cond.code y bytes' maxL' none).before a0 Z = true) (hy1 : y.name = "<init>") (hy : y.cls ≠ "java/lang/invoke/MethodHandle" ∧ y.cls ≠ "java/lang/invoke/VarHandle")
    (hd : decode bytes pc = .ok (.invokespecial i, 3)) (hp : parseMethodDescriptor y.desc = some ⟨ps, rt⟩) (hn : argsL.length = ps.length) (hst : st = argsL.reverse ++ .ref a :: rest) (hwt : (rest.map fun v => v.category).sum = wt) (hs : Ls.size = maxL)
    (hf : R'.frames + 1 ≤ R.frames) (hl : wt + (maxL' + 11) + R'.locals ≤ R.locals) (hc : cells + R'.cells ≤ R.cells) (hsl : slots + R'.slots ≤ R.slots)
    (k : ∀ v h', Q' v h' → OAt W l Z bytes maxL own nm ret R n0 hz Q h' (cells + R'.cells) (slots + R'.slots) (pc + 3) Ls (v.toList ++ rest)) : OAt W l Z bytes maxL own nm ret R n0 hz Q h cells slots pc Ls st :=
  OAt.callN (len := 3) hM wc wz hf hl hc hsl (fun C X eT _ _ hB hpre => by
    obtain ⟨v, vm₁, B, h1, h2, h3, h4⟩ := X.specialBack C.exec hy1 C.ow (mvT C.zz w1) (mvT C.zz w2) (mvT C.zz wc) hy hB (g := mkF _ pc Ls st) rfl (by rw [C.ml]; exact hs) (Steps.refl _) (lenOf hp hn) hst (by show 2 * 0 + _ ≤ _; rw [hwt]; omega) (hb C.by hd) hpre
    exact ⟨v, vm₁, B, h1, h2, h3, fun t q => h4.trans q⟩) k
/-- an instance method, selected by the receiver's class K -/
theorem callV_ {x y : MethodName} {K : String} {bytes' : ByteArray} {maxL' : Nat} {ret' : Option FieldType} {R' : Room} {Q' : Option Value → Heap → Prop} {i : Nat} {ps : List FieldType} {rt : Option FieldType} (a : Addr) (argsL rest : List Value) (wt : Nat) (hM : Met false l Z y bytes' maxL' ret' R' [] (.ref a :: argsL).toArray h n0 Q')
    (w1 : (Jvm.Cond.methodLink own i x).before a0 Z = true) (w2 : (Jvm.Cond.declares x).before a0 Z = true) (hnf : ∀ s : State, Z.Warmed39 s.vm → NotFace s x) (w3 : (Jvm.Cond.selects K x y).before a0 Z = true) (w4 : (Jvm.Cond.instanceMethod y).before a0 Z = true) (wz : (Jvm.Cond.initialized y.cls).before a0 Z = true) (wc : (Jvm.Cond.code y bytes' maxL' ret').before a0 Z = true)
    (hy : x.cls ≠ "java/lang/invoke/MethodHandle" ∧ x.cls ≠ "java/lang/invoke/VarHandle") (E : Exa Z h a K)
    (hd : decode bytes pc = .ok (.invokevirtual i, 3)) (hp : parseMethodDescriptor x.desc = some ⟨ps, rt⟩) (hn : argsL.length = ps.length) (hst : st = argsL.reverse ++ .ref a :: rest) (hwt : (rest.map fun v => v.category).sum = wt) (hs : Ls.size = maxL)
    (hf : R'.frames + 1 ≤ R.frames) (hl : wt + (maxL' + 11) + R'.locals ≤ R.locals) (hc : cells + R'.cells ≤ R.cells) (hsl : slots + R'.slots ≤ R.slots)
    (k : ∀ v h', Q' v h' → OAt W l Z bytes maxL own nm ret R n0 hz Q h' (cells + R'.cells) (slots + R'.slots) (pc + 3) Ls (v.toList ++ rest)) : OAt W l Z bytes maxL own nm ret R n0 hz Q h cells slots pc Ls st :=
  OAt.callN (len := 3) hM wc wz hf hl hc hsl (fun C X eT _ _ hB hpre => by
    obtain ⟨cq, kq, qa, qb, qc⟩ := isOf C.zz eT E
    obtain ⟨v, vm₁, B, h1, h2, h3, h4⟩ := X.virtualBack C.exec C.ow (mvT C.zz w1) (mvT C.zz w2) (hnf _ C.zz) (mvT C.zz w3) (mvT C.zz w4) hy hB qa qc (g := mkF _ pc Ls st) rfl (by rw [C.ml]; exact hs) (Steps.refl _) (lenOf hp hn) hst (by show 2 * 0 + _ ≤ _; rw [hwt]; omega) (hb C.by hd) hpre
    exact ⟨v, vm₁, B, h1, h2, h3, fun t q => h4.trans q⟩) k
/-- through an interface -/
theorem callF_ {x y : MethodName} {K : String} {bytes' : ByteArray} {maxL' : Nat} {ret' : Option FieldType} {R' : Room} {Q' : Option Value → Heap → Prop} {i cn : Nat} {ps : List FieldType} {rt : Option FieldType} (a : Addr) (argsL rest : List Value) (wt : Nat) (hM : Met false l Z y bytes' maxL' ret' R' [] (.ref a :: argsL).toArray h n0 Q')
    (w1 : (Jvm.Cond.methodLink own i x).before a0 Z = true) (w2 : (Jvm.Cond.declares x).before a0 Z = true) (w5 : (Jvm.Cond.interfaceMethod x.cls x.cls x.name x.desc).before a0 Z = true) (hfa : ((Jvm.Cond.interfaceMethod x.cls x.cls x.name x.desc).onTables && (Jvm.Cond.interfaceMethod x.cls x.cls x.name x.desc).keepsFace) = true) (w3 : (Jvm.Cond.selects K x y).before a0 Z = true) (w4 : (Jvm.Cond.instanceMethod y).before a0 Z = true) (w6 : (Jvm.Cond.publicMethod y).before a0 Z = true) (w7 : (Jvm.Cond.unhidden K x.name x.desc).before a0 Z = true) (w8 : (Jvm.Cond.castable K x.cls).before a0 Z = true)
    (wz : (Jvm.Cond.initialized y.cls).before a0 Z = true) (wc : (Jvm.Cond.code y bytes' maxL' ret').before a0 Z = true)
    (hy : x.cls ≠ "java/lang/invoke/MethodHandle" ∧ x.cls ≠ "java/lang/invoke/VarHandle") (E : Exa Z h a K)
    (hd : decode bytes pc = .ok (.invokeinterface i cn, 5)) (hp : parseMethodDescriptor x.desc = some ⟨ps, rt⟩) (hn : argsL.length = ps.length) (hst : st = argsL.reverse ++ .ref a :: rest) (hwt : (rest.map fun v => v.category).sum = wt) (hs : Ls.size = maxL)
    (hf : R'.frames + 1 ≤ R.frames) (hl : wt + (maxL' + 11) + R'.locals ≤ R.locals) (hc : cells + R'.cells ≤ R.cells) (hsl : slots + R'.slots ≤ R.slots)
    (k : ∀ v h', Q' v h' → OAt W l Z bytes maxL own nm ret R n0 hz Q h' (cells + R'.cells) (slots + R'.slots) (pc + 5) Ls (v.toList ++ rest)) : OAt W l Z bytes maxL own nm ret R n0 hz Q h cells slots pc Ls st :=
  OAt.callN (len := 5) hM wc wz hf hl hc hsl (fun C X eT _ _ hB hpre => by
    obtain ⟨cq, kq, qa, qb, qc⟩ := isOf C.zz eT E
    obtain ⟨v, vm₁, B, h1, h2, h3, h4⟩ := X.interfaceBack C.exec C.ow (mvT C.zz w1) (mvT C.zz w2) (mvT C.zz w5 hfa) (mvT C.zz w3) (mvT C.zz w4) (mvT C.zz w6) (mvT C.zz w7) (mvT C.zz w8) hy hB qa qb qc (g := mkF _ pc Ls st) rfl (by rw [C.ml]; exact hs) (Steps.refl _) (lenOf hp hn) hst (by show 2 * 0 + _ ≤ _; rw [hwt]; omega) (hb C.by hd) hpre
    exact ⟨v, vm₁, B, h1, h2, h3, fun t q => h4.trans q⟩) k
/-- a private method, by invokevirtual -/
theorem callP_ {y : MethodName} {K : String} {bytes' : ByteArray} {maxL' : Nat} {ret' : Option FieldType} {R' : Room} {Q' : Option Value → Heap → Prop} {i : Nat} {ps : List FieldType} {rt : Option FieldType} (a : Addr) (argsL rest : List Value) (wt : Nat) (hM : Met false l Z y bytes' maxL' ret' R' [] (.ref a :: argsL).toArray h n0 Q')
    (w1 : (Jvm.Cond.methodLink own i y).before a0 Z = true) (w4 : (Jvm.Cond.instanceMethod y).before a0 Z = true) (w3 : (Jvm.Cond.selects y.cls y y).before a0 Z = true) (w5 : (Jvm.Cond.privateMethod y).before a0 Z = true) (wz : (Jvm.Cond.initialized y.cls).before a0 Z = true) (wc : (Jvm.Cond.code y bytes' maxL' ret').before a0 Z = true)
    (hy : y.cls ≠ "java/lang/invoke/MethodHandle" ∧ y.cls ≠ "java/lang/invoke/VarHandle") (E : Exa Z h a K)
    (hd : decode bytes pc = .ok (.invokevirtual i, 3)) (hp : parseMethodDescriptor y.desc = some ⟨ps, rt⟩) (hn : argsL.length = ps.length) (hst : st = argsL.reverse ++ .ref a :: rest) (hwt : (rest.map fun v => v.category).sum = wt) (hs : Ls.size = maxL)
    (hf : R'.frames + 1 ≤ R.frames) (hl : wt + (maxL' + 11) + R'.locals ≤ R.locals) (hc : cells + R'.cells ≤ R.cells) (hsl : slots + R'.slots ≤ R.slots)
    (k : ∀ v h', Q' v h' → OAt W l Z bytes maxL own nm ret R n0 hz Q h' (cells + R'.cells) (slots + R'.slots) (pc + 3) Ls (v.toList ++ rest)) : OAt W l Z bytes maxL own nm ret R n0 hz Q h cells slots pc Ls st :=
  OAt.callN (len := 3) hM wc wz hf hl hc hsl (fun C X eT _ _ hB hpre => by
    obtain ⟨cq, qa, qb⟩ := E.cell
    obtain ⟨v, vm₁, B, h1, h2, h3, h4⟩ := X.privateBack C.exec C.ow (mvT C.zz w1) (mvT C.zz w4) (mvT C.zz w3) (Cond.privateMethod_at (mvP C.zz w5 (args := #[]))) (mvT C.zz wc) hy hB (g := mkF _ pc Ls st) rfl (by rw [C.ml]; exact hs) (Steps.refl _) (a := a) (by rw [eT]; exact qa) qb (lenOf hp hn) hst (by show 2 * 0 + _ ≤ _; rw [hwt]; omega) (hb C.by hd) hpre
    exact ⟨v, vm₁, B, h1, h2, h3, fun t q => h4.trans q⟩) k
def Pur0 (h : Heap) : Option Value → Heap → Prop := fun v h' => v = none ∧ h' = h
theorem callIP {y : MethodName} {bytes' : ByteArray} {maxL' : Nat} {R' : Room} {i : Nat} {ps : List FieldType} {rt : Option FieldType} (a : Addr) (argsL rest : List Value) (wt : Nat) (hM : Met false l Z y bytes' maxL' none R' [] (.ref a :: argsL).toArray h n0 (Pur0 h))
    (w1 : (Jvm.Cond.methodLink own i y).before a0 Z = true) (w2 : (Jvm.Cond.instanceMethod y).before a0 Z = true) (wz : (Jvm.Cond.initialized y.cls).before a0 Z = true) (wc : (Jvm.Cond.code y bytes' maxL' none).before a0 Z = true) (hy1 : y.name = "<init>") (hy : y.cls ≠ "java/lang/invoke/MethodHandle" ∧ y.cls ≠ "java/lang/invoke/VarHandle")
    (hd : decode bytes pc = .ok (.invokespecial i, 3)) (hp : parseMethodDescriptor y.desc = some ⟨ps, rt⟩) (hn : argsL.length = ps.length) (hst : st = argsL.reverse ++ .ref a :: rest) (hwt : (rest.map fun v => v.category).sum = wt) (hs : Ls.size = maxL)
    (hf : R'.frames + 1 ≤ R.frames) (hl : wt + (maxL' + 11) + R'.locals ≤ R.locals) (hc : cells + R'.cells ≤ R.cells) (hsl : slots + R'.slots ≤ R.slots)
    (k : OAt W l Z bytes maxL own nm ret R n0 hz Q h (cells + R'.cells) (slots + R'.slots) (pc + 3) Ls rest) : OAt W l Z bytes maxL own nm ret R n0 hz Q h cells slots pc Ls st :=
  callI_ a argsL rest wt hM w1 w2 wz wc hy1 hy hd hp hn hst hwt hs hf hl hc hsl (fun v h' q => by obtain ⟨rfl, rfl⟩ := q; exact k)
theorem callVP {x y : MethodName} {K : String} {bytes' : ByteArray} {maxL' : Nat} {ret' : Option FieldType} {R' : Room} {val : Value} {i : Nat} {ps : List FieldType} {rt : Option FieldType} (a : Addr) (argsL rest : List Value) (wt : Nat) (hM : Met false l Z y bytes' maxL' ret' R' [] (.ref a :: argsL).toArray h n0 (Pur val h))
    (w1 : (Jvm.Cond.methodLink own i x).before a0 Z = true) (w2 : (Jvm.Cond.declares x).before a0 Z = true) (hnf : ∀ s : State, Z.Warmed39 s.vm → NotFace s x) (w3 : (Jvm.Cond.selects K x y).before a0 Z = true) (w4 : (Jvm.Cond.instanceMethod y).before a0 Z = true) (wz : (Jvm.Cond.initialized y.cls).before a0 Z = true) (wc : (Jvm.Cond.code y bytes' maxL' ret').before a0 Z = true)
    (hy : x.cls ≠ "java/lang/invoke/MethodHandle" ∧ x.cls ≠ "java/lang/invoke/VarHandle") (E : Exa Z h a K)
    (hd : decode bytes pc = .ok (.invokevirtual i, 3)) (hp : parseMethodDescriptor x.desc = some ⟨ps, rt⟩) (hn : argsL.length = ps.length) (hst : st = argsL.reverse ++ .ref a :: rest) (hwt : (rest.map fun v => v.category).sum = wt) (hs : Ls.size = maxL)
    (hf : R'.frames + 1 ≤ R.frames) (hl : wt + (maxL' + 11) + R'.locals ≤ R.locals) (hc : cells + R'.cells ≤ R.cells) (hsl : slots + R'.slots ≤ R.slots)
    (k : OAt W l Z bytes maxL own nm ret R n0 hz Q h (cells + R'.cells) (slots + R'.slots) (pc + 3) Ls (val :: rest)) : OAt W l Z bytes maxL own nm ret R n0 hz Q h cells slots pc Ls st :=
  callV_ a argsL rest wt hM w1 w2 hnf w3 w4 wz wc hy E hd hp hn hst hwt hs hf hl hc hsl (fun v h' q => by obtain ⟨rfl, rfl⟩ := q; exact k)
theorem callFP {x y : MethodName} {K : String} {bytes' : ByteArray} {maxL' : Nat} {ret' : Option FieldType} {R' : Room} {val : Value} {i cn : Nat} {ps : List FieldType} {rt : Option FieldType} (a : Addr) (argsL rest : List Value) (wt : Nat) (hM : Met false l Z y bytes' maxL' ret' R' [] (.ref a :: argsL).toArray h n0 (Pur val h))
    (w1 : (Jvm.Cond.methodLink own i x).before a0 Z = true) (w2 : (Jvm.Cond.declares x).before a0 Z = true) (w5 : (Jvm.Cond.interfaceMethod x.cls x.cls x.name x.desc).before a0 Z = true) (hfa : ((Jvm.Cond.interfaceMethod x.cls x.cls x.name x.desc).onTables && (Jvm.Cond.interfaceMethod x.cls x.cls x.name x.desc).keepsFace) = true) (w3 : (Jvm.Cond.selects K x y).before a0 Z = true) (w4 : (Jvm.Cond.instanceMethod y).before a0 Z = true) (w6 : (Jvm.Cond.publicMethod y).before a0 Z = true) (w7 : (Jvm.Cond.unhidden K x.name x.desc).before a0 Z = true) (w8 : (Jvm.Cond.castable K x.cls).before a0 Z = true)
    (wz : (Jvm.Cond.initialized y.cls).before a0 Z = true) (wc : (Jvm.Cond.code y bytes' maxL' ret').before a0 Z = true)
    (hy : x.cls ≠ "java/lang/invoke/MethodHandle" ∧ x.cls ≠ "java/lang/invoke/VarHandle") (E : Exa Z h a K)
    (hd : decode bytes pc = .ok (.invokeinterface i cn, 5)) (hp : parseMethodDescriptor x.desc = some ⟨ps, rt⟩) (hn : argsL.length = ps.length) (hst : st = argsL.reverse ++ .ref a :: rest) (hwt : (rest.map fun v => v.category).sum = wt) (hs : Ls.size = maxL)
    (hf : R'.frames + 1 ≤ R.frames) (hl : wt + (maxL' + 11) + R'.locals ≤ R.locals) (hc : cells + R'.cells ≤ R.cells) (hsl : slots + R'.slots ≤ R.slots)
    (k : OAt W l Z bytes maxL own nm ret R n0 hz Q h (cells + R'.cells) (slots + R'.slots) (pc + 5) Ls (val :: rest)) : OAt W l Z bytes maxL own nm ret R n0 hz Q h cells slots pc Ls st :=
  callF_ a argsL rest wt hM w1 w2 w5 hfa w3 w4 w6 w7 w8 wz wc hy E hd hp hn hst hwt hs hf hl hc hsl (fun v h' q => by obtain ⟨rfl, rfl⟩ := q; exact k)
theorem callPP {y : MethodName} {K : String} {bytes' : ByteArray} {maxL' : Nat} {ret' : Option FieldType} {R' : Room} {val : Value} {i : Nat} {ps : List FieldType} {rt : Option FieldType} (a : Addr) (argsL rest : List Value) (wt : Nat) (hM : Met false l Z y bytes' maxL' ret' R' [] (.ref a :: argsL).toArray h n0 (Pur val h))
    (w1 : (Jvm.Cond.methodLink own i y).before a0 Z = true) (w4 : (Jvm.Cond.instanceMethod y).before a0 Z = true) (w3 : (Jvm.Cond.selects y.cls y y).before a0 Z = true) (w5 : (Jvm.Cond.privateMethod y).before a0 Z = true) (wz : (Jvm.Cond.initialized y.cls).before a0 Z = true) (wc : (Jvm.Cond.code y bytes' maxL' ret').before a0 Z = true)
    (hy : y.cls ≠ "java/lang/invoke/MethodHandle" ∧ y.cls ≠ "java/lang/invoke/VarHandle") (E : Exa Z h a K)
    (hd : decode bytes pc = .ok (.invokevirtual i, 3)) (hp : parseMethodDescriptor y.desc = some ⟨ps, rt⟩) (hn : argsL.length = ps.length) (hst : st = argsL.reverse ++ .ref a :: rest) (hwt : (rest.map fun v => v.category).sum = wt) (hs : Ls.size = maxL)
    (hf : R'.frames + 1 ≤ R.frames) (hl : wt + (maxL' + 11) + R'.locals ≤ R.locals) (hc : cells + R'.cells ≤ R.cells) (hsl : slots + R'.slots ≤ R.slots)
    (k : OAt W l Z bytes maxL own nm ret R n0 hz Q h (cells + R'.cells) (slots + R'.slots) (pc + 3) Ls (val :: rest)) : OAt W l Z bytes maxL own nm ret R n0 hz Q h cells slots pc Ls st :=
  callP_ a argsL rest wt hM w1 w4 w3 w5 wz wc hy E hd hp hn hst hwt hs hf hl hc hsl (fun v h' q => by obtain ⟨rfl, rfl⟩ := q; exact k)
theorem arraycopy_ {a b : Addr} {ka kb : ClassId} {ty : FieldType} {vs vd : List Value} {sp dp nn : Int32} {i j n : Nat} {ix : Nat} (wt : Nat) (w1 : (Jvm.Cond.methodLink own ix Jvm.Stand.acN).before a0 Z = true) (w2 : (Jvm.Cond.native Jvm.Stand.acN).before a0 Z = true) (w3 : (Jvm.Cond.static Jvm.Stand.acN).before a0 Z = true) (w4 : (Jvm.Cond.initialized "java/lang/System").before a0 Z = true)
    (F : Arl Z h a ka ty vs) (G : Arl Z h b kb ty vd) (hty : refKind ty = false) (h1 : sp.toInt = i) (h2 : dp.toInt = j) (h3 : nn.toInt = n) (h4 : i + n ≤ vs.length) (h5 : j + n ≤ vd.length) (ge : n0 ≤ b) (hs : Ls.size = maxL) (hd : decode bytes pc = .ok (.invokestatic ix, 3)) (hf : 1 ≤ R.frames) (hwt : (st.map fun v => v.category).sum = wt) (hlo : wt + (nativeFrameWords "java/lang/System" "arraycopy" 5 + 11) ≤ R.locals)
    (k : ∀ h', Keep h h' [b] → Arl Z h' b kb ty (vd.take j ++ (vs.drop i).take n ++ vd.drop (j + n)) → OAt W l Z bytes maxL own nm ret R n0 hz Q h' cells slots (pc + 3) Ls st) : OAt W l Z bytes maxL own nm ret R n0 hz Q h cells slots pc Ls (.int nn :: .int dp :: .ref b :: .int sp :: .ref a :: st) := by
  obtain ⟨p1, q1⟩ := idx_of h1
  obtain ⟨p2, q2⟩ := idx_of h2
  obtain ⟨p3, q3⟩ := idx_of h3
  have la := F.len
  have lb := G.len
  have za : (Int32.ofNat vs.length).toInt = vs.length := Int32.toInt_ofNat_of_lt la
  have zb : (Int32.ofNat vd.length).toInt = vd.length := Int32.toInt_ofNat_of_lt lb
  obtain ⟨pa, qa⟩ := idx_of za
  obtain ⟨pb, qb⟩ := idx_of zb
  have hus : (vs.drop i).take n = (List.range n).map fun k => vs.getD (i + k) .null := by
    apply List.ext_getElem?
    intro k
    by_cases hk : k < n
    · rw [List.getElem?_take_of_lt hk, List.getElem?_drop, List.getElem?_map, List.getElem?_range hk, Option.map_some, List.getD_eq_getElem?_getD, List.getElem?_eq_getElem (by omega)]; rfl
    · rw [List.getElem?_eq_none (by simp; omega), List.getElem?_eq_none (by simp; omega)]
  exact OAt.move (P := fun h' => Keep h h' [b] ∧ Arl Z h' b kb ty (vd.take j ++ (vs.drop i).take n ++ vd.drop (j + n))) (st' := fun _ => st) (fun _ q => q.1.1) (fun h' q => k h' q.1 q.2) fun C X e N => by
    obtain ⟨T', h', L, X', e', N', K, V, g⟩ := cpA X C.exec C.zz C.ow w1 w2 w3 w4 e (F.arv .null za) (G.arv .null zb) (us := (vs.drop i).take n) (Or.inl ⟨rfl, hty⟩) p1 p2 p3 (by omega) (by omega) (by rw [q3, q1]; exact hus) (by omega) N ge (g := mkF _ pc Ls (.int nn :: .int dp :: .ref b :: .int sp :: .ref a :: st)) rfl (by rw [C.ml]; exact hs) rfl (hb C.by hd) hf (W := wt) (by show 2 * 0 + _ ≤ _; rw [hwt]; omega) hlo
    rw [q2, q3] at V
    refine ⟨T', h', L, X', e', N', ⟨K, Arl.of_arv V ?_⟩, g⟩
    rw [zb]; simp; omega
/-! String constants, and callees that may intern (W = true) -/
theorem ldcS_ {text : String} {i : Nat} (n : Nat) (w : (Jvm.Cond.stringLink own i text).before a0 Z = true) (wS : ∀ a ∈ Bundle.stringAtoms, a.before a0 Z = true) (hd : decode bytes pc = .ok (.ldc i, 2)) (hn' : 4 * text.toList.length ≤ n) (hbig : n ≤ 536870912) (hc : cells + 2 ≤ R.cells) (hl : slots + (n + 4) ≤ R.slots)
    (k : ∀ (h' : Heap) (a : Addr), Ext h h' → OAt true l Z bytes maxL own nm ret R n0 hz Q h' (cells + 2) (slots + (n + 4)) (pc + 2) Ls (.ref a :: st)) : OAt true l Z bytes maxL own nm ret R n0 hz Q h cells slots pc Ls st :=
  fun hs p e s vm0 m args below meth c T locs C r X eT N => by
    obtain ⟨k0, r1, r2⟩ := r
    obtain ⟨a, T', h', k1, X', e', E, hS', hk', hZ', hown', g⟩ := ldcS X C.exec C.zz C.ow w wS eT r1 r2 (g := mkF m pc Ls st) rfl (hb C.by hd) hn' hbig hc hl
    exact (k h' a E (Nat.le_trans hs E.1) p e s T'.vm m args below meth c T' locs ⟨C.1, C.2.1, C.2.2.1, C.2.2.2.1, C.2.2.2.2.1, C.2.2.2.2.2.1, hZ', hown'⟩ ⟨k1, hS', hk'⟩ X' e' N).step g
theorem OAt.callW {y : MethodName} {bytes' : ByteArray} {maxL' : Nat} {ret' : Option FieldType} {R' : Room} {as' : Array Value} {Q' : Option Value → Heap → Prop} {len wt : Nat} {rest : List Value} (hM : Met true l Z y bytes' maxL' ret' R' [] as' h n0 Q')
    (wc : (Jvm.Cond.code y bytes' maxL' ret').before a0 Z = true) (wz : (Jvm.Cond.initialized y.cls).before a0 Z = true) (hf : R'.frames + 1 ≤ R.frames) (hl : wt + (maxL' + 11) + R'.locals ≤ R.locals) (hc : cells + R'.cells ≤ R.cells) (hs : slots + R'.slots ≤ R.slots)
    (f : ∀ {p : Program} {e : Env} {s : State} {m : MethodId} {args : Array Value} {below : List Frame} {meth : Method} {c : Code} {T : State} {locs : List Loc}, Cx Z bytes maxL own nm ret p s.vm m meth c → Stand p l e R s m args below meth c T locs cells slots → T.heap = h → ∀ (Pre : Pt → Array Value → Prop) (Post : Pt → Array Value → Option Value → Pt → Prop), BackS l R p e below s args y len wt Pre Post → (∀ vm₁, s.WarmedH vm₁ → Pre ⟨T.setVm vm₁, locs, cells, slots⟩ as') →
      ∃ (v : Option Value) (vm₁ : Vm) (B : Pt), s.WarmedH vm₁ ∧ Stand p l e R (s.setVm B.U.vm) m args below meth c B.U B.locs B.cells B.slots ∧ s.Since B.U.vm B.U.heap.size ∧ T.heap.size ≤ B.U.heap.size ∧ Post ⟨T.setVm vm₁, locs, cells, slots⟩ as' v B ∧ ∀ target, Steps p.tables e below (B.U.setTop (mkF m (pc + len) Ls (v.toList ++ rest))) target → Steps p.tables e below (T.setTop (mkF m pc Ls st)) target)
    (k : ∀ v h', Q' v h' → OAt true l Z bytes maxL own nm ret R n0 hz Q h' (cells + R'.cells) (slots + R'.slots) (pc + len) Ls (v.toList ++ rest)) : OAt true l Z bytes maxL own nm ret R n0 hz Q h cells slots pc Ls st :=
  fun hs' p e s vm0 m args below meth c T locs C r X eT N => by
    obtain ⟨k0, r1, r2⟩ := r
    have hB : BackS l R p e below (s.setVm vm0) args y len wt _ _ := backOfS (Q := fun v h' L => Fr n0 L ∧ h.size ≤ h'.size ∧ Q' v h') hM C.zz wc wz hf hl
    obtain ⟨v, vm₁, ⟨T', L', k', n'⟩, hW, X', hS2, hg2, ⟨Lc, ⟨N', hg, hq⟩, l1, l2, l3⟩, g⟩ := f (s := s.setVm vm0) C X eT _ _ hB (fun vm₁ _ => ⟨rfl, eT, hc, hs⟩)
    dsimp only [Pt.U, Pt.locs, Pt.cells, Pt.slots] at X' hS2 hg2 l1 l2 l3 g hg hq
    subst l1 l2 l3
    obtain ⟨X2, hS3, hZ3, ho3⟩ := rebS r1 (by rw [eT]; exact r2) X' hS2 hg2 C.zz C.ow
    exact (k v T'.heap hq (Nat.le_trans hs' hg) p e s T'.vm m args below meth c T' _ ⟨C.1, C.2.1, C.2.2.1, C.2.2.2.1, C.2.2.2.2.1, C.2.2.2.2.2.1, hZ3, ho3⟩ ⟨_, hS3, Nat.le_refl _⟩ X2 rfl (N.app N')).step g
theorem callSW {y : MethodName} {bytes' : ByteArray} {maxL' : Nat} {ret' : Option FieldType} {R' : Room} {Q' : Option Value → Heap → Prop} {i : Nat} {ps : List FieldType} {rt : Option FieldType} (argsL rest : List Value) (wt : Nat) (hM : Met true l Z y bytes' maxL' ret' R' [] argsL.toArray h n0 Q')
    (w1 : (Jvm.Cond.methodLink own i y).before a0 Z = true) (w2 : (Jvm.Cond.static y).before a0 Z = true) (wz : (Jvm.Cond.initialized y.cls).before a0 Z = true) (wc : (Jvm.Cond.code y bytes' maxL' ret').before a0 Z = true) (hy : y.cls ≠ "java/lang/invoke/MethodHandle" ∧ y.cls ≠ "java/lang/invoke/VarHandle")
    (hd : decode bytes pc = .ok (.invokestatic i, 3)) (hp : parseMethodDescriptor y.desc = some ⟨ps, rt⟩) (hn : argsL.length = ps.length) (hst : st = argsL.reverse ++ rest) (hwt : (rest.map fun v => v.category).sum = wt) (hs : Ls.size = maxL)
    (hf : R'.frames + 1 ≤ R.frames) (hl : wt + (maxL' + 11) + R'.locals ≤ R.locals) (hc : cells + R'.cells ≤ R.cells) (hsl : slots + R'.slots ≤ R.slots)
    (k : ∀ v h', Q' v h' → OAt true l Z bytes maxL own nm ret R n0 hz Q h' (cells + R'.cells) (slots + R'.slots) (pc + 3) Ls (v.toList ++ rest)) : OAt true l Z bytes maxL own nm ret R n0 hz Q h cells slots pc Ls st :=
  OAt.callW (len := 3) hM wc wz hf hl hc hsl (fun C X eT _ _ hB hpre => by
    obtain ⟨v, vm₁, B, h1, h2, h5, h6, h3, h4⟩ := Jvm.RoadKit.callSS X C.exec C.ow (mvT C.zz w1) (mvT C.zz w2) (mvT C.zz wz) (mvT C.zz wc) hy hB (g := mkF _ pc Ls st) rfl (by rw [C.ml]; exact hs) (lenOf hp hn) hst (by show 2 * 0 + _ ≤ _; rw [hwt]; omega) (hb C.by hd) hpre
    exact ⟨v, vm₁, B, h1, h2, h5, h6, h3, fun t q => h4.trans q⟩) k
theorem callIW {y : MethodName} {bytes' : ByteArray} {maxL' : Nat} {R' : Room} {Q' : Option Value → Heap → Prop} {i : Nat} {ps : List FieldType} {rt : Option FieldType} (a : Addr) (argsL rest : List Value) (wt : Nat) (hM : Met true l Z y bytes' maxL' none R' [] (.ref a :: argsL).toArray h n0 Q')
    (w1 : (Jvm.Cond.methodLink own i y).before a0 Z = true) (w2 : (Jvm.Cond.instanceMethod y).before a0 Z = true) (wz : (Jvm.Cond.initialized y.cls).before a0 Z = true) (wc : (Jvm.Cond.code y bytes' maxL' none).before a0 Z = true) (hy1 : y.name = "<init>") (hy : y.cls ≠ "java/lang/invoke/MethodHandle" ∧ y.cls ≠ "java/lang/invoke/VarHandle")
    (hd : decode bytes pc = .ok (.invokespecial i, 3)) (hp : parseMethodDescriptor y.desc = some ⟨ps, rt⟩) (hn : argsL.length = ps.length) (hst : st = argsL.reverse ++ .ref a :: rest) (hwt : (rest.map fun v => v.category).sum = wt) (hs : Ls.size = maxL)
    (hf : R'.frames + 1 ≤ R.frames) (hl : wt + (maxL' + 11) + R'.locals ≤ R.locals) (hc : cells + R'.cells ≤ R.cells) (hsl : slots + R'.slots ≤ R.slots)
    (k : ∀ v h', Q' v h' → OAt true l Z bytes maxL own nm ret R n0 hz Q h' (cells + R'.cells) (slots + R'.slots) (pc + 3) Ls (v.toList ++ rest)) : OAt true l Z bytes maxL own nm ret R n0 hz Q h cells slots pc Ls st :=
  OAt.callW (len := 3) hM wc wz hf hl hc hsl (fun C X eT _ _ hB hpre => by
    obtain ⟨v, vm₁, B, h1, h2, h5, h6, h3, h4⟩ := X.specialBackS C.exec hy1 C.ow (mvT C.zz w1) (mvT C.zz w2) (mvT C.zz wc) hy hB (g := mkF _ pc Ls st) rfl (by rw [C.ml]; exact hs) (Steps.refl _) (lenOf hp hn) hst (by show 2 * 0 + _ ≤ _; rw [hwt]; omega) (hb C.by hd) hpre
    exact ⟨v, vm₁, B, h1, h2, h5, h6, h3, fun t q => h4.trans q⟩) k
theorem callVW {x y : MethodName} {K : String} {bytes' : ByteArray} {maxL' : Nat} {ret' : Option FieldType} {R' : Room} {Q' : Option Value → Heap → Prop} {i : Nat} {ps : List FieldType} {rt : Option FieldType} (a : Addr) (argsL rest : List Value) (wt : Nat) (hM : Met true l Z y bytes' maxL' ret' R' [] (.ref a :: argsL).toArray h n0 Q')
    (w1 : (Jvm.Cond.methodLink own i x).before a0 Z = true) (w2 : (Jvm.Cond.declares x).before a0 Z = true) (hnf : ∀ s : State, Z.Warmed39 s.vm → NotFace s x) (w3 : (Jvm.Cond.selects K x y).before a0 Z = true) (w4 : (Jvm.Cond.instanceMethod y).before a0 Z = true) (wz : (Jvm.Cond.initialized y.cls).before a0 Z = true) (wc : (Jvm.Cond.code y bytes' maxL' ret').before a0 Z = true)
    (hy : x.cls ≠ "java/lang/invoke/MethodHandle" ∧ x.cls ≠ "java/lang/invoke/VarHandle") (E : Exa Z h a K)
    (hd : decode bytes pc = .ok (.invokevirtual i, 3)) (hp : parseMethodDescriptor x.desc = some ⟨ps, rt⟩) (hn : argsL.length = ps.length) (hst : st = argsL.reverse ++ .ref a :: rest) (hwt : (rest.map fun v => v.category).sum = wt) (hs : Ls.size = maxL)
    (hf : R'.frames + 1 ≤ R.frames) (hl : wt + (maxL' + 11) + R'.locals ≤ R.locals) (hc : cells + R'.cells ≤ R.cells) (hsl : slots + R'.slots ≤ R.slots)
    (k : ∀ v h', Q' v h' → OAt true l Z bytes maxL own nm ret R n0 hz Q h' (cells + R'.cells) (slots + R'.slots) (pc + 3) Ls (v.toList ++ rest)) : OAt true l Z bytes maxL own nm ret R n0 hz Q h cells slots pc Ls st :=
  OAt.callW (len := 3) hM wc wz hf hl hc hsl (fun C X eT _ _ hB hpre => by
    obtain ⟨cq, kq, qa, qb, qc⟩ := isOf C.zz eT E
    obtain ⟨v, vm₁, B, h1, h2, h5, h6, h3, h4⟩ := X.virtualBackS C.exec C.ow (mvT C.zz w1) (mvT C.zz w2) (hnf _ C.zz) (mvT C.zz w3) (mvT C.zz w4) hy hB qa qc (g := mkF _ pc Ls st) rfl (by rw [C.ml]; exact hs) (Steps.refl _) (lenOf hp hn) hst (by show 2 * 0 + _ ≤ _; rw [hwt]; omega) (hb C.by hd) hpre
    exact ⟨v, vm₁, B, h1, h2, h5, h6, h3, fun t q => h4.trans q⟩) k
theorem callFW {x y : MethodName} {K : String} {bytes' : ByteArray} {maxL' : Nat} {ret' : Option FieldType} {R' : Room} {Q' : Option Value → Heap → Prop} {i cn : Nat} {ps : List FieldType} {rt : Option FieldType} (a : Addr) (argsL rest : List Value) (wt : Nat) (hM : Met true l Z y bytes' maxL' ret' R' [] (.ref a :: argsL).toArray h n0 Q')
    (w1 : (Jvm.Cond.methodLink own i x).before a0 Z = true) (w2 : (Jvm.Cond.declares x).before a0 Z = true) (w5 : (Jvm.Cond.interfaceMethod x.cls x.cls x.name x.desc).before a0 Z = true) (hfa : ((Jvm.Cond.interfaceMethod x.cls x.cls x.name x.desc).onTables && (Jvm.Cond.interfaceMethod x.cls x.cls x.name x.desc).keepsFace) = true) (w3 : (Jvm.Cond.selects K x y).before a0 Z = true) (w4 : (Jvm.Cond.instanceMethod y).before a0 Z = true) (w6 : (Jvm.Cond.publicMethod y).before a0 Z = true) (w7 : (Jvm.Cond.unhidden K x.name x.desc).before a0 Z = true) (w8 : (Jvm.Cond.castable K x.cls).before a0 Z = true)
    (wz : (Jvm.Cond.initialized y.cls).before a0 Z = true) (wc : (Jvm.Cond.code y bytes' maxL' ret').before a0 Z = true)
    (hy : x.cls ≠ "java/lang/invoke/MethodHandle" ∧ x.cls ≠ "java/lang/invoke/VarHandle") (E : Exa Z h a K)
    (hd : decode bytes pc = .ok (.invokeinterface i cn, 5)) (hp : parseMethodDescriptor x.desc = some ⟨ps, rt⟩) (hn : argsL.length = ps.length) (hst : st = argsL.reverse ++ .ref a :: rest) (hwt : (rest.map fun v => v.category).sum = wt) (hs : Ls.size = maxL)
    (hf : R'.frames + 1 ≤ R.frames) (hl : wt + (maxL' + 11) + R'.locals ≤ R.locals) (hc : cells + R'.cells ≤ R.cells) (hsl : slots + R'.slots ≤ R.slots)
    (k : ∀ v h', Q' v h' → OAt true l Z bytes maxL own nm ret R n0 hz Q h' (cells + R'.cells) (slots + R'.slots) (pc + 5) Ls (v.toList ++ rest)) : OAt true l Z bytes maxL own nm ret R n0 hz Q h cells slots pc Ls st :=
  OAt.callW (len := 5) hM wc wz hf hl hc hsl (fun C X eT _ _ hB hpre => by
    obtain ⟨cq, kq, qa, qb, qc⟩ := isOf C.zz eT E
    obtain ⟨v, vm₁, B, h1, h2, h5, h6, h3, h4⟩ := X.interfaceBackS C.exec C.ow (mvT C.zz w1) (mvT C.zz w2) (mvT C.zz w5 hfa) (mvT C.zz w3) (mvT C.zz w4) (mvT C.zz w6) (mvT C.zz w7) (mvT C.zz w8) hy hB qa qb qc (g := mkF _ pc Ls st) rfl (by rw [C.ml]; exact hs) (Steps.refl _) (lenOf hp hn) hst (by show 2 * 0 + _ ≤ _; rw [hwt]; omega) (hb C.by hd) hpre
    exact ⟨v, vm₁, B, h1, h2, h5, h6, h3, fun t q => h4.trans q⟩) k
theorem callPW {y : MethodName} {K : String} {bytes' : ByteArray} {maxL' : Nat} {ret' : Option FieldType} {R' : Room} {Q' : Option Value → Heap → Prop} {i : Nat} {ps : List FieldType} {rt : Option FieldType} (a : Addr) (argsL rest : List Value) (wt : Nat) (hM : Met true l Z y bytes' maxL' ret' R' [] (.ref a :: argsL).toArray h n0 Q')
    (w1 : (Jvm.Cond.methodLink own i y).before a0 Z = true) (w4 : (Jvm.Cond.instanceMethod y).before a0 Z = true) (w3 : (Jvm.Cond.selects y.cls y y).before a0 Z = true) (w5 : (Jvm.Cond.privateMethod y).before a0 Z = true) (wz : (Jvm.Cond.initialized y.cls).before a0 Z = true) (wc : (Jvm.Cond.code y bytes' maxL' ret').before a0 Z = true)
    (hy : y.cls ≠ "java/lang/invoke/MethodHandle" ∧ y.cls ≠ "java/lang/invoke/VarHandle") (E : Exa Z h a K)
    (hd : decode bytes pc = .ok (.invokevirtual i, 3)) (hp : parseMethodDescriptor y.desc = some ⟨ps, rt⟩) (hn : argsL.length = ps.length) (hst : st = argsL.reverse ++ .ref a :: rest) (hwt : (rest.map fun v => v.category).sum = wt) (hs : Ls.size = maxL)
    (hf : R'.frames + 1 ≤ R.frames) (hl : wt + (maxL' + 11) + R'.locals ≤ R.locals) (hc : cells + R'.cells ≤ R.cells) (hsl : slots + R'.slots ≤ R.slots)
    (k : ∀ v h', Q' v h' → OAt true l Z bytes maxL own nm ret R n0 hz Q h' (cells + R'.cells) (slots + R'.slots) (pc + 3) Ls (v.toList ++ rest)) : OAt true l Z bytes maxL own nm ret R n0 hz Q h cells slots pc Ls st :=
  OAt.callW (len := 3) hM wc wz hf hl hc hsl (fun C X eT _ _ hB hpre => by
    obtain ⟨cq, qa, qb⟩ := E.cell
    obtain ⟨v, vm₁, B, h1, h2, h5, h6, h3, h4⟩ := X.privateBackS C.exec C.ow (mvT C.zz w1) (mvT C.zz w4) (mvT C.zz w3) (Cond.privateMethod_at (mvP C.zz w5 (args := #[]))) (mvT C.zz wc) hy hB (g := mkF _ pc Ls st) rfl (by rw [C.ml]; exact hs) (Steps.refl _) (a := a) (by rw [eT]; exact qa) qb (lenOf hp hn) hst (by show 2 * 0 + _ ≤ _; rw [hwt]; omega) (hb C.by hd) hpre
    exact ⟨v, vm₁, B, h1, h2, h5, h6, h3, fun t q => h4.trans q⟩) k

end Walk
end Jvm.Own
namespace Jvm.Pilot.@@N@@
open Jvm Jvm.ClassFile Sem Op Lib Jvm.Free Jvm.Stand Jvm.LawKit Jvm.RoadKit Jvm.Own Bundle Jvm.Pilot.@@N@@.Jvm.D
theorem own_wS {Z : State} {a0 : Array Value} (hw : ∀ d ∈ tables_1, d.before a0 Z = true) : ∀ a ∈ Bundle.stringAtoms, a.before a0 Z = true := fun d hd => by
  simp only [Bundle.stringAtoms, List.mem_cons, List.not_mem_nil, or_false] at hd
  rcases hd with rfl | rfl | rfl | rfl | rfl | rfl | rfl
  · exact (hw _ (List.mem_of_getElem? (i := 5) rfl))
  · exact (hw _ (List.mem_of_getElem? (i := 6) rfl))
  · exact (hw _ (List.mem_of_getElem? (i := 7) rfl))
  · exact (hw _ (List.mem_of_getElem? (i := 8) rfl))
  · exact (hw _ (List.mem_of_getElem? (i := 9) rfl))
  · exact (hw _ (List.mem_of_getElem? (i := 10) rfl))
  · exact (hw _ (List.mem_of_getElem? (i := 11) rfl))
theorem own_n1 : nar .boolean (1 : Int32) = 1 := rfl
theorem own_n0 : nar .boolean (0 : Int32) = 0 := rfl
def own_lv (now latest maxIdle exp : Int64) : Int32 := if lcmpV now (latest + maxIdle) < 0 then (if lcmpV now exp < 0 then 1 else 0) else 0
/-- shifted by 20 a long is small; masked by 42 ones it is small and not negative -/
theorem own_shr (x : Int64) : -8796093022208 ≤ (x >>> ((20 : Int32) &&& 0x3f).toInt64).toInt ∧ (x >>> ((20 : Int32) &&& 0x3f).toInt64).toInt < 8796093022208 := by
  have h1 := x.le_toInt; have h2 := x.toInt_lt
  have e : ((20 : Int32) &&& 0x3f).toInt64 = 20 := rfl
  have e2 : (x >>> (20 : Int64)).toInt = x.toInt / 2 ^ 20 := by
    rw [← Int64.toInt_toBitVec, Int64.toBitVec_shiftRight]
    have : (Int64.toBitVec 20).smod 64 = 20#64 := by decide
    rw [this, BitVec.sshiftRight_eq', BitVec.toInt_sshiftRight, Int64.toInt_toBitVec, Int.shiftRight_eq_div_pow]; rfl
  rw [e, e2]; omega
theorem own_mask (x : Int64) : 0 ≤ (x &&& (4398046511103 : Int64)).toInt ∧ (x &&& (4398046511103 : Int64)).toInt < 4398046511104 := by
  have h : (x &&& (4398046511103 : Int64)).toBitVec.toNat < 2 ^ 42 := by
    rw [Int64.toBitVec_and, BitVec.toNat_and]
    have : (Int64.toBitVec 4398046511103).toNat = 2 ^ 42 - 1 := by decide
    rw [this, Nat.and_two_pow_sub_one_eq_mod]; exact Nat.mod_lt _ (by decide)
  rw [← Int64.toInt_toBitVec, BitVec.toInt_eq_toNat_of_lt (by omega)]; omega
theorem own_add {x y : Int64} (h1 : -1000000000000000 ≤ x.toInt ∧ x.toInt ≤ 1000000000000000) (h2 : -1000000000000000 ≤ y.toInt ∧ y.toInt ≤ 1000000000000000) : (x + y).toInt = x.toInt + y.toInt := Jvm.Free.XT.add64 ⟨by omega, by omega⟩
theorem own_sub {x y : Int64} (h1 : -1000000000000000 ≤ x.toInt ∧ x.toInt ≤ 1000000000000000) (h2 : -1000000000000000 ≤ y.toInt ∧ y.toInt ≤ 1000000000000000) : (x - y).toInt = x.toInt - y.toInt := Jvm.Free.XT.sub64 ⟨by omega, by omega⟩
theorem own_swap {now t mx : Int64} (h1 : -100000000000000 ≤ now.toInt ∧ now.toInt ≤ 100000000000000) (h2 : -100000000000000 ≤ t.toInt ∧ t.toInt ≤ 100000000000000) (h3 : 0 ≤ mx.toInt ∧ mx.toInt < 4398046511104) : lcmpV (now - t) mx < 0 ↔ lcmpV now (t + mx) < 0 := by
  rw [lc_lt, lc_lt, Int64.lt_iff_toInt_lt, Int64.lt_iff_toInt_lt, own_sub ⟨by omega, by omega⟩ ⟨by omega, by omega⟩, own_add ⟨by omega, by omega⟩ ⟨by omega, by omega⟩]; omega
theorem d1_0 : decode prog_82_method_1_code 0 = .ok (.aload_n 0, 1) := by decide +kernel
theorem d1_1 : decode prog_82_method_1_code 1 = .ok (.invokespecial 1, 3) := by decide +kernel
theorem d1_4 : decode prog_82_method_1_code 4 = .ok (.aload_n 0, 1) := by decide +kernel
theorem d1_5 : decode prog_82_method_1_code 5 = .ok (.aload_n 1, 1) := by decide +kernel
theorem d1_6 : decode prog_82_method_1_code 6 = .ok (.putfield 7, 3) := by decide +kernel
theorem d1_9 : decode prog_82_method_1_code 9 = .ok (.aload_n 0, 1) := by decide +kernel
theorem d1_10 : decode prog_82_method_1_code 10 = .ok (.aload_n 2, 1) := by decide +kernel
theorem d1_11 : decode prog_82_method_1_code 11 = .ok (.putfield 13, 3) := by decide +kernel
theorem d1_14 : decode prog_82_method_1_code 14 = .ok (.aload_n 0, 1) := by decide +kernel
theorem d1_15 : decode prog_82_method_1_code 15 = .ok (.aload_n 3, 1) := by decide +kernel
theorem d1_16 : decode prog_82_method_1_code 16 = .ok (.putfield 16, 3) := by decide +kernel
theorem d1_19 : decode prog_82_method_1_code 19 = .ok (.aload_n 0, 1) := by decide +kernel
theorem d1_20 : decode prog_82_method_1_code 20 = .ok (.aload 4, 2) := by decide +kernel
theorem d1_22 : decode prog_82_method_1_code 22 = .ok (.putfield 19, 3) := by decide +kernel
theorem d1_25 : decode prog_82_method_1_code 25 = .ok (.aload_n 0, 1) := by decide +kernel
theorem d1_26 : decode prog_82_method_1_code 26 = .ok (.iload 5, 2) := by decide +kernel
theorem d1_28 : decode prog_82_method_1_code 28 = .ok (.putfield 22, 3) := by decide +kernel
theorem d1_31 : decode prog_82_method_1_code 31 = .ok (.aload_n 0, 1) := by decide +kernel
theorem d1_32 : decode prog_82_method_1_code 32 = .ok (.lload 8, 2) := by decide +kernel
theorem d1_34 : decode prog_82_method_1_code 34 = .ok (.putfield 26, 3) := by decide +kernel
theorem d1_37 : decode prog_82_method_1_code 37 = .ok (.aload_n 0, 1) := by decide +kernel
theorem d1_38 : decode prog_82_method_1_code 38 = .ok (.lload 6, 2) := by decide +kernel
theorem d1_40 : decode prog_82_method_1_code 40 = .ok (.lload 10, 2) := by decide +kernel
theorem d1_42 : decode prog_82_method_1_code 42 = .ok (.ladd, 1) := by decide +kernel
theorem d1_43 : decode prog_82_method_1_code 43 = .ok (.putfield 30, 3) := by decide +kernel
theorem d1_46 : decode prog_82_method_1_code 46 = .ok (.aload_n 0, 1) := by decide +kernel
theorem d1_47 : decode prog_82_method_1_code 47 = .ok (.lload 6, 2) := by decide +kernel
theorem d1_49 : decode prog_82_method_1_code 49 = .ok (.putfield 33, 3) := by decide +kernel
theorem d1_52 : decode prog_82_method_1_code 52 = .ok (.return_, 1) := by decide +kernel
def Q_rmI (Z : State) (a1 : Addr) (q7 : Int64) (q8 : Int64) (q9 : Int64) (h0 : Heap) (n0 : Nat) (v : Option Value) (h : Heap) : Prop := v = none ∧ Keep h0 h [a1] ∧ Fld Z h a1 "com/example/authweave/authweave/session/Session" "maxIdle" "J" (.long q8) ∧ Fld Z h a1 "com/example/authweave/authweave/session/Session" "maxTimeExpiration" "J" (.long (q7 + q9)) ∧ Fld Z h a1 "com/example/authweave/authweave/session/Session" "latestAccess" "J" (.long q7)
theorem ef_rmI (m : MethodId) (a1 : Addr) (a2 : Addr) (a3 : Addr) (a4 : Addr) (a5 : Addr) (p6 : Int32) (q7 : Int64) (q8 : Int64) (q9 : Int64)  : entryFrame m #[(.ref a1), (.ref a2), (.ref a3), (.ref a4), (.ref a5), (.int p6), (.long q7), (.long q8), (.long q9)] 12 = mkF m 0 #[.val (.ref a1), .val (.ref a2), .val (.ref a3), .val (.ref a4), .val (.ref a5), .val (.int p6), .val (.long q7), .second, .val (.long q8), .second, .val (.long q9), .second] [] := by first | (simp [entryFrame, mkF, argsToLocals, Value.category]; done) | rfl
theorem pn_1 : plainFor (⟨"com/example/authweave/authweave/session/Session", "<init>", "(Ljava/lang/String;Ljava/lang/String;Ljava/lang/String;Ljava/lang/String;IJJJ)V"⟩ : MethodName) = true := plainFor_of_name (show plainName "com/example/authweave/authweave/session/Session" = true by first | (simp [plainName, overriddenIn]; done) | decide +kernel)
set_option maxRecDepth 65536 in
set_option maxHeartbeats 40000000 in
theorem rmI (l : Launch) (Z : State) (a0 : Array Value) (hw : ∀ d ∈ tables_1, d.before a0 Z = true) (ws : List Jvm.Cond) (a1 : Addr) (a2 : Addr) (a3 : Addr) (a4 : Addr) (a5 : Addr) (p6 : Int32) (q7 : Int64) (q8 : Int64) (q9 : Int64) (h0 : Heap) (n0 : Nat) (hn : n0 ≤ h0.size) (g_a1 : n0 ≤ a1) (X_a1 : Exa Z h0 a1 "com/example/authweave/authweave/session/Session") (F_token_a1 : Fld Z h0 a1 "com/example/authweave/authweave/session/Session" "token" "Ljava/lang/String;" .null) (F_handle_a1 : Fld Z h0 a1 "com/example/authweave/authweave/session/Session" "handle" "Ljava/lang/String;" .null) (F_realm_a1 : Fld Z h0 a1 "com/example/authweave/authweave/session/Session" "realm" "Ljava/lang/String;" .null) (F_username_a1 : Fld Z h0 a1 "com/example/authweave/authweave/session/Session" "username" "Ljava/lang/String;" .null) (F_authLevel_a1 : Fld Z h0 a1 "com/example/authweave/authweave/session/Session" "authLevel" "I" (.int (0 : Int32))) (F_maxIdle_a1 : Fld Z h0 a1 "com/example/authweave/authweave/session/Session" "maxIdle" "J" (.long (0 : Int64))) (F_maxTimeExpiration_a1 : Fld Z h0 a1 "com/example/authweave/authweave/session/Session" "maxTimeExpiration" "J" (.long (0 : Int64))) (F_latestAccess_a1 : Fld Z h0 a1 "com/example/authweave/authweave/session/Session" "latestAccess" "J" (.long (0 : Int64))) :
    Met false l Z (⟨"com/example/authweave/authweave/session/Session", "<init>", "(Ljava/lang/String;Ljava/lang/String;Ljava/lang/String;Ljava/lang/String;IJJJ)V"⟩ : MethodName) prog_82_method_1_code 12 none ({ frames := 1, cells := 0, slots := 0, locals := 12 } : Room) ws #[(.ref a1), (.ref a2), (.ref a3), (.ref a4), (.ref a5), (.int p6), (.long q7), (.long q8), (.long q9)] h0 n0 (Q_rmI Z a1 q7 q8 q9 h0 n0) := by
  refine Met.of pn_1 (fun m => ef_rmI m a1 a2 a3 a4 a5 p6 q7 q8 q9) ?_
  have K := Keep.refl h0 [a1]
  refine Own.aloadN d1_0 rfl rfl ?_
  refine Own.initO_ (hw _ (List.mem_of_getElem? (i := 18) rfl)) (hw _ (List.mem_of_getElem? (i := 19) rfl)) (hw _ (List.mem_of_getElem? (i := 20) rfl)) d1_1 rfl (by decide) 0 rfl (by decide) ?_
  refine Own.aloadN d1_4 rfl rfl ?_
  refine Own.aloadN d1_5 rfl rfl ?_
  refine Own.putF_ (host := "") (Or.inl (hw _ (List.mem_of_getElem? (i := 21) rfl))) Via.refl F_token_a1 X_a1 (Or.inr ⟨(hw _ (List.mem_of_getElem? (i := 22) rfl)), rfl, rfl⟩) (hw _ (List.mem_of_getElem? (i := 2) rfl)) (ty := (.object "java/lang/String")) (by decide) rfl rfl g_a1 d1_6 (fun h1 W2 => ?_)
  replace F_token_a1 := F_token_a1.same W2
  have hn : n0 ≤ h1.size := by rw [W2.size]; exact hn
  replace X_a1 := X_a1.wr W2
  replace F_handle_a1 := F_handle_a1.other W2 (Or.inr (slot_ne (Or.inr (hw _ (List.mem_of_getElem? (i := 24) rfl))) (Or.inr (hw _ (List.mem_of_getElem? (i := 22) rfl))) (by decide) (t := (.object "java/lang/String")) (t' := (.object "java/lang/String")) (by decide) (by decide)))
  replace F_realm_a1 := F_realm_a1.other W2 (Or.inr (slot_ne (Or.inr (hw _ (List.mem_of_getElem? (i := 26) rfl))) (Or.inr (hw _ (List.mem_of_getElem? (i := 22) rfl))) (by decide) (t := (.object "java/lang/String")) (t' := (.object "java/lang/String")) (by decide) (by decide)))
  replace F_username_a1 := F_username_a1.other W2 (Or.inr (slot_ne (Or.inr (hw _ (List.mem_of_getElem? (i := 28) rfl))) (Or.inr (hw _ (List.mem_of_getElem? (i := 22) rfl))) (by decide) (t := (.object "java/lang/String")) (t' := (.object "java/lang/String")) (by decide) (by decide)))
  replace F_authLevel_a1 := F_authLevel_a1.other W2 (Or.inr (slot_ne (Or.inr (hw _ (List.mem_of_getElem? (i := 30) rfl))) (Or.inr (hw _ (List.mem_of_getElem? (i := 22) rfl))) (by decide) (t := .int) (t' := (.object "java/lang/String")) (by decide) (by decide)))
  replace F_maxIdle_a1 := F_maxIdle_a1.other W2 (Or.inr (slot_ne (Or.inr (hw _ (List.mem_of_getElem? (i := 32) rfl))) (Or.inr (hw _ (List.mem_of_getElem? (i := 22) rfl))) (by decide) (t := .long) (t' := (.object "java/lang/String")) (by decide) (by decide)))
  replace F_maxTimeExpiration_a1 := F_maxTimeExpiration_a1.other W2 (Or.inr (slot_ne (Or.inr (hw _ (List.mem_of_getElem? (i := 34) rfl))) (Or.inr (hw _ (List.mem_of_getElem? (i := 22) rfl))) (by decide) (t := .long) (t' := (.object "java/lang/String")) (by decide) (by decide)))
  replace F_latestAccess_a1 := F_latestAccess_a1.other W2 (Or.inr (slot_ne (Or.inl (hw _ (List.mem_of_getElem? (i := 36) rfl))) (Or.inr (hw _ (List.mem_of_getElem? (i := 22) rfl))) (by decide) (t := .long) (t' := (.object "java/lang/String")) (by decide) (by decide)))
  have K := K.wr W2 (Or.inl (List.mem_of_getElem? (i := 0) rfl))
  refine Own.aloadN d1_9 rfl rfl ?_
  refine Own.aloadN d1_10 rfl rfl ?_
  refine Own.putF_ (host := "") (Or.inl (hw _ (List.mem_of_getElem? (i := 23) rfl))) Via.refl F_handle_a1 X_a1 (Or.inr ⟨(hw _ (List.mem_of_getElem? (i := 24) rfl)), rfl, rfl⟩) (hw _ (List.mem_of_getElem? (i := 2) rfl)) (ty := (.object "java/lang/String")) (by decide) rfl rfl g_a1 d1_11 (fun h3 W4 => ?_)
  replace F_handle_a1 := F_handle_a1.same W4
  have hn : n0 ≤ h3.size := by rw [W4.size]; exact hn
  replace X_a1 := X_a1.wr W4
  replace F_token_a1 := F_token_a1.other W4 (Or.inr (slot_ne (Or.inr (hw _ (List.mem_of_getElem? (i := 22) rfl))) (Or.inr (hw _ (List.mem_of_getElem? (i := 24) rfl))) (by decide) (t := (.object "java/lang/String")) (t' := (.object "java/lang/String")) (by decide) (by decide)))
  replace F_realm_a1 := F_realm_a1.other W4 (Or.inr (slot_ne (Or.inr (hw _ (List.mem_of_getElem? (i := 26) rfl))) (Or.inr (hw _ (List.mem_of_getElem? (i := 24) rfl))) (by decide) (t := (.object "java/lang/String")) (t' := (.object "java/lang/String")) (by decide) (by decide)))
  replace F_username_a1 := F_username_a1.other W4 (Or.inr (slot_ne (Or.inr (hw _ (List.mem_of_getElem? (i := 28) rfl))) (Or.inr (hw _ (List.mem_of_getElem? (i := 24) rfl))) (by decide) (t := (.object "java/lang/String")) (t' := (.object "java/lang/String")) (by decide) (by decide)))
  replace F_authLevel_a1 := F_authLevel_a1.other W4 (Or.inr (slot_ne (Or.inr (hw _ (List.mem_of_getElem? (i := 30) rfl))) (Or.inr (hw _ (List.mem_of_getElem? (i := 24) rfl))) (by decide) (t := .int) (t' := (.object "java/lang/String")) (by decide) (by decide)))
  replace F_maxIdle_a1 := F_maxIdle_a1.other W4 (Or.inr (slot_ne (Or.inr (hw _ (List.mem_of_getElem? (i := 32) rfl))) (Or.inr (hw _ (List.mem_of_getElem? (i := 24) rfl))) (by decide) (t := .long) (t' := (.object "java/lang/String")) (by decide) (by decide)))
  replace F_maxTimeExpiration_a1 := F_maxTimeExpiration_a1.other W4 (Or.inr (slot_ne (Or.inr (hw _ (List.mem_of_getElem? (i := 34) rfl))) (Or.inr (hw _ (List.mem_of_getElem? (i := 24) rfl))) (by decide) (t := .long) (t' := (.object "java/lang/String")) (by decide) (by decide)))
  replace F_latestAccess_a1 := F_latestAccess_a1.other W4 (Or.inr (slot_ne (Or.inl (hw _ (List.mem_of_getElem? (i := 36) rfl))) (Or.inr (hw _ (List.mem_of_getElem? (i := 24) rfl))) (by decide) (t := .long) (t' := (.object "java/lang/String")) (by decide) (by decide)))
  have K := K.wr W4 (Or.inl (List.mem_of_getElem? (i := 0) rfl))
  refine Own.aloadN d1_14 rfl rfl ?_
  refine Own.aloadN d1_15 rfl rfl ?_
  refine Own.putF_ (host := "") (Or.inl (hw _ (List.mem_of_getElem? (i := 25) rfl))) Via.refl F_realm_a1 X_a1 (Or.inr ⟨(hw _ (List.mem_of_getElem? (i := 26) rfl)), rfl, rfl⟩) (hw _ (List.mem_of_getElem? (i := 2) rfl)) (ty := (.object "java/lang/String")) (by decide) rfl rfl g_a1 d1_16 (fun h5 W6 => ?_)
  replace F_realm_a1 := F_realm_a1.same W6
  have hn : n0 ≤ h5.size := by rw [W6.size]; exact hn
  replace X_a1 := X_a1.wr W6
  replace F_token_a1 := F_token_a1.other W6 (Or.inr (slot_ne (Or.inr (hw _ (List.mem_of_getElem? (i := 22) rfl))) (Or.inr (hw _ (List.mem_of_getElem? (i := 26) rfl))) (by decide) (t := (.object "java/lang/String")) (t' := (.object "java/lang/String")) (by decide) (by decide)))
  replace F_handle_a1 := F_handle_a1.other W6 (Or.inr (slot_ne (Or.inr (hw _ (List.mem_of_getElem? (i := 24) rfl))) (Or.inr (hw _ (List.mem_of_getElem? (i := 26) rfl))) (by decide) (t := (.object "java/lang/String")) (t' := (.object "java/lang/String")) (by decide) (by decide)))
  replace F_username_a1 := F_username_a1.other W6 (Or.inr (slot_ne (Or.inr (hw _ (List.mem_of_getElem? (i := 28) rfl))) (Or.inr (hw _ (List.mem_of_getElem? (i := 26) rfl))) (by decide) (t := (.object "java/lang/String")) (t' := (.object "java/lang/String")) (by decide) (by decide)))
  replace F_authLevel_a1 := F_authLevel_a1.other W6 (Or.inr (slot_ne (Or.inr (hw _ (List.mem_of_getElem? (i := 30) rfl))) (Or.inr (hw _ (List.mem_of_getElem? (i := 26) rfl))) (by decide) (t := .int) (t' := (.object "java/lang/String")) (by decide) (by decide)))
  replace F_maxIdle_a1 := F_maxIdle_a1.other W6 (Or.inr (slot_ne (Or.inr (hw _ (List.mem_of_getElem? (i := 32) rfl))) (Or.inr (hw _ (List.mem_of_getElem? (i := 26) rfl))) (by decide) (t := .long) (t' := (.object "java/lang/String")) (by decide) (by decide)))
  replace F_maxTimeExpiration_a1 := F_maxTimeExpiration_a1.other W6 (Or.inr (slot_ne (Or.inr (hw _ (List.mem_of_getElem? (i := 34) rfl))) (Or.inr (hw _ (List.mem_of_getElem? (i := 26) rfl))) (by decide) (t := .long) (t' := (.object "java/lang/String")) (by decide) (by decide)))
  replace F_latestAccess_a1 := F_latestAccess_a1.other W6 (Or.inr (slot_ne (Or.inl (hw _ (List.mem_of_getElem? (i := 36) rfl))) (Or.inr (hw _ (List.mem_of_getElem? (i := 26) rfl))) (by decide) (t := .long) (t' := (.object "java/lang/String")) (by decide) (by decide)))
  have K := K.wr W6 (Or.inl (List.mem_of_getElem? (i := 0) rfl))
  refine Own.aloadN d1_19 rfl rfl ?_
  refine Own.aload d1_20 rfl rfl ?_
  refine Own.putF_ (host := "") (Or.inl (hw _ (List.mem_of_getElem? (i := 27) rfl))) Via.refl F_username_a1 X_a1 (Or.inr ⟨(hw _ (List.mem_of_getElem? (i := 28) rfl)), rfl, rfl⟩) (hw _ (List.mem_of_getElem? (i := 2) rfl)) (ty := (.object "java/lang/String")) (by decide) rfl rfl g_a1 d1_22 (fun h7 W8 => ?_)
  replace F_username_a1 := F_username_a1.same W8
  have hn : n0 ≤ h7.size := by rw [W8.size]; exact hn
  replace X_a1 := X_a1.wr W8
  replace F_token_a1 := F_token_a1.other W8 (Or.inr (slot_ne (Or.inr (hw _ (List.mem_of_getElem? (i := 22) rfl))) (Or.inr (hw _ (List.mem_of_getElem? (i := 28) rfl))) (by decide) (t := (.object "java/lang/String")) (t' := (.object "java/lang/String")) (by decide) (by decide)))
  replace F_handle_a1 := F_handle_a1.other W8 (Or.inr (slot_ne (Or.inr (hw _ (List.mem_of_getElem? (i := 24) rfl))) (Or.inr (hw _ (List.mem_of_getElem? (i := 28) rfl))) (by decide) (t := (.object "java/lang/String")) (t' := (.object "java/lang/String")) (by decide) (by decide)))
  replace F_realm_a1 := F_realm_a1.other W8 (Or.inr (slot_ne (Or.inr (hw _ (List.mem_of_getElem? (i := 26) rfl))) (Or.inr (hw _ (List.mem_of_getElem? (i := 28) rfl))) (by decide) (t := (.object "java/lang/String")) (t' := (.object "java/lang/String")) (by decide) (by decide)))
  replace F_authLevel_a1 := F_authLevel_a1.other W8 (Or.inr (slot_ne (Or.inr (hw _ (List.mem_of_getElem? (i := 30) rfl))) (Or.inr (hw _ (List.mem_of_getElem? (i := 28) rfl))) (by decide) (t := .int) (t' := (.object "java/lang/String")) (by decide) (by decide)))
  replace F_maxIdle_a1 := F_maxIdle_a1.other W8 (Or.inr (slot_ne (Or.inr (hw _ (List.mem_of_getElem? (i := 32) rfl))) (Or.inr (hw _ (List.mem_of_getElem? (i := 28) rfl))) (by decide) (t := .long) (t' := (.object "java/lang/String")) (by decide) (by decide)))
  replace F_maxTimeExpiration_a1 := F_maxTimeExpiration_a1.other W8 (Or.inr (slot_ne (Or.inr (hw _ (List.mem_of_getElem? (i := 34) rfl))) (Or.inr (hw _ (List.mem_of_getElem? (i := 28) rfl))) (by decide) (t := .long) (t' := (.object "java/lang/String")) (by decide) (by decide)))
  replace F_latestAccess_a1 := F_latestAccess_a1.other W8 (Or.inr (slot_ne (Or.inl (hw _ (List.mem_of_getElem? (i := 36) rfl))) (Or.inr (hw _ (List.mem_of_getElem? (i := 28) rfl))) (by decide) (t := .long) (t' := (.object "java/lang/String")) (by decide) (by decide)))
  have K := K.wr W8 (Or.inl (List.mem_of_getElem? (i := 0) rfl))
  refine Own.aloadN d1_25 rfl rfl ?_
  refine Own.iload d1_26 rfl ?_
  refine Own.putF_ (host := "") (Or.inl (hw _ (List.mem_of_getElem? (i := 29) rfl))) Via.refl F_authLevel_a1 X_a1 (Or.inr ⟨(hw _ (List.mem_of_getElem? (i := 30) rfl)), rfl, rfl⟩) (hw _ (List.mem_of_getElem? (i := 2) rfl)) (ty := .int) (by decide) rfl rfl g_a1 d1_28 (fun h9 W10 => ?_)
  replace F_authLevel_a1 := F_authLevel_a1.same W10
  have hn : n0 ≤ h9.size := by rw [W10.size]; exact hn
  replace X_a1 := X_a1.wr W10
  replace F_token_a1 := F_token_a1.other W10 (Or.inr (slot_ne (Or.inr (hw _ (List.mem_of_getElem? (i := 22) rfl))) (Or.inr (hw _ (List.mem_of_getElem? (i := 30) rfl))) (by decide) (t := (.object "java/lang/String")) (t' := .int) (by decide) (by decide)))
  replace F_handle_a1 := F_handle_a1.other W10 (Or.inr (slot_ne (Or.inr (hw _ (List.mem_of_getElem? (i := 24) rfl))) (Or.inr (hw _ (List.mem_of_getElem? (i := 30) rfl))) (by decide) (t := (.object "java/lang/String")) (t' := .int) (by decide) (by decide)))
  replace F_realm_a1 := F_realm_a1.other W10 (Or.inr (slot_ne (Or.inr (hw _ (List.mem_of_getElem? (i := 26) rfl))) (Or.inr (hw _ (List.mem_of_getElem? (i := 30) rfl))) (by decide) (t := (.object "java/lang/String")) (t' := .int) (by decide) (by decide)))
  replace F_username_a1 := F_username_a1.other W10 (Or.inr (slot_ne (Or.inr (hw _ (List.mem_of_getElem? (i := 28) rfl))) (Or.inr (hw _ (List.mem_of_getElem? (i := 30) rfl))) (by decide) (t := (.object "java/lang/String")) (t' := .int) (by decide) (by decide)))
  replace F_maxIdle_a1 := F_maxIdle_a1.other W10 (Or.inr (slot_ne (Or.inr (hw _ (List.mem_of_getElem? (i := 32) rfl))) (Or.inr (hw _ (List.mem_of_getElem? (i := 30) rfl))) (by decide) (t := .long) (t' := .int) (by decide) (by decide)))
  replace F_maxTimeExpiration_a1 := F_maxTimeExpiration_a1.other W10 (Or.inr (slot_ne (Or.inr (hw _ (List.mem_of_getElem? (i := 34) rfl))) (Or.inr (hw _ (List.mem_of_getElem? (i := 30) rfl))) (by decide) (t := .long) (t' := .int) (by decide) (by decide)))
  replace F_latestAccess_a1 := F_latestAccess_a1.other W10 (Or.inr (slot_ne (Or.inl (hw _ (List.mem_of_getElem? (i := 36) rfl))) (Or.inr (hw _ (List.mem_of_getElem? (i := 30) rfl))) (by decide) (t := .long) (t' := .int) (by decide) (by decide)))
  have K := K.wr W10 (Or.inl (List.mem_of_getElem? (i := 0) rfl))
  refine Own.aloadN d1_31 rfl rfl ?_
  refine Own.lload d1_32 rfl ?_
  refine Own.putF_ (host := "") (Or.inl (hw _ (List.mem_of_getElem? (i := 31) rfl))) Via.refl F_maxIdle_a1 X_a1 (Or.inr ⟨(hw _ (List.mem_of_getElem? (i := 32) rfl)), rfl, rfl⟩) (hw _ (List.mem_of_getElem? (i := 2) rfl)) (ty := .long) (by decide) rfl rfl g_a1 d1_34 (fun h11 W12 => ?_)
  replace F_maxIdle_a1 := F_maxIdle_a1.same W12
  have hn : n0 ≤ h11.size := by rw [W12.size]; exact hn
  replace X_a1 := X_a1.wr W12
  replace F_token_a1 := F_token_a1.other W12 (Or.inr (slot_ne (Or.inr (hw _ (List.mem_of_getElem? (i := 22) rfl))) (Or.inr (hw _ (List.mem_of_getElem? (i := 32) rfl))) (by decide) (t := (.object "java/lang/String")) (t' := .long) (by decide) (by decide)))
  replace F_handle_a1 := F_handle_a1.other W12 (Or.inr (slot_ne (Or.inr (hw _ (List.mem_of_getElem? (i := 24) rfl))) (Or.inr (hw _ (List.mem_of_getElem? (i := 32) rfl))) (by decide) (t := (.object "java/lang/String")) (t' := .long) (by decide) (by decide)))
  replace F_realm_a1 := F_realm_a1.other W12 (Or.inr (slot_ne (Or.inr (hw _ (List.mem_of_getElem? (i := 26) rfl))) (Or.inr (hw _ (List.mem_of_getElem? (i := 32) rfl))) (by decide) (t := (.object "java/lang/String")) (t' := .long) (by decide) (by decide)))
  replace F_username_a1 := F_username_a1.other W12 (Or.inr (slot_ne (Or.inr (hw _ (List.mem_of_getElem? (i := 28) rfl))) (Or.inr (hw _ (List.mem_of_getElem? (i := 32) rfl))) (by decide) (t := (.object "java/lang/String")) (t' := .long) (by decide) (by decide)))
  replace F_authLevel_a1 := F_authLevel_a1.other W12 (Or.inr (slot_ne (Or.inr (hw _ (List.mem_of_getElem? (i := 30) rfl))) (Or.inr (hw _ (List.mem_of_getElem? (i := 32) rfl))) (by decide) (t := .int) (t' := .long) (by decide) (by decide)))
  replace F_maxTimeExpiration_a1 := F_maxTimeExpiration_a1.other W12 (Or.inr (slot_ne (Or.inr (hw _ (List.mem_of_getElem? (i := 34) rfl))) (Or.inr (hw _ (List.mem_of_getElem? (i := 32) rfl))) (by decide) (t := .long) (t' := .long) (by decide) (by decide)))
  replace F_latestAccess_a1 := F_latestAccess_a1.other W12 (Or.inr (slot_ne (Or.inl (hw _ (List.mem_of_getElem? (i := 36) rfl))) (Or.inr (hw _ (List.mem_of_getElem? (i := 32) rfl))) (by decide) (t := .long) (t' := .long) (by decide) (by decide)))
  have K := K.wr W12 (Or.inl (List.mem_of_getElem? (i := 0) rfl))
  refine Own.aloadN d1_37 rfl rfl ?_
  refine Own.lload d1_38 rfl ?_
  refine Own.lload d1_40 rfl ?_
  refine Own.ladd d1_42 ?_
  refine Own.putF_ (host := "") (Or.inl (hw _ (List.mem_of_getElem? (i := 33) rfl))) Via.refl F_maxTimeExpiration_a1 X_a1 (Or.inr ⟨(hw _ (List.mem_of_getElem? (i := 34) rfl)), rfl, rfl⟩) (hw _ (List.mem_of_getElem? (i := 2) rfl)) (ty := .long) (by decide) rfl rfl g_a1 d1_43 (fun h13 W14 => ?_)
  replace F_maxTimeExpiration_a1 := F_maxTimeExpiration_a1.same W14
  have hn : n0 ≤ h13.size := by rw [W14.size]; exact hn
  replace X_a1 := X_a1.wr W14
  replace F_token_a1 := F_token_a1.other W14 (Or.inr (slot_ne (Or.inr (hw _ (List.mem_of_getElem? (i := 22) rfl))) (Or.inr (hw _ (List.mem_of_getElem? (i := 34) rfl))) (by decide) (t := (.object "java/lang/String")) (t' := .long) (by decide) (by decide)))
  replace F_handle_a1 := F_handle_a1.other W14 (Or.inr (slot_ne (Or.inr (hw _ (List.mem_of_getElem? (i := 24) rfl))) (Or.inr (hw _ (List.mem_of_getElem? (i := 34) rfl))) (by decide) (t := (.object "java/lang/String")) (t' := .long) (by decide) (by decide)))
  replace F_realm_a1 := F_realm_a1.other W14 (Or.inr (slot_ne (Or.inr (hw _ (List.mem_of_getElem? (i := 26) rfl))) (Or.inr (hw _ (List.mem_of_getElem? (i := 34) rfl))) (by decide) (t := (.object "java/lang/String")) (t' := .long) (by decide) (by decide)))
  replace F_username_a1 := F_username_a1.other W14 (Or.inr (slot_ne (Or.inr (hw _ (List.mem_of_getElem? (i := 28) rfl))) (Or.inr (hw _ (List.mem_of_getElem? (i := 34) rfl))) (by decide) (t := (.object "java/lang/String")) (t' := .long) (by decide) (by decide)))
  replace F_authLevel_a1 := F_authLevel_a1.other W14 (Or.inr (slot_ne (Or.inr (hw _ (List.mem_of_getElem? (i := 30) rfl))) (Or.inr (hw _ (List.mem_of_getElem? (i := 34) rfl))) (by decide) (t := .int) (t' := .long) (by decide) (by decide)))
  replace F_maxIdle_a1 := F_maxIdle_a1.other W14 (Or.inr (slot_ne (Or.inr (hw _ (List.mem_of_getElem? (i := 32) rfl))) (Or.inr (hw _ (List.mem_of_getElem? (i := 34) rfl))) (by decide) (t := .long) (t' := .long) (by decide) (by decide)))
  replace F_latestAccess_a1 := F_latestAccess_a1.other W14 (Or.inr (slot_ne (Or.inl (hw _ (List.mem_of_getElem? (i := 36) rfl))) (Or.inr (hw _ (List.mem_of_getElem? (i := 34) rfl))) (by decide) (t := .long) (t' := .long) (by decide) (by decide)))
  have K := K.wr W14 (Or.inl (List.mem_of_getElem? (i := 0) rfl))
  refine Own.aloadN d1_46 rfl rfl ?_
  refine Own.lload d1_47 rfl ?_
  refine Own.putF_ (host := "") (Or.inl (hw _ (List.mem_of_getElem? (i := 35) rfl))) Via.refl F_latestAccess_a1 X_a1 (Or.inl (hw _ (List.mem_of_getElem? (i := 36) rfl))) (hw _ (List.mem_of_getElem? (i := 2) rfl)) (ty := .long) (by decide) rfl rfl g_a1 d1_49 (fun h15 W16 => ?_)
  replace F_latestAccess_a1 := F_latestAccess_a1.same W16
  have hn : n0 ≤ h15.size := by rw [W16.size]; exact hn
  replace X_a1 := X_a1.wr W16
  replace F_token_a1 := F_token_a1.other W16 (Or.inr (slot_ne (Or.inr (hw _ (List.mem_of_getElem? (i := 22) rfl))) (Or.inl (hw _ (List.mem_of_getElem? (i := 36) rfl))) (by decide) (t := (.object "java/lang/String")) (t' := .long) (by decide) (by decide)))
  replace F_handle_a1 := F_handle_a1.other W16 (Or.inr (slot_ne (Or.inr (hw _ (List.mem_of_getElem? (i := 24) rfl))) (Or.inl (hw _ (List.mem_of_getElem? (i := 36) rfl))) (by decide) (t := (.object "java/lang/String")) (t' := .long) (by decide) (by decide)))
  replace F_realm_a1 := F_realm_a1.other W16 (Or.inr (slot_ne (Or.inr (hw _ (List.mem_of_getElem? (i := 26) rfl))) (Or.inl (hw _ (List.mem_of_getElem? (i := 36) rfl))) (by decide) (t := (.object "java/lang/String")) (t' := .long) (by decide) (by decide)))
  replace F_username_a1 := F_username_a1.other W16 (Or.inr (slot_ne (Or.inr (hw _ (List.mem_of_getElem? (i := 28) rfl))) (Or.inl (hw _ (List.mem_of_getElem? (i := 36) rfl))) (by decide) (t := (.object "java/lang/String")) (t' := .long) (by decide) (by decide)))
  replace F_authLevel_a1 := F_authLevel_a1.other W16 (Or.inr (slot_ne (Or.inr (hw _ (List.mem_of_getElem? (i := 30) rfl))) (Or.inl (hw _ (List.mem_of_getElem? (i := 36) rfl))) (by decide) (t := .int) (t' := .long) (by decide) (by decide)))
  replace F_maxIdle_a1 := F_maxIdle_a1.other W16 (Or.inr (slot_ne (Or.inr (hw _ (List.mem_of_getElem? (i := 32) rfl))) (Or.inl (hw _ (List.mem_of_getElem? (i := 36) rfl))) (by decide) (t := .long) (t' := .long) (by decide) (by decide)))
  replace F_maxTimeExpiration_a1 := F_maxTimeExpiration_a1.other W16 (Or.inr (slot_ne (Or.inr (hw _ (List.mem_of_getElem? (i := 34) rfl))) (Or.inl (hw _ (List.mem_of_getElem? (i := 36) rfl))) (by decide) (t := .long) (t' := .long) (by decide) (by decide)))
  have K := K.wr W16 (Or.inl (List.mem_of_getElem? (i := 0) rfl))
  refine Own.ret_void rfl d1_52 (by decide) (by decide) ?_
  exact ⟨rfl, K, F_maxIdle_a1, F_maxTimeExpiration_a1, F_latestAccess_a1⟩
theorem d3_0 : decode prog_82_method_10_code 0 = .ok (.lload_n 1, 1) := by decide +kernel
theorem d3_1 : decode prog_82_method_10_code 1 = .ok (.aload_n 0, 1) := by decide +kernel
theorem d3_2 : decode prog_82_method_10_code 2 = .ok (.getfield 33, 3) := by decide +kernel
theorem d3_5 : decode prog_82_method_10_code 5 = .ok (.aload_n 0, 1) := by decide +kernel
theorem d3_6 : decode prog_82_method_10_code 6 = .ok (.getfield 26, 3) := by decide +kernel
theorem d3_9 : decode prog_82_method_10_code 9 = .ok (.ladd, 1) := by decide +kernel
theorem d3_10 : decode prog_82_method_10_code 10 = .ok (.lcmp, 1) := by decide +kernel
theorem d3_11 : decode prog_82_method_10_code 11 = .ok (.ifCond .ge 16, 3) := by decide +kernel
theorem d3_27 : decode prog_82_method_10_code 27 = .ok (.iconst 0, 1) := by decide +kernel
theorem d3_28 : decode prog_82_method_10_code 28 = .ok (.ireturn, 1) := by decide +kernel
theorem d3_14 : decode prog_82_method_10_code 14 = .ok (.lload_n 1, 1) := by decide +kernel
theorem d3_15 : decode prog_82_method_10_code 15 = .ok (.aload_n 0, 1) := by decide +kernel
theorem d3_16 : decode prog_82_method_10_code 16 = .ok (.getfield 30, 3) := by decide +kernel
theorem d3_19 : decode prog_82_method_10_code 19 = .ok (.lcmp, 1) := by decide +kernel
theorem d3_20 : decode prog_82_method_10_code 20 = .ok (.ifCond .ge 7, 3) := by decide +kernel
theorem d3_23 : decode prog_82_method_10_code 23 = .ok (.iconst 1, 1) := by decide +kernel
theorem d3_24 : decode prog_82_method_10_code 24 = .ok (.goto 4, 3) := by decide +kernel
theorem ef_rmL (m : MethodId) (a1 : Addr) (q2 : Int64)  : entryFrame m #[(.ref a1), (.long q2)] 3 = mkF m 0 #[.val (.ref a1), .val (.long q2), .second] [] := by first | (simp [entryFrame, mkF, argsToLocals, Value.category]; done) | rfl
theorem pn_3 : plainFor (⟨"com/example/authweave/authweave/session/Session", "liveAt", "(J)Z"⟩ : MethodName) = true := plainFor_of_name (show plainName "com/example/authweave/authweave/session/Session" = true by first | (simp [plainName, overriddenIn]; done) | decide +kernel)
set_option maxRecDepth 65536 in
set_option maxHeartbeats 40000000 in
theorem rmL (l : Launch) (Z : State) (a0 : Array Value) (hw : ∀ d ∈ tables_1, d.before a0 Z = true) (ws : List Jvm.Cond) (a1 : Addr) (q2 : Int64) (qi : Int64) (qe : Int64) (qa : Int64) (h0 : Heap) (n0 : Nat) (hn : n0 ≤ h0.size) (F_maxIdle : Fld Z h0 a1 "com/example/authweave/authweave/session/Session" "maxIdle" "J" (.long qi)) (F_maxTimeExpiration : Fld Z h0 a1 "com/example/authweave/authweave/session/Session" "maxTimeExpiration" "J" (.long qe)) (F_latestAccess : Fld Z h0 a1 "com/example/authweave/authweave/session/Session" "latestAccess" "J" (.long qa)) :
    Met false l Z (⟨"com/example/authweave/authweave/session/Session", "liveAt", "(J)Z"⟩ : MethodName) prog_82_method_10_code 3 (some .boolean) ({ frames := 0, cells := 0, slots := 0, locals := 0 } : Room) ws #[(.ref a1), (.long q2)] h0 n0 (Pur (.int (own_lv q2 qa qi qe)) h0) := by
  refine Met.of pn_3 (fun m => ef_rmL m a1 q2) ?_
  refine Own.lloadN d3_0 rfl ?_
  refine Own.aloadN d3_1 rfl rfl ?_
  refine Own.getF_ (host := "") (Or.inl (hw _ (List.mem_of_getElem? (i := 35) rfl))) Via.refl F_latestAccess d3_2 ?_
  refine Own.aloadN d3_5 rfl rfl ?_
  refine Own.getF_ (host := "") (Or.inl (hw _ (List.mem_of_getElem? (i := 31) rfl))) Via.refl F_maxIdle d3_6 ?_
  refine Own.ladd d3_9 ?_
  refine Own.lcmp d3_10 ?_
  refine Own.if_ge 27 d3_11 (by decide) rfl (fun c11 => ?_) (fun c11 => ?_)
  · refine Own.iconst (0 : Int32) d3_27 rfl ?_
    refine Own.ret_nar (t := .boolean) (by simp) rfl d3_28 (by decide) (by decide) ?_
    refine ⟨congrArg (fun z => some (Value.int z)) ?_, rfl⟩
    rw [own_n0, own_lv, if_neg c11]
  · refine Own.lloadN d3_14 rfl ?_
    refine Own.aloadN d3_15 rfl rfl ?_
    refine Own.getF_ (host := "") (Or.inl (hw _ (List.mem_of_getElem? (i := 33) rfl))) Via.refl F_maxTimeExpiration d3_16 ?_
    refine Own.lcmp d3_19 ?_
    refine Own.if_ge 27 d3_20 (by decide) rfl (fun c20 => ?_) (fun c20 => ?_)
    · refine Own.iconst (0 : Int32) d3_27 rfl ?_
      refine Own.ret_nar (t := .boolean) (by simp) rfl d3_28 (by decide) (by decide) ?_
      refine ⟨congrArg (fun z => some (Value.int z)) ?_, rfl⟩
      rw [own_n0, own_lv, if_pos c11, if_neg c20]
    · refine Own.iconst (1 : Int32) d3_23 rfl ?_
      refine Own.goto_ 28 d3_24 (by decide) rfl ?_
      refine Own.ret_nar (t := .boolean) (by simp) rfl d3_28 (by decide) (by decide) ?_
      refine ⟨congrArg (fun z => some (Value.int z)) ?_, rfl⟩
      rw [own_n1, own_lv, if_pos c11, if_pos c20]
theorem d4_0 : decode prog_82_method_11_code 0 = .ok (.aload_n 0, 1) := by decide +kernel
theorem d4_1 : decode prog_82_method_11_code 1 = .ok (.lload_n 1, 1) := by decide +kernel
theorem d4_2 : decode prog_82_method_11_code 2 = .ok (.putfield 33, 3) := by decide +kernel
theorem d4_5 : decode prog_82_method_11_code 5 = .ok (.return_, 1) := by decide +kernel
def Q_rmU (Z : State) (a1 : Addr) (q2 : Int64) (qi : Int64) (qe : Int64) (h0 : Heap) (n0 : Nat) (v : Option Value) (h : Heap) : Prop := v = none ∧ Keep h0 h [a1] ∧ Fld Z h a1 "com/example/authweave/authweave/session/Session" "maxIdle" "J" (.long qi) ∧ Fld Z h a1 "com/example/authweave/authweave/session/Session" "maxTimeExpiration" "J" (.long qe) ∧ Fld Z h a1 "com/example/authweave/authweave/session/Session" "latestAccess" "J" (.long q2)
theorem ef_rmU (m : MethodId) (a1 : Addr) (q2 : Int64)  : entryFrame m #[(.ref a1), (.long q2)] 3 = mkF m 0 #[.val (.ref a1), .val (.long q2), .second] [] := by first | (simp [entryFrame, mkF, argsToLocals, Value.category]; done) | rfl
theorem pn_4 : plainFor (⟨"com/example/authweave/authweave/session/Session", "usedAt", "(J)V"⟩ : MethodName) = true := plainFor_of_name (show plainName "com/example/authweave/authweave/session/Session" = true by first | (simp [plainName, overriddenIn]; done) | decide +kernel)
set_option maxRecDepth 65536 in
set_option maxHeartbeats 40000000 in
theorem rmU (l : Launch) (Z : State) (a0 : Array Value) (hw : ∀ d ∈ tables_1, d.before a0 Z = true) (ws : List Jvm.Cond) (a1 : Addr) (q2 : Int64) (qi : Int64) (qe : Int64) (qa : Int64) (h0 : Heap) (n0 : Nat) (hn : n0 ≤ h0.size) (g_a1 : n0 ≤ a1) (X_a1 : Exa Z h0 a1 "com/example/authweave/authweave/session/Session") (F_maxIdle : Fld Z h0 a1 "com/example/authweave/authweave/session/Session" "maxIdle" "J" (.long qi)) (F_maxTimeExpiration : Fld Z h0 a1 "com/example/authweave/authweave/session/Session" "maxTimeExpiration" "J" (.long qe)) (F_latestAccess : Fld Z h0 a1 "com/example/authweave/authweave/session/Session" "latestAccess" "J" (.long qa)) :
    Met false l Z (⟨"com/example/authweave/authweave/session/Session", "usedAt", "(J)V"⟩ : MethodName) prog_82_method_11_code 3 none ({ frames := 0, cells := 0, slots := 0, locals := 0 } : Room) ws #[(.ref a1), (.long q2)] h0 n0 (Q_rmU Z a1 q2 qi qe h0 n0) := by
  refine Met.of pn_4 (fun m => ef_rmU m a1 q2) ?_
  have K := Keep.refl h0 [a1]
  refine Own.aloadN d4_0 rfl rfl ?_
  refine Own.lloadN d4_1 rfl ?_
  refine Own.putF_ (host := "") (Or.inl (hw _ (List.mem_of_getElem? (i := 35) rfl))) Via.refl F_latestAccess X_a1 (Or.inl (hw _ (List.mem_of_getElem? (i := 36) rfl))) (hw _ (List.mem_of_getElem? (i := 2) rfl)) (ty := .long) (by decide) rfl rfl g_a1 d4_2 (fun h17 W18 => ?_)
  replace F_latestAccess := F_latestAccess.same W18
  have hn : n0 ≤ h17.size := by rw [W18.size]; exact hn
  replace X_a1 := X_a1.wr W18
  replace F_maxIdle := F_maxIdle.other W18 (Or.inr (slot_ne (Or.inr (hw _ (List.mem_of_getElem? (i := 32) rfl))) (Or.inl (hw _ (List.mem_of_getElem? (i := 36) rfl))) (by decide) (t := .long) (t' := .long) (by decide) (by decide)))
  replace F_maxTimeExpiration := F_maxTimeExpiration.other W18 (Or.inr (slot_ne (Or.inr (hw _ (List.mem_of_getElem? (i := 34) rfl))) (Or.inl (hw _ (List.mem_of_getElem? (i := 36) rfl))) (by decide) (t := .long) (t' := .long) (by decide) (by decide)))
  have K := K.wr W18 (Or.inl (List.mem_of_getElem? (i := 0) rfl))
  refine Own.ret_void rfl d4_5 (by decide) (by decide) ?_
  exact ⟨rfl, K, F_maxIdle, F_maxTimeExpiration, F_latestAccess⟩
theorem pd_3 : parseMethodDescriptor "(Ljava/lang/String;Ljava/lang/String;Ljava/lang/String;Ljava/lang/String;IJJJ)V" = some ⟨[(.object "java/lang/String"), (.object "java/lang/String"), (.object "java/lang/String"), (.object "java/lang/String"), .int, .long, .long, .long], none⟩ := by decide +kernel
theorem pd_2 : parseMethodDescriptor "(J)Z" = some ⟨[.long], some .boolean⟩ := by decide +kernel
theorem pd_1 : parseMethodDescriptor "(J)V" = some ⟨[.long], none⟩ := by decide +kernel
def Q_rm0 (Z : State)  (h0 : Heap) (n0 : Nat) (v : Option Value) (h : Heap) : Prop := v = some (.int 1)
theorem ef_rm0 (m : MethodId) (q0 : Int64) (q1 : Int64) (q2 : Int64) (q3 : Int64) (q4 : Int64) (p5 : Int32)  : entryFrame m #[(.long q0), (.long q1), (.long q2), (.long q3), (.long q4), (.int p5)] maxLocals = mkF m 0 #[.val (.long q0), .second, .val (.long q1), .second, .val (.long q2), .second, .val (.long q3), .second, .val (.long q4), .second, .val (.int p5), .unset, .unset, .unset, .unset, .unset, .unset, .unset, .unset, .unset, .unset, .unset, .unset, .unset, .unset] [] := by first | (simp [entryFrame, mkF, argsToLocals, Value.category, maxLocals]; done) | rfl
theorem pn_0 : plainFor (⟨"com/example/authweave/authweave/session/SessionLiveAtPinLaw", "law", "(JJJJJI)Z"⟩ : MethodName) = true := plainFor_of_name (show plainName "com/example/authweave/authweave/session/SessionLiveAtPinLaw" = true by first | (simp [plainName, overriddenIn]; done) | decide +kernel)
set_option maxRecDepth 65536 in
set_option maxHeartbeats 40000000 in
theorem rm0 (l : Launch) (Z : State) (a0 : Array Value) (hw : ∀ d ∈ tables_1, d.before a0 Z = true) (ws : List Jvm.Cond) (q0 : Int64) (q1 : Int64) (q2 : Int64) (q3 : Int64) (q4 : Int64) (p5 : Int32) (h0 : Heap) (n0 : Nat) (hn : n0 ≤ h0.size) :
    Met true l Z x code maxLocals ret room_1 ws #[(.long q0), (.long q1), (.long q2), (.long q3), (.long q4), (.int p5)] h0 n0 (Q_rm0 Z  h0 n0) := by
  refine Met.of pn_0 (fun m => ef_rm0 m q0 q1 q2 q3 q4 p5) ?_
  refine Own.lloadN at_0 rfl ?_
  refine Own.bipush (20 : Int32) at_1 rfl ?_
  refine Own.lshr at_3 ?_
  obtain ⟨us, e_us⟩ : ∃ z : Int64, z = (q0 >>> ((20 : Int32) &&& 0x3f).toInt64) := ⟨_, rfl⟩
  rw [← e_us]
  refine Own.lstore #[.val (.long q0), .second, .val (.long q1), .second, .val (.long q2), .second, .val (.long q3), .second, .val (.long q4), .second, .val (.int p5), .val (.long us), .second, .unset, .unset, .unset, .unset, .unset, .unset, .unset, .unset, .unset, .unset, .unset, .unset] at_4 rfl ?_
  refine Own.lloadN at_6 rfl ?_
  refine Own.ldc2Long (hw _ (List.mem_of_getElem? (i := 0) rfl)) at_7 ?_
  refine Own.land at_10 ?_
  obtain ⟨um, e_um⟩ : ∃ z : Int64, z = (q1 &&& (4398046511103 : Int64)) := ⟨_, rfl⟩
  rw [← e_um]
  refine Own.lstore #[.val (.long q0), .second, .val (.long q1), .second, .val (.long q2), .second, .val (.long q3), .second, .val (.long q4), .second, .val (.int p5), .val (.long us), .second, .val (.long um), .second, .unset, .unset, .unset, .unset, .unset, .unset, .unset, .unset, .unset, .unset] at_11 rfl ?_
  refine Own.lload at_13 rfl ?_
  refine Own.ldc2Long (hw _ (List.mem_of_getElem? (i := 0) rfl)) at_15 ?_
  refine Own.land at_18 ?_
  obtain ⟨ut, e_ut⟩ : ∃ z : Int64, z = (q2 &&& (4398046511103 : Int64)) := ⟨_, rfl⟩
  rw [← e_ut]
  refine Own.lstore #[.val (.long q0), .second, .val (.long q1), .second, .val (.long q2), .second, .val (.long q3), .second, .val (.long q4), .second, .val (.int p5), .val (.long us), .second, .val (.long um), .second, .val (.long ut), .second, .unset, .unset, .unset, .unset, .unset, .unset, .unset, .unset] at_19 rfl ?_
  refine Own.lload at_21 rfl ?_
  refine Own.lload at_23 rfl ?_
  refine Own.bipush (20 : Int32) at_25 rfl ?_
  refine Own.lshr at_27 ?_
  refine Own.ladd at_28 ?_
  obtain ⟨un, e_un⟩ : ∃ z : Int64, z = (us + (q3 >>> ((20 : Int32) &&& 0x3f).toInt64)) := ⟨_, rfl⟩
  rw [← e_un]
  refine Own.lstore #[.val (.long q0), .second, .val (.long q1), .second, .val (.long q2), .second, .val (.long q3), .second, .val (.long q4), .second, .val (.int p5), .val (.long us), .second, .val (.long um), .second, .val (.long ut), .second, .val (.long un), .second, .unset, .unset, .unset, .unset, .unset, .unset] at_29 rfl ?_
  refine Own.lload at_31 rfl ?_
  refine Own.lstore #[.val (.long q0), .second, .val (.long q1), .second, .val (.long q2), .second, .val (.long q3), .second, .val (.long q4), .second, .val (.int p5), .val (.long us), .second, .val (.long um), .second, .val (.long ut), .second, .val (.long un), .second, .val (.long us), .second, .unset, .unset, .unset, .unset] at_33 rfl ?_
  have b_st : -100000000000000 ≤ us.toInt ∧ us.toInt ≤ 100000000000000 := by
    have h1 := own_shr q0; rw [e_us]; omega
  have b_mi : 0 ≤ um.toInt ∧ um.toInt < 4398046511104 := by
    rw [e_um]; exact own_mask q1
  have b_mt : 0 ≤ ut.toInt ∧ ut.toInt < 4398046511104 := by
    rw [e_ut]; exact own_mask q2
  have b_st' : -8796093022208 ≤ us.toInt ∧ us.toInt < 8796093022208 := by
    rw [e_us]; exact own_shr q0
  have b_now : -100000000000000 ≤ un.toInt ∧ un.toInt ≤ 100000000000000 := by
    have h1 := own_shr q3; rw [e_un, own_add ⟨by omega, by omega⟩ ⟨by omega, by omega⟩]; omega
  refine Own.new_ (hw _ (List.mem_of_getElem? (i := 1) rfl)) (hw _ (List.mem_of_getElem? (i := 2) rfl)) (hw _ (List.mem_of_getElem? (i := 3) rfl)) at_35 (by decide) (by decide) (fun h19 b19 gb19 E19 X19 D19 => ?_)
  have g_b19 : n0 ≤ b19 := by rw [gb19]; exact hn
  have hn := Nat.le_trans hn E19.1
  have X_b19 := X19
  have F_token_b19 : Fld Z h19 b19 "com/example/authweave/authweave/session/Session" "token" "Ljava/lang/String;" .null := D19 (Or.inr (hw _ (List.mem_of_getElem? (i := 22) rfl))) (ty := (.object "java/lang/String")) (by decide)
  have F_handle_b19 : Fld Z h19 b19 "com/example/authweave/authweave/session/Session" "handle" "Ljava/lang/String;" .null := D19 (Or.inr (hw _ (List.mem_of_getElem? (i := 24) rfl))) (ty := (.object "java/lang/String")) (by decide)
  have F_realm_b19 : Fld Z h19 b19 "com/example/authweave/authweave/session/Session" "realm" "Ljava/lang/String;" .null := D19 (Or.inr (hw _ (List.mem_of_getElem? (i := 26) rfl))) (ty := (.object "java/lang/String")) (by decide)
  have F_username_b19 : Fld Z h19 b19 "com/example/authweave/authweave/session/Session" "username" "Ljava/lang/String;" .null := D19 (Or.inr (hw _ (List.mem_of_getElem? (i := 28) rfl))) (ty := (.object "java/lang/String")) (by decide)
  have F_authLevel_b19 : Fld Z h19 b19 "com/example/authweave/authweave/session/Session" "authLevel" "I" (.int (0 : Int32)) := D19 (Or.inr (hw _ (List.mem_of_getElem? (i := 30) rfl))) (ty := .int) (by decide)
  have F_maxIdle_b19 : Fld Z h19 b19 "com/example/authweave/authweave/session/Session" "maxIdle" "J" (.long (0 : Int64)) := D19 (Or.inr (hw _ (List.mem_of_getElem? (i := 32) rfl))) (ty := .long) (by decide)
  have F_maxTimeExpiration_b19 : Fld Z h19 b19 "com/example/authweave/authweave/session/Session" "maxTimeExpiration" "J" (.long (0 : Int64)) := D19 (Or.inr (hw _ (List.mem_of_getElem? (i := 34) rfl))) (ty := .long) (by decide)
  have F_latestAccess_b19 : Fld Z h19 b19 "com/example/authweave/authweave/session/Session" "latestAccess" "J" (.long (0 : Int64)) := D19 (Or.inl (hw _ (List.mem_of_getElem? (i := 36) rfl))) (ty := .long) (by decide)
  refine Own.dup at_38 rfl ?_
  refine Own.ldcS_ 4 (hw _ (List.mem_of_getElem? (i := 4) rfl)) (own_wS hw) at_39 (by decide) (by decide) (by decide) (by decide) (fun h20 b20 E20 => ?_)
  have hn := Nat.le_trans hn E20.1
  replace X_b19 := X_b19.ext E20
  replace F_token_b19 := F_token_b19.ext E20
  replace F_handle_b19 := F_handle_b19.ext E20
  replace F_realm_b19 := F_realm_b19.ext E20
  replace F_username_b19 := F_username_b19.ext E20
  replace F_authLevel_b19 := F_authLevel_b19.ext E20
  replace F_maxIdle_b19 := F_maxIdle_b19.ext E20
  replace F_maxTimeExpiration_b19 := F_maxTimeExpiration_b19.ext E20
  replace F_latestAccess_b19 := F_latestAccess_b19.ext E20
  refine Own.ldcS_ 4 (hw _ (List.mem_of_getElem? (i := 12) rfl)) (own_wS hw) at_41 (by decide) (by decide) (by decide) (by decide) (fun h21 b21 E21 => ?_)
  have hn := Nat.le_trans hn E21.1
  replace X_b19 := X_b19.ext E21
  replace F_token_b19 := F_token_b19.ext E21
  replace F_handle_b19 := F_handle_b19.ext E21
  replace F_realm_b19 := F_realm_b19.ext E21
  replace F_username_b19 := F_username_b19.ext E21
  replace F_authLevel_b19 := F_authLevel_b19.ext E21
  replace F_maxIdle_b19 := F_maxIdle_b19.ext E21
  replace F_maxTimeExpiration_b19 := F_maxTimeExpiration_b19.ext E21
  replace F_latestAccess_b19 := F_latestAccess_b19.ext E21
  refine Own.ldcS_ 4 (hw _ (List.mem_of_getElem? (i := 13) rfl)) (own_wS hw) at_43 (by decide) (by decide) (by decide) (by decide) (fun h22 b22 E22 => ?_)
  have hn := Nat.le_trans hn E22.1
  replace X_b19 := X_b19.ext E22
  replace F_token_b19 := F_token_b19.ext E22
  replace F_handle_b19 := F_handle_b19.ext E22
  replace F_realm_b19 := F_realm_b19.ext E22
  replace F_username_b19 := F_username_b19.ext E22
  replace F_authLevel_b19 := F_authLevel_b19.ext E22
  replace F_maxIdle_b19 := F_maxIdle_b19.ext E22
  replace F_maxTimeExpiration_b19 := F_maxTimeExpiration_b19.ext E22
  replace F_latestAccess_b19 := F_latestAccess_b19.ext E22
  refine Own.ldcS_ 4 (hw _ (List.mem_of_getElem? (i := 14) rfl)) (own_wS hw) at_45 (by decide) (by decide) (by decide) (by decide) (fun h23 b23 E23 => ?_)
  have hn := Nat.le_trans hn E23.1
  replace X_b19 := X_b19.ext E23
  replace F_token_b19 := F_token_b19.ext E23
  replace F_handle_b19 := F_handle_b19.ext E23
  replace F_realm_b19 := F_realm_b19.ext E23
  replace F_username_b19 := F_username_b19.ext E23
  replace F_authLevel_b19 := F_authLevel_b19.ext E23
  replace F_maxIdle_b19 := F_maxIdle_b19.ext E23
  replace F_maxTimeExpiration_b19 := F_maxTimeExpiration_b19.ext E23
  replace F_latestAccess_b19 := F_latestAccess_b19.ext E23
  refine Own.iconst (0 : Int32) at_47 rfl ?_
  refine Own.lload at_48 rfl ?_
  refine Own.lload at_50 rfl ?_
  refine Own.lload at_52 rfl ?_
  refine Own.callI_ b19 [(.ref b20), (.ref b21), (.ref b22), (.ref b23), (.int (0 : Int32)), (.long us), (.long um), (.long ut)] [(.ref b19)] 1 (rmI l Z a0 hw [] b19 b20 b21 b22 b23 (0 : Int32) us um ut h23 n0 hn g_b19 X_b19 F_token_b19 F_handle_b19 F_realm_b19 F_username_b19 F_authLevel_b19 F_maxIdle_b19 F_maxTimeExpiration_b19 F_latestAccess_b19) (hw _ (List.mem_of_getElem? (i := 15) rfl)) (hw _ (List.mem_of_getElem? (i := 16) rfl)) (hw _ (List.mem_of_getElem? (i := 3) rfl)) (hw _ (List.mem_of_getElem? (i := 17) rfl)) rfl (by decide) at_54 pd_3 rfl rfl rfl rfl (by decide) (by decide) (by decide) (by decide) (fun v24 h24 hq24 => ?_)
  obtain ⟨rfl, K25, G1, G2, G3⟩ := hq24
  have hn := Nat.le_trans hn K25.1
  replace X_b19 := X_b19.keep K25
  have F_maxIdle := G1
  have F_maxTimeExpiration := G2
  have F_latestAccess := G3
  refine OAt.cast (st' := [(.ref b19)]) rfl ?_
  refine Own.astore #[.val (.long q0), .second, .val (.long q1), .second, .val (.long q2), .second, .val (.long q3), .second, .val (.long q4), .second, .val (.int p5), .val (.long us), .second, .val (.long um), .second, .val (.long ut), .second, .val (.long un), .second, .val (.long us), .second, .val (.ref b19), .unset, .unset, .unset] at_57 rfl rfl ?_
  refine Own.iload at_59 rfl ?_
  refine Own.iconst (1 : Int32) at_61 rfl ?_
  refine Own.iand at_62 ?_
  refine Own.if_eq 83 at_63 (by decide) rfl (fun c63 => ?_) (fun c63 => ?_)
  · have b_lat : -100000000000000 ≤ us.toInt ∧ us.toInt ≤ 100000000000000 := b_st
    refine Own.lload at_83 rfl ?_
    refine Own.lload at_85 rfl ?_
    refine Own.lsub at_87 ?_
    refine Own.lload at_88 rfl ?_
    refine Own.lcmp at_90 ?_
    refine Own.if_ge 98 at_91 (by decide) rfl (fun c91 => ?_) (fun c91 => ?_)
    · refine Own.iconst (0 : Int32) at_98 rfl ?_
      refine Own.istore #[.val (.long q0), .second, .val (.long q1), .second, .val (.long q2), .second, .val (.long q3), .second, .val (.long q4), .second, .val (.int p5), .val (.long us), .second, .val (.long um), .second, .val (.long ut), .second, .val (.long un), .second, .val (.long us), .second, .val (.ref b19), .val (.int (0 : Int32)), .unset, .unset] at_99 rfl ?_
      refine Own.lload at_101 rfl ?_
      refine Own.lload at_103 rfl ?_
      refine Own.lsub at_105 ?_
      refine Own.lload at_106 rfl ?_
      refine Own.lcmp at_108 ?_
      refine Own.if_ge 116 at_109 (by decide) rfl (fun c109 => ?_) (fun c109 => ?_)
      · refine Own.iconst (0 : Int32) at_116 rfl ?_
        refine Own.istore #[.val (.long q0), .second, .val (.long q1), .second, .val (.long q2), .second, .val (.long q3), .second, .val (.long q4), .second, .val (.int p5), .val (.long us), .second, .val (.long um), .second, .val (.long ut), .second, .val (.long un), .second, .val (.long us), .second, .val (.ref b19), .val (.int (0 : Int32)), .val (.int (0 : Int32)), .unset] at_117 rfl ?_
        refine Own.iload at_119 rfl ?_
        refine Own.if_eq 133 at_121 (by decide) rfl (fun _ => ?_) (fun q => absurd (by decide) q)
        refine Own.iconst (0 : Int32) at_133 rfl ?_
        refine Own.istore #[.val (.long q0), .second, .val (.long q1), .second, .val (.long q2), .second, .val (.long q3), .second, .val (.long q4), .second, .val (.int p5), .val (.long us), .second, .val (.long um), .second, .val (.long ut), .second, .val (.long un), .second, .val (.long us), .second, .val (.ref b19), .val (.int (0 : Int32)), .val (.int (0 : Int32)), .val (.int (0 : Int32))] at_134 rfl ?_
        refine Own.aload at_136 rfl rfl ?_
        refine Own.lload at_138 rfl ?_
        refine Own.callVP b19 [(.long un)] [] 0 (rmL l Z a0 hw [] b19 un um (us + ut) us h24 n0 hn F_maxIdle F_maxTimeExpiration F_latestAccess) (hw _ (List.mem_of_getElem? (i := 37) rfl)) (hw _ (List.mem_of_getElem? (i := 38) rfl)) (fun s hZ => notFace_of_selects (args := #[]) (mvT hZ (hw _ (List.mem_of_getElem? (i := 40) rfl)))) (hw _ (List.mem_of_getElem? (i := 40) rfl)) (hw _ (List.mem_of_getElem? (i := 39) rfl)) (hw _ (List.mem_of_getElem? (i := 3) rfl)) (hw _ (List.mem_of_getElem? (i := 41) rfl)) (by decide) X_b19 at_140 pd_2 rfl rfl rfl rfl (by decide) (by decide) (by decide) (by decide) ?_
        refine Own.iload at_143 rfl ?_
        refine Own.icmp_ne 152 at_145 (by decide) rfl (fun q => absurd (by rw [own_lv]; first | rw [if_pos ((own_swap b_now b_lat b_mi).mp c91), if_pos ((own_swap b_now b_st b_mt).mp c109)] | rw [if_pos ((own_swap b_now b_lat b_mi).mp c91), if_neg (fun q => c109 ((own_swap b_now b_st b_mt).mpr q))] | rw [if_neg (fun q => c91 ((own_swap b_now b_lat b_mi).mpr q))]) q) (fun _ => ?_)
        refine Own.iconst (1 : Int32) at_148 rfl ?_
        refine Own.goto_ 153 at_149 (by decide) rfl ?_
        refine Own.ret_nar (t := .boolean) (by simp) rfl at_153 (by decide) (by decide) ?_
        exact rfl
      · refine Own.iconst (1 : Int32) at_112 rfl ?_
        refine Own.goto_ 117 at_113 (by decide) rfl ?_
        refine Own.istore #[.val (.long q0), .second, .val (.long q1), .second, .val (.long q2), .second, .val (.long q3), .second, .val (.long q4), .second, .val (.int p5), .val (.long us), .second, .val (.long um), .second, .val (.long ut), .second, .val (.long un), .second, .val (.long us), .second, .val (.ref b19), .val (.int (0 : Int32)), .val (.int (1 : Int32)), .unset] at_117 rfl ?_
        refine Own.iload at_119 rfl ?_
        refine Own.if_eq 133 at_121 (by decide) rfl (fun _ => ?_) (fun q => absurd (by decide) q)
        refine Own.iconst (0 : Int32) at_133 rfl ?_
        refine Own.istore #[.val (.long q0), .second, .val (.long q1), .second, .val (.long q2), .second, .val (.long q3), .second, .val (.long q4), .second, .val (.int p5), .val (.long us), .second, .val (.long um), .second, .val (.long ut), .second, .val (.long un), .second, .val (.long us), .second, .val (.ref b19), .val (.int (0 : Int32)), .val (.int (1 : Int32)), .val (.int (0 : Int32))] at_134 rfl ?_
        refine Own.aload at_136 rfl rfl ?_
        refine Own.lload at_138 rfl ?_
        refine Own.callVP b19 [(.long un)] [] 0 (rmL l Z a0 hw [] b19 un um (us + ut) us h24 n0 hn F_maxIdle F_maxTimeExpiration F_latestAccess) (hw _ (List.mem_of_getElem? (i := 37) rfl)) (hw _ (List.mem_of_getElem? (i := 38) rfl)) (fun s hZ => notFace_of_selects (args := #[]) (mvT hZ (hw _ (List.mem_of_getElem? (i := 40) rfl)))) (hw _ (List.mem_of_getElem? (i := 40) rfl)) (hw _ (List.mem_of_getElem? (i := 39) rfl)) (hw _ (List.mem_of_getElem? (i := 3) rfl)) (hw _ (List.mem_of_getElem? (i := 41) rfl)) (by decide) X_b19 at_140 pd_2 rfl rfl rfl rfl (by decide) (by decide) (by decide) (by decide) ?_
        refine Own.iload at_143 rfl ?_
        refine Own.icmp_ne 152 at_145 (by decide) rfl (fun q => absurd (by rw [own_lv]; first | rw [if_pos ((own_swap b_now b_lat b_mi).mp c91), if_pos ((own_swap b_now b_st b_mt).mp c109)] | rw [if_pos ((own_swap b_now b_lat b_mi).mp c91), if_neg (fun q => c109 ((own_swap b_now b_st b_mt).mpr q))] | rw [if_neg (fun q => c91 ((own_swap b_now b_lat b_mi).mpr q))]) q) (fun _ => ?_)
        refine Own.iconst (1 : Int32) at_148 rfl ?_
        refine Own.goto_ 153 at_149 (by decide) rfl ?_
        refine Own.ret_nar (t := .boolean) (by simp) rfl at_153 (by decide) (by decide) ?_
        exact rfl
    · refine Own.iconst (1 : Int32) at_94 rfl ?_
      refine Own.goto_ 99 at_95 (by decide) rfl ?_
      refine Own.istore #[.val (.long q0), .second, .val (.long q1), .second, .val (.long q2), .second, .val (.long q3), .second, .val (.long q4), .second, .val (.int p5), .val (.long us), .second, .val (.long um), .second, .val (.long ut), .second, .val (.long un), .second, .val (.long us), .second, .val (.ref b19), .val (.int (1 : Int32)), .unset, .unset] at_99 rfl ?_
      refine Own.lload at_101 rfl ?_
      refine Own.lload at_103 rfl ?_
      refine Own.lsub at_105 ?_
      refine Own.lload at_106 rfl ?_
      refine Own.lcmp at_108 ?_
      refine Own.if_ge 116 at_109 (by decide) rfl (fun c109 => ?_) (fun c109 => ?_)
      · refine Own.iconst (0 : Int32) at_116 rfl ?_
        refine Own.istore #[.val (.long q0), .second, .val (.long q1), .second, .val (.long q2), .second, .val (.long q3), .second, .val (.long q4), .second, .val (.int p5), .val (.long us), .second, .val (.long um), .second, .val (.long ut), .second, .val (.long un), .second, .val (.long us), .second, .val (.ref b19), .val (.int (1 : Int32)), .val (.int (0 : Int32)), .unset] at_117 rfl ?_
        refine Own.iload at_119 rfl ?_
        refine Own.if_eq 133 at_121 (by decide) rfl (fun q => absurd q (by decide)) (fun _ => ?_)
        refine Own.iload at_124 rfl ?_
        refine Own.if_eq 133 at_126 (by decide) rfl (fun _ => ?_) (fun q => absurd (by decide) q)
        refine Own.iconst (0 : Int32) at_133 rfl ?_
        refine Own.istore #[.val (.long q0), .second, .val (.long q1), .second, .val (.long q2), .second, .val (.long q3), .second, .val (.long q4), .second, .val (.int p5), .val (.long us), .second, .val (.long um), .second, .val (.long ut), .second, .val (.long un), .second, .val (.long us), .second, .val (.ref b19), .val (.int (1 : Int32)), .val (.int (0 : Int32)), .val (.int (0 : Int32))] at_134 rfl ?_
        refine Own.aload at_136 rfl rfl ?_
        refine Own.lload at_138 rfl ?_
        refine Own.callVP b19 [(.long un)] [] 0 (rmL l Z a0 hw [] b19 un um (us + ut) us h24 n0 hn F_maxIdle F_maxTimeExpiration F_latestAccess) (hw _ (List.mem_of_getElem? (i := 37) rfl)) (hw _ (List.mem_of_getElem? (i := 38) rfl)) (fun s hZ => notFace_of_selects (args := #[]) (mvT hZ (hw _ (List.mem_of_getElem? (i := 40) rfl)))) (hw _ (List.mem_of_getElem? (i := 40) rfl)) (hw _ (List.mem_of_getElem? (i := 39) rfl)) (hw _ (List.mem_of_getElem? (i := 3) rfl)) (hw _ (List.mem_of_getElem? (i := 41) rfl)) (by decide) X_b19 at_140 pd_2 rfl rfl rfl rfl (by decide) (by decide) (by decide) (by decide) ?_
        refine Own.iload at_143 rfl ?_
        refine Own.icmp_ne 152 at_145 (by decide) rfl (fun q => absurd (by rw [own_lv]; first | rw [if_pos ((own_swap b_now b_lat b_mi).mp c91), if_pos ((own_swap b_now b_st b_mt).mp c109)] | rw [if_pos ((own_swap b_now b_lat b_mi).mp c91), if_neg (fun q => c109 ((own_swap b_now b_st b_mt).mpr q))] | rw [if_neg (fun q => c91 ((own_swap b_now b_lat b_mi).mpr q))]) q) (fun _ => ?_)
        refine Own.iconst (1 : Int32) at_148 rfl ?_
        refine Own.goto_ 153 at_149 (by decide) rfl ?_
        refine Own.ret_nar (t := .boolean) (by simp) rfl at_153 (by decide) (by decide) ?_
        exact rfl
      · refine Own.iconst (1 : Int32) at_112 rfl ?_
        refine Own.goto_ 117 at_113 (by decide) rfl ?_
        refine Own.istore #[.val (.long q0), .second, .val (.long q1), .second, .val (.long q2), .second, .val (.long q3), .second, .val (.long q4), .second, .val (.int p5), .val (.long us), .second, .val (.long um), .second, .val (.long ut), .second, .val (.long un), .second, .val (.long us), .second, .val (.ref b19), .val (.int (1 : Int32)), .val (.int (1 : Int32)), .unset] at_117 rfl ?_
        refine Own.iload at_119 rfl ?_
        refine Own.if_eq 133 at_121 (by decide) rfl (fun q => absurd q (by decide)) (fun _ => ?_)
        refine Own.iload at_124 rfl ?_
        refine Own.if_eq 133 at_126 (by decide) rfl (fun q => absurd q (by decide)) (fun _ => ?_)
        refine Own.iconst (1 : Int32) at_129 rfl ?_
        refine Own.goto_ 134 at_130 (by decide) rfl ?_
        refine Own.istore #[.val (.long q0), .second, .val (.long q1), .second, .val (.long q2), .second, .val (.long q3), .second, .val (.long q4), .second, .val (.int p5), .val (.long us), .second, .val (.long um), .second, .val (.long ut), .second, .val (.long un), .second, .val (.long us), .second, .val (.ref b19), .val (.int (1 : Int32)), .val (.int (1 : Int32)), .val (.int (1 : Int32))] at_134 rfl ?_
        refine Own.aload at_136 rfl rfl ?_
        refine Own.lload at_138 rfl ?_
        refine Own.callVP b19 [(.long un)] [] 0 (rmL l Z a0 hw [] b19 un um (us + ut) us h24 n0 hn F_maxIdle F_maxTimeExpiration F_latestAccess) (hw _ (List.mem_of_getElem? (i := 37) rfl)) (hw _ (List.mem_of_getElem? (i := 38) rfl)) (fun s hZ => notFace_of_selects (args := #[]) (mvT hZ (hw _ (List.mem_of_getElem? (i := 40) rfl)))) (hw _ (List.mem_of_getElem? (i := 40) rfl)) (hw _ (List.mem_of_getElem? (i := 39) rfl)) (hw _ (List.mem_of_getElem? (i := 3) rfl)) (hw _ (List.mem_of_getElem? (i := 41) rfl)) (by decide) X_b19 at_140 pd_2 rfl rfl rfl rfl (by decide) (by decide) (by decide) (by decide) ?_
        refine Own.iload at_143 rfl ?_
        refine Own.icmp_ne 152 at_145 (by decide) rfl (fun q => absurd (by rw [own_lv]; first | rw [if_pos ((own_swap b_now b_lat b_mi).mp c91), if_pos ((own_swap b_now b_st b_mt).mp c109)] | rw [if_pos ((own_swap b_now b_lat b_mi).mp c91), if_neg (fun q => c109 ((own_swap b_now b_st b_mt).mpr q))] | rw [if_neg (fun q => c91 ((own_swap b_now b_lat b_mi).mpr q))]) q) (fun _ => ?_)
        refine Own.iconst (1 : Int32) at_148 rfl ?_
        refine Own.goto_ 153 at_149 (by decide) rfl ?_
        refine Own.ret_nar (t := .boolean) (by simp) rfl at_153 (by decide) (by decide) ?_
        exact rfl
  · refine Own.lload at_66 rfl ?_
    refine Own.lload at_68 rfl ?_
    refine Own.bipush (20 : Int32) at_70 rfl ?_
    refine Own.lshr at_72 ?_
    refine Own.ladd at_73 ?_
    obtain ⟨ul, e_ul⟩ : ∃ z : Int64, z = (us + (q4 >>> ((20 : Int32) &&& 0x3f).toInt64)) := ⟨_, rfl⟩
    rw [← e_ul]
    refine Own.lstore #[.val (.long q0), .second, .val (.long q1), .second, .val (.long q2), .second, .val (.long q3), .second, .val (.long q4), .second, .val (.int p5), .val (.long us), .second, .val (.long um), .second, .val (.long ut), .second, .val (.long un), .second, .val (.long ul), .second, .val (.ref b19), .unset, .unset, .unset] at_74 rfl ?_
    refine Own.aload at_76 rfl rfl ?_
    refine Own.lload at_78 rfl ?_
    refine Own.callV_ b19 [(.long ul)] [] 0 (rmU l Z a0 hw [] b19 ul um (us + ut) us h24 n0 hn g_b19 X_b19 F_maxIdle F_maxTimeExpiration F_latestAccess) (hw _ (List.mem_of_getElem? (i := 42) rfl)) (hw _ (List.mem_of_getElem? (i := 43) rfl)) (fun s hZ => notFace_of_selects (args := #[]) (mvT hZ (hw _ (List.mem_of_getElem? (i := 45) rfl)))) (hw _ (List.mem_of_getElem? (i := 45) rfl)) (hw _ (List.mem_of_getElem? (i := 44) rfl)) (hw _ (List.mem_of_getElem? (i := 3) rfl)) (hw _ (List.mem_of_getElem? (i := 46) rfl)) (by decide) X_b19 at_80 pd_1 rfl rfl rfl rfl (by decide) (by decide) (by decide) (by decide) (fun v26 h26 hq26 => ?_)
    obtain ⟨rfl, K27, G1, G2, G3⟩ := hq26
    have hn := Nat.le_trans hn K27.1
    replace X_b19 := X_b19.keep K27
    have F_maxIdle := G1
    have F_maxTimeExpiration := G2
    have F_latestAccess := G3
    refine OAt.cast (st' := []) rfl ?_
    have b_lat : -100000000000000 ≤ ul.toInt ∧ ul.toInt ≤ 100000000000000 := by
      have h1 := own_shr q4; rw [e_ul, own_add ⟨by omega, by omega⟩ ⟨by omega, by omega⟩]; omega
    refine Own.lload at_83 rfl ?_
    refine Own.lload at_85 rfl ?_
    refine Own.lsub at_87 ?_
    refine Own.lload at_88 rfl ?_
    refine Own.lcmp at_90 ?_
    refine Own.if_ge 98 at_91 (by decide) rfl (fun c91 => ?_) (fun c91 => ?_)
    · refine Own.iconst (0 : Int32) at_98 rfl ?_
      refine Own.istore #[.val (.long q0), .second, .val (.long q1), .second, .val (.long q2), .second, .val (.long q3), .second, .val (.long q4), .second, .val (.int p5), .val (.long us), .second, .val (.long um), .second, .val (.long ut), .second, .val (.long un), .second, .val (.long ul), .second, .val (.ref b19), .val (.int (0 : Int32)), .unset, .unset] at_99 rfl ?_
      refine Own.lload at_101 rfl ?_
      refine Own.lload at_103 rfl ?_
      refine Own.lsub at_105 ?_
      refine Own.lload at_106 rfl ?_
      refine Own.lcmp at_108 ?_
      refine Own.if_ge 116 at_109 (by decide) rfl (fun c109 => ?_) (fun c109 => ?_)
      · refine Own.iconst (0 : Int32) at_116 rfl ?_
        refine Own.istore #[.val (.long q0), .second, .val (.long q1), .second, .val (.long q2), .second, .val (.long q3), .second, .val (.long q4), .second, .val (.int p5), .val (.long us), .second, .val (.long um), .second, .val (.long ut), .second, .val (.long un), .second, .val (.long ul), .second, .val (.ref b19), .val (.int (0 : Int32)), .val (.int (0 : Int32)), .unset] at_117 rfl ?_
        refine Own.iload at_119 rfl ?_
        refine Own.if_eq 133 at_121 (by decide) rfl (fun _ => ?_) (fun q => absurd (by decide) q)
        refine Own.iconst (0 : Int32) at_133 rfl ?_
        refine Own.istore #[.val (.long q0), .second, .val (.long q1), .second, .val (.long q2), .second, .val (.long q3), .second, .val (.long q4), .second, .val (.int p5), .val (.long us), .second, .val (.long um), .second, .val (.long ut), .second, .val (.long un), .second, .val (.long ul), .second, .val (.ref b19), .val (.int (0 : Int32)), .val (.int (0 : Int32)), .val (.int (0 : Int32))] at_134 rfl ?_
        refine Own.aload at_136 rfl rfl ?_
        refine Own.lload at_138 rfl ?_
        refine Own.callVP b19 [(.long un)] [] 0 (rmL l Z a0 hw [] b19 un um (us + ut) ul h26 n0 hn F_maxIdle F_maxTimeExpiration F_latestAccess) (hw _ (List.mem_of_getElem? (i := 37) rfl)) (hw _ (List.mem_of_getElem? (i := 38) rfl)) (fun s hZ => notFace_of_selects (args := #[]) (mvT hZ (hw _ (List.mem_of_getElem? (i := 40) rfl)))) (hw _ (List.mem_of_getElem? (i := 40) rfl)) (hw _ (List.mem_of_getElem? (i := 39) rfl)) (hw _ (List.mem_of_getElem? (i := 3) rfl)) (hw _ (List.mem_of_getElem? (i := 41) rfl)) (by decide) X_b19 at_140 pd_2 rfl rfl rfl rfl (by decide) (by decide) (by decide) (by decide) ?_
        refine Own.iload at_143 rfl ?_
        refine Own.icmp_ne 152 at_145 (by decide) rfl (fun q => absurd (by rw [own_lv]; first | rw [if_pos ((own_swap b_now b_lat b_mi).mp c91), if_pos ((own_swap b_now b_st b_mt).mp c109)] | rw [if_pos ((own_swap b_now b_lat b_mi).mp c91), if_neg (fun q => c109 ((own_swap b_now b_st b_mt).mpr q))] | rw [if_neg (fun q => c91 ((own_swap b_now b_lat b_mi).mpr q))]) q) (fun _ => ?_)
        refine Own.iconst (1 : Int32) at_148 rfl ?_
        refine Own.goto_ 153 at_149 (by decide) rfl ?_
        refine Own.ret_nar (t := .boolean) (by simp) rfl at_153 (by decide) (by decide) ?_
        exact rfl
      · refine Own.iconst (1 : Int32) at_112 rfl ?_
        refine Own.goto_ 117 at_113 (by decide) rfl ?_
        refine Own.istore #[.val (.long q0), .second, .val (.long q1), .second, .val (.long q2), .second, .val (.long q3), .second, .val (.long q4), .second, .val (.int p5), .val (.long us), .second, .val (.long um), .second, .val (.long ut), .second, .val (.long un), .second, .val (.long ul), .second, .val (.ref b19), .val (.int (0 : Int32)), .val (.int (1 : Int32)), .unset] at_117 rfl ?_
        refine Own.iload at_119 rfl ?_
        refine Own.if_eq 133 at_121 (by decide) rfl (fun _ => ?_) (fun q => absurd (by decide) q)
        refine Own.iconst (0 : Int32) at_133 rfl ?_
        refine Own.istore #[.val (.long q0), .second, .val (.long q1), .second, .val (.long q2), .second, .val (.long q3), .second, .val (.long q4), .second, .val (.int p5), .val (.long us), .second, .val (.long um), .second, .val (.long ut), .second, .val (.long un), .second, .val (.long ul), .second, .val (.ref b19), .val (.int (0 : Int32)), .val (.int (1 : Int32)), .val (.int (0 : Int32))] at_134 rfl ?_
        refine Own.aload at_136 rfl rfl ?_
        refine Own.lload at_138 rfl ?_
        refine Own.callVP b19 [(.long un)] [] 0 (rmL l Z a0 hw [] b19 un um (us + ut) ul h26 n0 hn F_maxIdle F_maxTimeExpiration F_latestAccess) (hw _ (List.mem_of_getElem? (i := 37) rfl)) (hw _ (List.mem_of_getElem? (i := 38) rfl)) (fun s hZ => notFace_of_selects (args := #[]) (mvT hZ (hw _ (List.mem_of_getElem? (i := 40) rfl)))) (hw _ (List.mem_of_getElem? (i := 40) rfl)) (hw _ (List.mem_of_getElem? (i := 39) rfl)) (hw _ (List.mem_of_getElem? (i := 3) rfl)) (hw _ (List.mem_of_getElem? (i := 41) rfl)) (by decide) X_b19 at_140 pd_2 rfl rfl rfl rfl (by decide) (by decide) (by decide) (by decide) ?_
        refine Own.iload at_143 rfl ?_
        refine Own.icmp_ne 152 at_145 (by decide) rfl (fun q => absurd (by rw [own_lv]; first | rw [if_pos ((own_swap b_now b_lat b_mi).mp c91), if_pos ((own_swap b_now b_st b_mt).mp c109)] | rw [if_pos ((own_swap b_now b_lat b_mi).mp c91), if_neg (fun q => c109 ((own_swap b_now b_st b_mt).mpr q))] | rw [if_neg (fun q => c91 ((own_swap b_now b_lat b_mi).mpr q))]) q) (fun _ => ?_)
        refine Own.iconst (1 : Int32) at_148 rfl ?_
        refine Own.goto_ 153 at_149 (by decide) rfl ?_
        refine Own.ret_nar (t := .boolean) (by simp) rfl at_153 (by decide) (by decide) ?_
        exact rfl
    · refine Own.iconst (1 : Int32) at_94 rfl ?_
      refine Own.goto_ 99 at_95 (by decide) rfl ?_
      refine Own.istore #[.val (.long q0), .second, .val (.long q1), .second, .val (.long q2), .second, .val (.long q3), .second, .val (.long q4), .second, .val (.int p5), .val (.long us), .second, .val (.long um), .second, .val (.long ut), .second, .val (.long un), .second, .val (.long ul), .second, .val (.ref b19), .val (.int (1 : Int32)), .unset, .unset] at_99 rfl ?_
      refine Own.lload at_101 rfl ?_
      refine Own.lload at_103 rfl ?_
      refine Own.lsub at_105 ?_
      refine Own.lload at_106 rfl ?_
      refine Own.lcmp at_108 ?_
      refine Own.if_ge 116 at_109 (by decide) rfl (fun c109 => ?_) (fun c109 => ?_)
      · refine Own.iconst (0 : Int32) at_116 rfl ?_
        refine Own.istore #[.val (.long q0), .second, .val (.long q1), .second, .val (.long q2), .second, .val (.long q3), .second, .val (.long q4), .second, .val (.int p5), .val (.long us), .second, .val (.long um), .second, .val (.long ut), .second, .val (.long un), .second, .val (.long ul), .second, .val (.ref b19), .val (.int (1 : Int32)), .val (.int (0 : Int32)), .unset] at_117 rfl ?_
        refine Own.iload at_119 rfl ?_
        refine Own.if_eq 133 at_121 (by decide) rfl (fun q => absurd q (by decide)) (fun _ => ?_)
        refine Own.iload at_124 rfl ?_
        refine Own.if_eq 133 at_126 (by decide) rfl (fun _ => ?_) (fun q => absurd (by decide) q)
        refine Own.iconst (0 : Int32) at_133 rfl ?_
        refine Own.istore #[.val (.long q0), .second, .val (.long q1), .second, .val (.long q2), .second, .val (.long q3), .second, .val (.long q4), .second, .val (.int p5), .val (.long us), .second, .val (.long um), .second, .val (.long ut), .second, .val (.long un), .second, .val (.long ul), .second, .val (.ref b19), .val (.int (1 : Int32)), .val (.int (0 : Int32)), .val (.int (0 : Int32))] at_134 rfl ?_
        refine Own.aload at_136 rfl rfl ?_
        refine Own.lload at_138 rfl ?_
        refine Own.callVP b19 [(.long un)] [] 0 (rmL l Z a0 hw [] b19 un um (us + ut) ul h26 n0 hn F_maxIdle F_maxTimeExpiration F_latestAccess) (hw _ (List.mem_of_getElem? (i := 37) rfl)) (hw _ (List.mem_of_getElem? (i := 38) rfl)) (fun s hZ => notFace_of_selects (args := #[]) (mvT hZ (hw _ (List.mem_of_getElem? (i := 40) rfl)))) (hw _ (List.mem_of_getElem? (i := 40) rfl)) (hw _ (List.mem_of_getElem? (i := 39) rfl)) (hw _ (List.mem_of_getElem? (i := 3) rfl)) (hw _ (List.mem_of_getElem? (i := 41) rfl)) (by decide) X_b19 at_140 pd_2 rfl rfl rfl rfl (by decide) (by decide) (by decide) (by decide) ?_
        refine Own.iload at_143 rfl ?_
        refine Own.icmp_ne 152 at_145 (by decide) rfl (fun q => absurd (by rw [own_lv]; first | rw [if_pos ((own_swap b_now b_lat b_mi).mp c91), if_pos ((own_swap b_now b_st b_mt).mp c109)] | rw [if_pos ((own_swap b_now b_lat b_mi).mp c91), if_neg (fun q => c109 ((own_swap b_now b_st b_mt).mpr q))] | rw [if_neg (fun q => c91 ((own_swap b_now b_lat b_mi).mpr q))]) q) (fun _ => ?_)
        refine Own.iconst (1 : Int32) at_148 rfl ?_
        refine Own.goto_ 153 at_149 (by decide) rfl ?_
        refine Own.ret_nar (t := .boolean) (by simp) rfl at_153 (by decide) (by decide) ?_
        exact rfl
      · refine Own.iconst (1 : Int32) at_112 rfl ?_
        refine Own.goto_ 117 at_113 (by decide) rfl ?_
        refine Own.istore #[.val (.long q0), .second, .val (.long q1), .second, .val (.long q2), .second, .val (.long q3), .second, .val (.long q4), .second, .val (.int p5), .val (.long us), .second, .val (.long um), .second, .val (.long ut), .second, .val (.long un), .second, .val (.long ul), .second, .val (.ref b19), .val (.int (1 : Int32)), .val (.int (1 : Int32)), .unset] at_117 rfl ?_
        refine Own.iload at_119 rfl ?_
        refine Own.if_eq 133 at_121 (by decide) rfl (fun q => absurd q (by decide)) (fun _ => ?_)
        refine Own.iload at_124 rfl ?_
        refine Own.if_eq 133 at_126 (by decide) rfl (fun q => absurd q (by decide)) (fun _ => ?_)
        refine Own.iconst (1 : Int32) at_129 rfl ?_
        refine Own.goto_ 134 at_130 (by decide) rfl ?_
        refine Own.istore #[.val (.long q0), .second, .val (.long q1), .second, .val (.long q2), .second, .val (.long q3), .second, .val (.long q4), .second, .val (.int p5), .val (.long us), .second, .val (.long um), .second, .val (.long ut), .second, .val (.long un), .second, .val (.long ul), .second, .val (.ref b19), .val (.int (1 : Int32)), .val (.int (1 : Int32)), .val (.int (1 : Int32))] at_134 rfl ?_
        refine Own.aload at_136 rfl rfl ?_
        refine Own.lload at_138 rfl ?_
        refine Own.callVP b19 [(.long un)] [] 0 (rmL l Z a0 hw [] b19 un um (us + ut) ul h26 n0 hn F_maxIdle F_maxTimeExpiration F_latestAccess) (hw _ (List.mem_of_getElem? (i := 37) rfl)) (hw _ (List.mem_of_getElem? (i := 38) rfl)) (fun s hZ => notFace_of_selects (args := #[]) (mvT hZ (hw _ (List.mem_of_getElem? (i := 40) rfl)))) (hw _ (List.mem_of_getElem? (i := 40) rfl)) (hw _ (List.mem_of_getElem? (i := 39) rfl)) (hw _ (List.mem_of_getElem? (i := 3) rfl)) (hw _ (List.mem_of_getElem? (i := 41) rfl)) (by decide) X_b19 at_140 pd_2 rfl rfl rfl rfl (by decide) (by decide) (by decide) (by decide) ?_
        refine Own.iload at_143 rfl ?_
        refine Own.icmp_ne 152 at_145 (by decide) rfl (fun q => absurd (by rw [own_lv]; first | rw [if_pos ((own_swap b_now b_lat b_mi).mp c91), if_pos ((own_swap b_now b_st b_mt).mp c109)] | rw [if_pos ((own_swap b_now b_lat b_mi).mp c91), if_neg (fun q => c109 ((own_swap b_now b_st b_mt).mpr q))] | rw [if_neg (fun q => c91 ((own_swap b_now b_lat b_mi).mpr q))]) q) (fun _ => ?_)
        refine Own.iconst (1 : Int32) at_148 rfl ?_
        refine Own.goto_ 153 at_149 (by decide) rfl ?_
        refine Own.ret_nar (t := .boolean) (by simp) rfl at_153 (by decide) (by decide) ?_
        exact rfl
set_option maxRecDepth 65536 in
set_option maxHeartbeats 40000000 in
theorem comes_1 {Post : Tables → Env → Array Value → State → Outcome → State → Prop} (hpost : ∀ tb e args s v u, (limb_1_1.after args s (.returned v) u = true ∧ limb_1_2.after args s (.returned v) u = true ∧ True) → ReturnedEndW s (.returned v) u (Jvm.fieldLocs frame_1_writes args s ++ Jvm.arrayLocs frame_1_arrays args s ++ Jvm.staticLocs frame_1_statics s) 24 4224 → Post tb e args s (.returned v) u) :
    ArmFor flags0 classFile x code maxLocals ret World_1 tables_1 room_1 Calls_1 rest_1 Pre_1 Post := by
  intro l hfl _ _ p e ha hc hk s m args below hf hA hF happ hP
  obtain ⟨hcalls, hrest, hpre⟩ := hP
  obtain ⟨-, -, -, hnamed, -, -, -, hat⟩ := (Spec.applies_iff hf).mp happ
  obtain ⟨hg, hn⟩ := and_e (Cond.before_iff.mp (show (Jvm.Cond.and given_1 narrow_1).before args s = true from hpre))
  obtain ⟨gc, ga0⟩ := and_e hg
  obtain ⟨g0, ga1⟩ := and_e ga0
  obtain ⟨g1, ga2⟩ := and_e ga1
  obtain ⟨g2, ga3⟩ := and_e ga2
  obtain ⟨g3, ga4⟩ := and_e ga3
  obtain ⟨g4, ga5⟩ := and_e ga4
  have g5 := ga5
  obtain ⟨w0, w1, w2, w3, w4, w5, rfl⟩ : ∃ w0 w1 w2 w3 w4 w5 : Value, args = #[w0, w1, w2, w3, w4, w5] := by
    have hs : args.size = 6 := by simpa [Cond.value, given_1] using gc
    obtain ⟨L⟩ := args
    match L, hs with
    | [w0, w1, w2, w3, w4, w5], _ => exact ⟨w0, w1, w2, w3, w4, w5, rfl⟩
  have hw := fun d (hd : d ∈ tables_1) => atoms_spec (ws := Jvm.Cond.code x code maxLocals ret :: tables_1) hat d (List.mem_cons_of_mem _ hd)
  have hfit : Fit s := fun {y c} hc i hi => by
    obtain ⟨ha, rfl⟩ := Array.getElem?_eq_some_iff.mp hc
    have q := List.all_eq_true.mp ((Array.all_eq_true_iff_forall_mem.mp hF) _ (Array.getElem_mem ha)) i (List.mem_range.mpr hi)
    simpa [Array.getElem?_eq_getElem hi] using q
  obtain ⟨i0, ei0⟩ := isL_v g0
  obtain rfl : w0 = (.long i0) := Option.some.inj ei0
  obtain ⟨i1, ei1⟩ := isL_v g1
  obtain rfl : w1 = (.long i1) := Option.some.inj ei1
  obtain ⟨i2, ei2⟩ := isL_v g2
  obtain rfl : w2 = (.long i2) := Option.some.inj ei2
  obtain ⟨i3, ei3⟩ := isL_v g3
  obtain rfl : w3 = (.long i3) := Option.some.inj ei3
  obtain ⟨i4, ei4⟩ := isL_v g4
  obtain rfl : w4 = (.long i4) := Option.some.inj ei4
  obtain ⟨i5, ei5⟩ := is_v g5
  obtain rfl : w5 = (.int i5) := Option.some.inj ei5
  obtain ⟨n, o, h1, h2, h3, _, L, rfl, ⟨N, -, rfl⟩, hq⟩ := rm0 l s _ hw tables_1 i0 i1 i2 i3 i4 i5 s.heap s.heap.size (Nat.le_refl _) p e ha hc hk s m _ below hf ((Spec.applies_iff_loose hf).mp happ).1 ⟨rfl, State.Warmed39.refl s, rfl⟩ trivial
  refine ⟨n, _, h1, h2, h3, hpost _ _ _ _ _ _ ⟨Cond.after_iff.mpr rfl, Cond.after_iff.mpr (eq_i res_at (Term.int_eval (1)) rfl), trivial⟩ ⟨hq.1, hq.2.1, hq.2.2.1, (hq.2.2.2.sift fun y hy => Or.inr (N y hy)).mono (by decide) (by decide)⟩⟩
theorem main_1_1 : Claimed_1_1 := comes_1 fun _ _ _ _ _ _ h hF => ⟨h.1, hF⟩
theorem main_1_2 : Claimed_1_2 := comes_1 fun _ _ _ _ _ _ h hF => ⟨h.2.1, hF⟩
end Jvm.Pilot.@@N@@
namespace Jvm.Pilot.@@N@@
open Jvm Jvm.ClassFile Sem Op Lib Jvm.Free Jvm.Stand Jvm.Pilot.@@N@@.Jvm.D
/-! MADE BY PROGRAM (witnessworld.py) out of the Statement's table words and the real class files: 14 classes; the members and pool entries that the words name. The judged class is class 1, her method 1. -/
namespace start1
open Jvm.ClassFile
def u (s : String) : CpInfo := .utf8 (stringToUtf16 s)
/-- a pool by its gaps: so many unusable entries, then the entry; so many at the end -/
def gap : Nat → List CpInfo → List CpInfo
  | 0, r => r
  | n + 1, r => .unusable :: gap n r
def poolList (es : List (Nat × CpInfo)) (last : Nat) : List CpInfo := es.foldr (fun e r => gap e.1 (e.2 :: r)) (gap last [])
def pool (es : List (Nat × CpInfo)) (last : Nat) : Array CpInfo := ⟨poolList es last⟩
def fileOf (pool : Array CpInfo) (this : Nat) (attrs : Array Attribute := #[]) (ms : Array MethodInfo := #[]) (fl : Nat := 33) (sup : Nat := 0) (ifs : Array Nat := #[]) (fds : Array FieldInfo := #[]) : ClassFile where
  minorVersion := 0
  majorVersion := 65
  constantPool := pool
  accessFlags := fl
  thisClass := this
  superClass := sup
  interfaces := ifs
  fields := fds
  methods := ms
  attributes := attrs
def plain (name : String) (sup : Option ClassId) : Class where
  name := name
  kind := .ordinary
  loader := none
  accessFlags := 33
  super := sup
  interfaces := #[]
  cf := none
  fields := #[]
  methods := #[]
  instanceTypes := #[]
  staticTypes := #[]
  resolved := #[]
  callSites := []
  init := .initialized
  statics := none
  mirror := none

def pool0 : Array CpInfo := pool [(5, u "<init>"), (0, u "()V"), (1, .class_ 10), (1, u "java/lang/Object")] 113

def k0c0 : Code := { maxStack := 0, maxLocals := 1, code := object_method_1_code, exceptionTable := #[], attributes := #[] }
def k0m0 : Method := { name := "<init>", desc := "()V", sig := { parameters := [], returnType := none }, accessFlags := 1, code := some k0c0 }
/-- java/lang/Object -/
def k0 : Class := { plain "java/lang/Object" none with
  accessFlags := 33
  interfaces := #[]
  cf := some (fileOf pool0 8 #[] #[{ accessFlags := 1, nameIndex := 5, descriptorIndex := 6, attributes := #[] }] 33 0 #[] #[])
  fields := #[]
  methods := #[k0m0]
  instanceTypes := #[]
  staticTypes := #[]
  resolved := Array.replicate 124 none
  statics := none }

def pool1 : Array CpInfo := pool [(2, .class_ 4), (1, u "java/lang/Object"), (0, u "<init>"), (0, u "()V"), (0, .long 4398046511103), (1, .class_ 10), (0, u "com/example/authweave/authweave/session/Session"), (0, .string 12), (0, u "t"), (0, .string 14), (0, u "h"), (0, .string 16), (0, u "r"), (0, .string 18), (0, u "u"), (0, .methodref 9 20), (0, .nameAndType 5 21), (0, u "(Ljava/lang/String;Ljava/lang/String;Ljava/lang/String;Ljava/lang/String;IJJJ)V"), (0, .methodref 9 23), (0, .nameAndType 24 25), (0, u "usedAt"), (0, u "(J)V"), (0, .methodref 9 27), (0, .nameAndType 28 29), (0, u "liveAt"), (0, u "(J)Z"), (0, .class_ 31), (0, u "com/example/authweave/authweave/session/SessionLiveAtPinLaw"), (2, u "law"), (0, u "(JJJJJI)Z")] 3

def k1m0 : Method := { name := "<init>", desc := "()V", sig := { parameters := [], returnType := none }, accessFlags := 1, code := none }
def k1c1 : Code := { maxStack := 13, maxLocals := 25, code := code, exceptionTable := #[], attributes := #[] }
def k1m1 : Method := { name := "law", desc := "(JJJJJI)Z", sig := { parameters := [.long, .long, .long, .long, .long, .int], returnType := some .boolean }, accessFlags := 9, code := some k1c1 }
/-- com/example/authweave/authweave/session/SessionLiveAtPinLaw -/
def k1 : Class := { plain "com/example/authweave/authweave/session/SessionLiveAtPinLaw" (some 0) with
  accessFlags := 49
  interfaces := #[]
  cf := some (fileOf pool1 30 #[] #[{ accessFlags := 1, nameIndex := 5, descriptorIndex := 6, attributes := #[] }, { accessFlags := 9, nameIndex := 34, descriptorIndex := 35, attributes := #[] }] 49 2 #[] #[])
  fields := #[]
  methods := #[k1m0, k1m1]
  instanceTypes := #[]
  staticTypes := #[]
  resolved := Array.replicate 39 none
  statics := none }

def pool2 : Array CpInfo := pool [(1, .methodref 2 3), (0, .class_ 4), (0, .nameAndType 5 6), (0, u "java/lang/Object"), (0, u "<init>"), (0, u "()V"), (0, .fieldref 8 9), (0, .class_ 10), (0, .nameAndType 11 12), (0, u "com/example/authweave/authweave/session/Session"), (0, u "token"), (0, u "Ljava/lang/String;"), (0, .fieldref 8 14), (0, .nameAndType 15 12), (0, u "handle"), (0, .fieldref 8 17), (0, .nameAndType 18 12), (0, u "realm"), (0, .fieldref 8 20), (0, .nameAndType 21 12), (0, u "username"), (0, .fieldref 8 23), (0, .nameAndType 24 25), (0, u "authLevel"), (0, u "I"), (0, .fieldref 8 27), (0, .nameAndType 28 29), (0, u "maxIdle"), (0, u "J"), (0, .fieldref 8 31), (0, .nameAndType 32 29), (0, u "maxTimeExpiration"), (0, .fieldref 8 34), (0, .nameAndType 35 29), (0, u "latestAccess"), (12, u "older"), (0, u "Lcom/example/authweave/authweave/session/Session;"), (0, u "newer"), (0, u "(Ljava/lang/String;Ljava/lang/String;Ljava/lang/String;Ljava/lang/String;IJJJ)V"), (8, u "liveAt"), (0, u "(J)Z"), (1, u "usedAt"), (0, u "(J)V")] 2

def k2c0 : Code := { maxStack := 5, maxLocals := 12, code := prog_82_method_1_code, exceptionTable := #[], attributes := #[] }
def k2m0 : Method := { name := "<init>", desc := "(Ljava/lang/String;Ljava/lang/String;Ljava/lang/String;Ljava/lang/String;IJJJ)V", sig := { parameters := [(.object "java/lang/String"), (.object "java/lang/String"), (.object "java/lang/String"), (.object "java/lang/String"), .int, .long, .long, .long], returnType := none }, accessFlags := 0, code := some k2c0 }
def k2c1 : Code := { maxStack := 6, maxLocals := 3, code := prog_82_method_10_code, exceptionTable := #[], attributes := #[] }
def k2m1 : Method := { name := "liveAt", desc := "(J)Z", sig := { parameters := [.long], returnType := some .boolean }, accessFlags := 0, code := some k2c1 }
def k2c2 : Code := { maxStack := 3, maxLocals := 3, code := prog_82_method_11_code, exceptionTable := #[], attributes := #[] }
def k2m2 : Method := { name := "usedAt", desc := "(J)V", sig := { parameters := [.long], returnType := none }, accessFlags := 0, code := some k2c2 }
/-- com/example/authweave/authweave/session/Session -/
def k2 : Class := { plain "com/example/authweave/authweave/session/Session" (some 0) with
  accessFlags := 49
  interfaces := #[]
  cf := some (fileOf pool2 8 #[] #[{ accessFlags := 0, nameIndex := 5, descriptorIndex := 51, attributes := #[] }, { accessFlags := 0, nameIndex := 60, descriptorIndex := 61, attributes := #[] }, { accessFlags := 0, nameIndex := 63, descriptorIndex := 64, attributes := #[] }] 49 2 #[] #[{ accessFlags := 18, nameIndex := 11, descriptorIndex := 12, attributes := #[] }, { accessFlags := 18, nameIndex := 15, descriptorIndex := 12, attributes := #[] }, { accessFlags := 18, nameIndex := 18, descriptorIndex := 12, attributes := #[] }, { accessFlags := 18, nameIndex := 21, descriptorIndex := 12, attributes := #[] }, { accessFlags := 18, nameIndex := 24, descriptorIndex := 25, attributes := #[] }, { accessFlags := 18, nameIndex := 28, descriptorIndex := 29, attributes := #[] }, { accessFlags := 18, nameIndex := 32, descriptorIndex := 29, attributes := #[] }, { accessFlags := 66, nameIndex := 35, descriptorIndex := 29, attributes := #[] }, { accessFlags := 0, nameIndex := 48, descriptorIndex := 49, attributes := #[] }, { accessFlags := 0, nameIndex := 50, descriptorIndex := 49, attributes := #[] }])
  fields := #[{ name := "token", type := (.object "java/lang/String"), accessFlags := 18, slot := 0, constantValue := 0 }, { name := "handle", type := (.object "java/lang/String"), accessFlags := 18, slot := 1, constantValue := 0 }, { name := "realm", type := (.object "java/lang/String"), accessFlags := 18, slot := 2, constantValue := 0 }, { name := "username", type := (.object "java/lang/String"), accessFlags := 18, slot := 3, constantValue := 0 }, { name := "authLevel", type := .int, accessFlags := 18, slot := 4, constantValue := 0 }, { name := "maxIdle", type := .long, accessFlags := 18, slot := 5, constantValue := 0 }, { name := "maxTimeExpiration", type := .long, accessFlags := 18, slot := 6, constantValue := 0 }, { name := "latestAccess", type := .long, accessFlags := 66, slot := 7, constantValue := 0 }, { name := "older", type := (.object "com/example/authweave/authweave/session/Session"), accessFlags := 0, slot := 8, constantValue := 0 }, { name := "newer", type := (.object "com/example/authweave/authweave/session/Session"), accessFlags := 0, slot := 9, constantValue := 0 }]
  methods := #[k2m0, k2m1, k2m2]
  instanceTypes := #[(.object "java/lang/String"), (.object "java/lang/String"), (.object "java/lang/String"), (.object "java/lang/String"), .int, .long, .long, .long, (.object "com/example/authweave/authweave/session/Session"), (.object "com/example/authweave/authweave/session/Session")]
  staticTypes := #[]
  resolved := Array.replicate 67 none
  statics := none }

def pool3 : Array CpInfo := pool [(1, .class_ 2), (0, u "java/io/Serializable"), (0, .class_ 4), (0, u "java/lang/Object")] 2

/-- java/io/Serializable -/
def k3 : Class := { plain "java/io/Serializable" (some 0) with
  accessFlags := 1537
  interfaces := #[]
  cf := some (fileOf pool3 1 #[] #[] 1537 3 #[] #[])
  fields := #[]
  methods := #[]
  instanceTypes := #[]
  staticTypes := #[]
  resolved := Array.replicate 7 none
  statics := none }

def pool4 : Array CpInfo := pool [(1, .class_ 2), (0, u "java/lang/Comparable"), (0, .class_ 4), (0, u "java/lang/Object")] 7

/-- java/lang/Comparable -/
def k4 : Class := { plain "java/lang/Comparable" (some 0) with
  accessFlags := 1537
  interfaces := #[]
  cf := some (fileOf pool4 1 #[] #[] 1537 3 #[] #[])
  fields := #[]
  methods := #[]
  instanceTypes := #[]
  staticTypes := #[]
  resolved := Array.replicate 12 none
  statics := none }

def pool5 : Array CpInfo := pool [(2, .class_ 4), (1, u "java/lang/CharSequence"), (42, .class_ 48), (0, u "java/lang/CharSequence$1CodePointIterator"), (10, .class_ 60), (0, u "java/lang/CharSequence$1CharIterator"), (5, .class_ 67), (0, u "java/lang/Object")] 63

/-- java/lang/CharSequence -/
def k5 : Class := { plain "java/lang/CharSequence" (some 0) with
  accessFlags := 1537
  interfaces := #[]
  cf := some (fileOf pool5 2 #[.nestMembers #[47, 59]] #[] 1537 66 #[] #[])
  fields := #[]
  methods := #[]
  instanceTypes := #[]
  staticTypes := #[]
  resolved := Array.replicate 131 none
  statics := none }

def pool6 : Array CpInfo := pool [(1, .class_ 2), (0, u "java/lang/constant/Constable"), (0, .class_ 4), (0, u "java/lang/Object")] 6

/-- java/lang/constant/Constable -/
def k6 : Class := { plain "java/lang/constant/Constable" (some 0) with
  accessFlags := 1537
  interfaces := #[]
  cf := some (fileOf pool6 1 #[] #[] 1537 3 #[] #[])
  fields := #[]
  methods := #[]
  instanceTypes := #[]
  staticTypes := #[]
  resolved := Array.replicate 11 none
  statics := none }

def pool7 : Array CpInfo := pool [(1, .class_ 2), (0, u "java/lang/constant/ConstantDesc"), (0, .class_ 4), (0, u "java/lang/Object")] 32

/-- java/lang/constant/ConstantDesc -/
def k7 : Class := { plain "java/lang/constant/ConstantDesc" (some 0) with
  accessFlags := 1537
  interfaces := #[]
  cf := some (fileOf pool7 1 #[] #[] 1537 3 #[] #[])
  fields := #[]
  methods := #[]
  instanceTypes := #[]
  staticTypes := #[]
  resolved := Array.replicate 37 none
  statics := none }

def pool8 : Array CpInfo := pool [(2, .class_ 4), (1, u "java/lang/Object"), (0, u "<init>"), (0, u "()V"), (3, .class_ 12), (1, u "java/lang/String"), (0, u "value"), (0, u "[B"), (2, u "coder"), (0, u "B"), (2, u "hash"), (0, u "I"), (2, u "hashIsZero"), (0, u "Z"), (13, u "COMPACT_STRINGS"), (534, .class_ 576), (0, u "java/lang/CharSequence"), (22, u "CASE_INSENSITIVE_ORDER"), (0, u "Ljava/util/Comparator;"), (500, u "serialPersistentFields"), (0, u "[Ljava/io/ObjectStreamField;"), (0, .class_ 1104), (0, u "java/lang/String$CaseInsensitiveComparator"), (1, .class_ 1107), (0, u "java/io/Serializable"), (0, .class_ 1109), (0, u "java/lang/Comparable"), (0, .class_ 1111), (0, u "java/lang/constant/Constable"), (0, .class_ 1113), (0, u "java/lang/constant/ConstantDesc"), (2, u "serialVersionUID"), (0, u "J"), (3, u "REPL"), (0, u "C"), (2, u "LATIN1"), (1, u "UTF16")] 323

def k8m0 : Method := { name := "<init>", desc := "()V", sig := { parameters := [], returnType := none }, accessFlags := 1, code := none }
/-- java/lang/String -/
def k8 : Class := { plain "java/lang/String" (some 0) with
  accessFlags := 49
  interfaces := #[3, 4, 5, 6, 7]
  cf := some (fileOf pool8 10 #[.nestMembers #[1103]] #[{ accessFlags := 1, nameIndex := 5, descriptorIndex := 6, attributes := #[] }] 49 2 #[1106, 1108, 575, 1110, 1112] #[{ accessFlags := 18, nameIndex := 13, descriptorIndex := 14, attributes := #[] }, { accessFlags := 18, nameIndex := 17, descriptorIndex := 18, attributes := #[] }, { accessFlags := 2, nameIndex := 21, descriptorIndex := 22, attributes := #[] }, { accessFlags := 2, nameIndex := 25, descriptorIndex := 26, attributes := #[] }, { accessFlags := 26, nameIndex := 1116, descriptorIndex := 1117, attributes := #[] }, { accessFlags := 24, nameIndex := 40, descriptorIndex := 26, attributes := #[] }, { accessFlags := 26, nameIndex := 1101, descriptorIndex := 1102, attributes := #[] }, { accessFlags := 26, nameIndex := 1121, descriptorIndex := 1122, attributes := #[] }, { accessFlags := 25, nameIndex := 599, descriptorIndex := 600, attributes := #[] }, { accessFlags := 24, nameIndex := 1125, descriptorIndex := 18, attributes := #[] }, { accessFlags := 24, nameIndex := 1127, descriptorIndex := 18, attributes := #[] }])
  fields := #[{ name := "value", type := (.array .byte), accessFlags := 18, slot := 0, constantValue := 0 }, { name := "coder", type := .byte, accessFlags := 18, slot := 1, constantValue := 0 }, { name := "hash", type := .int, accessFlags := 2, slot := 2, constantValue := 0 }, { name := "hashIsZero", type := .boolean, accessFlags := 2, slot := 3, constantValue := 0 }, { name := "serialVersionUID", type := .long, accessFlags := 26, slot := 0, constantValue := 0 }, { name := "COMPACT_STRINGS", type := .boolean, accessFlags := 24, slot := 1, constantValue := 0 }, { name := "serialPersistentFields", type := (.array (.object "java/io/ObjectStreamField")), accessFlags := 26, slot := 2, constantValue := 0 }, { name := "REPL", type := .char, accessFlags := 26, slot := 3, constantValue := 0 }, { name := "CASE_INSENSITIVE_ORDER", type := (.object "java/util/Comparator"), accessFlags := 25, slot := 4, constantValue := 0 }, { name := "LATIN1", type := .byte, accessFlags := 24, slot := 5, constantValue := 0 }, { name := "UTF16", type := .byte, accessFlags := 24, slot := 6, constantValue := 0 }]
  methods := #[k8m0]
  instanceTypes := #[(.array .byte), .byte, .int, .boolean]
  staticTypes := #[.long, .boolean, (.array (.object "java/io/ObjectStreamField")), .char, (.object "java/util/Comparator"), .byte, .byte]
  resolved := Array.replicate 1451 none
  statics := none }

def pool9 : Array CpInfo := pool [(1, u "java/lang/Cloneable"), (0, .class_ 1), (0, u "java/lang/Object"), (0, .class_ 3)] 3

/-- java/lang/Cloneable -/
def k9 : Class := { plain "java/lang/Cloneable" (some 0) with
  accessFlags := 1537
  interfaces := #[]
  cf := some (fileOf pool9 2 #[] #[] 1537 4 #[] #[])
  fields := #[]
  methods := #[]
  instanceTypes := #[]
  staticTypes := #[]
  resolved := Array.replicate 8 none
  statics := none }

/-- the primitive byte -/
def k10 : Class := { plain "byte" none with kind := .primitive 'B', accessFlags := 0x411 }
/-- [B -/
def k11 : Class := { plain "[B" (some 0) with kind := .array 10 .byte, interfaces := #[9, 3], accessFlags := 1041 }

/-- the primitive int -/
def k12 : Class := { plain "int" none with kind := .primitive 'I', accessFlags := 0x411 }
/-- [I -/
def k13 : Class := { plain "[I" (some 0) with kind := .array 12 .int, interfaces := #[9, 3], accessFlags := 1041 }

def heap : Heap := #[]
def classes : Array Class := #[k0, k1, k2, k3, k4, k5, k6, k7, k8, k9, k10, k11, k12, k13]
def interned : List (Array UInt16 × Addr) := []
def slotsUsed : Nat := 0
def theMethod : MethodId := ⟨1, 1⟩
def args0 : Array Value := #[.long 1048576, .long 5, .long 7, .long 0, .long 3, .int 1]
def aboutOver (below : List Frame) : State where
  vm := { classes := classes, interned := interned.toArray }
  heap := heap
  slotsUsed := slotsUsed
  threads := #[{ frames := .invoking theMethod args0 :: below }]
def below0 : List Frame := [.native { method := ⟨0, 0⟩, args := #[] }]
def about1 : State := aboutOver below0
def p0 : Program := .bare "" "" ""
def e0 : Env := launch0.env 0 0 0
theorem w_frames : about1.frames = Frame.invoking theMethod args0 :: below0 := rfl
set_option maxRecDepth 65536 in
theorem w_args : argsFit about1.vm theMethod args0 = true := by decide +kernel
set_option maxRecDepth 65536 in
theorem w_heap : heapFits about1 = true := by decide +kernel
set_option maxRecDepth 65536 in
theorem w_runnable : about1.curStatus? = some .runnable := by decide +kernel
set_option maxRecDepth 65536 in
theorem w_alone : about1.alone = true := by decide +kernel
set_option maxRecDepth 65536 in
theorem w_named : about1.methodNamed? x = some theMethod := by decide +kernel
set_option maxRecDepth 65536 in
theorem w_hears : about1.hears theMethod below0 = true := by decide +kernel
set_option maxRecDepth 65536 in
theorem w_ripe : about1.ripe theMethod args0 below0 = true := by decide +kernel
theorem w_running : about1.status = .running := rfl
set_option maxRecDepth 65536 in
theorem w_room : about1.hasRoom e0.platform room_1 = true :=
  launch0.hasRoom_least _ room_1 (by decide +kernel) (by decide +kernel) (by decide +kernel) (by decide +kernel) (by decide +kernel) (by decide +kernel)
theorem allAtoms_all (ts : List Jvm.Cond) (a : Array Jvm.Value) (st : Jvm.State) : (allAtoms ts).before a st = ts.all (fun c => c.before a st) := by
  induction ts with
  | nil => rfl
  | cons c t ih =>
    show (Jvm.Cond.and c (allAtoms t)).before a st = _
    rw [Jvm.Cond.before_and, ih, List.all_cons]
def words1 : List Jvm.Cond := Jvm.Cond.code x code maxLocals ret :: tables_1
/-- a 'code' word, met by the world's own term for the bytes: nothing is compared byte by byte -/
theorem code_word {y : MethodName} {bytes : ByteArray} {mx : Nat} {rt : Option FieldType} {a : Array Value} {s : State} {m : MethodId} {meth : Method} {c : Code} (h1 : s.methodNamed? y = some m) (h2 : s.vm.method? m = some meth) (h3 : meth.code = some c) (h4 : c.code = bytes)
    (h5 : (c.maxLocals == mx && c.exceptionTable.isEmpty && decide (c.maxStack ≤ mostOperands) && decide (meth.sig.returnType = rt) && !meth.locks && decide (parseMethodDescriptor y.desc = some meth.sig)) = true) : (Jvm.Cond.code y bytes mx rt).before a s = true := by
  simp only [Bool.and_eq_true, beq_iff_eq, Bool.not_eq_true', decide_eq_true_eq] at h5
  obtain ⟨⟨⟨⟨⟨g1, g2⟩, g3⟩, g4⟩, g5⟩, g6⟩ := h5
  simp [Cond.before, Cond.holds, Cond.value, h1, h2, h3, h4, g1, g2, g3, g4, g5, g6]
def isCode : Jvm.Cond → Bool
  | .code _ _ _ _ => true
  | _ => false
theorem all_split {L : List Jvm.Cond} {P : Jvm.Cond → Bool} (h1 : L.all (fun c => isCode c || P c) = true) (h2 : ∀ c ∈ L.filter isCode, P c = true) : L.all P = true := by
  refine List.all_eq_true.mpr fun c hc => ?_
  have h := List.all_eq_true.mp h1 c hc
  rcases Bool.eq_false_or_eq_true (isCode c) with hi | hi
  · exact h2 c (List.mem_filter.mpr ⟨hc, hi⟩)
  · simpa [hi] using h
set_option maxRecDepth 65536 in
theorem w_c0 : (Jvm.Cond.code x code maxLocals ret).before args0 about1 = true := code_word (m := ⟨1, 1⟩) (meth := k1m1) (c := k1c1) (by decide +kernel) rfl rfl rfl (by decide +kernel)
set_option maxRecDepth 65536 in
theorem w_c1 : (Jvm.Cond.code ({ cls := "com/example/authweave/authweave/session/Session", name := "<init>", desc := "(Ljava/lang/String;Ljava/lang/String;Ljava/lang/String;Ljava/lang/String;IJJJ)V" } : Jvm.MethodName) prog_82_method_1_code (12 : Nat) (Option.none : Option Jvm.ClassFile.FieldType)).before args0 about1 = true := code_word (m := ⟨2, 0⟩) (meth := k2m0) (c := k2c0) (by decide +kernel) rfl rfl rfl (by decide +kernel)
set_option maxRecDepth 65536 in
theorem w_c2 : (Jvm.Cond.code ({ cls := "java/lang/Object", name := "<init>", desc := "()V" } : Jvm.MethodName) object_method_1_code (1 : Nat) (Option.none : Option Jvm.ClassFile.FieldType)).before args0 about1 = true := code_word (m := ⟨0, 0⟩) (meth := k0m0) (c := k0c0) (by decide +kernel) rfl rfl rfl (by decide +kernel)
set_option maxRecDepth 65536 in
theorem w_c3 : (Jvm.Cond.code ({ cls := "com/example/authweave/authweave/session/Session", name := "liveAt", desc := "(J)Z" } : Jvm.MethodName) prog_82_method_10_code (3 : Nat) (Option.some Jvm.ClassFile.FieldType.boolean)).before args0 about1 = true := code_word (m := ⟨2, 1⟩) (meth := k2m1) (c := k2c1) (by decide +kernel) rfl rfl rfl (by decide +kernel)
set_option maxRecDepth 65536 in
theorem w_c4 : (Jvm.Cond.code ({ cls := "com/example/authweave/authweave/session/Session", name := "usedAt", desc := "(J)V" } : Jvm.MethodName) prog_82_method_11_code (3 : Nat) (Option.none : Option Jvm.ClassFile.FieldType)).before args0 about1 = true := code_word (m := ⟨2, 2⟩) (meth := k2m2) (c := k2c2) (by decide +kernel) rfl rfl rfl (by decide +kernel)
def codes1 : List Jvm.Cond := [Jvm.Cond.code x code maxLocals ret, Jvm.Cond.code ({ cls := "com/example/authweave/authweave/session/Session", name := "<init>", desc := "(Ljava/lang/String;Ljava/lang/String;Ljava/lang/String;Ljava/lang/String;IJJJ)V" } : Jvm.MethodName) prog_82_method_1_code (12 : Nat) (Option.none : Option Jvm.ClassFile.FieldType), Jvm.Cond.code ({ cls := "java/lang/Object", name := "<init>", desc := "()V" } : Jvm.MethodName) object_method_1_code (1 : Nat) (Option.none : Option Jvm.ClassFile.FieldType), Jvm.Cond.code ({ cls := "com/example/authweave/authweave/session/Session", name := "liveAt", desc := "(J)Z" } : Jvm.MethodName) prog_82_method_10_code (3 : Nat) (Option.some Jvm.ClassFile.FieldType.boolean), Jvm.Cond.code ({ cls := "com/example/authweave/authweave/session/Session", name := "usedAt", desc := "(J)V" } : Jvm.MethodName) prog_82_method_11_code (3 : Nat) (Option.none : Option Jvm.ClassFile.FieldType)]
set_option maxRecDepth 65536 in
theorem codes_eq : words1.filter isCode = codes1 := rfl
theorem w_codes : ∀ c ∈ words1.filter isCode, c.before args0 about1 = true := by
  rw [codes_eq]
  intro c hc
  simp only [codes1, List.mem_cons, List.not_mem_nil, or_false] at hc
  rcases hc with rfl | rfl | rfl | rfl | rfl
  · exact w_c0
  · exact w_c1
  · exact w_c2
  · exact w_c3
  · exact w_c4
set_option maxRecDepth 65536 in
theorem w_t1 : (words1.take 24).all (fun c => isCode c || c.before args0 about1) = true := by decide +kernel
set_option maxRecDepth 65536 in
theorem w_t2 : (words1.drop 24).all (fun c => isCode c || c.before args0 about1) = true := by decide +kernel
theorem w_tables : (allAtoms (Jvm.Cond.code x code maxLocals ret :: tables_1)).before args0 about1 = true := by
  rw [allAtoms_all]
  show words1.all (fun c => c.before args0 about1) = true
  refine all_split ?_ w_codes
  rw [← List.take_append_drop 24 words1, List.all_append, w_t1, w_t2]
  rfl
set_option maxRecDepth 65536 in
theorem w_case : (Jvm.Cond.and given_1 narrow_1).before args0 about1 = true := by decide +kernel
theorem w_applies : (headSpec (Jvm.Cond.code x code maxLocals ret :: tables_1) room_1).applies x e0.platform about1 = true :=
  (Spec.applies_iff w_frames).mpr ⟨w_running, w_runnable, w_alone, w_named, w_hears, w_ripe, w_room, w_tables⟩
theorem atStart : AtStart classFile x code maxLocals ret World_1 tables_1 room_1 Calls_1 rest_1 Pre_1 launch0 p0 e0 about1 theMethod args0 below0 :=
  ⟨lists_1, trivial, launch0.admits_env _ _ _, launch0.least_env, fairChoices_fair.cas, fairChoices_fair.clock, w_frames, w_args, w_heap, w_applies, trivial, trivial, w_case⟩
end start1
theorem witness_1 : WitnessClaimed_1 := ⟨start1.p0, start1.e0, start1.about1, start1.theMethod, start1.args0, start1.below0, start1.atStart⟩
end Jvm.Pilot.@@N@@
