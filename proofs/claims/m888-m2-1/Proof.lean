import JvmDerived
import JvmDerived.Pilot.@@N@@Statement
import JvmDerived.Pilot.@@N@@Code
set_option linter.unusedVariables false
set_option linter.unusedSimpArgs false

namespace Jvm.Own
open Sem ClassFile Op Lib Jvm.Stand Jvm.Free Jvm.LawKit Jvm.RoadKit Bundle
/-- how the tables over which the walk stands are related to the true start's: the same (narrow), or wider by interned constants -/
def Rel (W : Bool) (s : State) (vm0 : Vm) (n : Nat) : Prop := match W with
  | false => vm0 = s.vm
  | true => ∃ k0, s.Since vm0 k0 ∧ k0 ≤ n
theorem Rel.mono {W : Bool} {s : State} {vm0 : Vm} {n n' : Nat} (h : Rel W s vm0 n) (q : n ≤ n') : Rel W s vm0 n' := by
  cases W
  · exact h
  · obtain ⟨k0, h1, h2⟩ := h; exact ⟨k0, h1, Nat.le_trans h2 q⟩
def EndW (W : Bool) (s : State) (o : Outcome) (t : State) (L : List Loc) (k n : Nat) : Prop := match W with
  | false => FrameEnd s o t L k n
  | true => ReturnedEndW s o t L k n
def Prom (W : Bool) (n0 hz : Nat) (Q : Option Value → Heap → Prop) (R : Room) (s : State) (o : Outcome) (t : State) : Prop :=
  ∃ v L, o = .returned v ∧ (Fr n0 L ∧ hz ≤ t.heap.size ∧ Q v t.heap) ∧ EndW W s o t L R.cells R.slots
def Go (p : Program) (e : Env) (below : List Frame) (P : Outcome → State → Prop) (U : State) : Prop :=
  ∃ t o, Steps p.tables e below U t ∧ t.status = .running ∧ Ended t below o ∧ P o t
theorem Go.step {p : Program} {e : Env} {below : List Frame} {P : Outcome → State → Prop} {U V : State} (f : ∀ t, Steps p.tables e below V t → Steps p.tables e below U t) (g : Go p e below P V) : Go p e below P U := by
  obtain ⟨t, o, h1, h2⟩ := g; exact ⟨t, o, f t h1, h2⟩
def Cx (Z : State) (bytes : ByteArray) (maxL : Nat) (own nm : String) (ret : Option FieldType) (p : Program) (vm0 : Vm) (m : MethodId) (meth : Method) (c : Code) : Prop :=
  p.tables.exec = Jvm.exec ∧ c.code = bytes ∧ c.maxLocals = maxL ∧ meth.sig.returnType = ret ∧ meth.locks = false ∧ meth.name = nm ∧ Z.Warmed39 vm0 ∧ vm0.findClass own = some m.cls
/-- the contract of a body -/
def Met (W : Bool) (l : Launch) (Z : State) (y : MethodName) (bytes : ByteArray) (maxL : Nat) (ret : Option FieldType) (R : Room) (ws : List Jvm.Cond) (as' : Array Value) (h0 : Heap) (n0 : Nat) (Q : Option Value → Heap → Prop) : Prop :=
  MetFree l y (head1 (Jvm.Cond.code y bytes maxL ret :: ws) R) (fun a U => a = as' ∧ Z.Warmed39 U.vm ∧ U.heap = h0) (fun _ _ _ _ _ => True) (fun _ U o U' => Prom W n0 h0.size Q R U o U')
/-- from this point of the body on the run ends as Q says -/
def OAt (W : Bool) (l : Launch) (Z : State) (bytes : ByteArray) (maxL : Nat) (own nm : String) (ret : Option FieldType) (R : Room) (n0 hz : Nat) (Q : Option Value → Heap → Prop)
    (h : Heap) (cells slots pc : Nat) (Ls : Array Slot) (st : List Value) : Prop :=
  hz ≤ h.size → ∀ (p : Program) (e : Env) (s : State) (vm0 : Vm) (m : MethodId) (args : Array Value) (below : List Frame) (meth : Method) (c : Code) (T : State) (locs : List Loc),
    Cx Z bytes maxL own nm ret p vm0 m meth c → Rel W s vm0 h.size → Stand p l e R (s.setVm vm0) m args below meth c T locs cells slots → T.heap = h → Fr n0 locs →
    Go p e below (Prom W n0 hz Q R s) (T.setTop (mkF m pc Ls st))
section Walk
variable {W : Bool} {l : Launch} {Z : State} {a0 : Array Value} {bytes : ByteArray} {maxL : Nat} {own nm : String} {ret : Option FieldType} {R : Room} {n0 hz : Nat} {Q : Option Value → Heap → Prop} {h h' : Heap} {cells slots pc : Nat} {Ls : Array Slot} {st : List Value}
theorem Met.of {y : MethodName} {ws : List Jvm.Cond} {as' : Array Value} {h0 : Heap} (hp : plainFor y = true) {Ls : Array Slot} (hef : ∀ m, entryFrame m as' maxL = mkF m 0 Ls [])
    (k : OAt W l Z bytes maxL y.cls y.name ret R n0 h0.size Q h0 0 0 0 Ls []) : Met W l Z y bytes maxL ret R ws as' h0 n0 Q := by
  refine MetFree.of_bodySF hp hisR ?_
  intro p e s m args below meth c s₁ Bd hml0 hP hK
  obtain ⟨rfl, hZ, hh⟩ := hP
  have X0 : Stand p l e R s m args below meth c s₁ [] 0 0 := Stand.of_body Bd
  have e0 : s₁.heap = h0 := by rw [← hh, Bd.state]; rfl
  have hr : Rel W s s.vm h0.size := by
    cases W
    · exact rfl
    · exact ⟨0, State.WarmedH.since (State.WarmedH.refl s) 0, Nat.zero_le _⟩
  have g := k (Nat.le_refl _) p e s s.vm m args below meth c s₁ [] ⟨Bd.exec, Bd.bytes, hml0, Bd.returns, Bd.notSynchronized, (name_of_methodNamed Bd.named Bd.method).1, hZ, findClass_of_methodNamed Bd.named⟩ hr X0 e0 (Fr.nil n0)
  rw [← hef m] at g
  exact g
theorem Met.imp {y : MethodName} {ws : List Jvm.Cond} {as' : Array Value} {h0 : Heap} {Q' : Option Value → Heap → Prop} (k : Met W l Z y bytes maxL ret R ws as' h0 n0 Q) (f : ∀ v h, Q v h → Q' v h) : Met W l Z y bytes maxL ret R ws as' h0 n0 Q' :=
  fun p e h1 h2 h3 s m args below h4 h5 h6 h7 => by
    obtain ⟨n, o, g1, g2, g3, v, L, g4, ⟨g5, g6, g7⟩, g8⟩ := k p e h1 h2 h3 s m args below h4 h5 h6 h7
    exact ⟨n, o, g1, g2, g3, v, L, g4, ⟨g5, g6, f _ _ g7⟩, g8⟩
theorem OAt.cast {st' : List Value} (q : st' = st) (k : OAt W l Z bytes maxL own nm ret R n0 hz Q h cells slots pc Ls st') : OAt W l Z bytes maxL own nm ret R n0 hz Q h cells slots pc Ls st := q ▸ k
theorem OAt.castL {Ls' : Array Slot} {st' : List Value} (q : Ls' = Ls) (q2 : st' = st) (k : OAt W l Z bytes maxL own nm ret R n0 hz Q h cells slots pc Ls' st') : OAt W l Z bytes maxL own nm ret R n0 hz Q h cells slots pc Ls st := q ▸ q2 ▸ k
theorem OAt.mono {cells' slots' : Nat} (q1 : cells ≤ cells') (q2 : slots ≤ slots') (k : OAt W l Z bytes maxL own nm ret R n0 hz Q h cells' slots' pc Ls st) : OAt W l Z bytes maxL own nm ret R n0 hz Q h cells slots pc Ls st :=
  fun hs p e s vm0 m args below meth c T locs C r X eT N => k hs p e s vm0 m args below meth c T locs C r (X.mono q1 q2) eT N
/-- a step that leaves the state but for the frame -/
theorem OAt.plain {pc' : Nat} {Ls' : Array Slot} {st' : List Value} (k : OAt W l Z bytes maxL own nm ret R n0 hz Q h cells slots pc' Ls' st')
    (f : ∀ {p : Program} {e : Env} {below : List Frame} {m : MethodId} {c : Code} {T : State}, At T m c below → p.tables.exec = Jvm.exec → c.code = bytes → ∀ target, Steps p.tables e below (T.setTop (mkF m pc' Ls' st')) target → Steps p.tables e below (T.setTop (mkF m pc Ls st)) target) :
    OAt W l Z bytes maxL own nm ret R n0 hz Q h cells slots pc Ls st :=
  fun hs p e s vm0 m args below meth c T locs C r X eT N => (k hs p e s vm0 m args below meth c T locs C r X eT N).step (f X.here C.1 C.2.1)
/-- a step by a law over the Stand: same heap -/
theorem OAt.warm {pc' : Nat} {Ls' : Array Slot} {st' : List Value} (k : OAt W l Z bytes maxL own nm ret R n0 hz Q h cells slots pc' Ls' st')
    (f : ∀ {p : Program} {e : Env} {s : State} {m : MethodId} {args : Array Value} {below : List Frame} {meth : Method} {c : Code} {T : State} {locs : List Loc}, Cx Z bytes maxL own nm ret p s.vm m meth c → Stand p l e R s m args below meth c T locs cells slots → T.heap = h →
      ∃ T', Stand p l e R s m args below meth c T' locs cells slots ∧ T'.heap = h ∧ ∀ target, Steps p.tables e below (T'.setTop (mkF m pc' Ls' st')) target → Steps p.tables e below (T.setTop (mkF m pc Ls st)) target) :
    OAt W l Z bytes maxL own nm ret R n0 hz Q h cells slots pc Ls st :=
  fun hs p e s vm0 m args below meth c T locs C r X eT N => by
    obtain ⟨T', X', e', g⟩ := f (s := s.setVm vm0) C X eT
    exact (k hs p e s vm0 m args below meth c T' locs C r X' e' N).step g
/-- a step by a law over the Stand: the heap grows or is written at fresh places -/
theorem OAt.move {pc' : Nat} {Ls' : Array Slot} {st' : Heap → List Value} {cells' slots' : Nat} {P : Heap → Prop} (hg : ∀ h', P h' → h.size ≤ h'.size) (k : ∀ h', P h' → OAt W l Z bytes maxL own nm ret R n0 hz Q h' cells' slots' pc' Ls' (st' h'))
    (f : ∀ {p : Program} {e : Env} {s : State} {m : MethodId} {args : Array Value} {below : List Frame} {meth : Method} {c : Code} {T : State} {locs : List Loc}, Cx Z bytes maxL own nm ret p s.vm m meth c → Stand p l e R s m args below meth c T locs cells slots → T.heap = h → Fr n0 locs →
      ∃ T' h' locs', Stand p l e R s m args below meth c T' locs' cells' slots' ∧ T'.heap = h' ∧ Fr n0 locs' ∧ P h' ∧ ∀ target, Steps p.tables e below (T'.setTop (mkF m pc' Ls' (st' h'))) target → Steps p.tables e below (T.setTop (mkF m pc Ls st)) target) :
    OAt W l Z bytes maxL own nm ret R n0 hz Q h cells slots pc Ls st :=
  fun hs p e s vm0 m args below meth c T locs C r X eT N => by
    obtain ⟨T', h', locs', X', e', N', p', g⟩ := f (s := s.setVm vm0) C X eT N
    exact (k h' p' (Nat.le_trans hs (hg h' p')) p e s vm0 m args below meth c T' locs' C (r.mono (hg h' p')) X' e' N').step g
/-- the end -/
theorem OAt.done {v : Option Value} (hv : ret = none → v = none) (hq : Q v h) (hc : cells ≤ R.cells) (hn : slots ≤ R.slots)
    (f : ∀ {p : Program} {e : Env} {s : State} {m : MethodId} {args : Array Value} {below : List Frame} {meth : Method} {c : Code} {T : State} {locs : List Loc} {fs : List Frame}, Cx Z bytes maxL own nm ret p s.vm m meth c → Stand p l e R s m args below meth c T locs cells slots →
      (∀ (f : JFrame) (acts : List Action), f.method = m → f.locked = none → f.entered = [] → (doReturn e (T.setTop f) acts v).1 = T.setFrames fs) → Steps p.tables e below (T.setTop (mkF m pc Ls st)) (T.setFrames fs)) :
    OAt W l Z bytes maxL own nm ret R n0 hz Q h cells slots pc Ls st :=
  fun hs p e s vm0 m args below meth c T locs C r X eT N => by
    have hl : meth.locks = false := C.2.2.2.2.1
    have hv' : meth.sig.returnType = none → v = none := fun q => hv (C.2.2.2.1.symm.trans q)
    have hh : ∀ fs, (T.setFrames fs).heap = h := fun fs => eT
    cases W
    · obtain rfl : vm0 = s.vm := r
      obtain ⟨fs, h1, h2, h3, h4, h5⟩ := X.leave (v := v) hv' hl
      exact ⟨_, _, f C X h1, h2, h3, v, locs, rfl, ⟨N, by rw [hh]; exact hs, by rw [hh]; exact hq⟩, ⟨v, rfl⟩, h4, h5.mono hc hn⟩
    · obtain ⟨k0, r1, r2⟩ := r
      obtain ⟨fs, h1, h2, h3, h4⟩ := X.leaveW (v := v) r1 (by rw [eT]; exact r2) hv' hl
      exact ⟨_, _, f (s := s.setVm vm0) C X h1, h2, h3, v, locs, rfl, ⟨N, by rw [hh]; exact hs, by rw [hh]; exact hq⟩, h4.1, h4.2.1, h4.2.2.1, h4.2.2.2.mono hc hn⟩
theorem iconst {i : Int} (v : Int32) (hd : decode bytes pc = .ok (.iconst i, 1)) (hv : Int32.ofInt i = v) (k : OAt W l Z bytes maxL own nm ret R n0 hz Q h cells slots (pc + 1) Ls (.int v :: st)) : OAt W l Z bytes maxL own nm ret R n0 hz Q h cells slots pc Ls st :=
  k.plain fun hh hx hby _ q => XS.iconst hh hx rfl (hb hby hd) (by rw [hv]; exact q)
theorem bipush {i : Int} (v : Int32) (hd : decode bytes pc = .ok (.bipush i, 2)) (hv : (Int8.ofInt i).toInt32 = v) (k : OAt W l Z bytes maxL own nm ret R n0 hz Q h cells slots (pc + 2) Ls (.int v :: st)) : OAt W l Z bytes maxL own nm ret R n0 hz Q h cells slots pc Ls st :=
  k.plain fun hh hx hby _ q => XS.bipush hh hx rfl (hb hby hd) (by rw [hv]; exact q)
theorem sipush {i : Int} (v : Int32) (hd : decode bytes pc = .ok (.sipush i, 3)) (hv : (Int16.ofInt i).toInt32 = v) (k : OAt W l Z bytes maxL own nm ret R n0 hz Q h cells slots (pc + 3) Ls (.int v :: st)) : OAt W l Z bytes maxL own nm ret R n0 hz Q h cells slots pc Ls st :=
  k.plain fun hh hx hby _ q => XS.sipush hh hx rfl (hb hby hd) (by rw [hv]; exact q)
theorem lconst {i : Fin 2} (v : Int64) (hd : decode bytes pc = .ok (.lconst i, 1)) (hv : Int64.ofNat i = v) (k : OAt W l Z bytes maxL own nm ret R n0 hz Q h cells slots (pc + 1) Ls (.long v :: st)) : OAt W l Z bytes maxL own nm ret R n0 hz Q h cells slots pc Ls st :=
  k.plain fun hh hx hby _ q => XS.lconst hh hx rfl (hb hby hd) (by rw [hv]; exact q)
theorem aconstNull (hd : decode bytes pc = .ok (.aconst_null, 1)) (k : OAt W l Z bytes maxL own nm ret R n0 hz Q h cells slots (pc + 1) Ls (.null :: st)) : OAt W l Z bytes maxL own nm ret R n0 hz Q h cells slots pc Ls st :=
  k.plain fun hh hx hby _ q => XS.aconstNull hh hx rfl (hb hby hd) q
theorem iload {i : Nat} {v : Int32} (hd : decode bytes pc = .ok (.iload i, 2)) (hl : Ls[i]? = some (.val (.int v))) (k : OAt W l Z bytes maxL own nm ret R n0 hz Q h cells slots (pc + 2) Ls (.int v :: st)) : OAt W l Z bytes maxL own nm ret R n0 hz Q h cells slots pc Ls st :=
  k.plain fun hh hx hby _ q => XS.iload hh hx rfl (hb hby hd) hl q
theorem iloadN {i : Fin 4} {v : Int32} (hd : decode bytes pc = .ok (.iload_n i, 1)) (hl : Ls[i.val]? = some (.val (.int v))) (k : OAt W l Z bytes maxL own nm ret R n0 hz Q h cells slots (pc + 1) Ls (.int v :: st)) : OAt W l Z bytes maxL own nm ret R n0 hz Q h cells slots pc Ls st :=
  k.plain fun hh hx hby _ q => XS.iloadN hh hx rfl (hb hby hd) hl q
theorem lload {i : Nat} {v : Int64} (hd : decode bytes pc = .ok (.lload i, 2)) (hl : Ls[i]? = some (.val (.long v))) (k : OAt W l Z bytes maxL own nm ret R n0 hz Q h cells slots (pc + 2) Ls (.long v :: st)) : OAt W l Z bytes maxL own nm ret R n0 hz Q h cells slots pc Ls st :=
  k.plain fun hh hx hby _ q => XS.lload hh hx rfl (hb hby hd) hl q
theorem lloadN {i : Fin 4} {v : Int64} (hd : decode bytes pc = .ok (.lload_n i, 1)) (hl : Ls[i.val]? = some (.val (.long v))) (k : OAt W l Z bytes maxL own nm ret R n0 hz Q h cells slots (pc + 1) Ls (.long v :: st)) : OAt W l Z bytes maxL own nm ret R n0 hz Q h cells slots pc Ls st :=
  k.plain fun hh hx hby _ q => XS.lloadN hh hx rfl (hb hby hd) hl q
theorem aload {i : Nat} {v : Value} (hd : decode bytes pc = .ok (.aload i, 2)) (hl : Ls[i]? = some (.val v)) (hv : v.isRef = true) (k : OAt W l Z bytes maxL own nm ret R n0 hz Q h cells slots (pc + 2) Ls (v :: st)) : OAt W l Z bytes maxL own nm ret R n0 hz Q h cells slots pc Ls st :=
  k.plain fun hh hx hby _ q => XS.aload hh hx rfl (hb hby hd) hl hv q
theorem aloadN {i : Fin 4} {v : Value} (hd : decode bytes pc = .ok (.aload_n i, 1)) (hl : Ls[i.val]? = some (.val v)) (hv : v.isRef = true) (k : OAt W l Z bytes maxL own nm ret R n0 hz Q h cells slots (pc + 1) Ls (v :: st)) : OAt W l Z bytes maxL own nm ret R n0 hz Q h cells slots pc Ls st :=
  k.plain fun hh hx hby _ q => XS.aloadN hh hx rfl (hb hby hd) hl hv q
theorem istore {i : Nat} {v : Int32} (L2 : Array Slot) (hd : decode bytes pc = .ok (.istore i, 2)) (hl : storeLocals Ls i (.int v) = some L2) (k : OAt W l Z bytes maxL own nm ret R n0 hz Q h cells slots (pc + 2) L2 st) : OAt W l Z bytes maxL own nm ret R n0 hz Q h cells slots pc Ls (.int v :: st) :=
  k.plain fun hh hx hby _ q => XS.istore hh hx rfl (hb hby hd) rfl hl q
theorem istoreN {i : Fin 4} {v : Int32} (L2 : Array Slot) (hd : decode bytes pc = .ok (.istore_n i, 1)) (hl : storeLocals Ls i.val (.int v) = some L2) (k : OAt W l Z bytes maxL own nm ret R n0 hz Q h cells slots (pc + 1) L2 st) : OAt W l Z bytes maxL own nm ret R n0 hz Q h cells slots pc Ls (.int v :: st) :=
  k.plain fun hh hx hby _ q => XS.istoreN hh hx rfl (hb hby hd) rfl hl q
theorem lstore {i : Nat} {v : Int64} (L2 : Array Slot) (hd : decode bytes pc = .ok (.lstore i, 2)) (hl : storeLocals Ls i (.long v) = some L2) (k : OAt W l Z bytes maxL own nm ret R n0 hz Q h cells slots (pc + 2) L2 st) : OAt W l Z bytes maxL own nm ret R n0 hz Q h cells slots pc Ls (.long v :: st) :=
  k.plain fun hh hx hby _ q => XS.lstore hh hx rfl (hb hby hd) rfl hl q
theorem lstoreN {i : Fin 4} {v : Int64} (L2 : Array Slot) (hd : decode bytes pc = .ok (.lstore_n i, 1)) (hl : storeLocals Ls i.val (.long v) = some L2) (k : OAt W l Z bytes maxL own nm ret R n0 hz Q h cells slots (pc + 1) L2 st) : OAt W l Z bytes maxL own nm ret R n0 hz Q h cells slots pc Ls (.long v :: st) :=
  k.plain fun hh hx hby _ q => XS.lstoreN hh hx rfl (hb hby hd) rfl hl q
theorem astore {i : Nat} {v : Value} (L2 : Array Slot) (hd : decode bytes pc = .ok (.astore i, 2)) (hv : v.isRef = true) (hl : storeLocals Ls i v = some L2) (k : OAt W l Z bytes maxL own nm ret R n0 hz Q h cells slots (pc + 2) L2 st) : OAt W l Z bytes maxL own nm ret R n0 hz Q h cells slots pc Ls (v :: st) :=
  k.plain fun hh hx hby _ q => XS.astore hh hx rfl (hb hby hd) rfl hv hl q
theorem astoreN {i : Fin 4} {v : Value} (L2 : Array Slot) (hd : decode bytes pc = .ok (.astore_n i, 1)) (hv : v.isRef = true) (hl : storeLocals Ls i.val v = some L2) (k : OAt W l Z bytes maxL own nm ret R n0 hz Q h cells slots (pc + 1) L2 st) : OAt W l Z bytes maxL own nm ret R n0 hz Q h cells slots pc Ls (v :: st) :=
  k.plain fun hh hx hby _ q => XS.astoreN hh hx rfl (hb hby hd) rfl hv hl q
theorem iinc {i : Nat} {z : Int} {v : Int32} (w : Int32) (L2 : Array Slot) (hd : decode bytes pc = .ok (.iinc i z, 3)) (hw : Int32.ofInt z = w) (hl : Ls[i]? = some (.val (.int v))) (hl' : storeLocals Ls i (.int (v + w)) = some L2) (k : OAt W l Z bytes maxL own nm ret R n0 hz Q h cells slots (pc + 3) L2 st) : OAt W l Z bytes maxL own nm ret R n0 hz Q h cells slots pc Ls st :=
  k.plain fun hh hx hby _ q => XS.iinc hh hx rfl (hb hby hd) hl (by rw [hw]; exact hl') q
theorem iadd {x y : Int32} (hd : decode bytes pc = .ok (.iadd, 1)) (k : OAt W l Z bytes maxL own nm ret R n0 hz Q h cells slots (pc + 1) Ls (.int (x + y) :: st)) : OAt W l Z bytes maxL own nm ret R n0 hz Q h cells slots pc Ls (.int y :: .int x :: st) :=
  k.plain fun hh hx hby _ q => XS.iadd hh hx rfl (hb hby hd) rfl q
theorem isub {x y : Int32} (hd : decode bytes pc = .ok (.isub, 1)) (k : OAt W l Z bytes maxL own nm ret R n0 hz Q h cells slots (pc + 1) Ls (.int (x - y) :: st)) : OAt W l Z bytes maxL own nm ret R n0 hz Q h cells slots pc Ls (.int y :: .int x :: st) :=
  k.plain fun hh hx hby _ q => XS.isub hh hx rfl (hb hby hd) rfl q
theorem imul {x y : Int32} (hd : decode bytes pc = .ok (.imul, 1)) (k : OAt W l Z bytes maxL own nm ret R n0 hz Q h cells slots (pc + 1) Ls (.int (x * y) :: st)) : OAt W l Z bytes maxL own nm ret R n0 hz Q h cells slots pc Ls (.int y :: .int x :: st) :=
  k.plain fun hh hx hby _ q => XS.imul hh hx rfl (hb hby hd) rfl q
theorem iand {x y : Int32} (hd : decode bytes pc = .ok (.iand, 1)) (k : OAt W l Z bytes maxL own nm ret R n0 hz Q h cells slots (pc + 1) Ls (.int (x &&& y) :: st)) : OAt W l Z bytes maxL own nm ret R n0 hz Q h cells slots pc Ls (.int y :: .int x :: st) :=
  k.plain fun hh hx hby _ q => XS.iand hh hx rfl (hb hby hd) rfl q
theorem ior {x y : Int32} (hd : decode bytes pc = .ok (.ior, 1)) (k : OAt W l Z bytes maxL own nm ret R n0 hz Q h cells slots (pc + 1) Ls (.int (x ||| y) :: st)) : OAt W l Z bytes maxL own nm ret R n0 hz Q h cells slots pc Ls (.int y :: .int x :: st) :=
  k.plain fun hh hx hby _ q => XS.ior hh hx rfl (hb hby hd) rfl q
theorem ixor {x y : Int32} (hd : decode bytes pc = .ok (.ixor, 1)) (k : OAt W l Z bytes maxL own nm ret R n0 hz Q h cells slots (pc + 1) Ls (.int (x ^^^ y) :: st)) : OAt W l Z bytes maxL own nm ret R n0 hz Q h cells slots pc Ls (.int y :: .int x :: st) :=
  k.plain fun hh hx hby _ q => XS.ixor hh hx rfl (hb hby hd) rfl q
theorem ishl {x y : Int32} (hd : decode bytes pc = .ok (.ishl, 1)) (k : OAt W l Z bytes maxL own nm ret R n0 hz Q h cells slots (pc + 1) Ls (.int (x <<< (y &&& 31)) :: st)) : OAt W l Z bytes maxL own nm ret R n0 hz Q h cells slots pc Ls (.int y :: .int x :: st) :=
  k.plain fun hh hx hby _ q => XS.ishl hh hx rfl (hb hby hd) rfl q
theorem ishr {x y : Int32} (hd : decode bytes pc = .ok (.ishr, 1)) (k : OAt W l Z bytes maxL own nm ret R n0 hz Q h cells slots (pc + 1) Ls (.int (x >>> (y &&& 31)) :: st)) : OAt W l Z bytes maxL own nm ret R n0 hz Q h cells slots pc Ls (.int y :: .int x :: st) :=
  k.plain fun hh hx hby _ q => XS.ishr hh hx rfl (hb hby hd) rfl q
theorem iushr {x y : Int32} (hd : decode bytes pc = .ok (.iushr, 1)) (k : OAt W l Z bytes maxL own nm ret R n0 hz Q h cells slots (pc + 1) Ls (.int ((x.toUInt32 >>> (y &&& 31).toUInt32).toInt32) :: st)) : OAt W l Z bytes maxL own nm ret R n0 hz Q h cells slots pc Ls (.int y :: .int x :: st) :=
  k.plain fun hh hx hby _ q => XS.iushr hh hx rfl (hb hby hd) rfl q
theorem idiv {x y : Int32} (hd : decode bytes pc = .ok (.idiv, 1)) (hy : y ≠ 0) (k : OAt W l Z bytes maxL own nm ret R n0 hz Q h cells slots (pc + 1) Ls (.int (x / y) :: st)) : OAt W l Z bytes maxL own nm ret R n0 hz Q h cells slots pc Ls (.int y :: .int x :: st) :=
  k.plain fun hh hx hby _ q => XS.idiv hh hx rfl (hb hby hd) rfl hy q
theorem ladd {x y : Int64} (hd : decode bytes pc = .ok (.ladd, 1)) (k : OAt W l Z bytes maxL own nm ret R n0 hz Q h cells slots (pc + 1) Ls (.long (x + y) :: st)) : OAt W l Z bytes maxL own nm ret R n0 hz Q h cells slots pc Ls (.long y :: .long x :: st) :=
  k.plain fun hh hx hby _ q => XS.ladd hh hx rfl (hb hby hd) rfl q
theorem lsub {x y : Int64} (hd : decode bytes pc = .ok (.lsub, 1)) (k : OAt W l Z bytes maxL own nm ret R n0 hz Q h cells slots (pc + 1) Ls (.long (x - y) :: st)) : OAt W l Z bytes maxL own nm ret R n0 hz Q h cells slots pc Ls (.long y :: .long x :: st) :=
  k.plain fun hh hx hby _ q => XS.lsub hh hx rfl (hb hby hd) rfl q
theorem lmul {x y : Int64} (hd : decode bytes pc = .ok (.lmul, 1)) (k : OAt W l Z bytes maxL own nm ret R n0 hz Q h cells slots (pc + 1) Ls (.long (x * y) :: st)) : OAt W l Z bytes maxL own nm ret R n0 hz Q h cells slots pc Ls (.long y :: .long x :: st) :=
  k.plain fun hh hx hby _ q => XS.lmul hh hx rfl (hb hby hd) rfl q
theorem land {x y : Int64} (hd : decode bytes pc = .ok (.land, 1)) (k : OAt W l Z bytes maxL own nm ret R n0 hz Q h cells slots (pc + 1) Ls (.long (x &&& y) :: st)) : OAt W l Z bytes maxL own nm ret R n0 hz Q h cells slots pc Ls (.long y :: .long x :: st) :=
  k.plain fun hh hx hby _ q => XS.land hh hx rfl (hb hby hd) rfl q
theorem lor {x y : Int64} (hd : decode bytes pc = .ok (.lor, 1)) (k : OAt W l Z bytes maxL own nm ret R n0 hz Q h cells slots (pc + 1) Ls (.long (x ||| y) :: st)) : OAt W l Z bytes maxL own nm ret R n0 hz Q h cells slots pc Ls (.long y :: .long x :: st) :=
  k.plain fun hh hx hby _ q => XS.lor hh hx rfl (hb hby hd) rfl q
theorem lxor {x y : Int64} (hd : decode bytes pc = .ok (.lxor, 1)) (k : OAt W l Z bytes maxL own nm ret R n0 hz Q h cells slots (pc + 1) Ls (.long (x ^^^ y) :: st)) : OAt W l Z bytes maxL own nm ret R n0 hz Q h cells slots pc Ls (.long y :: .long x :: st) :=
  k.plain fun hh hx hby _ q => XS.lxor hh hx rfl (hb hby hd) rfl q
theorem lshl {x : Int64} {y : Int32} (hd : decode bytes pc = .ok (.lshl, 1)) (k : OAt W l Z bytes maxL own nm ret R n0 hz Q h cells slots (pc + 1) Ls (.long (x <<< (y &&& 0x3f).toInt64) :: st)) : OAt W l Z bytes maxL own nm ret R n0 hz Q h cells slots pc Ls (.int y :: .long x :: st) :=
  k.plain fun hh hx hby _ q => XS.lshl hh hx rfl (hb hby hd) rfl q
theorem lshr {x : Int64} {y : Int32} (hd : decode bytes pc = .ok (.lshr, 1)) (k : OAt W l Z bytes maxL own nm ret R n0 hz Q h cells slots (pc + 1) Ls (.long (x >>> (y &&& 0x3f).toInt64) :: st)) : OAt W l Z bytes maxL own nm ret R n0 hz Q h cells slots pc Ls (.int y :: .long x :: st) :=
  k.plain fun hh hx hby _ q => XS.lshr hh hx rfl (hb hby hd) rfl q
theorem lushr {x : Int64} {y : Int32} (hd : decode bytes pc = .ok (.lushr, 1)) (k : OAt W l Z bytes maxL own nm ret R n0 hz Q h cells slots (pc + 1) Ls (.long ((x.toUInt64 >>> (y &&& 0x3f).toInt64.toUInt64).toInt64) :: st)) : OAt W l Z bytes maxL own nm ret R n0 hz Q h cells slots pc Ls (.int y :: .long x :: st) :=
  k.plain fun hh hx hby _ q => XS.lushr hh hx rfl (hb hby hd) rfl q
theorem ldiv {x y : Int64} (hd : decode bytes pc = .ok (.ldiv, 1)) (hy : y ≠ 0) (k : OAt W l Z bytes maxL own nm ret R n0 hz Q h cells slots (pc + 1) Ls (.long (x / y) :: st)) : OAt W l Z bytes maxL own nm ret R n0 hz Q h cells slots pc Ls (.long y :: .long x :: st) :=
  k.plain fun hh hx hby _ q => XS.ldiv hh hx rfl (hb hby hd) rfl hy q
theorem lrem {x y : Int64} (hd : decode bytes pc = .ok (.lrem, 1)) (hy : y ≠ 0) (k : OAt W l Z bytes maxL own nm ret R n0 hz Q h cells slots (pc + 1) Ls (.long (x - (x / y) * y) :: st)) : OAt W l Z bytes maxL own nm ret R n0 hz Q h cells slots pc Ls (.long y :: .long x :: st) :=
  k.plain fun hh hx hby _ q => XS.lrem hh hx rfl (hb hby hd) rfl hy q
theorem ineg {x : Int32} (hd : decode bytes pc = .ok (.ineg, 1)) (k : OAt W l Z bytes maxL own nm ret R n0 hz Q h cells slots (pc + 1) Ls (.int (-x) :: st)) : OAt W l Z bytes maxL own nm ret R n0 hz Q h cells slots pc Ls (.int x :: st) :=
  k.plain fun hh hx hby _ q => XS.ineg hh hx rfl (hb hby hd) rfl q
theorem lneg {x : Int64} (hd : decode bytes pc = .ok (.lneg, 1)) (k : OAt W l Z bytes maxL own nm ret R n0 hz Q h cells slots (pc + 1) Ls (.long (-x) :: st)) : OAt W l Z bytes maxL own nm ret R n0 hz Q h cells slots pc Ls (.long x :: st) :=
  k.plain fun hh hx hby _ q => XS.lneg hh hx rfl (hb hby hd) rfl q
theorem i2l {x : Int32} (hd : decode bytes pc = .ok (.i2l, 1)) (k : OAt W l Z bytes maxL own nm ret R n0 hz Q h cells slots (pc + 1) Ls (.long x.toInt64 :: st)) : OAt W l Z bytes maxL own nm ret R n0 hz Q h cells slots pc Ls (.int x :: st) :=
  k.plain fun hh hx hby _ q => XS.i2l hh hx rfl (hb hby hd) rfl q
theorem l2i {x : Int64} (hd : decode bytes pc = .ok (.l2i, 1)) (k : OAt W l Z bytes maxL own nm ret R n0 hz Q h cells slots (pc + 1) Ls (.int x.toInt32 :: st)) : OAt W l Z bytes maxL own nm ret R n0 hz Q h cells slots pc Ls (.long x :: st) :=
  k.plain fun hh hx hby _ q => XS.l2i hh hx rfl (hb hby hd) rfl q
theorem i2b {x : Int32} (hd : decode bytes pc = .ok (.i2b, 1)) (k : OAt W l Z bytes maxL own nm ret R n0 hz Q h cells slots (pc + 1) Ls (.int x.toInt8.toInt32 :: st)) : OAt W l Z bytes maxL own nm ret R n0 hz Q h cells slots pc Ls (.int x :: st) :=
  k.plain fun hh hx hby _ q => XS.i2b hh hx rfl (hb hby hd) rfl q
theorem i2s {x : Int32} (hd : decode bytes pc = .ok (.i2s, 1)) (k : OAt W l Z bytes maxL own nm ret R n0 hz Q h cells slots (pc + 1) Ls (.int x.toInt16.toInt32 :: st)) : OAt W l Z bytes maxL own nm ret R n0 hz Q h cells slots pc Ls (.int x :: st) :=
  k.plain fun hh hx hby _ q => XS.i2s hh hx rfl (hb hby hd) rfl q
theorem i2c {x : Int32} (hd : decode bytes pc = .ok (.i2c, 1)) (k : OAt W l Z bytes maxL own nm ret R n0 hz Q h cells slots (pc + 1) Ls (.int x.toUInt32.toUInt16.toUInt32.toInt32 :: st)) : OAt W l Z bytes maxL own nm ret R n0 hz Q h cells slots pc Ls (.int x :: st) :=
  k.plain fun hh hx hby _ q => XS.i2c hh hx rfl (hb hby hd) rfl q
theorem lcmp {x y : Int64} (hd : decode bytes pc = .ok (.lcmp, 1)) (k : OAt W l Z bytes maxL own nm ret R n0 hz Q h cells slots (pc + 1) Ls (.int (lcmpV x y) :: st)) : OAt W l Z bytes maxL own nm ret R n0 hz Q h cells slots pc Ls (.long y :: .long x :: st) :=
  k.plain fun hh hx hby _ q => XS.lcmp hh hx rfl (hb hby hd) rfl (by rw [← lcW] at q; exact q)
theorem pop {v : Value} (hd : decode bytes pc = .ok (.pop, 1)) (hc : v.category = 1) (k : OAt W l Z bytes maxL own nm ret R n0 hz Q h cells slots (pc + 1) Ls st) : OAt W l Z bytes maxL own nm ret R n0 hz Q h cells slots pc Ls (v :: st) :=
  k.plain fun hh hx hby _ q => XS.pop hh hx rfl (hb hby hd) rfl hc q
theorem dup {v : Value} (hd : decode bytes pc = .ok (.dup, 1)) (hc : v.category = 1) (k : OAt W l Z bytes maxL own nm ret R n0 hz Q h cells slots (pc + 1) Ls (v :: v :: st)) : OAt W l Z bytes maxL own nm ret R n0 hz Q h cells slots pc Ls (v :: st) :=
  k.plain fun hh hx hby _ q => XS.dup hh hx rfl (hb hby hd) rfl hc q
theorem dupX1 {v w : Value} (hd : decode bytes pc = .ok (.dup_x1, 1)) (hc : v.category = 1) (hc' : w.category = 1) (k : OAt W l Z bytes maxL own nm ret R n0 hz Q h cells slots (pc + 1) Ls (v :: w :: v :: st)) : OAt W l Z bytes maxL own nm ret R n0 hz Q h cells slots pc Ls (v :: w :: st) :=
  k.plain fun hh hx hby _ q => XS.dupX1 hh hx rfl (hb hby hd) rfl hc hc' q
theorem dup2 {v w : Value} (hd : decode bytes pc = .ok (.dup2, 1)) (hc : v.category = 1) (hc' : w.category = 1) (k : OAt W l Z bytes maxL own nm ret R n0 hz Q h cells slots (pc + 1) Ls (v :: w :: v :: w :: st)) : OAt W l Z bytes maxL own nm ret R n0 hz Q h cells slots pc Ls (v :: w :: st) :=
  k.plain fun hh hx hby _ q => Jvm.Free.XT.dup2 hh hx rfl (hb hby hd) rfl hc hc' q
theorem dup2L {x : Int64} (hd : decode bytes pc = .ok (.dup2, 1)) (k : OAt W l Z bytes maxL own nm ret R n0 hz Q h cells slots (pc + 1) Ls (.long x :: .long x :: st)) : OAt W l Z bytes maxL own nm ret R n0 hz Q h cells slots pc Ls (.long x :: st) :=
  k.plain fun hh hx hby _ q => Jvm.Free.XT.dup2L hh hx rfl (hb hby hd) rfl q
theorem goto_ {o : Int} (pc' : Nat) (hd : decode bytes pc = .ok (.goto o, 3)) (ho : 0 ≤ (pc : Int) + o) (hp : ((pc : Int) + o).toNat = pc') (k : OAt W l Z bytes maxL own nm ret R n0 hz Q h cells slots pc' Ls st) : OAt W l Z bytes maxL own nm ret R n0 hz Q h cells slots pc Ls st :=
  k.plain fun hh hx hby _ q => XS.goto hh hx rfl rfl (hb hby hd) ho hp q
theorem icmp_eq {x y : Int32} {o : Int} (pc' : Nat) (hd : decode bytes pc = .ok (.if_icmp .eq o, 3)) (ho : 0 ≤ (pc : Int) + o) (hp : ((pc : Int) + o).toNat = pc') (kt : x = y → OAt W l Z bytes maxL own nm ret R n0 hz Q h cells slots pc' Ls st) (kf : ¬ x = y → OAt W l Z bytes maxL own nm ret R n0 hz Q h cells slots (pc + 3) Ls st) : OAt W l Z bytes maxL own nm ret R n0 hz Q h cells slots pc Ls (.int y :: .int x :: st) := by
  by_cases hc : x = y
  · exact (kt hc).plain fun hh hx hby _ q => XS.icmpYes hh hx rfl rfl (hb hby hd) rfl (teq hc).1 ho hp q
  · exact (kf hc).plain fun hh hx hby _ q => XS.icmpNo hh hx rfl (hb hby hd) rfl (feq hc).1 q
theorem if_eq {x : Int32} {o : Int} (pc' : Nat) (hd : decode bytes pc = .ok (.ifCond .eq o, 3)) (ho : 0 ≤ (pc : Int) + o) (hp : ((pc : Int) + o).toNat = pc') (kt : x = (0 : Int32) → OAt W l Z bytes maxL own nm ret R n0 hz Q h cells slots pc' Ls st) (kf : ¬ x = (0 : Int32) → OAt W l Z bytes maxL own nm ret R n0 hz Q h cells slots (pc + 3) Ls st) : OAt W l Z bytes maxL own nm ret R n0 hz Q h cells slots pc Ls (.int x :: st) := by
  by_cases hc : x = (0 : Int32)
  · exact (kt hc).plain fun hh hx hby _ q => XS.ifYes hh hx rfl rfl (hb hby hd) rfl ((if0 _ _).trans (teq hc).1) ho hp q
  · exact (kf hc).plain fun hh hx hby _ q => XS.ifNo hh hx rfl (hb hby hd) rfl ((if0 _ _).trans (feq hc).1) q
theorem icmp_ne {x y : Int32} {o : Int} (pc' : Nat) (hd : decode bytes pc = .ok (.if_icmp .ne o, 3)) (ho : 0 ≤ (pc : Int) + o) (hp : ((pc : Int) + o).toNat = pc') (kt : ¬ x = y → OAt W l Z bytes maxL own nm ret R n0 hz Q h cells slots pc' Ls st) (kf : x = y → OAt W l Z bytes maxL own nm ret R n0 hz Q h cells slots (pc + 3) Ls st) : OAt W l Z bytes maxL own nm ret R n0 hz Q h cells slots pc Ls (.int y :: .int x :: st) := by
  by_cases hc : ¬ x = y
  · exact (kt hc).plain fun hh hx hby _ q => XS.icmpYes hh hx rfl rfl (hb hby hd) rfl (feq hc).2 ho hp q
  · have hc' := Classical.not_not.mp hc; exact (kf hc').plain fun hh hx hby _ q => XS.icmpNo hh hx rfl (hb hby hd) rfl (teq hc').2 q
theorem if_ne {x : Int32} {o : Int} (pc' : Nat) (hd : decode bytes pc = .ok (.ifCond .ne o, 3)) (ho : 0 ≤ (pc : Int) + o) (hp : ((pc : Int) + o).toNat = pc') (kt : ¬ x = (0 : Int32) → OAt W l Z bytes maxL own nm ret R n0 hz Q h cells slots pc' Ls st) (kf : x = (0 : Int32) → OAt W l Z bytes maxL own nm ret R n0 hz Q h cells slots (pc + 3) Ls st) : OAt W l Z bytes maxL own nm ret R n0 hz Q h cells slots pc Ls (.int x :: st) := by
  by_cases hc : ¬ x = (0 : Int32)
  · exact (kt hc).plain fun hh hx hby _ q => XS.ifYes hh hx rfl rfl (hb hby hd) rfl ((if0 _ _).trans (feq hc).2) ho hp q
  · have hc' := Classical.not_not.mp hc; exact (kf hc').plain fun hh hx hby _ q => XS.ifNo hh hx rfl (hb hby hd) rfl ((if0 _ _).trans (teq hc').2) q
theorem icmp_lt {x y : Int32} {o : Int} (pc' : Nat) (hd : decode bytes pc = .ok (.if_icmp .lt o, 3)) (ho : 0 ≤ (pc : Int) + o) (hp : ((pc : Int) + o).toNat = pc') (kt : x < y → OAt W l Z bytes maxL own nm ret R n0 hz Q h cells slots pc' Ls st) (kf : ¬ x < y → OAt W l Z bytes maxL own nm ret R n0 hz Q h cells slots (pc + 3) Ls st) : OAt W l Z bytes maxL own nm ret R n0 hz Q h cells slots pc Ls (.int y :: .int x :: st) := by
  by_cases hc : x < y
  · exact (kt hc).plain fun hh hx hby _ q => XS.icmpYes hh hx rfl rfl (hb hby hd) rfl (tlt hc).1 ho hp q
  · exact (kf hc).plain fun hh hx hby _ q => XS.icmpNo hh hx rfl (hb hby hd) rfl (flt hc).1 q
theorem if_lt {x : Int32} {o : Int} (pc' : Nat) (hd : decode bytes pc = .ok (.ifCond .lt o, 3)) (ho : 0 ≤ (pc : Int) + o) (hp : ((pc : Int) + o).toNat = pc') (kt : x < (0 : Int32) → OAt W l Z bytes maxL own nm ret R n0 hz Q h cells slots pc' Ls st) (kf : ¬ x < (0 : Int32) → OAt W l Z bytes maxL own nm ret R n0 hz Q h cells slots (pc + 3) Ls st) : OAt W l Z bytes maxL own nm ret R n0 hz Q h cells slots pc Ls (.int x :: st) := by
  by_cases hc : x < (0 : Int32)
  · exact (kt hc).plain fun hh hx hby _ q => XS.ifYes hh hx rfl rfl (hb hby hd) rfl ((if0 _ _).trans (tlt hc).1) ho hp q
  · exact (kf hc).plain fun hh hx hby _ q => XS.ifNo hh hx rfl (hb hby hd) rfl ((if0 _ _).trans (flt hc).1) q
theorem icmp_ge {x y : Int32} {o : Int} (pc' : Nat) (hd : decode bytes pc = .ok (.if_icmp .ge o, 3)) (ho : 0 ≤ (pc : Int) + o) (hp : ((pc : Int) + o).toNat = pc') (kt : ¬ x < y → OAt W l Z bytes maxL own nm ret R n0 hz Q h cells slots pc' Ls st) (kf : x < y → OAt W l Z bytes maxL own nm ret R n0 hz Q h cells slots (pc + 3) Ls st) : OAt W l Z bytes maxL own nm ret R n0 hz Q h cells slots pc Ls (.int y :: .int x :: st) := by
  by_cases hc : ¬ x < y
  · exact (kt hc).plain fun hh hx hby _ q => XS.icmpYes hh hx rfl rfl (hb hby hd) rfl (flt hc).2.1 ho hp q
  · have hc' := Classical.not_not.mp hc; exact (kf hc').plain fun hh hx hby _ q => XS.icmpNo hh hx rfl (hb hby hd) rfl (tlt hc').2.1 q
theorem if_ge {x : Int32} {o : Int} (pc' : Nat) (hd : decode bytes pc = .ok (.ifCond .ge o, 3)) (ho : 0 ≤ (pc : Int) + o) (hp : ((pc : Int) + o).toNat = pc') (kt : ¬ x < (0 : Int32) → OAt W l Z bytes maxL own nm ret R n0 hz Q h cells slots pc' Ls st) (kf : x < (0 : Int32) → OAt W l Z bytes maxL own nm ret R n0 hz Q h cells slots (pc + 3) Ls st) : OAt W l Z bytes maxL own nm ret R n0 hz Q h cells slots pc Ls (.int x :: st) := by
  by_cases hc : ¬ x < (0 : Int32)
  · exact (kt hc).plain fun hh hx hby _ q => XS.ifYes hh hx rfl rfl (hb hby hd) rfl ((if0 _ _).trans (flt hc).2.1) ho hp q
  · have hc' := Classical.not_not.mp hc; exact (kf hc').plain fun hh hx hby _ q => XS.ifNo hh hx rfl (hb hby hd) rfl ((if0 _ _).trans (tlt hc').2.1) q
theorem icmp_gt {x y : Int32} {o : Int} (pc' : Nat) (hd : decode bytes pc = .ok (.if_icmp .gt o, 3)) (ho : 0 ≤ (pc : Int) + o) (hp : ((pc : Int) + o).toNat = pc') (kt : y < x → OAt W l Z bytes maxL own nm ret R n0 hz Q h cells slots pc' Ls st) (kf : ¬ y < x → OAt W l Z bytes maxL own nm ret R n0 hz Q h cells slots (pc + 3) Ls st) : OAt W l Z bytes maxL own nm ret R n0 hz Q h cells slots pc Ls (.int y :: .int x :: st) := by
  by_cases hc : y < x
  · exact (kt hc).plain fun hh hx hby _ q => XS.icmpYes hh hx rfl rfl (hb hby hd) rfl (tlt hc).2.2.1 ho hp q
  · exact (kf hc).plain fun hh hx hby _ q => XS.icmpNo hh hx rfl (hb hby hd) rfl (flt hc).2.2.1 q
theorem if_gt {x : Int32} {o : Int} (pc' : Nat) (hd : decode bytes pc = .ok (.ifCond .gt o, 3)) (ho : 0 ≤ (pc : Int) + o) (hp : ((pc : Int) + o).toNat = pc') (kt : (0 : Int32) < x → OAt W l Z bytes maxL own nm ret R n0 hz Q h cells slots pc' Ls st) (kf : ¬ (0 : Int32) < x → OAt W l Z bytes maxL own nm ret R n0 hz Q h cells slots (pc + 3) Ls st) : OAt W l Z bytes maxL own nm ret R n0 hz Q h cells slots pc Ls (.int x :: st) := by
  by_cases hc : (0 : Int32) < x
  · exact (kt hc).plain fun hh hx hby _ q => XS.ifYes hh hx rfl rfl (hb hby hd) rfl ((if0 _ _).trans (tlt hc).2.2.1) ho hp q
  · exact (kf hc).plain fun hh hx hby _ q => XS.ifNo hh hx rfl (hb hby hd) rfl ((if0 _ _).trans (flt hc).2.2.1) q
theorem icmp_le {x y : Int32} {o : Int} (pc' : Nat) (hd : decode bytes pc = .ok (.if_icmp .le o, 3)) (ho : 0 ≤ (pc : Int) + o) (hp : ((pc : Int) + o).toNat = pc') (kt : ¬ y < x → OAt W l Z bytes maxL own nm ret R n0 hz Q h cells slots pc' Ls st) (kf : y < x → OAt W l Z bytes maxL own nm ret R n0 hz Q h cells slots (pc + 3) Ls st) : OAt W l Z bytes maxL own nm ret R n0 hz Q h cells slots pc Ls (.int y :: .int x :: st) := by
  by_cases hc : ¬ y < x
  · exact (kt hc).plain fun hh hx hby _ q => XS.icmpYes hh hx rfl rfl (hb hby hd) rfl (flt hc).2.2.2 ho hp q
  · have hc' := Classical.not_not.mp hc; exact (kf hc').plain fun hh hx hby _ q => XS.icmpNo hh hx rfl (hb hby hd) rfl (tlt hc').2.2.2 q
theorem if_le {x : Int32} {o : Int} (pc' : Nat) (hd : decode bytes pc = .ok (.ifCond .le o, 3)) (ho : 0 ≤ (pc : Int) + o) (hp : ((pc : Int) + o).toNat = pc') (kt : ¬ (0 : Int32) < x → OAt W l Z bytes maxL own nm ret R n0 hz Q h cells slots pc' Ls st) (kf : (0 : Int32) < x → OAt W l Z bytes maxL own nm ret R n0 hz Q h cells slots (pc + 3) Ls st) : OAt W l Z bytes maxL own nm ret R n0 hz Q h cells slots pc Ls (.int x :: st) := by
  by_cases hc : ¬ (0 : Int32) < x
  · exact (kt hc).plain fun hh hx hby _ q => XS.ifYes hh hx rfl rfl (hb hby hd) rfl ((if0 _ _).trans (flt hc).2.2.2) ho hp q
  · have hc' := Classical.not_not.mp hc; exact (kf hc').plain fun hh hx hby _ q => XS.ifNo hh hx rfl (hb hby hd) rfl ((if0 _ _).trans (tlt hc').2.2.2) q
theorem ifnullYes {o : Int} (pc' : Nat) (hd : decode bytes pc = .ok (.ifnull o, 3)) (ho : 0 ≤ (pc : Int) + o) (hp : ((pc : Int) + o).toNat = pc') (k : OAt W l Z bytes maxL own nm ret R n0 hz Q h cells slots pc' Ls st) : OAt W l Z bytes maxL own nm ret R n0 hz Q h cells slots pc Ls (.null :: st) :=
  k.plain fun hh hx hby _ q => XS.ifnullYes hh hx rfl rfl (hb hby hd) rfl ho hp q
theorem ifnullNo {b : Addr} {o : Int} (hd : decode bytes pc = .ok (.ifnull o, 3)) (k : OAt W l Z bytes maxL own nm ret R n0 hz Q h cells slots (pc + 3) Ls st) : OAt W l Z bytes maxL own nm ret R n0 hz Q h cells slots pc Ls (.ref b :: st) :=
  k.plain fun hh hx hby _ q => XS.ifnullNo hh hx rfl (hb hby hd) rfl q
theorem ifnonnullYes {b : Addr} {o : Int} (pc' : Nat) (hd : decode bytes pc = .ok (.ifnonnull o, 3)) (ho : 0 ≤ (pc : Int) + o) (hp : ((pc : Int) + o).toNat = pc') (k : OAt W l Z bytes maxL own nm ret R n0 hz Q h cells slots pc' Ls st) : OAt W l Z bytes maxL own nm ret R n0 hz Q h cells slots pc Ls (.ref b :: st) :=
  k.plain fun hh hx hby _ q => XS.ifnonnullYes hh hx rfl rfl (hb hby hd) rfl ho hp q
theorem ifnonnullNo {o : Int} (hd : decode bytes pc = .ok (.ifnonnull o, 3)) (k : OAt W l Z bytes maxL own nm ret R n0 hz Q h cells slots (pc + 3) Ls st) : OAt W l Z bytes maxL own nm ret R n0 hz Q h cells slots pc Ls (.null :: st) :=
  k.plain fun hh hx hby _ q => XS.ifnonnullNo hh hx rfl (hb hby hd) rfl q
theorem acmp_eq {x y : Value} {o : Int} (pc' : Nat) (hd : decode bytes pc = .ok (.if_acmp .eq o, 3)) (ho : 0 ≤ (pc : Int) + o) (hp : ((pc : Int) + o).toNat = pc') (hx' : x.isRef = true) (hy' : y.isRef = true) (kt : x = y → OAt W l Z bytes maxL own nm ret R n0 hz Q h cells slots pc' Ls st) (kf : ¬ x = y → OAt W l Z bytes maxL own nm ret R n0 hz Q h cells slots (pc + 3) Ls st) : OAt W l Z bytes maxL own nm ret R n0 hz Q h cells slots pc Ls (y :: x :: st) := by
  by_cases hc : x = y
  · exact (kt hc).plain fun hh hx hby _ q => Jvm.Free.XT.acmpYes hh hx rfl rfl (hb hby hd) rfl hx' hy' (Jvm.Free.XT.aa_eq_t hc) ho hp q
  · exact (kf hc).plain fun hh hx hby _ q => Jvm.Free.XT.acmpNo hh hx rfl (hb hby hd) rfl hx' hy' (Jvm.Free.XT.aa_eq_f hc) q
theorem acmp_ne {x y : Value} {o : Int} (pc' : Nat) (hd : decode bytes pc = .ok (.if_acmp .ne o, 3)) (ho : 0 ≤ (pc : Int) + o) (hp : ((pc : Int) + o).toNat = pc') (hx' : x.isRef = true) (hy' : y.isRef = true) (kt : ¬ x = y → OAt W l Z bytes maxL own nm ret R n0 hz Q h cells slots pc' Ls st) (kf : x = y → OAt W l Z bytes maxL own nm ret R n0 hz Q h cells slots (pc + 3) Ls st) : OAt W l Z bytes maxL own nm ret R n0 hz Q h cells slots pc Ls (y :: x :: st) := by
  by_cases hc : ¬ x = y
  · exact (kt hc).plain fun hh hx hby _ q => Jvm.Free.XT.acmpYes hh hx rfl rfl (hb hby hd) rfl hx' hy' (Jvm.Free.XT.aa_ne_t hc) ho hp q
  · have hc' := Classical.not_not.mp hc; exact (kf hc').plain fun hh hx hby _ q => Jvm.Free.XT.acmpNo hh hx rfl (hb hby hd) rfl hx' hy' (Jvm.Free.XT.aa_ne_f hc') q
theorem irem_ {x y : Int32} (hd : decode bytes pc = .ok (.irem, 1)) (hy : y ≠ 0) (k : OAt W l Z bytes maxL own nm ret R n0 hz Q h cells slots (pc + 1) Ls (.int (x % y) :: st)) : OAt W l Z bytes maxL own nm ret R n0 hz Q h cells slots pc Ls (.int y :: .int x :: st) :=
  k.warm fun C X e => ⟨_, X, e, fun _ q => iremM X C.1 rfl (hb C.2.1 hd) rfl hy q⟩
theorem ldcInt {v : Int32} {i : Nat} (w : (Jvm.Cond.constant own i v).before a0 Z = true) (hd : decode bytes pc = .ok (.ldc i, 2)) (k : OAt W l Z bytes maxL own nm ret R n0 hz Q h cells slots (pc + 2) Ls (.int v :: st)) : OAt W l Z bytes maxL own nm ret R n0 hz Q h cells slots pc Ls st :=
  k.warm fun C X e => ⟨_, X, e, fun _ q => X.ldcI C.1 C.2.2.2.2.2.2.2 (mvT C.2.2.2.2.2.2.1 w) rfl (hb C.2.1 hd) q⟩
theorem ldcWInt {v : Int32} {i : Nat} (w : (Jvm.Cond.constant own i v).before a0 Z = true) (hd : decode bytes pc = .ok (.ldc_w i, 3)) (k : OAt W l Z bytes maxL own nm ret R n0 hz Q h cells slots (pc + 3) Ls (.int v :: st)) : OAt W l Z bytes maxL own nm ret R n0 hz Q h cells slots pc Ls st :=
  k.warm fun C X e => ⟨_, X, e, fun _ q => X.ldcWI C.1 C.2.2.2.2.2.2.2 (mvT C.2.2.2.2.2.2.1 w) rfl (hb C.2.1 hd) q⟩
theorem ldc2Long {v : Int64} {i : Nat} (w : (Jvm.Cond.constantLong own i v).before a0 Z = true) (hd : decode bytes pc = .ok (.ldc2_w i, 3)) (k : OAt W l Z bytes maxL own nm ret R n0 hz Q h cells slots (pc + 3) Ls (.long v :: st)) : OAt W l Z bytes maxL own nm ret R n0 hz Q h cells slots pc Ls st :=
  k.warm fun C X e => ⟨_, X, e, fun _ q => X.ldc2J C.1 C.2.2.2.2.2.2.2 (mvT C.2.2.2.2.2.2.1 w) rfl (hb C.2.1 hd) q⟩
/-! returns -/
theorem ret_int {z : Int32} (hret : ret = some .int) (hd : decode bytes pc = .ok (.ireturn, 1)) (hc : cells ≤ R.cells) (hn : slots ≤ R.slots) (hq : Q (some (.int z)) h) : OAt W l Z bytes maxL own nm ret R n0 hz Q h cells slots pc Ls (.int z :: st) :=
  OAt.done (by rw [hret]; nofun) hq hc hn fun C X hl => retOut X C.1 (t := .int) (C.2.2.2.1.trans hret) rfl (Or.inl ⟨rfl, Or.inl rfl, z, rfl⟩) (hb C.2.1 hd) hl
theorem ret_nar {z : Int32} {t : FieldType} (ht : t = .boolean ∨ t = .byte ∨ t = .char ∨ t = .short) (hret : ret = some t) (hd : decode bytes pc = .ok (.ireturn, 1)) (hc : cells ≤ R.cells) (hn : slots ≤ R.slots) (hq : Q (some (.int (nar t z))) h) : OAt W l Z bytes maxL own nm ret R n0 hz Q h cells slots pc Ls (.int z :: st) :=
  OAt.done (by rw [hret]; nofun) hq hc hn fun C X hl => retN X C.1 (C.2.2.2.1.trans hret) ht (hb C.2.1 hd) hl
theorem ret_long {z : Int64} (hret : ret = some .long) (hd : decode bytes pc = .ok (.lreturn, 1)) (hc : cells ≤ R.cells) (hn : slots ≤ R.slots) (hq : Q (some (.long z)) h) : OAt W l Z bytes maxL own nm ret R n0 hz Q h cells slots pc Ls (.long z :: st) :=
  OAt.done (by rw [hret]; nofun) hq hc hn fun C X hl => retOut X C.1 (t := .long) (C.2.2.2.1.trans hret) rfl (Or.inr (Or.inl ⟨rfl, rfl, z, rfl⟩)) (hb C.2.1 hd) hl
theorem ret_ref {v : Value} {t : FieldType} (hv : v.isRef = true) (ht : t.isReference = true) (hret : ret = some t) (hd : decode bytes pc = .ok (.areturn, 1)) (hc : cells ≤ R.cells) (hn : slots ≤ R.slots) (hq : Q (some v) h) : OAt W l Z bytes maxL own nm ret R n0 hz Q h cells slots pc Ls (v :: st) :=
  OAt.done (by rw [hret]; nofun) hq hc hn fun C X hl => retOut X C.1 (t := t) (C.2.2.2.1.trans hret) (by rcases ref_cases hv with rfl | ⟨a, rfl⟩ <;> cases t <;> first | rfl | (simp [FieldType.isReference] at ht)) (Or.inr (Or.inr (Or.inr (Or.inr ⟨rfl, ht, hv⟩)))) (hb C.2.1 hd) hl
theorem ret_void (hret : ret = none) (hd : decode bytes pc = .ok (.return_, 1)) (hc : cells ≤ R.cells) (hn : slots ≤ R.slots) (hq : Q none h) : OAt W l Z bytes maxL own nm ret R n0 hz Q h cells slots pc Ls [] :=
  OAt.done (fun _ => rfl) hq hc hn fun C X hl => X.returnOut C.1 (C.2.2.2.1.trans hret) (hb C.2.1 hd) hl

theorem Cx.exec {p : Program} {vm0 : Vm} {m : MethodId} {meth : Method} {c : Code} (C : Cx Z bytes maxL own nm ret p vm0 m meth c) : p.tables.exec = Jvm.exec := C.1
theorem Cx.by {p : Program} {vm0 : Vm} {m : MethodId} {meth : Method} {c : Code} (C : Cx Z bytes maxL own nm ret p vm0 m meth c) : c.code = bytes := C.2.1
theorem Cx.ml {p : Program} {vm0 : Vm} {m : MethodId} {meth : Method} {c : Code} (C : Cx Z bytes maxL own nm ret p vm0 m meth c) : c.maxLocals = maxL := C.2.2.1
theorem Cx.name {p : Program} {vm0 : Vm} {m : MethodId} {meth : Method} {c : Code} (C : Cx Z bytes maxL own nm ret p vm0 m meth c) : meth.name = nm := C.2.2.2.2.2.1
theorem Cx.zz {p : Program} {vm0 : Vm} {m : MethodId} {meth : Method} {c : Code} (C : Cx Z bytes maxL own nm ret p vm0 m meth c) : Z.Warmed39 vm0 := C.2.2.2.2.2.2.1
theorem Cx.ow {p : Program} {vm0 : Vm} {m : MethodId} {meth : Method} {c : Code} (C : Cx Z bytes maxL own nm ret p vm0 m meth c) : vm0.findClass own = some m.cls := C.2.2.2.2.2.2.2
/-! objects and fields -/
theorem new_ {C : String} {i n : Nat} (w : (Jvm.Cond.classLink own i C).before a0 Z = true) (wi : (Jvm.Cond.instantiable C n).before a0 Z = true) (wz : (Jvm.Cond.initialized C).before a0 Z = true) (hd : decode bytes pc = .ok (.new i, 3)) (hc : cells + 1 ≤ R.cells) (hl : slots + n ≤ R.slots)
    (k : ∀ (h' : Heap) (a : Addr), a = h.size → Ext h h' → Exa Z h' a C → (∀ {O f d : String} {ty : FieldType}, Laid Z a0 C O f d → parseFieldDescriptor d = some ty → Fld Z h' a O f d (defaultValue ty)) → OAt W l Z bytes maxL own nm ret R n0 hz Q h' (cells + 1) (slots + n) (pc + 3) Ls (.ref a :: st)) : OAt W l Z bytes maxL own nm ret R n0 hz Q h cells slots pc Ls st :=
  OAt.move (P := fun h' => Ext h h' ∧ Exa Z h' h.size C ∧ ∀ {O f d : String} {ty : FieldType}, Laid Z a0 C O f d → parseFieldDescriptor d = some ty → Fld Z h' h.size O f d (defaultValue ty)) (st' := fun _ => .ref h.size :: st) (fun _ q => q.1.1) (fun h' q => k h' _ rfl q.1 q.2.1 q.2.2) fun C X e N => by
    obtain ⟨T', h', X', e', E, A, D, -, g⟩ := newO X C.exec C.zz C.ow w wi wz e (g := mkF _ pc Ls st) rfl (hb C.by hd) hc hl
    exact ⟨T', h', _, X', e', N, ⟨E, A, D⟩, g⟩
theorem getF_ {R0 O f d host : String} {i : Nat} {a : Addr} {v : Value} (w : (Jvm.Cond.fieldLink own i R0 f d).before a0 Z = true ∨ (Jvm.Cond.fieldLinkNest own i R0 f d host).before a0 Z = true) (via : Via Z R0 O f d) (F : Fld Z h a O f d v) (hd : decode bytes pc = .ok (.getfield i, 3)) (k : OAt W l Z bytes maxL own nm ret R n0 hz Q h cells slots (pc + 3) Ls (v :: st)) : OAt W l Z bytes maxL own nm ret R n0 hz Q h cells slots pc Ls (.ref a :: st) :=
  k.warm fun C X e => Jvm.RoadKit.getF X C.exec C.zz C.ow w via e F (g := mkF _ pc Ls (.ref a :: st)) rfl rfl (hb C.by hd)
theorem getS_ {R0 O f d host : String} {i : Nat} {v : Value} (w : (Jvm.Cond.fieldLink own i R0 f d).before a0 Z = true ∨ (Jvm.Cond.fieldLinkNest own i R0 f d host).before a0 Z = true) (via : Via Z R0 O f d) (F : Sta Z h O f d v) (hd : decode bytes pc = .ok (.getstatic i, 3)) (k : OAt W l Z bytes maxL own nm ret R n0 hz Q h cells slots (pc + 3) Ls (v :: st)) : OAt W l Z bytes maxL own nm ret R n0 hz Q h cells slots pc Ls st :=
  k.warm fun C X e => getS2 X C.exec C.zz C.ow w via e F (g := mkF _ pc Ls st) rfl (hb C.by hd)
theorem putF_ {R0 O f d host K : String} {i kk : Nat} {ty : FieldType} {a : Addr} {v old : Value} (w : (Jvm.Cond.fieldLink own i R0 f d).before a0 Z = true ∨ (Jvm.Cond.fieldLinkNest own i R0 f d host).before a0 Z = true) (via : Via Z R0 O f d) (F : Fld Z h a O f d old) (E : Exa Z h a K)
    (L : (Jvm.Cond.lays K O f d).before a0 Z = true ∨ ((Jvm.Cond.laysFinal K O f d).before a0 Z = true ∧ own = O ∧ nm = "<init>")) (wi : (Jvm.Cond.instantiable K kk).before a0 Z = true) (hty : parseFieldDescriptor d = some ty) (hn : narrow ty v = v) (hf : fits ty v = true) (ha : n0 ≤ a) (hd : decode bytes pc = .ok (.putfield i, 3))
    (k : ∀ h', Wr h h' a (Jvm.RoadKit.slotOf Z O f d) v → OAt W l Z bytes maxL own nm ret R n0 hz Q h' cells slots (pc + 3) Ls st) : OAt W l Z bytes maxL own nm ret R n0 hz Q h cells slots pc Ls (v :: .ref a :: st) :=
  OAt.move (P := fun h' => Wr h h' a (Jvm.RoadKit.slotOf Z O f d) v) (st' := fun _ => st) (fun _ q => Nat.le_of_eq q.size.symm) k fun C X e N => by
    obtain ⟨T', h', X', e', W', g⟩ := putF X C.exec C.zz C.ow w via e F E (L.imp id fun q => ⟨q.1, q.2.1, C.name.trans q.2.2⟩) wi hty hn hf (g := mkF _ pc Ls (v :: .ref a :: st)) rfl rfl (hb C.by hd)
    exact ⟨T', h', _, X', e', Fr.snoc X' N ha, W', g⟩
theorem putFN_ {R0 O f d K : String} {i kk : Nat} {ty : FieldType} {a : Addr} {v v' old : Value} (w : (Jvm.Cond.fieldLink own i R0 f d).before a0 Z = true) (via : Via Z R0 O f d) (F : Fld Z h a O f d old) (E : Exa Z h a K)
    (L : (Jvm.Cond.lays K O f d).before a0 Z = true ∨ ((Jvm.Cond.laysFinal K O f d).before a0 Z = true ∧ own = O ∧ nm = "<init>")) (wi : (Jvm.Cond.instantiable K kk).before a0 Z = true) (hty : parseFieldDescriptor d = some ty) (hn : narrow ty v = v') (hf : fits ty v' = true) (ha : n0 ≤ a) (hd : decode bytes pc = .ok (.putfield i, 3))
    (k : ∀ h', Wr h h' a (Jvm.RoadKit.slotOf Z O f d) v' → OAt W l Z bytes maxL own nm ret R n0 hz Q h' cells slots (pc + 3) Ls st) : OAt W l Z bytes maxL own nm ret R n0 hz Q h cells slots pc Ls (v :: .ref a :: st) :=
  OAt.move (P := fun h' => Wr h h' a (Jvm.RoadKit.slotOf Z O f d) v') (st' := fun _ => st) (fun _ q => Nat.le_of_eq q.size.symm) k fun C X e N => by
    obtain ⟨T', h', X', e', W', g⟩ := putFN X C.exec C.zz C.ow w via e F E (L.imp id fun q => ⟨q.1, q.2.1, C.name.trans q.2.2⟩) wi hty hn hf (g := mkF _ pc Ls (v :: .ref a :: st)) rfl rfl (hb C.by hd)
    exact ⟨T', h', _, X', e', Fr.snoc X' N ha, W', g⟩
theorem initO_ {i : Nat} {a : Addr} (w1 : (Jvm.Cond.methodLink own i Lib.objectInit).before a0 Z = true) (w2 : (Jvm.Cond.instanceMethod Lib.objectInit).before a0 Z = true) (w3 : (Jvm.Cond.code Lib.objectInit ⟨#[0xb1]⟩ 1 none).before a0 Z = true) (hd : decode bytes pc = .ok (.invokespecial i, 3)) (hs : Ls.size = maxL) (hf : 1 ≤ R.frames)
    (wt : Nat) (hW : (st.map fun v => v.category).sum = wt) (hl : wt + 12 ≤ R.locals) (k : OAt W l Z bytes maxL own nm ret R n0 hz Q h cells slots (pc + 3) Ls st) : OAt W l Z bytes maxL own nm ret R n0 hz Q h cells slots pc Ls (.ref a :: st) :=
  k.warm fun C X e => initO X C.exec C.zz C.ow w1 w2 w3 e (g := mkF _ pc Ls (.ref a :: st)) rfl (by rw [C.ml]; exact hs) rfl (hb C.by hd) hf (W := wt) (by show 2 * 0 + _ ≤ _; rw [hW]; omega) hl
theorem castY_ {K : String} {i : Nat} {a : Addr} (w : (Jvm.Cond.classLink own i K).before a0 Z = true) (F : Ins Z h a K true) (hd : decode bytes pc = .ok (.checkcast i, 3)) (k : OAt W l Z bytes maxL own nm ret R n0 hz Q h cells slots (pc + 3) Ls (.ref a :: st)) : OAt W l Z bytes maxL own nm ret R n0 hz Q h cells slots pc Ls (.ref a :: st) :=
  k.warm fun C X e => castY X C.exec C.zz C.ow w e F (g := mkF _ pc Ls (.ref a :: st)) rfl rfl (hb C.by hd)
theorem castNull {i : Nat} (hd : decode bytes pc = .ok (.checkcast i, 3)) (k : OAt W l Z bytes maxL own nm ret R n0 hz Q h cells slots (pc + 3) Ls (.null :: st)) : OAt W l Z bytes maxL own nm ret R n0 hz Q h cells slots pc Ls (.null :: st) :=
  k.warm fun C X e => ⟨_, X, e, X.checkcastNull C.exec (g := mkF _ pc Ls (.null :: st)) rfl rfl (hb C.by hd)⟩
theorem instY_ {K : String} {i : Nat} {a : Addr} (w : (Jvm.Cond.classLink own i K).before a0 Z = true) (F : Ins Z h a K true) (hd : decode bytes pc = .ok (.instanceof i, 3)) (k : OAt W l Z bytes maxL own nm ret R n0 hz Q h cells slots (pc + 3) Ls (.int 1 :: st)) : OAt W l Z bytes maxL own nm ret R n0 hz Q h cells slots pc Ls (.ref a :: st) :=
  k.warm fun C X e => instY X C.exec C.zz C.ow w e F (g := mkF _ pc Ls (.ref a :: st)) rfl rfl (hb C.by hd)
/-! arrays: a list of what they hold -/
def Arl (Z : State) (h : Heap) (a : Addr) (k : ClassId) (ty : FieldType) (vs : List Value) : Prop := ∃ c : Cell, Arr Z h a c ty ∧ c.cls = k ∧ c.slots.toList = vs ∧ vs.length < 2 ^ 31 ∧ ∀ v ∈ vs, fits ty v = true
section Arl
variable {a b : Addr} {ka : ClassId} {ty : FieldType} {vs : List Value} {v : Value} {sl : Nat} {ws : List Addr}
theorem Arl.lt (F : Arl Z h a ka ty vs) : a < h.size := by obtain ⟨c, A, -⟩ := F; exact A.lt
theorem Arl.len (F : Arl Z h a ka ty vs) : vs.length < 2 ^ 31 := by obtain ⟨c, -, -, -, q, -⟩ := F; exact q
theorem Arl.fits (F : Arl Z h a ka ty vs) : ∀ v ∈ vs, Jvm.fits ty v = true := by obtain ⟨c, -, -, -, -, q⟩ := F; exact q
theorem Arl.ext (F : Arl Z h a ka ty vs) (E : Ext h h') : Arl Z h' a ka ty vs := by obtain ⟨c, A, r⟩ := F; exact ⟨c, A.ext E, r⟩
theorem Arl.other (F : Arl Z h b ka ty vs) (W : Wr h h' a sl v) (q : b ≠ a) : Arl Z h' b ka ty vs := by obtain ⟨c, A, r⟩ := F; exact ⟨c, A.other W q, r⟩
theorem Arl.keep (F : Arl Z h a ka ty vs) (K : Keep h h' ws) (q : a ∉ ws) : Arl Z h' a ka ty vs := by obtain ⟨c, A, r⟩ := F; exact ⟨c, ⟨K.2.1 a c A.1 q, A.2⟩, r⟩
theorem Arl.of_new {n : Int32} {N : Nat} (A : Arr Z h a (newA ka ty n) ty) (hn : n.toInt = N) (hf : Jvm.fits ty (defaultValue ty) = true) : Arl Z h a ka ty (List.replicate N (defaultValue ty)) := by
  have hN : n.toNatClampNeg = N := by have h1 : n.toNatClampNeg = n.toInt.toNat := rfl; rw [h1, hn]; rfl
  refine ⟨_, A, rfl, ?_, ?_, ?_⟩
  · simp [newA, hN]
  · rw [List.length_replicate]; have := n.toInt_lt; omega
  · intro v hv; rw [List.mem_replicate] at hv; rw [hv.2]; exact hf
theorem idx_of {j : Int32} {i : Nat} (hj : j.toInt = i) : ¬ j < 0 ∧ j.toNatClampNeg = i := by
  refine ⟨fun q => ?_, ?_⟩
  · rw [Int32.lt_iff_toInt_lt, hj] at q; have : (0 : Int32).toInt = 0 := rfl; omega
  · have h1 : j.toNatClampNeg = j.toInt.toNat := rfl
    rw [h1, hj]; rfl
theorem Arl.at (F : Arl Z h a ka ty vs) {j : Int32} {i : Nat} (hj : j.toInt = i) (hv : vs[i]? = some v) : ∃ c : Cell, Arr Z h a c ty ∧ ¬ (j < 0 ∨ c.slots.size ≤ j.toNatClampNeg) ∧ c.slots[j.toNatClampNeg]? = some v := by
  obtain ⟨c, A, h1, h2, h3, h4⟩ := F
  obtain ⟨q1, q2⟩ := idx_of hj
  have hi : i < vs.length := (List.getElem?_eq_some_iff.mp hv).1
  have hs : c.slots.size = vs.length := by rw [← h2]; simp
  refine ⟨c, A, ?_, ?_⟩
  · rw [q2]; rintro (x | x)
    · exact q1 x
    · omega
  · rw [q2, ← Array.getElem?_toList, h2]; exact hv
theorem Arl.set (F : Arl Z h a ka ty vs) {i : Nat} (hf : Jvm.fits ty v = true) (W : Wr h h' a i v) : Arl Z h' a ka ty (vs.set i v) := by
  obtain ⟨c, A, h1, h2, h3, h4⟩ := F
  refine ⟨_, A.same W, h1, ?_, by simpa using h3, ?_⟩
  · subst h2; simp [Cell.setSlot]
  · intro w hw
    rcases List.mem_or_eq_of_mem_set hw with q | q
    · exact h4 _ q
    · rw [q]; exact hf
theorem Arl.inb (F : Arl Z h a ka ty vs) {j : Int32} {i : Nat} (hj : j.toInt = i) (hi : i < vs.length) : ∃ c : Cell, Arr Z h a c ty ∧ ¬ (j < 0 ∨ c.slots.size ≤ j.toNatClampNeg) := by
  obtain ⟨c, A, q, -⟩ := F.at hj (v := vs[i]) (List.getElem?_eq_getElem hi)
  exact ⟨c, A, q⟩
theorem Arl.nostat (F : Arl Z h a ka ty vs) : ∀ cell : Cell, h[a]? = some cell → cell.vm.isStatics = false := by obtain ⟨c, A, -⟩ := F; exact A.nostat
theorem sto_of {y : Addr} {C : String} (F : Arl Z h a ka ty vs) (O : Ovr Z ka C) (I : Ins Z h y C true) : Sto Z h a (.ref y) := by obtain ⟨c, A, q, -⟩ := F; exact Sto.ofV A q O I
theorem sta_keep {C n d : String} {w : Value} (F : Sta Z h C n d w) (K : Keep h h' ws) (hw : ∀ x ∈ ws, ∀ cell : Cell, h[x]? = some cell → cell.vm.isStatics = false) : Sta Z h' C n d w := by
  obtain ⟨cf, i, k, f, st, cell, h1, h2, h3, h4, h5, h6, h7⟩ := F
  refine ⟨cf, i, k, f, st, cell, h1, h2, h3, h4, K.2.1 _ _ h5 fun q => ?_, h6, h7⟩
  rw [hw st q cell h5] at h6; cases h6
theorem narrow_ref {t : FieldType} {w : Value} (hv : w.isRef = true) (ht : t.isReference = true) : narrow t w = w := by rcases ref_cases hv with rfl | ⟨x, rfl⟩ <;> cases t <;> first | rfl | (simp [FieldType.isReference] at ht)
theorem fits_ref' {t : FieldType} {w : Value} (hv : w.isRef = true) (ht : t.isReference = true) : Jvm.fits t w = true := by rcases ref_cases hv with rfl | ⟨x, rfl⟩ <;> cases t <;> first | rfl | (simp [FieldType.isReference] at ht)
theorem Arl.arv (F : Arl Z h a ka ty vs) (d : Value) {z : Int32} (hz : z.toInt = vs.length) : Arv Z h a ka ty z vs d := by
  obtain ⟨c, A, h1, h2, h3, h4⟩ := F
  obtain ⟨q1, q2⟩ := idx_of hz
  have hs : c.slots.size = vs.length := by rw [← h2]; simp
  refine ⟨c, A, h1, hs.trans q2.symm, q1, ?_, ?_⟩
  · intro k hk
    have hk' : k < vs.length := by omega
    rw [← Array.getElem?_toList, h2, List.getD_eq_getElem?_getD, List.getElem?_eq_getElem hk']; rfl
  · intro i hi
    have hi' : i < vs.length := by omega
    rw [List.getD_eq_getElem?_getD, List.getElem?_eq_getElem hi']
    exact h4 _ (List.getElem_mem hi')
theorem Arl.of_arv {d : Value} {z : Int32} (F : Arv Z h a ka ty z vs d) (hz : z.toInt = vs.length) : Arl Z h a ka ty vs := by
  obtain ⟨c, A, h1, h2, h3, h4, h5⟩ := F
  obtain ⟨q1, q2⟩ := idx_of hz
  have hs : c.slots.size = vs.length := h2.trans q2
  have hv : ∀ k (hk : k < vs.length), vs.getD k d = vs[k] := fun k hk => by rw [List.getD_eq_getElem?_getD, List.getElem?_eq_getElem hk]; rfl
  refine ⟨c, A, h1, ?_, ?_, ?_⟩
  · apply List.ext_getElem?
    intro k
    rw [Array.getElem?_toList]
    by_cases hk : k < vs.length
    · rw [h4 k (by omega), List.getElem?_eq_getElem hk, hv k hk]
    · rw [List.getElem?_eq_none (by omega), Array.getElem?_eq_none (by omega)]
  · have := z.toInt_lt; omega
  · intro v hm
    obtain ⟨i, hi, rfl⟩ := List.getElem_of_mem hm
    rw [← hv i hi]; exact h5 i (by omega)
end Arl
theorem newarray_ {aty : ArrayType} {n : Int32} {N : Nat} (cap : Nat) (ty : FieldType) (hty : newarray.typeOf aty = ty) (w : (Jvm.Cond.arrayClass ty).before a0 Z = true) (hd : decode bytes pc = .ok (.newarray aty, 2)) (hn : n.toInt = N) (hcap : N ≤ cap) (hb' : cap * 8 ≤ 536870912) (hc : cells + 1 ≤ R.cells) (hl : slots + cap ≤ R.slots) (hf : fits ty (defaultValue ty) = true)
    (k : ∀ (h' : Heap) (a : Addr) (ka : ClassId), a = h.size → Ext h h' → Arl Z h' a ka ty (List.replicate N (defaultValue ty)) → OAt W l Z bytes maxL own nm ret R n0 hz Q h' (cells + 1) (slots + cap) (pc + 2) Ls (.ref a :: st)) : OAt W l Z bytes maxL own nm ret R n0 hz Q h cells slots pc Ls (.int n :: st) := by
  subst hty
  obtain ⟨q1, q2⟩ := idx_of hn
  exact OAt.move (P := fun h' => Ext h h' ∧ ∃ ka, Arl Z h' h.size ka (newarray.typeOf aty) (List.replicate N (defaultValue (newarray.typeOf aty)))) (st' := fun _ => .ref h.size :: st) (fun _ q => q.1.1) (fun h' q => by obtain ⟨q1, ka, q2⟩ := q; exact k h' _ ka rfl q1 q2) fun C X e N => by
    obtain ⟨T', h', cA, X', e', E, A, g⟩ := newP X C.exec C.zz w e (g := mkF _ pc Ls (.int n :: st)) rfl (hb C.by hd) rfl q1 (cap := cap) (by omega) hb' hc hl
    exact ⟨T', h', _, X', e', N, ⟨E, cA, Arl.of_new A hn hf⟩, g⟩
theorem anewarray_ {K : String} {i : Nat} {n : Int32} {N : Nat} (cap : Nat) (w1 : (Jvm.Cond.classLink own i K).before a0 Z = true) (w2 : (Jvm.Cond.arrayOver (.object K)).before a0 Z = true) (hd : decode bytes pc = .ok (.anewarray i, 3)) (hn : n.toInt = N) (hcap : N ≤ cap) (hb' : cap * 8 ≤ 536870912) (hc : cells + 1 ≤ R.cells) (hl : slots + cap ≤ R.slots)
    (k : ∀ (h' : Heap) (a : Addr) (ka : ClassId), a = h.size → Ext h h' → Ovr Z ka K → Arl Z h' a ka (.object K) (List.replicate N .null) → OAt W l Z bytes maxL own nm ret R n0 hz Q h' (cells + 1) (slots + cap) (pc + 3) Ls (.ref a :: st)) : OAt W l Z bytes maxL own nm ret R n0 hz Q h cells slots pc Ls (.int n :: st) := by
  obtain ⟨q1, q2⟩ := idx_of hn
  exact OAt.move (P := fun h' => Ext h h' ∧ ∃ ka, Ovr Z ka K ∧ Arl Z h' h.size ka (.object K) (List.replicate N .null)) (st' := fun _ => .ref h.size :: st) (fun _ q => q.1.1) (fun h' q => by obtain ⟨q1, ka, q3, q2⟩ := q; exact k h' _ ka rfl q1 q3 q2) fun C X e N => by
    obtain ⟨T', h', cA, X', e', E, A, O, g⟩ := newR X C.exec C.zz C.ow w1 w2 e (g := mkF _ pc Ls (.int n :: st)) rfl (hb C.by hd) rfl q1 (cap := cap) (by omega) hb' hc hl
    exact ⟨T', h', _, X', e', N, ⟨E, cA, O, Arl.of_new A hn rfl⟩, g⟩
theorem arraylength_ {a : Addr} {ka : ClassId} {ty : FieldType} {vs : List Value} (z : Int32) (F : Arl Z h a ka ty vs) (hz' : vs.length.toInt32 = z) (hd : decode bytes pc = .ok (.arraylength, 1)) (k : OAt W l Z bytes maxL own nm ret R n0 hz Q h cells slots (pc + 1) Ls (.int z :: st)) : OAt W l Z bytes maxL own nm ret R n0 hz Q h cells slots pc Ls (.ref a :: st) :=
  k.warm fun C X e => by
    obtain ⟨c, A, h1, h2, h3, h4⟩ := F
    have hs : c.slots.size.toInt32 = z := by rw [← hz', ← h2]; simp
    refine ⟨_, X, e, fun t q => X.arraylength C.exec (by rw [e]; exact A.1) (State.isArrayOf_alike C.zz.alike A.2.1) (g := mkF _ pc Ls (.ref a :: st)) rfl rfl (hb C.by hd) t ?_⟩
    rw [hs]; exact q
theorem iaload_ {a : Addr} {ka : ClassId} {vs : List Value} {j : Int32} {i : Nat} {v : Value} (F : Arl Z h a ka .int vs) (hj : j.toInt = i) (hv : vs[i]? = some v) (hd : decode bytes pc = .ok (.iaload, 1)) (k : OAt W l Z bytes maxL own nm ret R n0 hz Q h cells slots (pc + 1) Ls (v :: st)) : OAt W l Z bytes maxL own nm ret R n0 hz Q h cells slots pc Ls (.int j :: .ref a :: st) :=
  k.warm fun C X e => by
    obtain ⟨c, A, h1, h2⟩ := F.at hj hv
    exact ⟨_, X, e, fun t q => X.iaload C.exec (by rw [e]; exact A.1) (State.isArrayOf_alike C.zz.alike A.2.1) A.2.2 h1 h2 (g := mkF _ pc Ls (.int j :: .ref a :: st)) rfl rfl (hb C.by hd) t q⟩
theorem laload_ {a : Addr} {ka : ClassId} {vs : List Value} {j : Int32} {i : Nat} {v : Value} (F : Arl Z h a ka .long vs) (hj : j.toInt = i) (hv : vs[i]? = some v) (hd : decode bytes pc = .ok (.laload, 1)) (k : OAt W l Z bytes maxL own nm ret R n0 hz Q h cells slots (pc + 1) Ls (v :: st)) : OAt W l Z bytes maxL own nm ret R n0 hz Q h cells slots pc Ls (.int j :: .ref a :: st) :=
  k.warm fun C X e => by
    obtain ⟨c, A, h1, h2⟩ := F.at hj hv
    exact ⟨_, X, e, fun t q => X.laload C.exec (by rw [e]; exact A.1) (State.isArrayOf_alike C.zz.alike A.2.1) A.2.2 h1 h2 (g := mkF _ pc Ls (.int j :: .ref a :: st)) rfl rfl (hb C.by hd) t q⟩
theorem caload_ {a : Addr} {ka : ClassId} {vs : List Value} {j : Int32} {i : Nat} {v : Value} (F : Arl Z h a ka .char vs) (hj : j.toInt = i) (hv : vs[i]? = some v) (hd : decode bytes pc = .ok (.caload, 1)) (k : OAt W l Z bytes maxL own nm ret R n0 hz Q h cells slots (pc + 1) Ls (v :: st)) : OAt W l Z bytes maxL own nm ret R n0 hz Q h cells slots pc Ls (.int j :: .ref a :: st) :=
  k.warm fun C X e => by
    obtain ⟨c, A, h1, h2⟩ := F.at hj hv
    exact ⟨_, X, e, fun t q => X.caload C.exec (by rw [e]; exact A.1) (State.isArrayOf_alike C.zz.alike A.2.1) A.2.2 h1 h2 (g := mkF _ pc Ls (.int j :: .ref a :: st)) rfl rfl (hb C.by hd) t q⟩
theorem baload_ {a : Addr} {ka : ClassId} {vs : List Value} {j : Int32} {i : Nat} {v : Value} (F : Arl Z h a ka .byte vs) (hj : j.toInt = i) (hv : vs[i]? = some v) (hd : decode bytes pc = .ok (.baload, 1)) (k : OAt W l Z bytes maxL own nm ret R n0 hz Q h cells slots (pc + 1) Ls (v :: st)) : OAt W l Z bytes maxL own nm ret R n0 hz Q h cells slots pc Ls (.int j :: .ref a :: st) :=
  k.warm fun C X e => by
    obtain ⟨c, A, h1, h2⟩ := F.at hj hv
    exact ⟨_, X, e, fun t q => X.baloadBytes C.exec (by rw [e]; exact A.1) (State.isArrayOf_alike C.zz.alike A.2.1) A.2.2 h1 h2 (g := mkF _ pc Ls (.int j :: .ref a :: st)) rfl rfl (hb C.by hd) t q⟩
theorem zaload_ {a : Addr} {ka : ClassId} {vs : List Value} {j : Int32} {i : Nat} {v : Value} (F : Arl Z h a ka .boolean vs) (hj : j.toInt = i) (hv : vs[i]? = some v) (hd : decode bytes pc = .ok (.baload, 1)) (k : OAt W l Z bytes maxL own nm ret R n0 hz Q h cells slots (pc + 1) Ls (v :: st)) : OAt W l Z bytes maxL own nm ret R n0 hz Q h cells slots pc Ls (.int j :: .ref a :: st) :=
  k.warm fun C X e => by
    obtain ⟨c, A, h1, h2⟩ := F.at hj hv
    exact ⟨_, X, e, fun t q => X.baloadBooleans C.exec (by rw [e]; exact A.1) (State.isArrayOf_alike C.zz.alike A.2.1) A.2.2 h1 h2 (g := mkF _ pc Ls (.int j :: .ref a :: st)) rfl rfl (hb C.by hd) t q⟩
theorem aaload_ {a : Addr} {ka : ClassId} {ty : FieldType} {vs : List Value} {j : Int32} {i : Nat} {v : Value} (F : Arl Z h a ka ty vs) (hty : ty.isReference = true) (hj : j.toInt = i) (hv : vs[i]? = some v) (hd : decode bytes pc = .ok (.aaload, 1)) (k : OAt W l Z bytes maxL own nm ret R n0 hz Q h cells slots (pc + 1) Ls (v :: st)) : OAt W l Z bytes maxL own nm ret R n0 hz Q h cells slots pc Ls (.int j :: .ref a :: st) :=
  k.warm fun C X e => by
    obtain ⟨c, A, h1, h2⟩ := F.at hj hv
    exact ⟨_, X, e, fun t q => X.aaload C.exec (by rw [e]; exact A.1) (State.isArrayOf_alike C.zz.alike A.2.1) hty A.2.2 h1 h2 (g := mkF _ pc Ls (.int j :: .ref a :: st)) rfl rfl (hb C.by hd) t q⟩
theorem iastore_ {a : Addr} {ka : ClassId} {vs : List Value} {j : Int32} {x : Int32} {i : Nat} (F : Arl Z h a ka .int vs) (hj : j.toInt = i) (hi : i < vs.length) (ha : n0 ≤ a) (hd : decode bytes pc = .ok (.iastore, 1)) (k : ∀ h', Wr h h' a i (.int x) → Arl Z h' a ka .int (vs.set i (.int x)) → OAt W l Z bytes maxL own nm ret R n0 hz Q h' cells slots (pc + 1) Ls st) : OAt W l Z bytes maxL own nm ret R n0 hz Q h cells slots pc Ls (.int x :: .int j :: .ref a :: st) :=
  OAt.move (P := fun h' => Wr h h' a i (.int x) ∧ Arl Z h' a ka .int (vs.set i (.int x))) (st' := fun _ => st) (fun _ q => Nat.le_of_eq q.1.size.symm) (fun h' q => k h' q.1 q.2) fun C X e N => by
    obtain ⟨c, A, h1⟩ := F.inb hj hi
    obtain ⟨T', h', X', e', W', g⟩ := stI X C.exec C.zz e A h1 (g := mkF _ pc Ls (.int x :: .int j :: .ref a :: st)) rfl rfl (hb C.by hd)
    rw [(idx_of hj).2] at W'
    exact ⟨T', h', _, X', e', Fr.snoc X' N ha, ⟨W', F.set (rfl) W'⟩, g⟩
theorem lastore_ {a : Addr} {ka : ClassId} {vs : List Value} {j : Int32} {x : Int64} {i : Nat} (F : Arl Z h a ka .long vs) (hj : j.toInt = i) (hi : i < vs.length) (ha : n0 ≤ a) (hd : decode bytes pc = .ok (.lastore, 1)) (k : ∀ h', Wr h h' a i (.long x) → Arl Z h' a ka .long (vs.set i (.long x)) → OAt W l Z bytes maxL own nm ret R n0 hz Q h' cells slots (pc + 1) Ls st) : OAt W l Z bytes maxL own nm ret R n0 hz Q h cells slots pc Ls (.long x :: .int j :: .ref a :: st) :=
  OAt.move (P := fun h' => Wr h h' a i (.long x) ∧ Arl Z h' a ka .long (vs.set i (.long x))) (st' := fun _ => st) (fun _ q => Nat.le_of_eq q.1.size.symm) (fun h' q => k h' q.1 q.2) fun C X e N => by
    obtain ⟨c, A, h1⟩ := F.inb hj hi
    obtain ⟨T', h', X', e', W', g⟩ := stJ X C.exec C.zz e A h1 (g := mkF _ pc Ls (.long x :: .int j :: .ref a :: st)) rfl rfl (hb C.by hd)
    rw [(idx_of hj).2] at W'
    exact ⟨T', h', _, X', e', Fr.snoc X' N ha, ⟨W', F.set (rfl) W'⟩, g⟩
theorem castore_ {a : Addr} {ka : ClassId} {vs : List Value} {j : Int32} {x : Int32} {i : Nat} (F : Arl Z h a ka .char vs) (hj : j.toInt = i) (hi : i < vs.length) (ha : n0 ≤ a) (hd : decode bytes pc = .ok (.castore, 1)) (k : ∀ h', Wr h h' a i (.int (nar .char x)) → Arl Z h' a ka .char (vs.set i (.int (nar .char x))) → OAt W l Z bytes maxL own nm ret R n0 hz Q h' cells slots (pc + 1) Ls st) : OAt W l Z bytes maxL own nm ret R n0 hz Q h cells slots pc Ls (.int x :: .int j :: .ref a :: st) :=
  OAt.move (P := fun h' => Wr h h' a i (.int (nar .char x)) ∧ Arl Z h' a ka .char (vs.set i (.int (nar .char x)))) (st' := fun _ => st) (fun _ q => Nat.le_of_eq q.1.size.symm) (fun h' q => k h' q.1 q.2) fun C X e N => by
    obtain ⟨c, A, h1⟩ := F.inb hj hi
    obtain ⟨T', h', X', e', W', g⟩ := stC X C.exec C.zz e A h1 (g := mkF _ pc Ls (.int x :: .int j :: .ref a :: st)) rfl rfl (hb C.by hd)
    rw [(idx_of hj).2] at W'
    exact ⟨T', h', _, X', e', Fr.snoc X' N ha, ⟨W', F.set (fits_nar_char x) W'⟩, g⟩
theorem bastore_ {a : Addr} {ka : ClassId} {vs : List Value} {j : Int32} {x : Int32} {i : Nat} (F : Arl Z h a ka .byte vs) (hj : j.toInt = i) (hi : i < vs.length) (ha : n0 ≤ a) (hd : decode bytes pc = .ok (.bastore, 1)) (k : ∀ h', Wr h h' a i (.int (nar .byte x)) → Arl Z h' a ka .byte (vs.set i (.int (nar .byte x))) → OAt W l Z bytes maxL own nm ret R n0 hz Q h' cells slots (pc + 1) Ls st) : OAt W l Z bytes maxL own nm ret R n0 hz Q h cells slots pc Ls (.int x :: .int j :: .ref a :: st) :=
  OAt.move (P := fun h' => Wr h h' a i (.int (nar .byte x)) ∧ Arl Z h' a ka .byte (vs.set i (.int (nar .byte x)))) (st' := fun _ => st) (fun _ q => Nat.le_of_eq q.1.size.symm) (fun h' q => k h' q.1 q.2) fun C X e N => by
    obtain ⟨c, A, h1⟩ := F.inb hj hi
    obtain ⟨T', h', X', e', W', g⟩ := stB X C.exec C.zz e A h1 (g := mkF _ pc Ls (.int x :: .int j :: .ref a :: st)) rfl rfl (hb C.by hd)
    rw [(idx_of hj).2] at W'
    exact ⟨T', h', _, X', e', Fr.snoc X' N ha, ⟨W', F.set (fits_nar_byte x) W'⟩, g⟩
theorem zastore_ {a : Addr} {ka : ClassId} {vs : List Value} {j : Int32} {x : Int32} {i : Nat} (F : Arl Z h a ka .boolean vs) (hj : j.toInt = i) (hi : i < vs.length) (ha : n0 ≤ a) (hd : decode bytes pc = .ok (.bastore, 1)) (k : ∀ h', Wr h h' a i (.int (nar .boolean x)) → Arl Z h' a ka .boolean (vs.set i (.int (nar .boolean x))) → OAt W l Z bytes maxL own nm ret R n0 hz Q h' cells slots (pc + 1) Ls st) : OAt W l Z bytes maxL own nm ret R n0 hz Q h cells slots pc Ls (.int x :: .int j :: .ref a :: st) :=
  OAt.move (P := fun h' => Wr h h' a i (.int (nar .boolean x)) ∧ Arl Z h' a ka .boolean (vs.set i (.int (nar .boolean x)))) (st' := fun _ => st) (fun _ q => Nat.le_of_eq q.1.size.symm) (fun h' q => k h' q.1 q.2) fun C X e N => by
    obtain ⟨c, A, h1⟩ := F.inb hj hi
    obtain ⟨T', h', X', e', W', g⟩ := stZ X C.exec C.zz e A h1 (g := mkF _ pc Ls (.int x :: .int j :: .ref a :: st)) rfl rfl (hb C.by hd)
    rw [(idx_of hj).2] at W'
    exact ⟨T', h', _, X', e', Fr.snoc X' N ha, ⟨W', F.set (fits_nar_bool x) W'⟩, g⟩
theorem aastore_ {a : Addr} {ka : ClassId} {ty : FieldType} {vs : List Value} {j : Int32} {x : Value} {i : Nat} (F : Arl Z h a ka ty vs) (hty : ty.isReference = true) (hx : x.isRef = true) (S : Sto Z h a x) (hj : j.toInt = i) (hi : i < vs.length) (ha : n0 ≤ a) (hd : decode bytes pc = .ok (.aastore, 1)) (k : ∀ h', Wr h h' a i x → Arl Z h' a ka ty (vs.set i x) → OAt W l Z bytes maxL own nm ret R n0 hz Q h' cells slots (pc + 1) Ls st) : OAt W l Z bytes maxL own nm ret R n0 hz Q h cells slots pc Ls (x :: .int j :: .ref a :: st) :=
  OAt.move (P := fun h' => Wr h h' a i x ∧ Arl Z h' a ka ty (vs.set i x)) (st' := fun _ => st) (fun _ q => Nat.le_of_eq q.1.size.symm) (fun h' q => k h' q.1 q.2) fun C X e N => by
    obtain ⟨c, A, h1⟩ := F.inb hj hi
    obtain ⟨T', h', X', e', W', g⟩ := stR X C.exec C.zz e A h1 hty S (g := mkF _ pc Ls (x :: .int j :: .ref a :: st)) rfl rfl (hb C.by hd)
    rw [(idx_of hj).2] at W'
    have hf : fits ty x = true := by rcases ref_cases hx with rfl | ⟨y, rfl⟩ <;> cases ty <;> first | rfl | (simp [FieldType.isReference] at hty)
    exact ⟨T', h', _, X', e', Fr.snoc X' N ha, ⟨W', F.set hf W'⟩, g⟩
/-! calls by contract: a callee that interns nothing -/
theorem OAt.callN {y : MethodName} {bytes' : ByteArray} {maxL' : Nat} {ret' : Option FieldType} {R' : Room} {as' : Array Value} {Q' : Option Value → Heap → Prop} {len wt : Nat} {rest : List Value} (hM : Met false l Z y bytes' maxL' ret' R' [] as' h n0 Q')
    (wc : (Jvm.Cond.code y bytes' maxL' ret').before a0 Z = true) (wz : (Jvm.Cond.initialized y.cls).before a0 Z = true) (hf : R'.frames + 1 ≤ R.frames) (hl : wt + (maxL' + 11) + R'.locals ≤ R.locals) (hc : cells + R'.cells ≤ R.cells) (hs : slots + R'.slots ≤ R.slots)
    (f : ∀ {p : Program} {e : Env} {s : State} {m : MethodId} {args : Array Value} {below : List Frame} {meth : Method} {c : Code} {T : State} {locs : List Loc}, Cx Z bytes maxL own nm ret p s.vm m meth c → Stand p l e R s m args below meth c T locs cells slots → T.heap = h → ∀ (Pre : Pt → Array Value → Prop) (Post : Pt → Array Value → Option Value → Pt → Prop), Back l R p e below s args y len wt Pre Post → (∀ vm₁, s.WarmedH vm₁ → Pre ⟨T.setVm vm₁, locs, cells, slots⟩ as') →
      ∃ (v : Option Value) (vm₁ : Vm) (B : Pt), s.WarmedH vm₁ ∧ Stand p l e R s m args below meth c B.U B.locs B.cells B.slots ∧ Post ⟨T.setVm vm₁, locs, cells, slots⟩ as' v B ∧ ∀ target, Steps p.tables e below (B.U.setTop (mkF m (pc + len) Ls (v.toList ++ rest))) target → Steps p.tables e below (T.setTop (mkF m pc Ls st)) target)
    (k : ∀ v h', Q' v h' → OAt W l Z bytes maxL own nm ret R n0 hz Q h' (cells + R'.cells) (slots + R'.slots) (pc + len) Ls (v.toList ++ rest)) : OAt W l Z bytes maxL own nm ret R n0 hz Q h cells slots pc Ls st :=
  fun hs' p e s vm0 m args below meth c T locs C r X eT N => by
    have hB : Back l R p e below (s.setVm vm0) args y len wt _ _ := backOf (Q := fun v h' L => Fr n0 L ∧ h.size ≤ h'.size ∧ Q' v h') hM C.zz wc wz hf hl
    obtain ⟨v, vm₁, ⟨T', L', k', n'⟩, hW, X', ⟨Lc, ⟨N', hg, hq⟩, l1, l2, l3⟩, g⟩ := f (s := s.setVm vm0) C X eT _ _ hB (fun vm₁ _ => ⟨rfl, eT, hc, hs⟩)
    dsimp only [Pt.U, Pt.locs, Pt.cells, Pt.slots] at X' l1 l2 l3 g hg hq
    subst l1 l2 l3
    exact (k v T'.heap hq (Nat.le_trans hs' hg) p e s vm0 m args below meth c T' _ C (r.mono hg) X' rfl (N.app N')).step g
/-- what a call of a contract asks of room and words -/
theorem callS_ {y : MethodName} {bytes' : ByteArray} {maxL' : Nat} {ret' : Option FieldType} {R' : Room} {Q' : Option Value → Heap → Prop} {i : Nat} {ps : List FieldType} {rt : Option FieldType} (argsL rest : List Value) (wt : Nat) (hM : Met false l Z y bytes' maxL' ret' R' [] argsL.toArray h n0 Q')
    (w1 : (Jvm.Cond.methodLink own i y).before a0 Z = true) (w2 : (Jvm.Cond.static y).before a0 Z = true) (wz : (Jvm.Cond.initialized y.cls).before a0 Z = true) (wc : (Jvm.Cond.code y bytes' maxL' ret').before a0 Z = true) (hy : y.cls ≠ "java/lang/invoke/MethodHandle" ∧ y.cls ≠ "java/lang/invoke/VarHandle")
    (hd : decode bytes pc = .ok (.invokestatic i, 3)) (hp : parseMethodDescriptor y.desc = some ⟨ps, rt⟩) (hn : argsL.length = ps.length) (hst : st = argsL.reverse ++ rest) (hwt : (rest.map fun v => v.category).sum = wt) (hs : Ls.size = maxL)
    (hf : R'.frames + 1 ≤ R.frames) (hl : wt + (maxL' + 11) + R'.locals ≤ R.locals) (hc : cells + R'.cells ≤ R.cells) (hsl : slots + R'.slots ≤ R.slots)
    (k : ∀ v h', Q' v h' → OAt W l Z bytes maxL own nm ret R n0 hz Q h' (cells + R'.cells) (slots + R'.slots) (pc + 3) Ls (v.toList ++ rest)) : OAt W l Z bytes maxL own nm ret R n0 hz Q h cells slots pc Ls st :=
  OAt.callN (len := 3) hM wc wz hf hl hc hsl (fun C X eT _ _ hB hpre => by
    obtain ⟨v, vm₁, B, h1, h2, h3, h4⟩ := Jvm.LawKit.callS X C.exec C.ow (mvT C.zz w1) (mvT C.zz w2) (mvT C.zz wz) (mvT C.zz wc) hy hB (g := mkF _ pc Ls st) rfl (by rw [C.ml]; exact hs) (lenOf hp hn) hst (by show 2 * 0 + _ ≤ _; rw [hwt]; omega) (hb C.by hd) hpre
    exact ⟨v, vm₁, B, h1, h2, h3, h4⟩) k
/-- a static call of a body that writes nothing and returns val -/
def Pur (val : Value) (h : Heap) : Option Value → Heap → Prop := fun v h' => v = some val ∧ h' = h
theorem callSP {y : MethodName} {bytes' : ByteArray} {maxL' : Nat} {ret' : Option FieldType} {R' : Room} {val : Value} {i : Nat} {ps : List FieldType} {rt : Option FieldType} (argsL rest : List Value) (wt : Nat) (hM : Met false l Z y bytes' maxL' ret' R' [] argsL.toArray h n0 (Pur val h))
    (w1 : (Jvm.Cond.methodLink own i y).before a0 Z = true) (w2 : (Jvm.Cond.static y).before a0 Z = true) (wz : (Jvm.Cond.initialized y.cls).before a0 Z = true) (wc : (Jvm.Cond.code y bytes' maxL' ret').before a0 Z = true) (hy : y.cls ≠ "java/lang/invoke/MethodHandle" ∧ y.cls ≠ "java/lang/invoke/VarHandle")
    (hd : decode bytes pc = .ok (.invokestatic i, 3)) (hp : parseMethodDescriptor y.desc = some ⟨ps, rt⟩) (hn : argsL.length = ps.length) (hst : st = argsL.reverse ++ rest) (hwt : (rest.map fun v => v.category).sum = wt) (hs : Ls.size = maxL)
    (hf : R'.frames + 1 ≤ R.frames) (hl : wt + (maxL' + 11) + R'.locals ≤ R.locals) (hc : cells + R'.cells ≤ R.cells) (hsl : slots + R'.slots ≤ R.slots)
    (k : OAt W l Z bytes maxL own nm ret R n0 hz Q h (cells + R'.cells) (slots + R'.slots) (pc + 3) Ls (val :: rest)) : OAt W l Z bytes maxL own nm ret R n0 hz Q h cells slots pc Ls st :=
  callS_ argsL rest wt hM w1 w2 wz wc hy hd hp hn hst hwt hs hf hl hc hsl (fun v h' q => by obtain ⟨rfl, rfl⟩ := q; exact k)
/-- a constructor -/
theorem callI_ {y : MethodName} {bytes' : ByteArray} {maxL' : Nat} {R' : Room} {Q' : Option Value → Heap → Prop} {i : Nat} {ps : List FieldType} {rt : Option FieldType} (a : Addr) (argsL rest : List Value) (wt : Nat) (hM : Met false l Z y bytes' maxL' none R' [] (.ref a :: argsL).toArray h n0 Q')
    (w1 : (Jvm.Cond.methodLink own i y).before a0 Z = true) (w2 : (Jvm.Cond.instanceMethod y).before a0 Z = true) (wz : (Jvm.Cond.initialized y.cls).before a0 Z = true) (wc : (Jvm.Cond.code y bytes' maxL' none).before a0 Z = true) (hy1 : y.name = "<init>") (hy : y.cls ≠ "java/lang/invoke/MethodHandle" ∧ y.cls ≠ "java/lang/invoke/VarHandle")
    (hd : decode bytes pc = .ok (.invokespecial i, 3)) (hp : parseMethodDescriptor y.desc = some ⟨ps, rt⟩) (hn : argsL.length = ps.length) (hst : st = argsL.reverse ++ .ref a :: rest) (hwt : (rest.map fun v => v.category).sum = wt) (hs : Ls.size = maxL)
    (hf : R'.frames + 1 ≤ R.frames) (hl : wt + (maxL' + 11) + R'.locals ≤ R.locals) (hc : cells + R'.cells ≤ R.cells) (hsl : slots + R'.slots ≤ R.slots)
    (k : ∀ v h', Q' v h' → OAt W l Z bytes maxL own nm ret R n0 hz Q h' (cells + R'.cells) (slots + R'.slots) (pc + 3) Ls (v.toList ++ rest)) : OAt W l Z bytes maxL own nm ret R n0 hz Q h cells slots pc Ls st :=
  OAt.callN (len := 3) hM wc wz hf hl hc hsl (fun C X eT _ _ hB hpre => by
    obtain ⟨v, vm₁, B, h1, h2, h3, h4⟩ := X.specialBack C.exec hy1 C.ow (mvT C.zz w1) (mvT C.zz w2) (mvT C.zz wc) hy hB (g := mkF _ pc Ls st) rfl (by rw [C.ml]; exact hs) (Steps.refl _) (lenOf hp hn) hst (by show 2 * 0 + _ ≤ _; rw [hwt]; omega) (hb C.by hd) hpre
    exact ⟨v, vm₁, B, h1, h2, h3, fun t q => h4.trans q⟩) k
/-- an instance method, selected by the receiver's class K -/
theorem callV_ {x y : MethodName} {K : String} {bytes' : ByteArray} {maxL' : Nat} {ret' : Option FieldType} {R' : Room} {Q' : Option Value → Heap → Prop} {i : Nat} {ps : List FieldType} {rt : Option FieldType} (a : Addr) (argsL rest : List Value) (wt : Nat) (hM : Met false l Z y bytes' maxL' ret' R' [] (.ref a :: argsL).toArray h n0 Q')
    (w1 : (Jvm.Cond.methodLink own i x).before a0 Z = true) (w2 : (Jvm.Cond.declares x).before a0 Z = true) (hnf : ∀ s : State, Z.Warmed39 s.vm → NotFace s x) (w3 : (Jvm.Cond.selects K x y).before a0 Z = true) (w4 : (Jvm.Cond.instanceMethod y).before a0 Z = true) (wz : (Jvm.Cond.initialized y.cls).before a0 Z = true) (wc : (Jvm.Cond.code y bytes' maxL' ret').before a0 Z = true)
    (hy : x.cls ≠ "java/lang/invoke/MethodHandle" ∧ x.cls ≠ "java/lang/invoke/VarHandle") (E : Exa Z h a K)
    (hd : decode bytes pc = .ok (.invokevirtual i, 3)) (hp : parseMethodDescriptor x.desc = some ⟨ps, rt⟩) (hn : argsL.length = ps.length) (hst : st = argsL.reverse ++ .ref a :: rest) (hwt : (rest.map fun v => v.category).sum = wt) (hs : Ls.size = maxL)
    (hf : R'.frames + 1 ≤ R.frames) (hl : wt + (maxL' + 11) + R'.locals ≤ R.locals) (hc : cells + R'.cells ≤ R.cells) (hsl : slots + R'.slots ≤ R.slots)
    (k : ∀ v h', Q' v h' → OAt W l Z bytes maxL own nm ret R n0 hz Q h' (cells + R'.cells) (slots + R'.slots) (pc + 3) Ls (v.toList ++ rest)) : OAt W l Z bytes maxL own nm ret R n0 hz Q h cells slots pc Ls st :=
  OAt.callN (len := 3) hM wc wz hf hl hc hsl (fun C X eT _ _ hB hpre => by
    obtain ⟨cq, kq, qa, qb, qc⟩ := isOf C.zz eT E
    obtain ⟨v, vm₁, B, h1, h2, h3, h4⟩ := X.virtualBack C.exec C.ow (mvT C.zz w1) (mvT C.zz w2) (hnf _ C.zz) (mvT C.zz w3) (mvT C.zz w4) hy hB qa qc (g := mkF _ pc Ls st) rfl (by rw [C.ml]; exact hs) (Steps.refl _) (lenOf hp hn) hst (by show 2 * 0 + _ ≤ _; rw [hwt]; omega) (hb C.by hd) hpre
    exact ⟨v, vm₁, B, h1, h2, h3, fun t q => h4.trans q⟩) k
/-- through an interface -/
theorem callF_ {x y : MethodName} {K : String} {bytes' : ByteArray} {maxL' : Nat} {ret' : Option FieldType} {R' : Room} {Q' : Option Value → Heap → Prop} {i cn : Nat} {ps : List FieldType} {rt : Option FieldType} (a : Addr) (argsL rest : List Value) (wt : Nat) (hM : Met false l Z y bytes' maxL' ret' R' [] (.ref a :: argsL).toArray h n0 Q')
    (w1 : (Jvm.Cond.methodLink own i x).before a0 Z = true) (w2 : (Jvm.Cond.declares x).before a0 Z = true) (w5 : (Jvm.Cond.interfaceMethod x.cls x.cls x.name x.desc).before a0 Z = true) (hfa : ((Jvm.Cond.interfaceMethod x.cls x.cls x.name x.desc).onTables && (Jvm.Cond.interfaceMethod x.cls x.cls x.name x.desc).keepsFace) = true) (w3 : (Jvm.Cond.selects K x y).before a0 Z = true) (w4 : (Jvm.Cond.instanceMethod y).before a0 Z = true) (w6 : (Jvm.Cond.publicMethod y).before a0 Z = true) (w7 : (Jvm.Cond.unhidden K x.name x.desc).before a0 Z = true) (w8 : (Jvm.Cond.castable K x.cls).before a0 Z = true)
    (wz : (Jvm.Cond.initialized y.cls).before a0 Z = true) (wc : (Jvm.Cond.code y bytes' maxL' ret').before a0 Z = true)
    (hy : x.cls ≠ "java/lang/invoke/MethodHandle" ∧ x.cls ≠ "java/lang/invoke/VarHandle") (E : Exa Z h a K)
    (hd : decode bytes pc = .ok (.invokeinterface i cn, 5)) (hp : parseMethodDescriptor x.desc = some ⟨ps, rt⟩) (hn : argsL.length = ps.length) (hst : st = argsL.reverse ++ .ref a :: rest) (hwt : (rest.map fun v => v.category).sum = wt) (hs : Ls.size = maxL)
    (hf : R'.frames + 1 ≤ R.frames) (hl : wt + (maxL' + 11) + R'.locals ≤ R.locals) (hc : cells + R'.cells ≤ R.cells) (hsl : slots + R'.slots ≤ R.slots)
    (k : ∀ v h', Q' v h' → OAt W l Z bytes maxL own nm ret R n0 hz Q h' (cells + R'.cells) (slots + R'.slots) (pc + 5) Ls (v.toList ++ rest)) : OAt W l Z bytes maxL own nm ret R n0 hz Q h cells slots pc Ls st :=
  OAt.callN (len := 5) hM wc wz hf hl hc hsl (fun C X eT _ _ hB hpre => by
    obtain ⟨cq, kq, qa, qb, qc⟩ := isOf C.zz eT E
    obtain ⟨v, vm₁, B, h1, h2, h3, h4⟩ := X.interfaceBack C.exec C.ow (mvT C.zz w1) (mvT C.zz w2) (mvT C.zz w5 hfa) (mvT C.zz w3) (mvT C.zz w4) (mvT C.zz w6) (mvT C.zz w7) (mvT C.zz w8) hy hB qa qb qc (g := mkF _ pc Ls st) rfl (by rw [C.ml]; exact hs) (Steps.refl _) (lenOf hp hn) hst (by show 2 * 0 + _ ≤ _; rw [hwt]; omega) (hb C.by hd) hpre
    exact ⟨v, vm₁, B, h1, h2, h3, fun t q => h4.trans q⟩) k
/-- a private method, by invokevirtual -/
theorem callP_ {y : MethodName} {K : String} {bytes' : ByteArray} {maxL' : Nat} {ret' : Option FieldType} {R' : Room} {Q' : Option Value → Heap → Prop} {i : Nat} {ps : List FieldType} {rt : Option FieldType} (a : Addr) (argsL rest : List Value) (wt : Nat) (hM : Met false l Z y bytes' maxL' ret' R' [] (.ref a :: argsL).toArray h n0 Q')
    (w1 : (Jvm.Cond.methodLink own i y).before a0 Z = true) (w4 : (Jvm.Cond.instanceMethod y).before a0 Z = true) (w3 : (Jvm.Cond.selects y.cls y y).before a0 Z = true) (w5 : (Jvm.Cond.privateMethod y).before a0 Z = true) (wz : (Jvm.Cond.initialized y.cls).before a0 Z = true) (wc : (Jvm.Cond.code y bytes' maxL' ret').before a0 Z = true)
    (hy : y.cls ≠ "java/lang/invoke/MethodHandle" ∧ y.cls ≠ "java/lang/invoke/VarHandle") (E : Exa Z h a K)
    (hd : decode bytes pc = .ok (.invokevirtual i, 3)) (hp : parseMethodDescriptor y.desc = some ⟨ps, rt⟩) (hn : argsL.length = ps.length) (hst : st = argsL.reverse ++ .ref a :: rest) (hwt : (rest.map fun v => v.category).sum = wt) (hs : Ls.size = maxL)
    (hf : R'.frames + 1 ≤ R.frames) (hl : wt + (maxL' + 11) + R'.locals ≤ R.locals) (hc : cells + R'.cells ≤ R.cells) (hsl : slots + R'.slots ≤ R.slots)
    (k : ∀ v h', Q' v h' → OAt W l Z bytes maxL own nm ret R n0 hz Q h' (cells + R'.cells) (slots + R'.slots) (pc + 3) Ls (v.toList ++ rest)) : OAt W l Z bytes maxL own nm ret R n0 hz Q h cells slots pc Ls st :=
  OAt.callN (len := 3) hM wc wz hf hl hc hsl (fun C X eT _ _ hB hpre => by
    obtain ⟨cq, qa, qb⟩ := E.cell
    obtain ⟨v, vm₁, B, h1, h2, h3, h4⟩ := X.privateBack C.exec C.ow (mvT C.zz w1) (mvT C.zz w4) (mvT C.zz w3) (Cond.privateMethod_at (mvP C.zz w5 (args := #[]))) (mvT C.zz wc) hy hB (g := mkF _ pc Ls st) rfl (by rw [C.ml]; exact hs) (Steps.refl _) (a := a) (by rw [eT]; exact qa) qb (lenOf hp hn) hst (by show 2 * 0 + _ ≤ _; rw [hwt]; omega) (hb C.by hd) hpre
    exact ⟨v, vm₁, B, h1, h2, h3, fun t q => h4.trans q⟩) k
def Pur0 (h : Heap) : Option Value → Heap → Prop := fun v h' => v = none ∧ h' = h
theorem callIP {y : MethodName} {bytes' : ByteArray} {maxL' : Nat} {R' : Room} {i : Nat} {ps : List FieldType} {rt : Option FieldType} (a : Addr) (argsL rest : List Value) (wt : Nat) (hM : Met false l Z y bytes' maxL' none R' [] (.ref a :: argsL).toArray h n0 (Pur0 h))
    (w1 : (Jvm.Cond.methodLink own i y).before a0 Z = true) (w2 : (Jvm.Cond.instanceMethod y).before a0 Z = true) (wz : (Jvm.Cond.initialized y.cls).before a0 Z = true) (wc : (Jvm.Cond.code y bytes' maxL' none).before a0 Z = true) (hy1 : y.name = "<init>") (hy : y.cls ≠ "java/lang/invoke/MethodHandle" ∧ y.cls ≠ "java/lang/invoke/VarHandle")
    (hd : decode bytes pc = .ok (.invokespecial i, 3)) (hp : parseMethodDescriptor y.desc = some ⟨ps, rt⟩) (hn : argsL.length = ps.length) (hst : st = argsL.reverse ++ .ref a :: rest) (hwt : (rest.map fun v => v.category).sum = wt) (hs : Ls.size = maxL)
    (hf : R'.frames + 1 ≤ R.frames) (hl : wt + (maxL' + 11) + R'.locals ≤ R.locals) (hc : cells + R'.cells ≤ R.cells) (hsl : slots + R'.slots ≤ R.slots)
    (k : OAt W l Z bytes maxL own nm ret R n0 hz Q h (cells + R'.cells) (slots + R'.slots) (pc + 3) Ls rest) : OAt W l Z bytes maxL own nm ret R n0 hz Q h cells slots pc Ls st :=
  callI_ a argsL rest wt hM w1 w2 wz wc hy1 hy hd hp hn hst hwt hs hf hl hc hsl (fun v h' q => by obtain ⟨rfl, rfl⟩ := q; exact k)
theorem callVP {x y : MethodName} {K : String} {bytes' : ByteArray} {maxL' : Nat} {ret' : Option FieldType} {R' : Room} {val : Value} {i : Nat} {ps : List FieldType} {rt : Option FieldType} (a : Addr) (argsL rest : List Value) (wt : Nat) (hM : Met false l Z y bytes' maxL' ret' R' [] (.ref a :: argsL).toArray h n0 (Pur val h))
    (w1 : (Jvm.Cond.methodLink own i x).before a0 Z = true) (w2 : (Jvm.Cond.declares x).before a0 Z = true) (hnf : ∀ s : State, Z.Warmed39 s.vm → NotFace s x) (w3 : (Jvm.Cond.selects K x y).before a0 Z = true) (w4 : (Jvm.Cond.instanceMethod y).before a0 Z = true) (wz : (Jvm.Cond.initialized y.cls).before a0 Z = true) (wc : (Jvm.Cond.code y bytes' maxL' ret').before a0 Z = true)
    (hy : x.cls ≠ "java/lang/invoke/MethodHandle" ∧ x.cls ≠ "java/lang/invoke/VarHandle") (E : Exa Z h a K)
    (hd : decode bytes pc = .ok (.invokevirtual i, 3)) (hp : parseMethodDescriptor x.desc = some ⟨ps, rt⟩) (hn : argsL.length = ps.length) (hst : st = argsL.reverse ++ .ref a :: rest) (hwt : (rest.map fun v => v.category).sum = wt) (hs : Ls.size = maxL)
    (hf : R'.frames + 1 ≤ R.frames) (hl : wt + (maxL' + 11) + R'.locals ≤ R.locals) (hc : cells + R'.cells ≤ R.cells) (hsl : slots + R'.slots ≤ R.slots)
    (k : OAt W l Z bytes maxL own nm ret R n0 hz Q h (cells + R'.cells) (slots + R'.slots) (pc + 3) Ls (val :: rest)) : OAt W l Z bytes maxL own nm ret R n0 hz Q h cells slots pc Ls st :=
  callV_ a argsL rest wt hM w1 w2 hnf w3 w4 wz wc hy E hd hp hn hst hwt hs hf hl hc hsl (fun v h' q => by obtain ⟨rfl, rfl⟩ := q; exact k)
theorem callFP {x y : MethodName} {K : String} {bytes' : ByteArray} {maxL' : Nat} {ret' : Option FieldType} {R' : Room} {val : Value} {i cn : Nat} {ps : List FieldType} {rt : Option FieldType} (a : Addr) (argsL rest : List Value) (wt : Nat) (hM : Met false l Z y bytes' maxL' ret' R' [] (.ref a :: argsL).toArray h n0 (Pur val h))
    (w1 : (Jvm.Cond.methodLink own i x).before a0 Z = true) (w2 : (Jvm.Cond.declares x).before a0 Z = true) (w5 : (Jvm.Cond.interfaceMethod x.cls x.cls x.name x.desc).before a0 Z = true) (hfa : ((Jvm.Cond.interfaceMethod x.cls x.cls x.name x.desc).onTables && (Jvm.Cond.interfaceMethod x.cls x.cls x.name x.desc).keepsFace) = true) (w3 : (Jvm.Cond.selects K x y).before a0 Z = true) (w4 : (Jvm.Cond.instanceMethod y).before a0 Z = true) (w6 : (Jvm.Cond.publicMethod y).before a0 Z = true) (w7 : (Jvm.Cond.unhidden K x.name x.desc).before a0 Z = true) (w8 : (Jvm.Cond.castable K x.cls).before a0 Z = true)
    (wz : (Jvm.Cond.initialized y.cls).before a0 Z = true) (wc : (Jvm.Cond.code y bytes' maxL' ret').before a0 Z = true)
    (hy : x.cls ≠ "java/lang/invoke/MethodHandle" ∧ x.cls ≠ "java/lang/invoke/VarHandle") (E : Exa Z h a K)
    (hd : decode bytes pc = .ok (.invokeinterface i cn, 5)) (hp : parseMethodDescriptor x.desc = some ⟨ps, rt⟩) (hn : argsL.length = ps.length) (hst : st = argsL.reverse ++ .ref a :: rest) (hwt : (rest.map fun v => v.category).sum = wt) (hs : Ls.size = maxL)
    (hf : R'.frames + 1 ≤ R.frames) (hl : wt + (maxL' + 11) + R'.locals ≤ R.locals) (hc : cells + R'.cells ≤ R.cells) (hsl : slots + R'.slots ≤ R.slots)
    (k : OAt W l Z bytes maxL own nm ret R n0 hz Q h (cells + R'.cells) (slots + R'.slots) (pc + 5) Ls (val :: rest)) : OAt W l Z bytes maxL own nm ret R n0 hz Q h cells slots pc Ls st :=
  callF_ a argsL rest wt hM w1 w2 w5 hfa w3 w4 w6 w7 w8 wz wc hy E hd hp hn hst hwt hs hf hl hc hsl (fun v h' q => by obtain ⟨rfl, rfl⟩ := q; exact k)
theorem callPP {y : MethodName} {K : String} {bytes' : ByteArray} {maxL' : Nat} {ret' : Option FieldType} {R' : Room} {val : Value} {i : Nat} {ps : List FieldType} {rt : Option FieldType} (a : Addr) (argsL rest : List Value) (wt : Nat) (hM : Met false l Z y bytes' maxL' ret' R' [] (.ref a :: argsL).toArray h n0 (Pur val h))
    (w1 : (Jvm.Cond.methodLink own i y).before a0 Z = true) (w4 : (Jvm.Cond.instanceMethod y).before a0 Z = true) (w3 : (Jvm.Cond.selects y.cls y y).before a0 Z = true) (w5 : (Jvm.Cond.privateMethod y).before a0 Z = true) (wz : (Jvm.Cond.initialized y.cls).before a0 Z = true) (wc : (Jvm.Cond.code y bytes' maxL' ret').before a0 Z = true)
    (hy : y.cls ≠ "java/lang/invoke/MethodHandle" ∧ y.cls ≠ "java/lang/invoke/VarHandle") (E : Exa Z h a K)
    (hd : decode bytes pc = .ok (.invokevirtual i, 3)) (hp : parseMethodDescriptor y.desc = some ⟨ps, rt⟩) (hn : argsL.length = ps.length) (hst : st = argsL.reverse ++ .ref a :: rest) (hwt : (rest.map fun v => v.category).sum = wt) (hs : Ls.size = maxL)
    (hf : R'.frames + 1 ≤ R.frames) (hl : wt + (maxL' + 11) + R'.locals ≤ R.locals) (hc : cells + R'.cells ≤ R.cells) (hsl : slots + R'.slots ≤ R.slots)
    (k : OAt W l Z bytes maxL own nm ret R n0 hz Q h (cells + R'.cells) (slots + R'.slots) (pc + 3) Ls (val :: rest)) : OAt W l Z bytes maxL own nm ret R n0 hz Q h cells slots pc Ls st :=
  callP_ a argsL rest wt hM w1 w4 w3 w5 wz wc hy E hd hp hn hst hwt hs hf hl hc hsl (fun v h' q => by obtain ⟨rfl, rfl⟩ := q; exact k)
theorem arraycopy_ {a b : Addr} {ka kb : ClassId} {ty : FieldType} {vs vd : List Value} {sp dp nn : Int32} {i j n : Nat} {ix : Nat} (wt : Nat) (w1 : (Jvm.Cond.methodLink own ix Jvm.Stand.acN).before a0 Z = true) (w2 : (Jvm.Cond.native Jvm.Stand.acN).before a0 Z = true) (w3 : (Jvm.Cond.static Jvm.Stand.acN).before a0 Z = true) (w4 : (Jvm.Cond.initialized "java/lang/System").before a0 Z = true)
    (F : Arl Z h a ka ty vs) (G : Arl Z h b kb ty vd) (hty : refKind ty = false) (h1 : sp.toInt = i) (h2 : dp.toInt = j) (h3 : nn.toInt = n) (h4 : i + n ≤ vs.length) (h5 : j + n ≤ vd.length) (ge : n0 ≤ b) (hs : Ls.size = maxL) (hd : decode bytes pc = .ok (.invokestatic ix, 3)) (hf : 1 ≤ R.frames) (hwt : (st.map fun v => v.category).sum = wt) (hlo : wt + (nativeFrameWords "java/lang/System" "arraycopy" 5 + 11) ≤ R.locals)
    (k : ∀ h', Keep h h' [b] → Arl Z h' b kb ty (vd.take j ++ (vs.drop i).take n ++ vd.drop (j + n)) → OAt W l Z bytes maxL own nm ret R n0 hz Q h' cells slots (pc + 3) Ls st) : OAt W l Z bytes maxL own nm ret R n0 hz Q h cells slots pc Ls (.int nn :: .int dp :: .ref b :: .int sp :: .ref a :: st) := by
  obtain ⟨p1, q1⟩ := idx_of h1
  obtain ⟨p2, q2⟩ := idx_of h2
  obtain ⟨p3, q3⟩ := idx_of h3
  have la := F.len
  have lb := G.len
  have za : (Int32.ofNat vs.length).toInt = vs.length := Int32.toInt_ofNat_of_lt la
  have zb : (Int32.ofNat vd.length).toInt = vd.length := Int32.toInt_ofNat_of_lt lb
  obtain ⟨pa, qa⟩ := idx_of za
  obtain ⟨pb, qb⟩ := idx_of zb
  have hus : (vs.drop i).take n = (List.range n).map fun k => vs.getD (i + k) .null := by
    apply List.ext_getElem?
    intro k
    by_cases hk : k < n
    · rw [List.getElem?_take_of_lt hk, List.getElem?_drop, List.getElem?_map, List.getElem?_range hk, Option.map_some, List.getD_eq_getElem?_getD, List.getElem?_eq_getElem (by omega)]; rfl
    · rw [List.getElem?_eq_none (by simp; omega), List.getElem?_eq_none (by simp; omega)]
  exact OAt.move (P := fun h' => Keep h h' [b] ∧ Arl Z h' b kb ty (vd.take j ++ (vs.drop i).take n ++ vd.drop (j + n))) (st' := fun _ => st) (fun _ q => q.1.1) (fun h' q => k h' q.1 q.2) fun C X e N => by
    obtain ⟨T', h', L, X', e', N', K, V, g⟩ := cpA X C.exec C.zz C.ow w1 w2 w3 w4 e (F.arv .null za) (G.arv .null zb) (us := (vs.drop i).take n) (Or.inl ⟨rfl, hty⟩) p1 p2 p3 (by omega) (by omega) (by rw [q3, q1]; exact hus) (by omega) N ge (g := mkF _ pc Ls (.int nn :: .int dp :: .ref b :: .int sp :: .ref a :: st)) rfl (by rw [C.ml]; exact hs) rfl (hb C.by hd) hf (W := wt) (by show 2 * 0 + _ ≤ _; rw [hwt]; omega) hlo
    rw [q2, q3] at V
    refine ⟨T', h', L, X', e', N', ⟨K, Arl.of_arv V ?_⟩, g⟩
    rw [zb]; simp; omega
/-! String constants, and callees that may intern (W = true) -/
theorem ldcS_ {text : String} {i : Nat} (n : Nat) (w : (Jvm.Cond.stringLink own i text).before a0 Z = true) (wS : ∀ a ∈ Bundle.stringAtoms, a.before a0 Z = true) (hd : decode bytes pc = .ok (.ldc i, 2)) (hn' : 4 * text.toList.length ≤ n) (hbig : n ≤ 536870912) (hc : cells + 2 ≤ R.cells) (hl : slots + (n + 4) ≤ R.slots)
    (k : ∀ (h' : Heap) (a : Addr), Ext h h' → OAt true l Z bytes maxL own nm ret R n0 hz Q h' (cells + 2) (slots + (n + 4)) (pc + 2) Ls (.ref a :: st)) : OAt true l Z bytes maxL own nm ret R n0 hz Q h cells slots pc Ls st :=
  fun hs p e s vm0 m args below meth c T locs C r X eT N => by
    obtain ⟨k0, r1, r2⟩ := r
    obtain ⟨a, T', h', k1, X', e', E, hS', hk', hZ', hown', g⟩ := ldcS X C.exec C.zz C.ow w wS eT r1 r2 (g := mkF m pc Ls st) rfl (hb C.by hd) hn' hbig hc hl
    exact (k h' a E (Nat.le_trans hs E.1) p e s T'.vm m args below meth c T' locs ⟨C.1, C.2.1, C.2.2.1, C.2.2.2.1, C.2.2.2.2.1, C.2.2.2.2.2.1, hZ', hown'⟩ ⟨k1, hS', hk'⟩ X' e' N).step g
theorem OAt.callW {y : MethodName} {bytes' : ByteArray} {maxL' : Nat} {ret' : Option FieldType} {R' : Room} {as' : Array Value} {Q' : Option Value → Heap → Prop} {len wt : Nat} {rest : List Value} (hM : Met true l Z y bytes' maxL' ret' R' [] as' h n0 Q')
    (wc : (Jvm.Cond.code y bytes' maxL' ret').before a0 Z = true) (wz : (Jvm.Cond.initialized y.cls).before a0 Z = true) (hf : R'.frames + 1 ≤ R.frames) (hl : wt + (maxL' + 11) + R'.locals ≤ R.locals) (hc : cells + R'.cells ≤ R.cells) (hs : slots + R'.slots ≤ R.slots)
    (f : ∀ {p : Program} {e : Env} {s : State} {m : MethodId} {args : Array Value} {below : List Frame} {meth : Method} {c : Code} {T : State} {locs : List Loc}, Cx Z bytes maxL own nm ret p s.vm m meth c → Stand p l e R s m args below meth c T locs cells slots → T.heap = h → ∀ (Pre : Pt → Array Value → Prop) (Post : Pt → Array Value → Option Value → Pt → Prop), BackS l R p e below s args y len wt Pre Post → (∀ vm₁, s.WarmedH vm₁ → Pre ⟨T.setVm vm₁, locs, cells, slots⟩ as') →
      ∃ (v : Option Value) (vm₁ : Vm) (B : Pt), s.WarmedH vm₁ ∧ Stand p l e R (s.setVm B.U.vm) m args below meth c B.U B.locs B.cells B.slots ∧ s.Since B.U.vm B.U.heap.size ∧ T.heap.size ≤ B.U.heap.size ∧ Post ⟨T.setVm vm₁, locs, cells, slots⟩ as' v B ∧ ∀ target, Steps p.tables e below (B.U.setTop (mkF m (pc + len) Ls (v.toList ++ rest))) target → Steps p.tables e below (T.setTop (mkF m pc Ls st)) target)
    (k : ∀ v h', Q' v h' → OAt true l Z bytes maxL own nm ret R n0 hz Q h' (cells + R'.cells) (slots + R'.slots) (pc + len) Ls (v.toList ++ rest)) : OAt true l Z bytes maxL own nm ret R n0 hz Q h cells slots pc Ls st :=
  fun hs' p e s vm0 m args below meth c T locs C r X eT N => by
    obtain ⟨k0, r1, r2⟩ := r
    have hB : BackS l R p e below (s.setVm vm0) args y len wt _ _ := backOfS (Q := fun v h' L => Fr n0 L ∧ h.size ≤ h'.size ∧ Q' v h') hM C.zz wc wz hf hl
    obtain ⟨v, vm₁, ⟨T', L', k', n'⟩, hW, X', hS2, hg2, ⟨Lc, ⟨N', hg, hq⟩, l1, l2, l3⟩, g⟩ := f (s := s.setVm vm0) C X eT _ _ hB (fun vm₁ _ => ⟨rfl, eT, hc, hs⟩)
    dsimp only [Pt.U, Pt.locs, Pt.cells, Pt.slots] at X' hS2 hg2 l1 l2 l3 g hg hq
    subst l1 l2 l3
    obtain ⟨X2, hS3, hZ3, ho3⟩ := rebS r1 (by rw [eT]; exact r2) X' hS2 hg2 C.zz C.ow
    exact (k v T'.heap hq (Nat.le_trans hs' hg) p e s T'.vm m args below meth c T' _ ⟨C.1, C.2.1, C.2.2.1, C.2.2.2.1, C.2.2.2.2.1, C.2.2.2.2.2.1, hZ3, ho3⟩ ⟨_, hS3, Nat.le_refl _⟩ X2 rfl (N.app N')).step g
theorem callSW {y : MethodName} {bytes' : ByteArray} {maxL' : Nat} {ret' : Option FieldType} {R' : Room} {Q' : Option Value → Heap → Prop} {i : Nat} {ps : List FieldType} {rt : Option FieldType} (argsL rest : List Value) (wt : Nat) (hM : Met true l Z y bytes' maxL' ret' R' [] argsL.toArray h n0 Q')
    (w1 : (Jvm.Cond.methodLink own i y).before a0 Z = true) (w2 : (Jvm.Cond.static y).before a0 Z = true) (wz : (Jvm.Cond.initialized y.cls).before a0 Z = true) (wc : (Jvm.Cond.code y bytes' maxL' ret').before a0 Z = true) (hy : y.cls ≠ "java/lang/invoke/MethodHandle" ∧ y.cls ≠ "java/lang/invoke/VarHandle")
    (hd : decode bytes pc = .ok (.invokestatic i, 3)) (hp : parseMethodDescriptor y.desc = some ⟨ps, rt⟩) (hn : argsL.length = ps.length) (hst : st = argsL.reverse ++ rest) (hwt : (rest.map fun v => v.category).sum = wt) (hs : Ls.size = maxL)
    (hf : R'.frames + 1 ≤ R.frames) (hl : wt + (maxL' + 11) + R'.locals ≤ R.locals) (hc : cells + R'.cells ≤ R.cells) (hsl : slots + R'.slots ≤ R.slots)
    (k : ∀ v h', Q' v h' → OAt true l Z bytes maxL own nm ret R n0 hz Q h' (cells + R'.cells) (slots + R'.slots) (pc + 3) Ls (v.toList ++ rest)) : OAt true l Z bytes maxL own nm ret R n0 hz Q h cells slots pc Ls st :=
  OAt.callW (len := 3) hM wc wz hf hl hc hsl (fun C X eT _ _ hB hpre => by
    obtain ⟨v, vm₁, B, h1, h2, h5, h6, h3, h4⟩ := Jvm.RoadKit.callSS X C.exec C.ow (mvT C.zz w1) (mvT C.zz w2) (mvT C.zz wz) (mvT C.zz wc) hy hB (g := mkF _ pc Ls st) rfl (by rw [C.ml]; exact hs) (lenOf hp hn) hst (by show 2 * 0 + _ ≤ _; rw [hwt]; omega) (hb C.by hd) hpre
    exact ⟨v, vm₁, B, h1, h2, h5, h6, h3, fun t q => h4.trans q⟩) k
theorem callIW {y : MethodName} {bytes' : ByteArray} {maxL' : Nat} {R' : Room} {Q' : Option Value → Heap → Prop} {i : Nat} {ps : List FieldType} {rt : Option FieldType} (a : Addr) (argsL rest : List Value) (wt : Nat) (hM : Met true l Z y bytes' maxL' none R' [] (.ref a :: argsL).toArray h n0 Q')
    (w1 : (Jvm.Cond.methodLink own i y).before a0 Z = true) (w2 : (Jvm.Cond.instanceMethod y).before a0 Z = true) (wz : (Jvm.Cond.initialized y.cls).before a0 Z = true) (wc : (Jvm.Cond.code y bytes' maxL' none).before a0 Z = true) (hy1 : y.name = "<init>") (hy : y.cls ≠ "java/lang/invoke/MethodHandle" ∧ y.cls ≠ "java/lang/invoke/VarHandle")
    (hd : decode bytes pc = .ok (.invokespecial i, 3)) (hp : parseMethodDescriptor y.desc = some ⟨ps, rt⟩) (hn : argsL.length = ps.length) (hst : st = argsL.reverse ++ .ref a :: rest) (hwt : (rest.map fun v => v.category).sum = wt) (hs : Ls.size = maxL)
    (hf : R'.frames + 1 ≤ R.frames) (hl : wt + (maxL' + 11) + R'.locals ≤ R.locals) (hc : cells + R'.cells ≤ R.cells) (hsl : slots + R'.slots ≤ R.slots)
    (k : ∀ v h', Q' v h' → OAt true l Z bytes maxL own nm ret R n0 hz Q h' (cells + R'.cells) (slots + R'.slots) (pc + 3) Ls (v.toList ++ rest)) : OAt true l Z bytes maxL own nm ret R n0 hz Q h cells slots pc Ls st :=
  OAt.callW (len := 3) hM wc wz hf hl hc hsl (fun C X eT _ _ hB hpre => by
    obtain ⟨v, vm₁, B, h1, h2, h5, h6, h3, h4⟩ := X.specialBackS C.exec hy1 C.ow (mvT C.zz w1) (mvT C.zz w2) (mvT C.zz wc) hy hB (g := mkF _ pc Ls st) rfl (by rw [C.ml]; exact hs) (Steps.refl _) (lenOf hp hn) hst (by show 2 * 0 + _ ≤ _; rw [hwt]; omega) (hb C.by hd) hpre
    exact ⟨v, vm₁, B, h1, h2, h5, h6, h3, fun t q => h4.trans q⟩) k
theorem callVW {x y : MethodName} {K : String} {bytes' : ByteArray} {maxL' : Nat} {ret' : Option FieldType} {R' : Room} {Q' : Option Value → Heap → Prop} {i : Nat} {ps : List FieldType} {rt : Option FieldType} (a : Addr) (argsL rest : List Value) (wt : Nat) (hM : Met true l Z y bytes' maxL' ret' R' [] (.ref a :: argsL).toArray h n0 Q')
    (w1 : (Jvm.Cond.methodLink own i x).before a0 Z = true) (w2 : (Jvm.Cond.declares x).before a0 Z = true) (hnf : ∀ s : State, Z.Warmed39 s.vm → NotFace s x) (w3 : (Jvm.Cond.selects K x y).before a0 Z = true) (w4 : (Jvm.Cond.instanceMethod y).before a0 Z = true) (wz : (Jvm.Cond.initialized y.cls).before a0 Z = true) (wc : (Jvm.Cond.code y bytes' maxL' ret').before a0 Z = true)
    (hy : x.cls ≠ "java/lang/invoke/MethodHandle" ∧ x.cls ≠ "java/lang/invoke/VarHandle") (E : Exa Z h a K)
    (hd : decode bytes pc = .ok (.invokevirtual i, 3)) (hp : parseMethodDescriptor x.desc = some ⟨ps, rt⟩) (hn : argsL.length = ps.length) (hst : st = argsL.reverse ++ .ref a :: rest) (hwt : (rest.map fun v => v.category).sum = wt) (hs : Ls.size = maxL)
    (hf : R'.frames + 1 ≤ R.frames) (hl : wt + (maxL' + 11) + R'.locals ≤ R.locals) (hc : cells + R'.cells ≤ R.cells) (hsl : slots + R'.slots ≤ R.slots)
    (k : ∀ v h', Q' v h' → OAt true l Z bytes maxL own nm ret R n0 hz Q h' (cells + R'.cells) (slots + R'.slots) (pc + 3) Ls (v.toList ++ rest)) : OAt true l Z bytes maxL own nm ret R n0 hz Q h cells slots pc Ls st :=
  OAt.callW (len := 3) hM wc wz hf hl hc hsl (fun C X eT _ _ hB hpre => by
    obtain ⟨cq, kq, qa, qb, qc⟩ := isOf C.zz eT E
    obtain ⟨v, vm₁, B, h1, h2, h5, h6, h3, h4⟩ := X.virtualBackS C.exec C.ow (mvT C.zz w1) (mvT C.zz w2) (hnf _ C.zz) (mvT C.zz w3) (mvT C.zz w4) hy hB qa qc (g := mkF _ pc Ls st) rfl (by rw [C.ml]; exact hs) (Steps.refl _) (lenOf hp hn) hst (by show 2 * 0 + _ ≤ _; rw [hwt]; omega) (hb C.by hd) hpre
    exact ⟨v, vm₁, B, h1, h2, h5, h6, h3, fun t q => h4.trans q⟩) k
theorem callFW {x y : MethodName} {K : String} {bytes' : ByteArray} {maxL' : Nat} {ret' : Option FieldType} {R' : Room} {Q' : Option Value → Heap → Prop} {i cn : Nat} {ps : List FieldType} {rt : Option FieldType} (a : Addr) (argsL rest : List Value) (wt : Nat) (hM : Met true l Z y bytes' maxL' ret' R' [] (.ref a :: argsL).toArray h n0 Q')
    (w1 : (Jvm.Cond.methodLink own i x).before a0 Z = true) (w2 : (Jvm.Cond.declares x).before a0 Z = true) (w5 : (Jvm.Cond.interfaceMethod x.cls x.cls x.name x.desc).before a0 Z = true) (hfa : ((Jvm.Cond.interfaceMethod x.cls x.cls x.name x.desc).onTables && (Jvm.Cond.interfaceMethod x.cls x.cls x.name x.desc).keepsFace) = true) (w3 : (Jvm.Cond.selects K x y).before a0 Z = true) (w4 : (Jvm.Cond.instanceMethod y).before a0 Z = true) (w6 : (Jvm.Cond.publicMethod y).before a0 Z = true) (w7 : (Jvm.Cond.unhidden K x.name x.desc).before a0 Z = true) (w8 : (Jvm.Cond.castable K x.cls).before a0 Z = true)
    (wz : (Jvm.Cond.initialized y.cls).before a0 Z = true) (wc : (Jvm.Cond.code y bytes' maxL' ret').before a0 Z = true)
    (hy : x.cls ≠ "java/lang/invoke/MethodHandle" ∧ x.cls ≠ "java/lang/invoke/VarHandle") (E : Exa Z h a K)
    (hd : decode bytes pc = .ok (.invokeinterface i cn, 5)) (hp : parseMethodDescriptor x.desc = some ⟨ps, rt⟩) (hn : argsL.length = ps.length) (hst : st = argsL.reverse ++ .ref a :: rest) (hwt : (rest.map fun v => v.category).sum = wt) (hs : Ls.size = maxL)
    (hf : R'.frames + 1 ≤ R.frames) (hl : wt + (maxL' + 11) + R'.locals ≤ R.locals) (hc : cells + R'.cells ≤ R.cells) (hsl : slots + R'.slots ≤ R.slots)
    (k : ∀ v h', Q' v h' → OAt true l Z bytes maxL own nm ret R n0 hz Q h' (cells + R'.cells) (slots + R'.slots) (pc + 5) Ls (v.toList ++ rest)) : OAt true l Z bytes maxL own nm ret R n0 hz Q h cells slots pc Ls st :=
  OAt.callW (len := 5) hM wc wz hf hl hc hsl (fun C X eT _ _ hB hpre => by
    obtain ⟨cq, kq, qa, qb, qc⟩ := isOf C.zz eT E
    obtain ⟨v, vm₁, B, h1, h2, h5, h6, h3, h4⟩ := X.interfaceBackS C.exec C.ow (mvT C.zz w1) (mvT C.zz w2) (mvT C.zz w5 hfa) (mvT C.zz w3) (mvT C.zz w4) (mvT C.zz w6) (mvT C.zz w7) (mvT C.zz w8) hy hB qa qb qc (g := mkF _ pc Ls st) rfl (by rw [C.ml]; exact hs) (Steps.refl _) (lenOf hp hn) hst (by show 2 * 0 + _ ≤ _; rw [hwt]; omega) (hb C.by hd) hpre
    exact ⟨v, vm₁, B, h1, h2, h5, h6, h3, fun t q => h4.trans q⟩) k
theorem callPW {y : MethodName} {K : String} {bytes' : ByteArray} {maxL' : Nat} {ret' : Option FieldType} {R' : Room} {Q' : Option Value → Heap → Prop} {i : Nat} {ps : List FieldType} {rt : Option FieldType} (a : Addr) (argsL rest : List Value) (wt : Nat) (hM : Met true l Z y bytes' maxL' ret' R' [] (.ref a :: argsL).toArray h n0 Q')
    (w1 : (Jvm.Cond.methodLink own i y).before a0 Z = true) (w4 : (Jvm.Cond.instanceMethod y).before a0 Z = true) (w3 : (Jvm.Cond.selects y.cls y y).before a0 Z = true) (w5 : (Jvm.Cond.privateMethod y).before a0 Z = true) (wz : (Jvm.Cond.initialized y.cls).before a0 Z = true) (wc : (Jvm.Cond.code y bytes' maxL' ret').before a0 Z = true)
    (hy : y.cls ≠ "java/lang/invoke/MethodHandle" ∧ y.cls ≠ "java/lang/invoke/VarHandle") (E : Exa Z h a K)
    (hd : decode bytes pc = .ok (.invokevirtual i, 3)) (hp : parseMethodDescriptor y.desc = some ⟨ps, rt⟩) (hn : argsL.length = ps.length) (hst : st = argsL.reverse ++ .ref a :: rest) (hwt : (rest.map fun v => v.category).sum = wt) (hs : Ls.size = maxL)
    (hf : R'.frames + 1 ≤ R.frames) (hl : wt + (maxL' + 11) + R'.locals ≤ R.locals) (hc : cells + R'.cells ≤ R.cells) (hsl : slots + R'.slots ≤ R.slots)
    (k : ∀ v h', Q' v h' → OAt true l Z bytes maxL own nm ret R n0 hz Q h' (cells + R'.cells) (slots + R'.slots) (pc + 3) Ls (v.toList ++ rest)) : OAt true l Z bytes maxL own nm ret R n0 hz Q h cells slots pc Ls st :=
  OAt.callW (len := 3) hM wc wz hf hl hc hsl (fun C X eT _ _ hB hpre => by
    obtain ⟨cq, qa, qb⟩ := E.cell
    obtain ⟨v, vm₁, B, h1, h2, h5, h6, h3, h4⟩ := X.privateBackS C.exec C.ow (mvT C.zz w1) (mvT C.zz w4) (mvT C.zz w3) (Cond.privateMethod_at (mvP C.zz w5 (args := #[]))) (mvT C.zz wc) hy hB (g := mkF _ pc Ls st) rfl (by rw [C.ml]; exact hs) (Steps.refl _) (a := a) (by rw [eT]; exact qa) qb (lenOf hp hn) hst (by show 2 * 0 + _ ≤ _; rw [hwt]; omega) (hb C.by hd) hpre
    exact ⟨v, vm₁, B, h1, h2, h5, h6, h3, fun t q => h4.trans q⟩) k

end Walk
end Jvm.Own
namespace Jvm.Pilot.@@N@@
open Jvm Jvm.ClassFile Sem Op Lib Jvm.Free Jvm.Stand Jvm.LawKit Jvm.RoadKit Jvm.Own Bundle Jvm.Pilot.@@N@@.Jvm.D
theorem own_pos (x : Int32) : 0 ≤ (x &&& (2147483647 : Int32)).toInt := by
  have h : (x &&& (2147483647 : Int32)).toBitVec.toNat < 2 ^ 31 := by
    rw [Int32.toBitVec_and, BitVec.toNat_and]
    have : (Int32.toBitVec 2147483647).toNat = 2 ^ 31 - 1 := by decide
    rw [this, Nat.and_two_pow_sub_one_eq_mod]; exact Nat.mod_lt _ (by decide)
  rw [← Int32.toInt_toBitVec, BitVec.toInt_eq_toNat_of_lt (by omega)]; omega
theorem own_n6 (x : Int32) : ((x &&& (2147483647 : Int32)) % (6 : Int32)) = 0 ∨ ((x &&& (2147483647 : Int32)) % (6 : Int32)) = 1 ∨ ((x &&& (2147483647 : Int32)) % (6 : Int32)) = 2 ∨ ((x &&& (2147483647 : Int32)) % (6 : Int32)) = 3 ∨ ((x &&& (2147483647 : Int32)) % (6 : Int32)) = 4 ∨ ((x &&& (2147483647 : Int32)) % (6 : Int32)) = 5 := by
  have h : 0 ≤ (x &&& (2147483647 : Int32)).toInt := own_pos x
  have e : ((x &&& (2147483647 : Int32)) % (6 : Int32)).toInt = (x &&& (2147483647 : Int32)).toInt.tmod 6 := Int32.toInt_mod _ _
  have e2 : (x &&& (2147483647 : Int32)).toInt.tmod 6 = (x &&& (2147483647 : Int32)).toInt % 6 := Int.tmod_eq_emod_of_nonneg h
  simp only [← Int32.toInt_inj, e, e2, Int32.reduceToInt]
  omega
theorem own_b (x : Int32) : nar .byte (x.toInt8.toInt32) = x.toInt8.toInt32 := by simp [nar]
theorem d1_0 : decode method_2_code 0 = .ok (.iload_n 0, 1) := by decide +kernel
theorem d1_1 : decode method_2_code 1 = .ok (.ifCond .ne 7, 3) := by decide +kernel
theorem d1_4 : decode method_2_code 4 = .ok (.iconst 0, 1) := by decide +kernel
theorem d1_5 : decode method_2_code 5 = .ok (.newarray .byte, 2) := by decide +kernel
theorem d1_7 : decode method_2_code 7 = .ok (.areturn, 1) := by decide +kernel
def Q_rmM0 (Z : State) (p1 : Int32) (p2 : Int32) (p3 : Int32) (p4 : Int32) (p5 : Int32) (h0 : Heap) (n0 : Nat) (v : Option Value) (h : Heap) : Prop := ∃ (a : Addr) (ka : ClassId), v = some (.ref a) ∧ h0.size ≤ a ∧ Keep h0 h [] ∧ Arl Z h a ka .byte []
theorem ef_rmM0 (m : MethodId) (p1 : Int32) (p2 : Int32) (p3 : Int32) (p4 : Int32) (p5 : Int32)  : entryFrame m #[(.int (0 : Int32)), (.int p1), (.int p2), (.int p3), (.int p4), (.int p5)] 6 = mkF m 0 #[.val (.int (0 : Int32)), .val (.int p1), .val (.int p2), .val (.int p3), .val (.int p4), .val (.int p5)] [] := by first | (simp [entryFrame, mkF, argsToLocals, Value.category]; done) | rfl
theorem pn_1 : plainFor (⟨"com/example/cytorelay/cytorelay/link/MllpFramePinLaw", "make", "(IBBBBB)[B"⟩ : MethodName) = true := plainFor_of_name (show plainName "com/example/cytorelay/cytorelay/link/MllpFramePinLaw" = true by first | (simp [plainName, overriddenIn]; done) | decide +kernel)
set_option maxRecDepth 65536 in
set_option maxHeartbeats 40000000 in
theorem rmM0 (l : Launch) (Z : State) (a0 : Array Value) (hw : ∀ d ∈ tables_1, d.before a0 Z = true) (ws : List Jvm.Cond) (p1 : Int32) (p2 : Int32) (p3 : Int32) (p4 : Int32) (p5 : Int32) (h0 : Heap) (n0 : Nat) (hn : n0 ≤ h0.size) :
    Met false l Z (⟨"com/example/cytorelay/cytorelay/link/MllpFramePinLaw", "make", "(IBBBBB)[B"⟩ : MethodName) method_2_code 6 (some (.array .byte)) ({ frames := 0, cells := 1, slots := 0, locals := 0 } : Room) ws #[(.int (0 : Int32)), (.int p1), (.int p2), (.int p3), (.int p4), (.int p5)] h0 n0 (Q_rmM0 Z p1 p2 p3 p4 p5 h0 n0) := by
  refine Met.of pn_1 (fun m => ef_rmM0 m p1 p2 p3 p4 p5) ?_
  have K := Keep.refl h0 []
  refine Own.iloadN d1_0 rfl ?_
  refine Own.if_ne 8 d1_1 (by decide) rfl (fun q => absurd (by decide) q) (fun _ => ?_)
  refine Own.iconst (0 : Int32) d1_4 rfl ?_
  refine Own.newarray_ 0 .byte rfl (hw _ (List.mem_of_getElem? (i := 5) rfl)) d1_5 (N := 0) rfl (by decide) (by decide) (by decide) (by decide) rfl (fun h1 b1 k1 gb1 E1 V1 => ?_)
  have g_b1 : n0 ≤ b1 := by rw [gb1]; exact hn
  have hn := Nat.le_trans hn E1.1
  replace V1 : Arl Z h1 b1 k1 .byte [] := V1
  have sz_b1 : h0.size ≤ b1 := by rw [gb1]; exact K.1
  have K := K.ext E1
  refine Own.ret_ref (t := (.array .byte)) rfl rfl rfl d1_7 (by decide) (by decide) ?_
  exact ⟨b1, k1, rfl, sz_b1, K, V1⟩
theorem d2_0 : decode prog_59_method_2_code 0 = .ok (.aload_n 0, 1) := by decide +kernel
theorem d2_1 : decode prog_59_method_2_code 1 = .ok (.arraylength, 1) := by decide +kernel
theorem d2_2 : decode prog_59_method_2_code 2 = .ok (.iconst 3, 1) := by decide +kernel
theorem d2_3 : decode prog_59_method_2_code 3 = .ok (.iadd, 1) := by decide +kernel
theorem d2_4 : decode prog_59_method_2_code 4 = .ok (.newarray .byte, 2) := by decide +kernel
theorem d2_6 : decode prog_59_method_2_code 6 = .ok (.astore_n 1, 1) := by decide +kernel
theorem d2_7 : decode prog_59_method_2_code 7 = .ok (.aload_n 1, 1) := by decide +kernel
theorem d2_8 : decode prog_59_method_2_code 8 = .ok (.iconst 0, 1) := by decide +kernel
theorem d2_9 : decode prog_59_method_2_code 9 = .ok (.bipush 11, 2) := by decide +kernel
theorem d2_11 : decode prog_59_method_2_code 11 = .ok (.bastore, 1) := by decide +kernel
theorem d2_12 : decode prog_59_method_2_code 12 = .ok (.aload_n 0, 1) := by decide +kernel
theorem d2_13 : decode prog_59_method_2_code 13 = .ok (.iconst 0, 1) := by decide +kernel
theorem d2_14 : decode prog_59_method_2_code 14 = .ok (.aload_n 1, 1) := by decide +kernel
theorem d2_15 : decode prog_59_method_2_code 15 = .ok (.iconst 1, 1) := by decide +kernel
theorem d2_16 : decode prog_59_method_2_code 16 = .ok (.aload_n 0, 1) := by decide +kernel
theorem d2_17 : decode prog_59_method_2_code 17 = .ok (.arraylength, 1) := by decide +kernel
theorem d2_18 : decode prog_59_method_2_code 18 = .ok (.invokestatic 9, 3) := by decide +kernel
theorem d2_21 : decode prog_59_method_2_code 21 = .ok (.aload_n 1, 1) := by decide +kernel
theorem d2_22 : decode prog_59_method_2_code 22 = .ok (.aload_n 1, 1) := by decide +kernel
theorem d2_23 : decode prog_59_method_2_code 23 = .ok (.arraylength, 1) := by decide +kernel
theorem d2_24 : decode prog_59_method_2_code 24 = .ok (.iconst 2, 1) := by decide +kernel
theorem d2_25 : decode prog_59_method_2_code 25 = .ok (.isub, 1) := by decide +kernel
theorem d2_26 : decode prog_59_method_2_code 26 = .ok (.bipush 28, 2) := by decide +kernel
theorem d2_28 : decode prog_59_method_2_code 28 = .ok (.bastore, 1) := by decide +kernel
theorem d2_29 : decode prog_59_method_2_code 29 = .ok (.aload_n 1, 1) := by decide +kernel
theorem d2_30 : decode prog_59_method_2_code 30 = .ok (.aload_n 1, 1) := by decide +kernel
theorem d2_31 : decode prog_59_method_2_code 31 = .ok (.arraylength, 1) := by decide +kernel
theorem d2_32 : decode prog_59_method_2_code 32 = .ok (.iconst 1, 1) := by decide +kernel
theorem d2_33 : decode prog_59_method_2_code 33 = .ok (.isub, 1) := by decide +kernel
theorem d2_34 : decode prog_59_method_2_code 34 = .ok (.bipush 13, 2) := by decide +kernel
theorem d2_36 : decode prog_59_method_2_code 36 = .ok (.bastore, 1) := by decide +kernel
theorem d2_37 : decode prog_59_method_2_code 37 = .ok (.aload_n 1, 1) := by decide +kernel
theorem d2_38 : decode prog_59_method_2_code 38 = .ok (.areturn, 1) := by decide +kernel
def Q_rmF0 (Z : State)  (h0 : Heap) (n0 : Nat) (v : Option Value) (h : Heap) : Prop := ∃ (a : Addr) (ka : ClassId), v = some (.ref a) ∧ h0.size ≤ a ∧ Keep h0 h [] ∧ Arl Z h a ka .byte [(.int (nar .byte (11 : Int32))), (.int (nar .byte (28 : Int32))), (.int (nar .byte (13 : Int32)))]
theorem ef_rmF0 (m : MethodId) (a1 : Addr)  : entryFrame m #[(.ref a1)] 2 = mkF m 0 #[.val (.ref a1), .unset] [] := by first | (simp [entryFrame, mkF, argsToLocals, Value.category]; done) | rfl
theorem pn_2 : plainFor (⟨"com/example/cytorelay/cytorelay/link/Mllp", "frame", "([B)[B"⟩ : MethodName) = true := plainFor_of_name (show plainName "com/example/cytorelay/cytorelay/link/Mllp" = true by first | (simp [plainName, overriddenIn]; done) | decide +kernel)
set_option maxRecDepth 65536 in
set_option maxHeartbeats 40000000 in
theorem rmF0 (l : Launch) (Z : State) (a0 : Array Value) (hw : ∀ d ∈ tables_1, d.before a0 Z = true) (ws : List Jvm.Cond) (a1 : Addr) (ka : ClassId) (h0 : Heap) (n0 : Nat) (hn : n0 ≤ h0.size) (V_a1 : Arl Z h0 a1 ka .byte []) :
    Met false l Z (⟨"com/example/cytorelay/cytorelay/link/Mllp", "frame", "([B)[B"⟩ : MethodName) prog_59_method_2_code 2 (some (.array .byte)) ({ frames := 1, cells := 1, slots := 3, locals := 51 } : Room) ws #[(.ref a1)] h0 n0 (Q_rmF0 Z  h0 n0) := by
  refine Met.of pn_2 (fun m => ef_rmF0 m a1) ?_
  have K := Keep.refl h0 []
  refine Own.aloadN d2_0 rfl rfl ?_
  refine Own.arraylength_ (0 : Int32) V_a1 rfl d2_1 ?_
  refine Own.iconst (3 : Int32) d2_2 rfl ?_
  refine Own.iadd d2_3 ?_
  refine OAt.cast (st' := [(.int (3 : Int32))]) rfl ?_
  refine Own.newarray_ 3 .byte rfl (hw _ (List.mem_of_getElem? (i := 5) rfl)) d2_4 (N := 3) rfl (by decide) (by decide) (by decide) (by decide) rfl (fun h2 b2 k2 gb2 E2 V2 => ?_)
  have g_b2 : n0 ≤ b2 := by rw [gb2]; exact hn
  have ne_a1_b2 : a1 ≠ b2 := fun q => Nat.ne_of_lt V_a1.lt (q.trans gb2)
  have ne_b2_a1 := Ne.symm ne_a1_b2
  have hn := Nat.le_trans hn E2.1
  replace V_a1 := V_a1.ext E2
  replace V2 : Arl Z h2 b2 k2 .byte [(.int (0 : Int32)), (.int (0 : Int32)), (.int (0 : Int32))] := V2
  have sz_b2 : h0.size ≤ b2 := by rw [gb2]; exact K.1
  have K := K.ext E2
  refine Own.astoreN #[.val (.ref a1), .val (.ref b2)] d2_6 rfl rfl ?_
  refine Own.aloadN d2_7 rfl rfl ?_
  refine Own.iconst (0 : Int32) d2_8 rfl ?_
  refine Own.bipush (11 : Int32) d2_9 rfl ?_
  refine Own.bastore_ V2 (i := 0) rfl (Nat.le_of_ble_eq_true rfl) g_b2 d2_11 (fun h3 W3 V3 => ?_)
  have hn : n0 ≤ h3.size := by rw [W3.size]; exact hn
  replace V_a1 := V_a1.other W3 ne_a1_b2
  clear V2
  replace V3 : Arl Z h3 b2 k2 .byte [(.int (nar .byte (11 : Int32))), (.int (0 : Int32)), (.int (0 : Int32))] := V3
  have K := K.wr W3 (Or.inr sz_b2)
  refine Own.aloadN d2_12 rfl rfl ?_
  refine Own.iconst (0 : Int32) d2_13 rfl ?_
  refine Own.aloadN d2_14 rfl rfl ?_
  refine Own.iconst (1 : Int32) d2_15 rfl ?_
  refine Own.aloadN d2_16 rfl rfl ?_
  refine Own.arraylength_ (0 : Int32) V_a1 rfl d2_17 ?_
  refine Own.arraycopy_ (i := 0) (j := 1) (n := 0) 0 (hw _ (List.mem_of_getElem? (i := 10) rfl)) (hw _ (List.mem_of_getElem? (i := 13) rfl)) (hw _ (List.mem_of_getElem? (i := 11) rfl)) (hw _ (List.mem_of_getElem? (i := 12) rfl)) V_a1 V3 rfl rfl rfl rfl (Nat.le_of_ble_eq_true rfl) (Nat.le_of_ble_eq_true rfl) g_b2 rfl d2_18 (by decide) rfl (by decide) (fun h4 K4 V4 => ?_)
  have hn := Nat.le_trans hn K4.1
  replace V_a1 := V_a1.keep K4 (ninS ne_a1_b2 nin0)
  clear V3
  replace V4 : Arl Z h4 b2 k2 .byte [(.int (nar .byte (11 : Int32))), (.int (0 : Int32)), (.int (0 : Int32))] := V4
  have K := K.trans K4 (allS (Or.inr sz_b2) all0)
  refine Own.aloadN d2_21 rfl rfl ?_
  refine Own.aloadN d2_22 rfl rfl ?_
  refine Own.arraylength_ (3 : Int32) V4 rfl d2_23 ?_
  refine Own.iconst (2 : Int32) d2_24 rfl ?_
  refine Own.isub d2_25 ?_
  refine OAt.cast (st' := [(.int (1 : Int32)), (.ref b2)]) rfl ?_
  refine Own.bipush (28 : Int32) d2_26 rfl ?_
  refine Own.bastore_ V4 (i := 1) rfl (Nat.le_of_ble_eq_true rfl) g_b2 d2_28 (fun h5 W5 V5 => ?_)
  have hn : n0 ≤ h5.size := by rw [W5.size]; exact hn
  replace V_a1 := V_a1.other W5 ne_a1_b2
  clear V4
  replace V5 : Arl Z h5 b2 k2 .byte [(.int (nar .byte (11 : Int32))), (.int (nar .byte (28 : Int32))), (.int (0 : Int32))] := V5
  have K := K.wr W5 (Or.inr sz_b2)
  refine Own.aloadN d2_29 rfl rfl ?_
  refine Own.aloadN d2_30 rfl rfl ?_
  refine Own.arraylength_ (3 : Int32) V5 rfl d2_31 ?_
  refine Own.iconst (1 : Int32) d2_32 rfl ?_
  refine Own.isub d2_33 ?_
  refine OAt.cast (st' := [(.int (2 : Int32)), (.ref b2)]) rfl ?_
  refine Own.bipush (13 : Int32) d2_34 rfl ?_
  refine Own.bastore_ V5 (i := 2) rfl (Nat.le_of_ble_eq_true rfl) g_b2 d2_36 (fun h6 W6 V6 => ?_)
  have hn : n0 ≤ h6.size := by rw [W6.size]; exact hn
  replace V_a1 := V_a1.other W6 ne_a1_b2
  clear V5
  replace V6 : Arl Z h6 b2 k2 .byte [(.int (nar .byte (11 : Int32))), (.int (nar .byte (28 : Int32))), (.int (nar .byte (13 : Int32)))] := V6
  have K := K.wr W6 (Or.inr sz_b2)
  refine Own.aloadN d2_37 rfl rfl ?_
  refine Own.ret_ref (t := (.array .byte)) rfl rfl rfl d2_38 (by decide) (by decide) ?_
  exact ⟨b2, k2, rfl, sz_b2, K, V6⟩
theorem d1_8 : decode method_2_code 8 = .ok (.iload_n 0, 1) := by decide +kernel
theorem d1_9 : decode method_2_code 9 = .ok (.iconst 1, 1) := by decide +kernel
theorem d1_10 : decode method_2_code 10 = .ok (.if_icmp .ne 11, 3) := by decide +kernel
theorem d1_13 : decode method_2_code 13 = .ok (.iconst 1, 1) := by decide +kernel
theorem d1_14 : decode method_2_code 14 = .ok (.newarray .byte, 2) := by decide +kernel
theorem d1_16 : decode method_2_code 16 = .ok (.dup, 1) := by decide +kernel
theorem d1_17 : decode method_2_code 17 = .ok (.iconst 0, 1) := by decide +kernel
theorem d1_18 : decode method_2_code 18 = .ok (.iload_n 1, 1) := by decide +kernel
theorem d1_19 : decode method_2_code 19 = .ok (.bastore, 1) := by decide +kernel
theorem d1_20 : decode method_2_code 20 = .ok (.areturn, 1) := by decide +kernel
def Q_rmM1 (Z : State) (p1 : Int32) (p2 : Int32) (p3 : Int32) (p4 : Int32) (p5 : Int32) (h0 : Heap) (n0 : Nat) (v : Option Value) (h : Heap) : Prop := ∃ (a : Addr) (ka : ClassId), v = some (.ref a) ∧ h0.size ≤ a ∧ Keep h0 h [] ∧ Arl Z h a ka .byte [(.int (nar .byte p1))]
theorem ef_rmM1 (m : MethodId) (p1 : Int32) (p2 : Int32) (p3 : Int32) (p4 : Int32) (p5 : Int32)  : entryFrame m #[(.int (1 : Int32)), (.int p1), (.int p2), (.int p3), (.int p4), (.int p5)] 6 = mkF m 0 #[.val (.int (1 : Int32)), .val (.int p1), .val (.int p2), .val (.int p3), .val (.int p4), .val (.int p5)] [] := by first | (simp [entryFrame, mkF, argsToLocals, Value.category]; done) | rfl
set_option maxRecDepth 65536 in
set_option maxHeartbeats 40000000 in
theorem rmM1 (l : Launch) (Z : State) (a0 : Array Value) (hw : ∀ d ∈ tables_1, d.before a0 Z = true) (ws : List Jvm.Cond) (p1 : Int32) (p2 : Int32) (p3 : Int32) (p4 : Int32) (p5 : Int32) (h0 : Heap) (n0 : Nat) (hn : n0 ≤ h0.size) :
    Met false l Z (⟨"com/example/cytorelay/cytorelay/link/MllpFramePinLaw", "make", "(IBBBBB)[B"⟩ : MethodName) method_2_code 6 (some (.array .byte)) ({ frames := 0, cells := 1, slots := 1, locals := 0 } : Room) ws #[(.int (1 : Int32)), (.int p1), (.int p2), (.int p3), (.int p4), (.int p5)] h0 n0 (Q_rmM1 Z p1 p2 p3 p4 p5 h0 n0) := by
  refine Met.of pn_1 (fun m => ef_rmM1 m p1 p2 p3 p4 p5) ?_
  have K := Keep.refl h0 []
  refine Own.iloadN d1_0 rfl ?_
  refine Own.if_ne 8 d1_1 (by decide) rfl (fun _ => ?_) (fun q => absurd q (by decide))
  refine Own.iloadN d1_8 rfl ?_
  refine Own.iconst (1 : Int32) d1_9 rfl ?_
  refine Own.icmp_ne 21 d1_10 (by decide) rfl (fun q => absurd (by decide) q) (fun _ => ?_)
  refine Own.iconst (1 : Int32) d1_13 rfl ?_
  refine Own.newarray_ 1 .byte rfl (hw _ (List.mem_of_getElem? (i := 5) rfl)) d1_14 (N := 1) rfl (by decide) (by decide) (by decide) (by decide) rfl (fun h7 b7 k7 gb7 E7 V7 => ?_)
  have g_b7 : n0 ≤ b7 := by rw [gb7]; exact hn
  have hn := Nat.le_trans hn E7.1
  replace V7 : Arl Z h7 b7 k7 .byte [(.int (0 : Int32))] := V7
  have sz_b7 : h0.size ≤ b7 := by rw [gb7]; exact K.1
  have K := K.ext E7
  refine Own.dup d1_16 rfl ?_
  refine Own.iconst (0 : Int32) d1_17 rfl ?_
  refine Own.iloadN d1_18 rfl ?_
  refine Own.bastore_ V7 (i := 0) rfl (Nat.le_of_ble_eq_true rfl) g_b7 d1_19 (fun h8 W8 V8 => ?_)
  have hn : n0 ≤ h8.size := by rw [W8.size]; exact hn
  clear V7
  replace V8 : Arl Z h8 b7 k7 .byte [(.int (nar .byte p1))] := V8
  have K := K.wr W8 (Or.inr sz_b7)
  refine Own.ret_ref (t := (.array .byte)) rfl rfl rfl d1_20 (by decide) (by decide) ?_
  exact ⟨b7, k7, rfl, sz_b7, K, V8⟩
def Q_rmF1 (Z : State) (x0 : Int32) (h0 : Heap) (n0 : Nat) (v : Option Value) (h : Heap) : Prop := ∃ (a : Addr) (ka : ClassId), v = some (.ref a) ∧ h0.size ≤ a ∧ Keep h0 h [] ∧ Arl Z h a ka .byte [(.int (nar .byte (11 : Int32))), (.int x0), (.int (nar .byte (28 : Int32))), (.int (nar .byte (13 : Int32)))]
theorem ef_rmF1 (m : MethodId) (a1 : Addr)  : entryFrame m #[(.ref a1)] 2 = mkF m 0 #[.val (.ref a1), .unset] [] := by first | (simp [entryFrame, mkF, argsToLocals, Value.category]; done) | rfl
set_option maxRecDepth 65536 in
set_option maxHeartbeats 40000000 in
theorem rmF1 (l : Launch) (Z : State) (a0 : Array Value) (hw : ∀ d ∈ tables_1, d.before a0 Z = true) (ws : List Jvm.Cond) (a1 : Addr) (ka : ClassId) (x0 : Int32) (h0 : Heap) (n0 : Nat) (hn : n0 ≤ h0.size) (V_a1 : Arl Z h0 a1 ka .byte [(.int x0)]) :
    Met false l Z (⟨"com/example/cytorelay/cytorelay/link/Mllp", "frame", "([B)[B"⟩ : MethodName) prog_59_method_2_code 2 (some (.array .byte)) ({ frames := 1, cells := 1, slots := 4, locals := 51 } : Room) ws #[(.ref a1)] h0 n0 (Q_rmF1 Z x0 h0 n0) := by
  refine Met.of pn_2 (fun m => ef_rmF1 m a1) ?_
  have K := Keep.refl h0 []
  refine Own.aloadN d2_0 rfl rfl ?_
  refine Own.arraylength_ (1 : Int32) V_a1 rfl d2_1 ?_
  refine Own.iconst (3 : Int32) d2_2 rfl ?_
  refine Own.iadd d2_3 ?_
  refine OAt.cast (st' := [(.int (4 : Int32))]) rfl ?_
  refine Own.newarray_ 4 .byte rfl (hw _ (List.mem_of_getElem? (i := 5) rfl)) d2_4 (N := 4) rfl (by decide) (by decide) (by decide) (by decide) rfl (fun h9 b9 k9 gb9 E9 V9 => ?_)
  have g_b9 : n0 ≤ b9 := by rw [gb9]; exact hn
  have ne_a1_b9 : a1 ≠ b9 := fun q => Nat.ne_of_lt V_a1.lt (q.trans gb9)
  have ne_b9_a1 := Ne.symm ne_a1_b9
  have hn := Nat.le_trans hn E9.1
  replace V_a1 := V_a1.ext E9
  replace V9 : Arl Z h9 b9 k9 .byte [(.int (0 : Int32)), (.int (0 : Int32)), (.int (0 : Int32)), (.int (0 : Int32))] := V9
  have sz_b9 : h0.size ≤ b9 := by rw [gb9]; exact K.1
  have K := K.ext E9
  refine Own.astoreN #[.val (.ref a1), .val (.ref b9)] d2_6 rfl rfl ?_
  refine Own.aloadN d2_7 rfl rfl ?_
  refine Own.iconst (0 : Int32) d2_8 rfl ?_
  refine Own.bipush (11 : Int32) d2_9 rfl ?_
  refine Own.bastore_ V9 (i := 0) rfl (Nat.le_of_ble_eq_true rfl) g_b9 d2_11 (fun h10 W10 V10 => ?_)
  have hn : n0 ≤ h10.size := by rw [W10.size]; exact hn
  replace V_a1 := V_a1.other W10 ne_a1_b9
  clear V9
  replace V10 : Arl Z h10 b9 k9 .byte [(.int (nar .byte (11 : Int32))), (.int (0 : Int32)), (.int (0 : Int32)), (.int (0 : Int32))] := V10
  have K := K.wr W10 (Or.inr sz_b9)
  refine Own.aloadN d2_12 rfl rfl ?_
  refine Own.iconst (0 : Int32) d2_13 rfl ?_
  refine Own.aloadN d2_14 rfl rfl ?_
  refine Own.iconst (1 : Int32) d2_15 rfl ?_
  refine Own.aloadN d2_16 rfl rfl ?_
  refine Own.arraylength_ (1 : Int32) V_a1 rfl d2_17 ?_
  refine Own.arraycopy_ (i := 0) (j := 1) (n := 1) 0 (hw _ (List.mem_of_getElem? (i := 10) rfl)) (hw _ (List.mem_of_getElem? (i := 13) rfl)) (hw _ (List.mem_of_getElem? (i := 11) rfl)) (hw _ (List.mem_of_getElem? (i := 12) rfl)) V_a1 V10 rfl rfl rfl rfl (Nat.le_of_ble_eq_true rfl) (Nat.le_of_ble_eq_true rfl) g_b9 rfl d2_18 (by decide) rfl (by decide) (fun h11 K11 V11 => ?_)
  have hn := Nat.le_trans hn K11.1
  replace V_a1 := V_a1.keep K11 (ninS ne_a1_b9 nin0)
  clear V10
  replace V11 : Arl Z h11 b9 k9 .byte [(.int (nar .byte (11 : Int32))), (.int x0), (.int (0 : Int32)), (.int (0 : Int32))] := V11
  have K := K.trans K11 (allS (Or.inr sz_b9) all0)
  refine Own.aloadN d2_21 rfl rfl ?_
  refine Own.aloadN d2_22 rfl rfl ?_
  refine Own.arraylength_ (4 : Int32) V11 rfl d2_23 ?_
  refine Own.iconst (2 : Int32) d2_24 rfl ?_
  refine Own.isub d2_25 ?_
  refine OAt.cast (st' := [(.int (2 : Int32)), (.ref b9)]) rfl ?_
  refine Own.bipush (28 : Int32) d2_26 rfl ?_
  refine Own.bastore_ V11 (i := 2) rfl (Nat.le_of_ble_eq_true rfl) g_b9 d2_28 (fun h12 W12 V12 => ?_)
  have hn : n0 ≤ h12.size := by rw [W12.size]; exact hn
  replace V_a1 := V_a1.other W12 ne_a1_b9
  clear V11
  replace V12 : Arl Z h12 b9 k9 .byte [(.int (nar .byte (11 : Int32))), (.int x0), (.int (nar .byte (28 : Int32))), (.int (0 : Int32))] := V12
  have K := K.wr W12 (Or.inr sz_b9)
  refine Own.aloadN d2_29 rfl rfl ?_
  refine Own.aloadN d2_30 rfl rfl ?_
  refine Own.arraylength_ (4 : Int32) V12 rfl d2_31 ?_
  refine Own.iconst (1 : Int32) d2_32 rfl ?_
  refine Own.isub d2_33 ?_
  refine OAt.cast (st' := [(.int (3 : Int32)), (.ref b9)]) rfl ?_
  refine Own.bipush (13 : Int32) d2_34 rfl ?_
  refine Own.bastore_ V12 (i := 3) rfl (Nat.le_of_ble_eq_true rfl) g_b9 d2_36 (fun h13 W13 V13 => ?_)
  have hn : n0 ≤ h13.size := by rw [W13.size]; exact hn
  replace V_a1 := V_a1.other W13 ne_a1_b9
  clear V12
  replace V13 : Arl Z h13 b9 k9 .byte [(.int (nar .byte (11 : Int32))), (.int x0), (.int (nar .byte (28 : Int32))), (.int (nar .byte (13 : Int32)))] := V13
  have K := K.wr W13 (Or.inr sz_b9)
  refine Own.aloadN d2_37 rfl rfl ?_
  refine Own.ret_ref (t := (.array .byte)) rfl rfl rfl d2_38 (by decide) (by decide) ?_
  exact ⟨b9, k9, rfl, sz_b9, K, V13⟩
theorem d1_21 : decode method_2_code 21 = .ok (.iload_n 0, 1) := by decide +kernel
theorem d1_22 : decode method_2_code 22 = .ok (.iconst 2, 1) := by decide +kernel
theorem d1_23 : decode method_2_code 23 = .ok (.if_icmp .ne 15, 3) := by decide +kernel
theorem d1_26 : decode method_2_code 26 = .ok (.iconst 2, 1) := by decide +kernel
theorem d1_27 : decode method_2_code 27 = .ok (.newarray .byte, 2) := by decide +kernel
theorem d1_29 : decode method_2_code 29 = .ok (.dup, 1) := by decide +kernel
theorem d1_30 : decode method_2_code 30 = .ok (.iconst 0, 1) := by decide +kernel
theorem d1_31 : decode method_2_code 31 = .ok (.iload_n 1, 1) := by decide +kernel
theorem d1_32 : decode method_2_code 32 = .ok (.bastore, 1) := by decide +kernel
theorem d1_33 : decode method_2_code 33 = .ok (.dup, 1) := by decide +kernel
theorem d1_34 : decode method_2_code 34 = .ok (.iconst 1, 1) := by decide +kernel
theorem d1_35 : decode method_2_code 35 = .ok (.iload_n 2, 1) := by decide +kernel
theorem d1_36 : decode method_2_code 36 = .ok (.bastore, 1) := by decide +kernel
theorem d1_37 : decode method_2_code 37 = .ok (.areturn, 1) := by decide +kernel
def Q_rmM2 (Z : State) (p1 : Int32) (p2 : Int32) (p3 : Int32) (p4 : Int32) (p5 : Int32) (h0 : Heap) (n0 : Nat) (v : Option Value) (h : Heap) : Prop := ∃ (a : Addr) (ka : ClassId), v = some (.ref a) ∧ h0.size ≤ a ∧ Keep h0 h [] ∧ Arl Z h a ka .byte [(.int (nar .byte p1)), (.int (nar .byte p2))]
theorem ef_rmM2 (m : MethodId) (p1 : Int32) (p2 : Int32) (p3 : Int32) (p4 : Int32) (p5 : Int32)  : entryFrame m #[(.int (2 : Int32)), (.int p1), (.int p2), (.int p3), (.int p4), (.int p5)] 6 = mkF m 0 #[.val (.int (2 : Int32)), .val (.int p1), .val (.int p2), .val (.int p3), .val (.int p4), .val (.int p5)] [] := by first | (simp [entryFrame, mkF, argsToLocals, Value.category]; done) | rfl
set_option maxRecDepth 65536 in
set_option maxHeartbeats 40000000 in
theorem rmM2 (l : Launch) (Z : State) (a0 : Array Value) (hw : ∀ d ∈ tables_1, d.before a0 Z = true) (ws : List Jvm.Cond) (p1 : Int32) (p2 : Int32) (p3 : Int32) (p4 : Int32) (p5 : Int32) (h0 : Heap) (n0 : Nat) (hn : n0 ≤ h0.size) :
    Met false l Z (⟨"com/example/cytorelay/cytorelay/link/MllpFramePinLaw", "make", "(IBBBBB)[B"⟩ : MethodName) method_2_code 6 (some (.array .byte)) ({ frames := 0, cells := 1, slots := 2, locals := 0 } : Room) ws #[(.int (2 : Int32)), (.int p1), (.int p2), (.int p3), (.int p4), (.int p5)] h0 n0 (Q_rmM2 Z p1 p2 p3 p4 p5 h0 n0) := by
  refine Met.of pn_1 (fun m => ef_rmM2 m p1 p2 p3 p4 p5) ?_
  have K := Keep.refl h0 []
  refine Own.iloadN d1_0 rfl ?_
  refine Own.if_ne 8 d1_1 (by decide) rfl (fun _ => ?_) (fun q => absurd q (by decide))
  refine Own.iloadN d1_8 rfl ?_
  refine Own.iconst (1 : Int32) d1_9 rfl ?_
  refine Own.icmp_ne 21 d1_10 (by decide) rfl (fun _ => ?_) (fun q => absurd q (by decide))
  refine Own.iloadN d1_21 rfl ?_
  refine Own.iconst (2 : Int32) d1_22 rfl ?_
  refine Own.icmp_ne 38 d1_23 (by decide) rfl (fun q => absurd (by decide) q) (fun _ => ?_)
  refine Own.iconst (2 : Int32) d1_26 rfl ?_
  refine Own.newarray_ 2 .byte rfl (hw _ (List.mem_of_getElem? (i := 5) rfl)) d1_27 (N := 2) rfl (by decide) (by decide) (by decide) (by decide) rfl (fun h14 b14 k14 gb14 E14 V14 => ?_)
  have g_b14 : n0 ≤ b14 := by rw [gb14]; exact hn
  have hn := Nat.le_trans hn E14.1
  replace V14 : Arl Z h14 b14 k14 .byte [(.int (0 : Int32)), (.int (0 : Int32))] := V14
  have sz_b14 : h0.size ≤ b14 := by rw [gb14]; exact K.1
  have K := K.ext E14
  refine Own.dup d1_29 rfl ?_
  refine Own.iconst (0 : Int32) d1_30 rfl ?_
  refine Own.iloadN d1_31 rfl ?_
  refine Own.bastore_ V14 (i := 0) rfl (Nat.le_of_ble_eq_true rfl) g_b14 d1_32 (fun h15 W15 V15 => ?_)
  have hn : n0 ≤ h15.size := by rw [W15.size]; exact hn
  clear V14
  replace V15 : Arl Z h15 b14 k14 .byte [(.int (nar .byte p1)), (.int (0 : Int32))] := V15
  have K := K.wr W15 (Or.inr sz_b14)
  refine Own.dup d1_33 rfl ?_
  refine Own.iconst (1 : Int32) d1_34 rfl ?_
  refine Own.iloadN d1_35 rfl ?_
  refine Own.bastore_ V15 (i := 1) rfl (Nat.le_of_ble_eq_true rfl) g_b14 d1_36 (fun h16 W16 V16 => ?_)
  have hn : n0 ≤ h16.size := by rw [W16.size]; exact hn
  clear V15
  replace V16 : Arl Z h16 b14 k14 .byte [(.int (nar .byte p1)), (.int (nar .byte p2))] := V16
  have K := K.wr W16 (Or.inr sz_b14)
  refine Own.ret_ref (t := (.array .byte)) rfl rfl rfl d1_37 (by decide) (by decide) ?_
  exact ⟨b14, k14, rfl, sz_b14, K, V16⟩
def Q_rmF2 (Z : State) (x0 : Int32) (x1 : Int32) (h0 : Heap) (n0 : Nat) (v : Option Value) (h : Heap) : Prop := ∃ (a : Addr) (ka : ClassId), v = some (.ref a) ∧ h0.size ≤ a ∧ Keep h0 h [] ∧ Arl Z h a ka .byte [(.int (nar .byte (11 : Int32))), (.int x0), (.int x1), (.int (nar .byte (28 : Int32))), (.int (nar .byte (13 : Int32)))]
theorem ef_rmF2 (m : MethodId) (a1 : Addr)  : entryFrame m #[(.ref a1)] 2 = mkF m 0 #[.val (.ref a1), .unset] [] := by first | (simp [entryFrame, mkF, argsToLocals, Value.category]; done) | rfl
set_option maxRecDepth 65536 in
set_option maxHeartbeats 40000000 in
theorem rmF2 (l : Launch) (Z : State) (a0 : Array Value) (hw : ∀ d ∈ tables_1, d.before a0 Z = true) (ws : List Jvm.Cond) (a1 : Addr) (ka : ClassId) (x0 : Int32) (x1 : Int32) (h0 : Heap) (n0 : Nat) (hn : n0 ≤ h0.size) (V_a1 : Arl Z h0 a1 ka .byte [(.int x0), (.int x1)]) :
    Met false l Z (⟨"com/example/cytorelay/cytorelay/link/Mllp", "frame", "([B)[B"⟩ : MethodName) prog_59_method_2_code 2 (some (.array .byte)) ({ frames := 1, cells := 1, slots := 5, locals := 51 } : Room) ws #[(.ref a1)] h0 n0 (Q_rmF2 Z x0 x1 h0 n0) := by
  refine Met.of pn_2 (fun m => ef_rmF2 m a1) ?_
  have K := Keep.refl h0 []
  refine Own.aloadN d2_0 rfl rfl ?_
  refine Own.arraylength_ (2 : Int32) V_a1 rfl d2_1 ?_
  refine Own.iconst (3 : Int32) d2_2 rfl ?_
  refine Own.iadd d2_3 ?_
  refine OAt.cast (st' := [(.int (5 : Int32))]) rfl ?_
  refine Own.newarray_ 5 .byte rfl (hw _ (List.mem_of_getElem? (i := 5) rfl)) d2_4 (N := 5) rfl (by decide) (by decide) (by decide) (by decide) rfl (fun h17 b17 k17 gb17 E17 V17 => ?_)
  have g_b17 : n0 ≤ b17 := by rw [gb17]; exact hn
  have ne_a1_b17 : a1 ≠ b17 := fun q => Nat.ne_of_lt V_a1.lt (q.trans gb17)
  have ne_b17_a1 := Ne.symm ne_a1_b17
  have hn := Nat.le_trans hn E17.1
  replace V_a1 := V_a1.ext E17
  replace V17 : Arl Z h17 b17 k17 .byte [(.int (0 : Int32)), (.int (0 : Int32)), (.int (0 : Int32)), (.int (0 : Int32)), (.int (0 : Int32))] := V17
  have sz_b17 : h0.size ≤ b17 := by rw [gb17]; exact K.1
  have K := K.ext E17
  refine Own.astoreN #[.val (.ref a1), .val (.ref b17)] d2_6 rfl rfl ?_
  refine Own.aloadN d2_7 rfl rfl ?_
  refine Own.iconst (0 : Int32) d2_8 rfl ?_
  refine Own.bipush (11 : Int32) d2_9 rfl ?_
  refine Own.bastore_ V17 (i := 0) rfl (Nat.le_of_ble_eq_true rfl) g_b17 d2_11 (fun h18 W18 V18 => ?_)
  have hn : n0 ≤ h18.size := by rw [W18.size]; exact hn
  replace V_a1 := V_a1.other W18 ne_a1_b17
  clear V17
  replace V18 : Arl Z h18 b17 k17 .byte [(.int (nar .byte (11 : Int32))), (.int (0 : Int32)), (.int (0 : Int32)), (.int (0 : Int32)), (.int (0 : Int32))] := V18
  have K := K.wr W18 (Or.inr sz_b17)
  refine Own.aloadN d2_12 rfl rfl ?_
  refine Own.iconst (0 : Int32) d2_13 rfl ?_
  refine Own.aloadN d2_14 rfl rfl ?_
  refine Own.iconst (1 : Int32) d2_15 rfl ?_
  refine Own.aloadN d2_16 rfl rfl ?_
  refine Own.arraylength_ (2 : Int32) V_a1 rfl d2_17 ?_
  refine Own.arraycopy_ (i := 0) (j := 1) (n := 2) 0 (hw _ (List.mem_of_getElem? (i := 10) rfl)) (hw _ (List.mem_of_getElem? (i := 13) rfl)) (hw _ (List.mem_of_getElem? (i := 11) rfl)) (hw _ (List.mem_of_getElem? (i := 12) rfl)) V_a1 V18 rfl rfl rfl rfl (Nat.le_of_ble_eq_true rfl) (Nat.le_of_ble_eq_true rfl) g_b17 rfl d2_18 (by decide) rfl (by decide) (fun h19 K19 V19 => ?_)
  have hn := Nat.le_trans hn K19.1
  replace V_a1 := V_a1.keep K19 (ninS ne_a1_b17 nin0)
  clear V18
  replace V19 : Arl Z h19 b17 k17 .byte [(.int (nar .byte (11 : Int32))), (.int x0), (.int x1), (.int (0 : Int32)), (.int (0 : Int32))] := V19
  have K := K.trans K19 (allS (Or.inr sz_b17) all0)
  refine Own.aloadN d2_21 rfl rfl ?_
  refine Own.aloadN d2_22 rfl rfl ?_
  refine Own.arraylength_ (5 : Int32) V19 rfl d2_23 ?_
  refine Own.iconst (2 : Int32) d2_24 rfl ?_
  refine Own.isub d2_25 ?_
  refine OAt.cast (st' := [(.int (3 : Int32)), (.ref b17)]) rfl ?_
  refine Own.bipush (28 : Int32) d2_26 rfl ?_
  refine Own.bastore_ V19 (i := 3) rfl (Nat.le_of_ble_eq_true rfl) g_b17 d2_28 (fun h20 W20 V20 => ?_)
  have hn : n0 ≤ h20.size := by rw [W20.size]; exact hn
  replace V_a1 := V_a1.other W20 ne_a1_b17
  clear V19
  replace V20 : Arl Z h20 b17 k17 .byte [(.int (nar .byte (11 : Int32))), (.int x0), (.int x1), (.int (nar .byte (28 : Int32))), (.int (0 : Int32))] := V20
  have K := K.wr W20 (Or.inr sz_b17)
  refine Own.aloadN d2_29 rfl rfl ?_
  refine Own.aloadN d2_30 rfl rfl ?_
  refine Own.arraylength_ (5 : Int32) V20 rfl d2_31 ?_
  refine Own.iconst (1 : Int32) d2_32 rfl ?_
  refine Own.isub d2_33 ?_
  refine OAt.cast (st' := [(.int (4 : Int32)), (.ref b17)]) rfl ?_
  refine Own.bipush (13 : Int32) d2_34 rfl ?_
  refine Own.bastore_ V20 (i := 4) rfl (Nat.le_of_ble_eq_true rfl) g_b17 d2_36 (fun h21 W21 V21 => ?_)
  have hn : n0 ≤ h21.size := by rw [W21.size]; exact hn
  replace V_a1 := V_a1.other W21 ne_a1_b17
  clear V20
  replace V21 : Arl Z h21 b17 k17 .byte [(.int (nar .byte (11 : Int32))), (.int x0), (.int x1), (.int (nar .byte (28 : Int32))), (.int (nar .byte (13 : Int32)))] := V21
  have K := K.wr W21 (Or.inr sz_b17)
  refine Own.aloadN d2_37 rfl rfl ?_
  refine Own.ret_ref (t := (.array .byte)) rfl rfl rfl d2_38 (by decide) (by decide) ?_
  exact ⟨b17, k17, rfl, sz_b17, K, V21⟩
theorem d1_38 : decode method_2_code 38 = .ok (.iload_n 0, 1) := by decide +kernel
theorem d1_39 : decode method_2_code 39 = .ok (.iconst 3, 1) := by decide +kernel
theorem d1_40 : decode method_2_code 40 = .ok (.if_icmp .ne 19, 3) := by decide +kernel
theorem d1_43 : decode method_2_code 43 = .ok (.iconst 3, 1) := by decide +kernel
theorem d1_44 : decode method_2_code 44 = .ok (.newarray .byte, 2) := by decide +kernel
theorem d1_46 : decode method_2_code 46 = .ok (.dup, 1) := by decide +kernel
theorem d1_47 : decode method_2_code 47 = .ok (.iconst 0, 1) := by decide +kernel
theorem d1_48 : decode method_2_code 48 = .ok (.iload_n 1, 1) := by decide +kernel
theorem d1_49 : decode method_2_code 49 = .ok (.bastore, 1) := by decide +kernel
theorem d1_50 : decode method_2_code 50 = .ok (.dup, 1) := by decide +kernel
theorem d1_51 : decode method_2_code 51 = .ok (.iconst 1, 1) := by decide +kernel
theorem d1_52 : decode method_2_code 52 = .ok (.iload_n 2, 1) := by decide +kernel
theorem d1_53 : decode method_2_code 53 = .ok (.bastore, 1) := by decide +kernel
theorem d1_54 : decode method_2_code 54 = .ok (.dup, 1) := by decide +kernel
theorem d1_55 : decode method_2_code 55 = .ok (.iconst 2, 1) := by decide +kernel
theorem d1_56 : decode method_2_code 56 = .ok (.iload_n 3, 1) := by decide +kernel
theorem d1_57 : decode method_2_code 57 = .ok (.bastore, 1) := by decide +kernel
theorem d1_58 : decode method_2_code 58 = .ok (.areturn, 1) := by decide +kernel
def Q_rmM3 (Z : State) (p1 : Int32) (p2 : Int32) (p3 : Int32) (p4 : Int32) (p5 : Int32) (h0 : Heap) (n0 : Nat) (v : Option Value) (h : Heap) : Prop := ∃ (a : Addr) (ka : ClassId), v = some (.ref a) ∧ h0.size ≤ a ∧ Keep h0 h [] ∧ Arl Z h a ka .byte [(.int (nar .byte p1)), (.int (nar .byte p2)), (.int (nar .byte p3))]
theorem ef_rmM3 (m : MethodId) (p1 : Int32) (p2 : Int32) (p3 : Int32) (p4 : Int32) (p5 : Int32)  : entryFrame m #[(.int (3 : Int32)), (.int p1), (.int p2), (.int p3), (.int p4), (.int p5)] 6 = mkF m 0 #[.val (.int (3 : Int32)), .val (.int p1), .val (.int p2), .val (.int p3), .val (.int p4), .val (.int p5)] [] := by first | (simp [entryFrame, mkF, argsToLocals, Value.category]; done) | rfl
set_option maxRecDepth 65536 in
set_option maxHeartbeats 40000000 in
theorem rmM3 (l : Launch) (Z : State) (a0 : Array Value) (hw : ∀ d ∈ tables_1, d.before a0 Z = true) (ws : List Jvm.Cond) (p1 : Int32) (p2 : Int32) (p3 : Int32) (p4 : Int32) (p5 : Int32) (h0 : Heap) (n0 : Nat) (hn : n0 ≤ h0.size) :
    Met false l Z (⟨"com/example/cytorelay/cytorelay/link/MllpFramePinLaw", "make", "(IBBBBB)[B"⟩ : MethodName) method_2_code 6 (some (.array .byte)) ({ frames := 0, cells := 1, slots := 3, locals := 0 } : Room) ws #[(.int (3 : Int32)), (.int p1), (.int p2), (.int p3), (.int p4), (.int p5)] h0 n0 (Q_rmM3 Z p1 p2 p3 p4 p5 h0 n0) := by
  refine Met.of pn_1 (fun m => ef_rmM3 m p1 p2 p3 p4 p5) ?_
  have K := Keep.refl h0 []
  refine Own.iloadN d1_0 rfl ?_
  refine Own.if_ne 8 d1_1 (by decide) rfl (fun _ => ?_) (fun q => absurd q (by decide))
  refine Own.iloadN d1_8 rfl ?_
  refine Own.iconst (1 : Int32) d1_9 rfl ?_
  refine Own.icmp_ne 21 d1_10 (by decide) rfl (fun _ => ?_) (fun q => absurd q (by decide))
  refine Own.iloadN d1_21 rfl ?_
  refine Own.iconst (2 : Int32) d1_22 rfl ?_
  refine Own.icmp_ne 38 d1_23 (by decide) rfl (fun _ => ?_) (fun q => absurd q (by decide))
  refine Own.iloadN d1_38 rfl ?_
  refine Own.iconst (3 : Int32) d1_39 rfl ?_
  refine Own.icmp_ne 59 d1_40 (by decide) rfl (fun q => absurd (by decide) q) (fun _ => ?_)
  refine Own.iconst (3 : Int32) d1_43 rfl ?_
  refine Own.newarray_ 3 .byte rfl (hw _ (List.mem_of_getElem? (i := 5) rfl)) d1_44 (N := 3) rfl (by decide) (by decide) (by decide) (by decide) rfl (fun h22 b22 k22 gb22 E22 V22 => ?_)
  have g_b22 : n0 ≤ b22 := by rw [gb22]; exact hn
  have hn := Nat.le_trans hn E22.1
  replace V22 : Arl Z h22 b22 k22 .byte [(.int (0 : Int32)), (.int (0 : Int32)), (.int (0 : Int32))] := V22
  have sz_b22 : h0.size ≤ b22 := by rw [gb22]; exact K.1
  have K := K.ext E22
  refine Own.dup d1_46 rfl ?_
  refine Own.iconst (0 : Int32) d1_47 rfl ?_
  refine Own.iloadN d1_48 rfl ?_
  refine Own.bastore_ V22 (i := 0) rfl (Nat.le_of_ble_eq_true rfl) g_b22 d1_49 (fun h23 W23 V23 => ?_)
  have hn : n0 ≤ h23.size := by rw [W23.size]; exact hn
  clear V22
  replace V23 : Arl Z h23 b22 k22 .byte [(.int (nar .byte p1)), (.int (0 : Int32)), (.int (0 : Int32))] := V23
  have K := K.wr W23 (Or.inr sz_b22)
  refine Own.dup d1_50 rfl ?_
  refine Own.iconst (1 : Int32) d1_51 rfl ?_
  refine Own.iloadN d1_52 rfl ?_
  refine Own.bastore_ V23 (i := 1) rfl (Nat.le_of_ble_eq_true rfl) g_b22 d1_53 (fun h24 W24 V24 => ?_)
  have hn : n0 ≤ h24.size := by rw [W24.size]; exact hn
  clear V23
  replace V24 : Arl Z h24 b22 k22 .byte [(.int (nar .byte p1)), (.int (nar .byte p2)), (.int (0 : Int32))] := V24
  have K := K.wr W24 (Or.inr sz_b22)
  refine Own.dup d1_54 rfl ?_
  refine Own.iconst (2 : Int32) d1_55 rfl ?_
  refine Own.iloadN d1_56 rfl ?_
  refine Own.bastore_ V24 (i := 2) rfl (Nat.le_of_ble_eq_true rfl) g_b22 d1_57 (fun h25 W25 V25 => ?_)
  have hn : n0 ≤ h25.size := by rw [W25.size]; exact hn
  clear V24
  replace V25 : Arl Z h25 b22 k22 .byte [(.int (nar .byte p1)), (.int (nar .byte p2)), (.int (nar .byte p3))] := V25
  have K := K.wr W25 (Or.inr sz_b22)
  refine Own.ret_ref (t := (.array .byte)) rfl rfl rfl d1_58 (by decide) (by decide) ?_
  exact ⟨b22, k22, rfl, sz_b22, K, V25⟩
def Q_rmF3 (Z : State) (x0 : Int32) (x1 : Int32) (x2 : Int32) (h0 : Heap) (n0 : Nat) (v : Option Value) (h : Heap) : Prop := ∃ (a : Addr) (ka : ClassId), v = some (.ref a) ∧ h0.size ≤ a ∧ Keep h0 h [] ∧ Arl Z h a ka .byte [(.int (nar .byte (11 : Int32))), (.int x0), (.int x1), (.int x2), (.int (nar .byte (28 : Int32))), (.int (nar .byte (13 : Int32)))]
theorem ef_rmF3 (m : MethodId) (a1 : Addr)  : entryFrame m #[(.ref a1)] 2 = mkF m 0 #[.val (.ref a1), .unset] [] := by first | (simp [entryFrame, mkF, argsToLocals, Value.category]; done) | rfl
set_option maxRecDepth 65536 in
set_option maxHeartbeats 40000000 in
theorem rmF3 (l : Launch) (Z : State) (a0 : Array Value) (hw : ∀ d ∈ tables_1, d.before a0 Z = true) (ws : List Jvm.Cond) (a1 : Addr) (ka : ClassId) (x0 : Int32) (x1 : Int32) (x2 : Int32) (h0 : Heap) (n0 : Nat) (hn : n0 ≤ h0.size) (V_a1 : Arl Z h0 a1 ka .byte [(.int x0), (.int x1), (.int x2)]) :
    Met false l Z (⟨"com/example/cytorelay/cytorelay/link/Mllp", "frame", "([B)[B"⟩ : MethodName) prog_59_method_2_code 2 (some (.array .byte)) ({ frames := 1, cells := 1, slots := 6, locals := 51 } : Room) ws #[(.ref a1)] h0 n0 (Q_rmF3 Z x0 x1 x2 h0 n0) := by
  refine Met.of pn_2 (fun m => ef_rmF3 m a1) ?_
  have K := Keep.refl h0 []
  refine Own.aloadN d2_0 rfl rfl ?_
  refine Own.arraylength_ (3 : Int32) V_a1 rfl d2_1 ?_
  refine Own.iconst (3 : Int32) d2_2 rfl ?_
  refine Own.iadd d2_3 ?_
  refine OAt.cast (st' := [(.int (6 : Int32))]) rfl ?_
  refine Own.newarray_ 6 .byte rfl (hw _ (List.mem_of_getElem? (i := 5) rfl)) d2_4 (N := 6) rfl (by decide) (by decide) (by decide) (by decide) rfl (fun h26 b26 k26 gb26 E26 V26 => ?_)
  have g_b26 : n0 ≤ b26 := by rw [gb26]; exact hn
  have ne_a1_b26 : a1 ≠ b26 := fun q => Nat.ne_of_lt V_a1.lt (q.trans gb26)
  have ne_b26_a1 := Ne.symm ne_a1_b26
  have hn := Nat.le_trans hn E26.1
  replace V_a1 := V_a1.ext E26
  replace V26 : Arl Z h26 b26 k26 .byte [(.int (0 : Int32)), (.int (0 : Int32)), (.int (0 : Int32)), (.int (0 : Int32)), (.int (0 : Int32)), (.int (0 : Int32))] := V26
  have sz_b26 : h0.size ≤ b26 := by rw [gb26]; exact K.1
  have K := K.ext E26
  refine Own.astoreN #[.val (.ref a1), .val (.ref b26)] d2_6 rfl rfl ?_
  refine Own.aloadN d2_7 rfl rfl ?_
  refine Own.iconst (0 : Int32) d2_8 rfl ?_
  refine Own.bipush (11 : Int32) d2_9 rfl ?_
  refine Own.bastore_ V26 (i := 0) rfl (Nat.le_of_ble_eq_true rfl) g_b26 d2_11 (fun h27 W27 V27 => ?_)
  have hn : n0 ≤ h27.size := by rw [W27.size]; exact hn
  replace V_a1 := V_a1.other W27 ne_a1_b26
  clear V26
  replace V27 : Arl Z h27 b26 k26 .byte [(.int (nar .byte (11 : Int32))), (.int (0 : Int32)), (.int (0 : Int32)), (.int (0 : Int32)), (.int (0 : Int32)), (.int (0 : Int32))] := V27
  have K := K.wr W27 (Or.inr sz_b26)
  refine Own.aloadN d2_12 rfl rfl ?_
  refine Own.iconst (0 : Int32) d2_13 rfl ?_
  refine Own.aloadN d2_14 rfl rfl ?_
  refine Own.iconst (1 : Int32) d2_15 rfl ?_
  refine Own.aloadN d2_16 rfl rfl ?_
  refine Own.arraylength_ (3 : Int32) V_a1 rfl d2_17 ?_
  refine Own.arraycopy_ (i := 0) (j := 1) (n := 3) 0 (hw _ (List.mem_of_getElem? (i := 10) rfl)) (hw _ (List.mem_of_getElem? (i := 13) rfl)) (hw _ (List.mem_of_getElem? (i := 11) rfl)) (hw _ (List.mem_of_getElem? (i := 12) rfl)) V_a1 V27 rfl rfl rfl rfl (Nat.le_of_ble_eq_true rfl) (Nat.le_of_ble_eq_true rfl) g_b26 rfl d2_18 (by decide) rfl (by decide) (fun h28 K28 V28 => ?_)
  have hn := Nat.le_trans hn K28.1
  replace V_a1 := V_a1.keep K28 (ninS ne_a1_b26 nin0)
  clear V27
  replace V28 : Arl Z h28 b26 k26 .byte [(.int (nar .byte (11 : Int32))), (.int x0), (.int x1), (.int x2), (.int (0 : Int32)), (.int (0 : Int32))] := V28
  have K := K.trans K28 (allS (Or.inr sz_b26) all0)
  refine Own.aloadN d2_21 rfl rfl ?_
  refine Own.aloadN d2_22 rfl rfl ?_
  refine Own.arraylength_ (6 : Int32) V28 rfl d2_23 ?_
  refine Own.iconst (2 : Int32) d2_24 rfl ?_
  refine Own.isub d2_25 ?_
  refine OAt.cast (st' := [(.int (4 : Int32)), (.ref b26)]) rfl ?_
  refine Own.bipush (28 : Int32) d2_26 rfl ?_
  refine Own.bastore_ V28 (i := 4) rfl (Nat.le_of_ble_eq_true rfl) g_b26 d2_28 (fun h29 W29 V29 => ?_)
  have hn : n0 ≤ h29.size := by rw [W29.size]; exact hn
  replace V_a1 := V_a1.other W29 ne_a1_b26
  clear V28
  replace V29 : Arl Z h29 b26 k26 .byte [(.int (nar .byte (11 : Int32))), (.int x0), (.int x1), (.int x2), (.int (nar .byte (28 : Int32))), (.int (0 : Int32))] := V29
  have K := K.wr W29 (Or.inr sz_b26)
  refine Own.aloadN d2_29 rfl rfl ?_
  refine Own.aloadN d2_30 rfl rfl ?_
  refine Own.arraylength_ (6 : Int32) V29 rfl d2_31 ?_
  refine Own.iconst (1 : Int32) d2_32 rfl ?_
  refine Own.isub d2_33 ?_
  refine OAt.cast (st' := [(.int (5 : Int32)), (.ref b26)]) rfl ?_
  refine Own.bipush (13 : Int32) d2_34 rfl ?_
  refine Own.bastore_ V29 (i := 5) rfl (Nat.le_of_ble_eq_true rfl) g_b26 d2_36 (fun h30 W30 V30 => ?_)
  have hn : n0 ≤ h30.size := by rw [W30.size]; exact hn
  replace V_a1 := V_a1.other W30 ne_a1_b26
  clear V29
  replace V30 : Arl Z h30 b26 k26 .byte [(.int (nar .byte (11 : Int32))), (.int x0), (.int x1), (.int x2), (.int (nar .byte (28 : Int32))), (.int (nar .byte (13 : Int32)))] := V30
  have K := K.wr W30 (Or.inr sz_b26)
  refine Own.aloadN d2_37 rfl rfl ?_
  refine Own.ret_ref (t := (.array .byte)) rfl rfl rfl d2_38 (by decide) (by decide) ?_
  exact ⟨b26, k26, rfl, sz_b26, K, V30⟩
theorem d1_59 : decode method_2_code 59 = .ok (.iload_n 0, 1) := by decide +kernel
theorem d1_60 : decode method_2_code 60 = .ok (.iconst 4, 1) := by decide +kernel
theorem d1_61 : decode method_2_code 61 = .ok (.if_icmp .ne 24, 3) := by decide +kernel
theorem d1_64 : decode method_2_code 64 = .ok (.iconst 4, 1) := by decide +kernel
theorem d1_65 : decode method_2_code 65 = .ok (.newarray .byte, 2) := by decide +kernel
theorem d1_67 : decode method_2_code 67 = .ok (.dup, 1) := by decide +kernel
theorem d1_68 : decode method_2_code 68 = .ok (.iconst 0, 1) := by decide +kernel
theorem d1_69 : decode method_2_code 69 = .ok (.iload_n 1, 1) := by decide +kernel
theorem d1_70 : decode method_2_code 70 = .ok (.bastore, 1) := by decide +kernel
theorem d1_71 : decode method_2_code 71 = .ok (.dup, 1) := by decide +kernel
theorem d1_72 : decode method_2_code 72 = .ok (.iconst 1, 1) := by decide +kernel
theorem d1_73 : decode method_2_code 73 = .ok (.iload_n 2, 1) := by decide +kernel
theorem d1_74 : decode method_2_code 74 = .ok (.bastore, 1) := by decide +kernel
theorem d1_75 : decode method_2_code 75 = .ok (.dup, 1) := by decide +kernel
theorem d1_76 : decode method_2_code 76 = .ok (.iconst 2, 1) := by decide +kernel
theorem d1_77 : decode method_2_code 77 = .ok (.iload_n 3, 1) := by decide +kernel
theorem d1_78 : decode method_2_code 78 = .ok (.bastore, 1) := by decide +kernel
theorem d1_79 : decode method_2_code 79 = .ok (.dup, 1) := by decide +kernel
theorem d1_80 : decode method_2_code 80 = .ok (.iconst 3, 1) := by decide +kernel
theorem d1_81 : decode method_2_code 81 = .ok (.iload 4, 2) := by decide +kernel
theorem d1_83 : decode method_2_code 83 = .ok (.bastore, 1) := by decide +kernel
theorem d1_84 : decode method_2_code 84 = .ok (.areturn, 1) := by decide +kernel
def Q_rmM4 (Z : State) (p1 : Int32) (p2 : Int32) (p3 : Int32) (p4 : Int32) (p5 : Int32) (h0 : Heap) (n0 : Nat) (v : Option Value) (h : Heap) : Prop := ∃ (a : Addr) (ka : ClassId), v = some (.ref a) ∧ h0.size ≤ a ∧ Keep h0 h [] ∧ Arl Z h a ka .byte [(.int (nar .byte p1)), (.int (nar .byte p2)), (.int (nar .byte p3)), (.int (nar .byte p4))]
theorem ef_rmM4 (m : MethodId) (p1 : Int32) (p2 : Int32) (p3 : Int32) (p4 : Int32) (p5 : Int32)  : entryFrame m #[(.int (4 : Int32)), (.int p1), (.int p2), (.int p3), (.int p4), (.int p5)] 6 = mkF m 0 #[.val (.int (4 : Int32)), .val (.int p1), .val (.int p2), .val (.int p3), .val (.int p4), .val (.int p5)] [] := by first | (simp [entryFrame, mkF, argsToLocals, Value.category]; done) | rfl
set_option maxRecDepth 65536 in
set_option maxHeartbeats 40000000 in
theorem rmM4 (l : Launch) (Z : State) (a0 : Array Value) (hw : ∀ d ∈ tables_1, d.before a0 Z = true) (ws : List Jvm.Cond) (p1 : Int32) (p2 : Int32) (p3 : Int32) (p4 : Int32) (p5 : Int32) (h0 : Heap) (n0 : Nat) (hn : n0 ≤ h0.size) :
    Met false l Z (⟨"com/example/cytorelay/cytorelay/link/MllpFramePinLaw", "make", "(IBBBBB)[B"⟩ : MethodName) method_2_code 6 (some (.array .byte)) ({ frames := 0, cells := 1, slots := 4, locals := 0 } : Room) ws #[(.int (4 : Int32)), (.int p1), (.int p2), (.int p3), (.int p4), (.int p5)] h0 n0 (Q_rmM4 Z p1 p2 p3 p4 p5 h0 n0) := by
  refine Met.of pn_1 (fun m => ef_rmM4 m p1 p2 p3 p4 p5) ?_
  have K := Keep.refl h0 []
  refine Own.iloadN d1_0 rfl ?_
  refine Own.if_ne 8 d1_1 (by decide) rfl (fun _ => ?_) (fun q => absurd q (by decide))
  refine Own.iloadN d1_8 rfl ?_
  refine Own.iconst (1 : Int32) d1_9 rfl ?_
  refine Own.icmp_ne 21 d1_10 (by decide) rfl (fun _ => ?_) (fun q => absurd q (by decide))
  refine Own.iloadN d1_21 rfl ?_
  refine Own.iconst (2 : Int32) d1_22 rfl ?_
  refine Own.icmp_ne 38 d1_23 (by decide) rfl (fun _ => ?_) (fun q => absurd q (by decide))
  refine Own.iloadN d1_38 rfl ?_
  refine Own.iconst (3 : Int32) d1_39 rfl ?_
  refine Own.icmp_ne 59 d1_40 (by decide) rfl (fun _ => ?_) (fun q => absurd q (by decide))
  refine Own.iloadN d1_59 rfl ?_
  refine Own.iconst (4 : Int32) d1_60 rfl ?_
  refine Own.icmp_ne 85 d1_61 (by decide) rfl (fun q => absurd (by decide) q) (fun _ => ?_)
  refine Own.iconst (4 : Int32) d1_64 rfl ?_
  refine Own.newarray_ 4 .byte rfl (hw _ (List.mem_of_getElem? (i := 5) rfl)) d1_65 (N := 4) rfl (by decide) (by decide) (by decide) (by decide) rfl (fun h31 b31 k31 gb31 E31 V31 => ?_)
  have g_b31 : n0 ≤ b31 := by rw [gb31]; exact hn
  have hn := Nat.le_trans hn E31.1
  replace V31 : Arl Z h31 b31 k31 .byte [(.int (0 : Int32)), (.int (0 : Int32)), (.int (0 : Int32)), (.int (0 : Int32))] := V31
  have sz_b31 : h0.size ≤ b31 := by rw [gb31]; exact K.1
  have K := K.ext E31
  refine Own.dup d1_67 rfl ?_
  refine Own.iconst (0 : Int32) d1_68 rfl ?_
  refine Own.iloadN d1_69 rfl ?_
  refine Own.bastore_ V31 (i := 0) rfl (Nat.le_of_ble_eq_true rfl) g_b31 d1_70 (fun h32 W32 V32 => ?_)
  have hn : n0 ≤ h32.size := by rw [W32.size]; exact hn
  clear V31
  replace V32 : Arl Z h32 b31 k31 .byte [(.int (nar .byte p1)), (.int (0 : Int32)), (.int (0 : Int32)), (.int (0 : Int32))] := V32
  have K := K.wr W32 (Or.inr sz_b31)
  refine Own.dup d1_71 rfl ?_
  refine Own.iconst (1 : Int32) d1_72 rfl ?_
  refine Own.iloadN d1_73 rfl ?_
  refine Own.bastore_ V32 (i := 1) rfl (Nat.le_of_ble_eq_true rfl) g_b31 d1_74 (fun h33 W33 V33 => ?_)
  have hn : n0 ≤ h33.size := by rw [W33.size]; exact hn
  clear V32
  replace V33 : Arl Z h33 b31 k31 .byte [(.int (nar .byte p1)), (.int (nar .byte p2)), (.int (0 : Int32)), (.int (0 : Int32))] := V33
  have K := K.wr W33 (Or.inr sz_b31)
  refine Own.dup d1_75 rfl ?_
  refine Own.iconst (2 : Int32) d1_76 rfl ?_
  refine Own.iloadN d1_77 rfl ?_
  refine Own.bastore_ V33 (i := 2) rfl (Nat.le_of_ble_eq_true rfl) g_b31 d1_78 (fun h34 W34 V34 => ?_)
  have hn : n0 ≤ h34.size := by rw [W34.size]; exact hn
  clear V33
  replace V34 : Arl Z h34 b31 k31 .byte [(.int (nar .byte p1)), (.int (nar .byte p2)), (.int (nar .byte p3)), (.int (0 : Int32))] := V34
  have K := K.wr W34 (Or.inr sz_b31)
  refine Own.dup d1_79 rfl ?_
  refine Own.iconst (3 : Int32) d1_80 rfl ?_
  refine Own.iload d1_81 rfl ?_
  refine Own.bastore_ V34 (i := 3) rfl (Nat.le_of_ble_eq_true rfl) g_b31 d1_83 (fun h35 W35 V35 => ?_)
  have hn : n0 ≤ h35.size := by rw [W35.size]; exact hn
  clear V34
  replace V35 : Arl Z h35 b31 k31 .byte [(.int (nar .byte p1)), (.int (nar .byte p2)), (.int (nar .byte p3)), (.int (nar .byte p4))] := V35
  have K := K.wr W35 (Or.inr sz_b31)
  refine Own.ret_ref (t := (.array .byte)) rfl rfl rfl d1_84 (by decide) (by decide) ?_
  exact ⟨b31, k31, rfl, sz_b31, K, V35⟩
def Q_rmF4 (Z : State) (x0 : Int32) (x1 : Int32) (x2 : Int32) (x3 : Int32) (h0 : Heap) (n0 : Nat) (v : Option Value) (h : Heap) : Prop := ∃ (a : Addr) (ka : ClassId), v = some (.ref a) ∧ h0.size ≤ a ∧ Keep h0 h [] ∧ Arl Z h a ka .byte [(.int (nar .byte (11 : Int32))), (.int x0), (.int x1), (.int x2), (.int x3), (.int (nar .byte (28 : Int32))), (.int (nar .byte (13 : Int32)))]
theorem ef_rmF4 (m : MethodId) (a1 : Addr)  : entryFrame m #[(.ref a1)] 2 = mkF m 0 #[.val (.ref a1), .unset] [] := by first | (simp [entryFrame, mkF, argsToLocals, Value.category]; done) | rfl
set_option maxRecDepth 65536 in
set_option maxHeartbeats 40000000 in
theorem rmF4 (l : Launch) (Z : State) (a0 : Array Value) (hw : ∀ d ∈ tables_1, d.before a0 Z = true) (ws : List Jvm.Cond) (a1 : Addr) (ka : ClassId) (x0 : Int32) (x1 : Int32) (x2 : Int32) (x3 : Int32) (h0 : Heap) (n0 : Nat) (hn : n0 ≤ h0.size) (V_a1 : Arl Z h0 a1 ka .byte [(.int x0), (.int x1), (.int x2), (.int x3)]) :
    Met false l Z (⟨"com/example/cytorelay/cytorelay/link/Mllp", "frame", "([B)[B"⟩ : MethodName) prog_59_method_2_code 2 (some (.array .byte)) ({ frames := 1, cells := 1, slots := 7, locals := 51 } : Room) ws #[(.ref a1)] h0 n0 (Q_rmF4 Z x0 x1 x2 x3 h0 n0) := by
  refine Met.of pn_2 (fun m => ef_rmF4 m a1) ?_
  have K := Keep.refl h0 []
  refine Own.aloadN d2_0 rfl rfl ?_
  refine Own.arraylength_ (4 : Int32) V_a1 rfl d2_1 ?_
  refine Own.iconst (3 : Int32) d2_2 rfl ?_
  refine Own.iadd d2_3 ?_
  refine OAt.cast (st' := [(.int (7 : Int32))]) rfl ?_
  refine Own.newarray_ 7 .byte rfl (hw _ (List.mem_of_getElem? (i := 5) rfl)) d2_4 (N := 7) rfl (by decide) (by decide) (by decide) (by decide) rfl (fun h36 b36 k36 gb36 E36 V36 => ?_)
  have g_b36 : n0 ≤ b36 := by rw [gb36]; exact hn
  have ne_a1_b36 : a1 ≠ b36 := fun q => Nat.ne_of_lt V_a1.lt (q.trans gb36)
  have ne_b36_a1 := Ne.symm ne_a1_b36
  have hn := Nat.le_trans hn E36.1
  replace V_a1 := V_a1.ext E36
  replace V36 : Arl Z h36 b36 k36 .byte [(.int (0 : Int32)), (.int (0 : Int32)), (.int (0 : Int32)), (.int (0 : Int32)), (.int (0 : Int32)), (.int (0 : Int32)), (.int (0 : Int32))] := V36
  have sz_b36 : h0.size ≤ b36 := by rw [gb36]; exact K.1
  have K := K.ext E36
  refine Own.astoreN #[.val (.ref a1), .val (.ref b36)] d2_6 rfl rfl ?_
  refine Own.aloadN d2_7 rfl rfl ?_
  refine Own.iconst (0 : Int32) d2_8 rfl ?_
  refine Own.bipush (11 : Int32) d2_9 rfl ?_
  refine Own.bastore_ V36 (i := 0) rfl (Nat.le_of_ble_eq_true rfl) g_b36 d2_11 (fun h37 W37 V37 => ?_)
  have hn : n0 ≤ h37.size := by rw [W37.size]; exact hn
  replace V_a1 := V_a1.other W37 ne_a1_b36
  clear V36
  replace V37 : Arl Z h37 b36 k36 .byte [(.int (nar .byte (11 : Int32))), (.int (0 : Int32)), (.int (0 : Int32)), (.int (0 : Int32)), (.int (0 : Int32)), (.int (0 : Int32)), (.int (0 : Int32))] := V37
  have K := K.wr W37 (Or.inr sz_b36)
  refine Own.aloadN d2_12 rfl rfl ?_
  refine Own.iconst (0 : Int32) d2_13 rfl ?_
  refine Own.aloadN d2_14 rfl rfl ?_
  refine Own.iconst (1 : Int32) d2_15 rfl ?_
  refine Own.aloadN d2_16 rfl rfl ?_
  refine Own.arraylength_ (4 : Int32) V_a1 rfl d2_17 ?_
  refine Own.arraycopy_ (i := 0) (j := 1) (n := 4) 0 (hw _ (List.mem_of_getElem? (i := 10) rfl)) (hw _ (List.mem_of_getElem? (i := 13) rfl)) (hw _ (List.mem_of_getElem? (i := 11) rfl)) (hw _ (List.mem_of_getElem? (i := 12) rfl)) V_a1 V37 rfl rfl rfl rfl (Nat.le_of_ble_eq_true rfl) (Nat.le_of_ble_eq_true rfl) g_b36 rfl d2_18 (by decide) rfl (by decide) (fun h38 K38 V38 => ?_)
  have hn := Nat.le_trans hn K38.1
  replace V_a1 := V_a1.keep K38 (ninS ne_a1_b36 nin0)
  clear V37
  replace V38 : Arl Z h38 b36 k36 .byte [(.int (nar .byte (11 : Int32))), (.int x0), (.int x1), (.int x2), (.int x3), (.int (0 : Int32)), (.int (0 : Int32))] := V38
  have K := K.trans K38 (allS (Or.inr sz_b36) all0)
  refine Own.aloadN d2_21 rfl rfl ?_
  refine Own.aloadN d2_22 rfl rfl ?_
  refine Own.arraylength_ (7 : Int32) V38 rfl d2_23 ?_
  refine Own.iconst (2 : Int32) d2_24 rfl ?_
  refine Own.isub d2_25 ?_
  refine OAt.cast (st' := [(.int (5 : Int32)), (.ref b36)]) rfl ?_
  refine Own.bipush (28 : Int32) d2_26 rfl ?_
  refine Own.bastore_ V38 (i := 5) rfl (Nat.le_of_ble_eq_true rfl) g_b36 d2_28 (fun h39 W39 V39 => ?_)
  have hn : n0 ≤ h39.size := by rw [W39.size]; exact hn
  replace V_a1 := V_a1.other W39 ne_a1_b36
  clear V38
  replace V39 : Arl Z h39 b36 k36 .byte [(.int (nar .byte (11 : Int32))), (.int x0), (.int x1), (.int x2), (.int x3), (.int (nar .byte (28 : Int32))), (.int (0 : Int32))] := V39
  have K := K.wr W39 (Or.inr sz_b36)
  refine Own.aloadN d2_29 rfl rfl ?_
  refine Own.aloadN d2_30 rfl rfl ?_
  refine Own.arraylength_ (7 : Int32) V39 rfl d2_31 ?_
  refine Own.iconst (1 : Int32) d2_32 rfl ?_
  refine Own.isub d2_33 ?_
  refine OAt.cast (st' := [(.int (6 : Int32)), (.ref b36)]) rfl ?_
  refine Own.bipush (13 : Int32) d2_34 rfl ?_
  refine Own.bastore_ V39 (i := 6) rfl (Nat.le_of_ble_eq_true rfl) g_b36 d2_36 (fun h40 W40 V40 => ?_)
  have hn : n0 ≤ h40.size := by rw [W40.size]; exact hn
  replace V_a1 := V_a1.other W40 ne_a1_b36
  clear V39
  replace V40 : Arl Z h40 b36 k36 .byte [(.int (nar .byte (11 : Int32))), (.int x0), (.int x1), (.int x2), (.int x3), (.int (nar .byte (28 : Int32))), (.int (nar .byte (13 : Int32)))] := V40
  have K := K.wr W40 (Or.inr sz_b36)
  refine Own.aloadN d2_37 rfl rfl ?_
  refine Own.ret_ref (t := (.array .byte)) rfl rfl rfl d2_38 (by decide) (by decide) ?_
  exact ⟨b36, k36, rfl, sz_b36, K, V40⟩
theorem d1_85 : decode method_2_code 85 = .ok (.iconst 5, 1) := by decide +kernel
theorem d1_86 : decode method_2_code 86 = .ok (.newarray .byte, 2) := by decide +kernel
theorem d1_88 : decode method_2_code 88 = .ok (.dup, 1) := by decide +kernel
theorem d1_89 : decode method_2_code 89 = .ok (.iconst 0, 1) := by decide +kernel
theorem d1_90 : decode method_2_code 90 = .ok (.iload_n 1, 1) := by decide +kernel
theorem d1_91 : decode method_2_code 91 = .ok (.bastore, 1) := by decide +kernel
theorem d1_92 : decode method_2_code 92 = .ok (.dup, 1) := by decide +kernel
theorem d1_93 : decode method_2_code 93 = .ok (.iconst 1, 1) := by decide +kernel
theorem d1_94 : decode method_2_code 94 = .ok (.iload_n 2, 1) := by decide +kernel
theorem d1_95 : decode method_2_code 95 = .ok (.bastore, 1) := by decide +kernel
theorem d1_96 : decode method_2_code 96 = .ok (.dup, 1) := by decide +kernel
theorem d1_97 : decode method_2_code 97 = .ok (.iconst 2, 1) := by decide +kernel
theorem d1_98 : decode method_2_code 98 = .ok (.iload_n 3, 1) := by decide +kernel
theorem d1_99 : decode method_2_code 99 = .ok (.bastore, 1) := by decide +kernel
theorem d1_100 : decode method_2_code 100 = .ok (.dup, 1) := by decide +kernel
theorem d1_101 : decode method_2_code 101 = .ok (.iconst 3, 1) := by decide +kernel
theorem d1_102 : decode method_2_code 102 = .ok (.iload 4, 2) := by decide +kernel
theorem d1_104 : decode method_2_code 104 = .ok (.bastore, 1) := by decide +kernel
theorem d1_105 : decode method_2_code 105 = .ok (.dup, 1) := by decide +kernel
theorem d1_106 : decode method_2_code 106 = .ok (.iconst 4, 1) := by decide +kernel
theorem d1_107 : decode method_2_code 107 = .ok (.iload 5, 2) := by decide +kernel
theorem d1_109 : decode method_2_code 109 = .ok (.bastore, 1) := by decide +kernel
theorem d1_110 : decode method_2_code 110 = .ok (.areturn, 1) := by decide +kernel
def Q_rmM5 (Z : State) (p1 : Int32) (p2 : Int32) (p3 : Int32) (p4 : Int32) (p5 : Int32) (h0 : Heap) (n0 : Nat) (v : Option Value) (h : Heap) : Prop := ∃ (a : Addr) (ka : ClassId), v = some (.ref a) ∧ h0.size ≤ a ∧ Keep h0 h [] ∧ Arl Z h a ka .byte [(.int (nar .byte p1)), (.int (nar .byte p2)), (.int (nar .byte p3)), (.int (nar .byte p4)), (.int (nar .byte p5))]
theorem ef_rmM5 (m : MethodId) (p1 : Int32) (p2 : Int32) (p3 : Int32) (p4 : Int32) (p5 : Int32)  : entryFrame m #[(.int (5 : Int32)), (.int p1), (.int p2), (.int p3), (.int p4), (.int p5)] 6 = mkF m 0 #[.val (.int (5 : Int32)), .val (.int p1), .val (.int p2), .val (.int p3), .val (.int p4), .val (.int p5)] [] := by first | (simp [entryFrame, mkF, argsToLocals, Value.category]; done) | rfl
set_option maxRecDepth 65536 in
set_option maxHeartbeats 40000000 in
theorem rmM5 (l : Launch) (Z : State) (a0 : Array Value) (hw : ∀ d ∈ tables_1, d.before a0 Z = true) (ws : List Jvm.Cond) (p1 : Int32) (p2 : Int32) (p3 : Int32) (p4 : Int32) (p5 : Int32) (h0 : Heap) (n0 : Nat) (hn : n0 ≤ h0.size) :
    Met false l Z (⟨"com/example/cytorelay/cytorelay/link/MllpFramePinLaw", "make", "(IBBBBB)[B"⟩ : MethodName) method_2_code 6 (some (.array .byte)) ({ frames := 0, cells := 1, slots := 5, locals := 0 } : Room) ws #[(.int (5 : Int32)), (.int p1), (.int p2), (.int p3), (.int p4), (.int p5)] h0 n0 (Q_rmM5 Z p1 p2 p3 p4 p5 h0 n0) := by
  refine Met.of pn_1 (fun m => ef_rmM5 m p1 p2 p3 p4 p5) ?_
  have K := Keep.refl h0 []
  refine Own.iloadN d1_0 rfl ?_
  refine Own.if_ne 8 d1_1 (by decide) rfl (fun _ => ?_) (fun q => absurd q (by decide))
  refine Own.iloadN d1_8 rfl ?_
  refine Own.iconst (1 : Int32) d1_9 rfl ?_
  refine Own.icmp_ne 21 d1_10 (by decide) rfl (fun _ => ?_) (fun q => absurd q (by decide))
  refine Own.iloadN d1_21 rfl ?_
  refine Own.iconst (2 : Int32) d1_22 rfl ?_
  refine Own.icmp_ne 38 d1_23 (by decide) rfl (fun _ => ?_) (fun q => absurd q (by decide))
  refine Own.iloadN d1_38 rfl ?_
  refine Own.iconst (3 : Int32) d1_39 rfl ?_
  refine Own.icmp_ne 59 d1_40 (by decide) rfl (fun _ => ?_) (fun q => absurd q (by decide))
  refine Own.iloadN d1_59 rfl ?_
  refine Own.iconst (4 : Int32) d1_60 rfl ?_
  refine Own.icmp_ne 85 d1_61 (by decide) rfl (fun _ => ?_) (fun q => absurd q (by decide))
  refine Own.iconst (5 : Int32) d1_85 rfl ?_
  refine Own.newarray_ 5 .byte rfl (hw _ (List.mem_of_getElem? (i := 5) rfl)) d1_86 (N := 5) rfl (by decide) (by decide) (by decide) (by decide) rfl (fun h41 b41 k41 gb41 E41 V41 => ?_)
  have g_b41 : n0 ≤ b41 := by rw [gb41]; exact hn
  have hn := Nat.le_trans hn E41.1
  replace V41 : Arl Z h41 b41 k41 .byte [(.int (0 : Int32)), (.int (0 : Int32)), (.int (0 : Int32)), (.int (0 : Int32)), (.int (0 : Int32))] := V41
  have sz_b41 : h0.size ≤ b41 := by rw [gb41]; exact K.1
  have K := K.ext E41
  refine Own.dup d1_88 rfl ?_
  refine Own.iconst (0 : Int32) d1_89 rfl ?_
  refine Own.iloadN d1_90 rfl ?_
  refine Own.bastore_ V41 (i := 0) rfl (Nat.le_of_ble_eq_true rfl) g_b41 d1_91 (fun h42 W42 V42 => ?_)
  have hn : n0 ≤ h42.size := by rw [W42.size]; exact hn
  clear V41
  replace V42 : Arl Z h42 b41 k41 .byte [(.int (nar .byte p1)), (.int (0 : Int32)), (.int (0 : Int32)), (.int (0 : Int32)), (.int (0 : Int32))] := V42
  have K := K.wr W42 (Or.inr sz_b41)
  refine Own.dup d1_92 rfl ?_
  refine Own.iconst (1 : Int32) d1_93 rfl ?_
  refine Own.iloadN d1_94 rfl ?_
  refine Own.bastore_ V42 (i := 1) rfl (Nat.le_of_ble_eq_true rfl) g_b41 d1_95 (fun h43 W43 V43 => ?_)
  have hn : n0 ≤ h43.size := by rw [W43.size]; exact hn
  clear V42
  replace V43 : Arl Z h43 b41 k41 .byte [(.int (nar .byte p1)), (.int (nar .byte p2)), (.int (0 : Int32)), (.int (0 : Int32)), (.int (0 : Int32))] := V43
  have K := K.wr W43 (Or.inr sz_b41)
  refine Own.dup d1_96 rfl ?_
  refine Own.iconst (2 : Int32) d1_97 rfl ?_
  refine Own.iloadN d1_98 rfl ?_
  refine Own.bastore_ V43 (i := 2) rfl (Nat.le_of_ble_eq_true rfl) g_b41 d1_99 (fun h44 W44 V44 => ?_)
  have hn : n0 ≤ h44.size := by rw [W44.size]; exact hn
  clear V43
  replace V44 : Arl Z h44 b41 k41 .byte [(.int (nar .byte p1)), (.int (nar .byte p2)), (.int (nar .byte p3)), (.int (0 : Int32)), (.int (0 : Int32))] := V44
  have K := K.wr W44 (Or.inr sz_b41)
  refine Own.dup d1_100 rfl ?_
  refine Own.iconst (3 : Int32) d1_101 rfl ?_
  refine Own.iload d1_102 rfl ?_
  refine Own.bastore_ V44 (i := 3) rfl (Nat.le_of_ble_eq_true rfl) g_b41 d1_104 (fun h45 W45 V45 => ?_)
  have hn : n0 ≤ h45.size := by rw [W45.size]; exact hn
  clear V44
  replace V45 : Arl Z h45 b41 k41 .byte [(.int (nar .byte p1)), (.int (nar .byte p2)), (.int (nar .byte p3)), (.int (nar .byte p4)), (.int (0 : Int32))] := V45
  have K := K.wr W45 (Or.inr sz_b41)
  refine Own.dup d1_105 rfl ?_
  refine Own.iconst (4 : Int32) d1_106 rfl ?_
  refine Own.iload d1_107 rfl ?_
  refine Own.bastore_ V45 (i := 4) rfl (Nat.le_of_ble_eq_true rfl) g_b41 d1_109 (fun h46 W46 V46 => ?_)
  have hn : n0 ≤ h46.size := by rw [W46.size]; exact hn
  clear V45
  replace V46 : Arl Z h46 b41 k41 .byte [(.int (nar .byte p1)), (.int (nar .byte p2)), (.int (nar .byte p3)), (.int (nar .byte p4)), (.int (nar .byte p5))] := V46
  have K := K.wr W46 (Or.inr sz_b41)
  refine Own.ret_ref (t := (.array .byte)) rfl rfl rfl d1_110 (by decide) (by decide) ?_
  exact ⟨b41, k41, rfl, sz_b41, K, V46⟩
def Q_rmF5 (Z : State) (x0 : Int32) (x1 : Int32) (x2 : Int32) (x3 : Int32) (x4 : Int32) (h0 : Heap) (n0 : Nat) (v : Option Value) (h : Heap) : Prop := ∃ (a : Addr) (ka : ClassId), v = some (.ref a) ∧ h0.size ≤ a ∧ Keep h0 h [] ∧ Arl Z h a ka .byte [(.int (nar .byte (11 : Int32))), (.int x0), (.int x1), (.int x2), (.int x3), (.int x4), (.int (nar .byte (28 : Int32))), (.int (nar .byte (13 : Int32)))]
theorem ef_rmF5 (m : MethodId) (a1 : Addr)  : entryFrame m #[(.ref a1)] 2 = mkF m 0 #[.val (.ref a1), .unset] [] := by first | (simp [entryFrame, mkF, argsToLocals, Value.category]; done) | rfl
set_option maxRecDepth 65536 in
set_option maxHeartbeats 40000000 in
theorem rmF5 (l : Launch) (Z : State) (a0 : Array Value) (hw : ∀ d ∈ tables_1, d.before a0 Z = true) (ws : List Jvm.Cond) (a1 : Addr) (ka : ClassId) (x0 : Int32) (x1 : Int32) (x2 : Int32) (x3 : Int32) (x4 : Int32) (h0 : Heap) (n0 : Nat) (hn : n0 ≤ h0.size) (V_a1 : Arl Z h0 a1 ka .byte [(.int x0), (.int x1), (.int x2), (.int x3), (.int x4)]) :
    Met false l Z (⟨"com/example/cytorelay/cytorelay/link/Mllp", "frame", "([B)[B"⟩ : MethodName) prog_59_method_2_code 2 (some (.array .byte)) ({ frames := 1, cells := 1, slots := 8, locals := 51 } : Room) ws #[(.ref a1)] h0 n0 (Q_rmF5 Z x0 x1 x2 x3 x4 h0 n0) := by
  refine Met.of pn_2 (fun m => ef_rmF5 m a1) ?_
  have K := Keep.refl h0 []
  refine Own.aloadN d2_0 rfl rfl ?_
  refine Own.arraylength_ (5 : Int32) V_a1 rfl d2_1 ?_
  refine Own.iconst (3 : Int32) d2_2 rfl ?_
  refine Own.iadd d2_3 ?_
  refine OAt.cast (st' := [(.int (8 : Int32))]) rfl ?_
  refine Own.newarray_ 8 .byte rfl (hw _ (List.mem_of_getElem? (i := 5) rfl)) d2_4 (N := 8) rfl (by decide) (by decide) (by decide) (by decide) rfl (fun h47 b47 k47 gb47 E47 V47 => ?_)
  have g_b47 : n0 ≤ b47 := by rw [gb47]; exact hn
  have ne_a1_b47 : a1 ≠ b47 := fun q => Nat.ne_of_lt V_a1.lt (q.trans gb47)
  have ne_b47_a1 := Ne.symm ne_a1_b47
  have hn := Nat.le_trans hn E47.1
  replace V_a1 := V_a1.ext E47
  replace V47 : Arl Z h47 b47 k47 .byte [(.int (0 : Int32)), (.int (0 : Int32)), (.int (0 : Int32)), (.int (0 : Int32)), (.int (0 : Int32)), (.int (0 : Int32)), (.int (0 : Int32)), (.int (0 : Int32))] := V47
  have sz_b47 : h0.size ≤ b47 := by rw [gb47]; exact K.1
  have K := K.ext E47
  refine Own.astoreN #[.val (.ref a1), .val (.ref b47)] d2_6 rfl rfl ?_
  refine Own.aloadN d2_7 rfl rfl ?_
  refine Own.iconst (0 : Int32) d2_8 rfl ?_
  refine Own.bipush (11 : Int32) d2_9 rfl ?_
  refine Own.bastore_ V47 (i := 0) rfl (Nat.le_of_ble_eq_true rfl) g_b47 d2_11 (fun h48 W48 V48 => ?_)
  have hn : n0 ≤ h48.size := by rw [W48.size]; exact hn
  replace V_a1 := V_a1.other W48 ne_a1_b47
  clear V47
  replace V48 : Arl Z h48 b47 k47 .byte [(.int (nar .byte (11 : Int32))), (.int (0 : Int32)), (.int (0 : Int32)), (.int (0 : Int32)), (.int (0 : Int32)), (.int (0 : Int32)), (.int (0 : Int32)), (.int (0 : Int32))] := V48
  have K := K.wr W48 (Or.inr sz_b47)
  refine Own.aloadN d2_12 rfl rfl ?_
  refine Own.iconst (0 : Int32) d2_13 rfl ?_
  refine Own.aloadN d2_14 rfl rfl ?_
  refine Own.iconst (1 : Int32) d2_15 rfl ?_
  refine Own.aloadN d2_16 rfl rfl ?_
  refine Own.arraylength_ (5 : Int32) V_a1 rfl d2_17 ?_
  refine Own.arraycopy_ (i := 0) (j := 1) (n := 5) 0 (hw _ (List.mem_of_getElem? (i := 10) rfl)) (hw _ (List.mem_of_getElem? (i := 13) rfl)) (hw _ (List.mem_of_getElem? (i := 11) rfl)) (hw _ (List.mem_of_getElem? (i := 12) rfl)) V_a1 V48 rfl rfl rfl rfl (Nat.le_of_ble_eq_true rfl) (Nat.le_of_ble_eq_true rfl) g_b47 rfl d2_18 (by decide) rfl (by decide) (fun h49 K49 V49 => ?_)
  have hn := Nat.le_trans hn K49.1
  replace V_a1 := V_a1.keep K49 (ninS ne_a1_b47 nin0)
  clear V48
  replace V49 : Arl Z h49 b47 k47 .byte [(.int (nar .byte (11 : Int32))), (.int x0), (.int x1), (.int x2), (.int x3), (.int x4), (.int (0 : Int32)), (.int (0 : Int32))] := V49
  have K := K.trans K49 (allS (Or.inr sz_b47) all0)
  refine Own.aloadN d2_21 rfl rfl ?_
  refine Own.aloadN d2_22 rfl rfl ?_
  refine Own.arraylength_ (8 : Int32) V49 rfl d2_23 ?_
  refine Own.iconst (2 : Int32) d2_24 rfl ?_
  refine Own.isub d2_25 ?_
  refine OAt.cast (st' := [(.int (6 : Int32)), (.ref b47)]) rfl ?_
  refine Own.bipush (28 : Int32) d2_26 rfl ?_
  refine Own.bastore_ V49 (i := 6) rfl (Nat.le_of_ble_eq_true rfl) g_b47 d2_28 (fun h50 W50 V50 => ?_)
  have hn : n0 ≤ h50.size := by rw [W50.size]; exact hn
  replace V_a1 := V_a1.other W50 ne_a1_b47
  clear V49
  replace V50 : Arl Z h50 b47 k47 .byte [(.int (nar .byte (11 : Int32))), (.int x0), (.int x1), (.int x2), (.int x3), (.int x4), (.int (nar .byte (28 : Int32))), (.int (0 : Int32))] := V50
  have K := K.wr W50 (Or.inr sz_b47)
  refine Own.aloadN d2_29 rfl rfl ?_
  refine Own.aloadN d2_30 rfl rfl ?_
  refine Own.arraylength_ (8 : Int32) V50 rfl d2_31 ?_
  refine Own.iconst (1 : Int32) d2_32 rfl ?_
  refine Own.isub d2_33 ?_
  refine OAt.cast (st' := [(.int (7 : Int32)), (.ref b47)]) rfl ?_
  refine Own.bipush (13 : Int32) d2_34 rfl ?_
  refine Own.bastore_ V50 (i := 7) rfl (Nat.le_of_ble_eq_true rfl) g_b47 d2_36 (fun h51 W51 V51 => ?_)
  have hn : n0 ≤ h51.size := by rw [W51.size]; exact hn
  replace V_a1 := V_a1.other W51 ne_a1_b47
  clear V50
  replace V51 : Arl Z h51 b47 k47 .byte [(.int (nar .byte (11 : Int32))), (.int x0), (.int x1), (.int x2), (.int x3), (.int x4), (.int (nar .byte (28 : Int32))), (.int (nar .byte (13 : Int32)))] := V51
  have K := K.wr W51 (Or.inr sz_b47)
  refine Own.aloadN d2_37 rfl rfl ?_
  refine Own.ret_ref (t := (.array .byte)) rfl rfl rfl d2_38 (by decide) (by decide) ?_
  exact ⟨b47, k47, rfl, sz_b47, K, V51⟩
theorem pd_0 : parseMethodDescriptor "(IBBBBB)[B" = some ⟨[.int, .byte, .byte, .byte, .byte, .byte], some (.array .byte)⟩ := by decide +kernel
theorem pd_2 : parseMethodDescriptor "([B)[B" = some ⟨[(.array .byte)], some (.array .byte)⟩ := by decide +kernel
def Q_rm0 (Z : State)  (h0 : Heap) (n0 : Nat) (v : Option Value) (h : Heap) : Prop := v = some (.int 1)
theorem ef_rm0 (m : MethodId) (p0 : Int32) (p1 : Int32) (p2 : Int32) (p3 : Int32) (p4 : Int32) (p5 : Int32)  : entryFrame m #[(.int p0), (.int p1), (.int p2), (.int p3), (.int p4), (.int p5)] maxLocals = mkF m 0 #[.val (.int p0), .val (.int p1), .val (.int p2), .val (.int p3), .val (.int p4), .val (.int p5), .unset, .unset, .unset, .unset, .unset, .unset, .unset, .unset, .unset, .unset] [] := by first | (simp [entryFrame, mkF, argsToLocals, Value.category, maxLocals]; done) | rfl
theorem pn_0 : plainFor (⟨"com/example/cytorelay/cytorelay/link/MllpFramePinLaw", "law", "(IIIIII)Z"⟩ : MethodName) = true := plainFor_of_name (show plainName "com/example/cytorelay/cytorelay/link/MllpFramePinLaw" = true by first | (simp [plainName, overriddenIn]; done) | decide +kernel)
set_option maxRecDepth 65536 in
set_option maxHeartbeats 40000000 in
theorem rm0 (l : Launch) (Z : State) (a0 : Array Value) (hw : ∀ d ∈ tables_1, d.before a0 Z = true) (ws : List Jvm.Cond) (p0 : Int32) (p1 : Int32) (p2 : Int32) (p3 : Int32) (p4 : Int32) (p5 : Int32) (h0 : Heap) (n0 : Nat) (hn : n0 ≤ h0.size) :
    Met false l Z x code maxLocals ret room_1 ws #[(.int p0), (.int p1), (.int p2), (.int p3), (.int p4), (.int p5)] h0 n0 (Q_rm0 Z  h0 n0) := by
  refine Met.of pn_0 (fun m => ef_rm0 m p0 p1 p2 p3 p4 p5) ?_
  refine Own.iloadN at_0 rfl ?_
  refine Own.ldcInt (hw _ (List.mem_of_getElem? (i := 0) rfl)) at_1 ?_
  refine Own.iand at_3 ?_
  refine Own.bipush (6 : Int32) at_4 rfl ?_
  refine Own.irem_ at_6 (by decide) ?_
  rcases own_n6 p0 with e | e | e | e | e | e
  · rw [e]
    refine Own.istore #[.val (.int p0), .val (.int p1), .val (.int p2), .val (.int p3), .val (.int p4), .val (.int p5), .val (.int (0 : Int32)), .unset, .unset, .unset, .unset, .unset, .unset, .unset, .unset, .unset] at_7 rfl ?_
    refine Own.iloadN at_9 rfl ?_
    refine Own.i2b at_10 ?_
    refine Own.istore #[.val (.int p0), .val (.int p1), .val (.int p2), .val (.int p3), .val (.int p4), .val (.int p5), .val (.int (0 : Int32)), .val (.int (p1.toInt8.toInt32)), .unset, .unset, .unset, .unset, .unset, .unset, .unset, .unset] at_11 rfl ?_
    refine Own.iloadN at_13 rfl ?_
    refine Own.i2b at_14 ?_
    refine Own.istore #[.val (.int p0), .val (.int p1), .val (.int p2), .val (.int p3), .val (.int p4), .val (.int p5), .val (.int (0 : Int32)), .val (.int (p1.toInt8.toInt32)), .val (.int (p2.toInt8.toInt32)), .unset, .unset, .unset, .unset, .unset, .unset, .unset] at_15 rfl ?_
    refine Own.iloadN at_17 rfl ?_
    refine Own.i2b at_18 ?_
    refine Own.istore #[.val (.int p0), .val (.int p1), .val (.int p2), .val (.int p3), .val (.int p4), .val (.int p5), .val (.int (0 : Int32)), .val (.int (p1.toInt8.toInt32)), .val (.int (p2.toInt8.toInt32)), .val (.int (p3.toInt8.toInt32)), .unset, .unset, .unset, .unset, .unset, .unset] at_19 rfl ?_
    refine Own.iload at_21 rfl ?_
    refine Own.i2b at_23 ?_
    refine Own.istore #[.val (.int p0), .val (.int p1), .val (.int p2), .val (.int p3), .val (.int p4), .val (.int p5), .val (.int (0 : Int32)), .val (.int (p1.toInt8.toInt32)), .val (.int (p2.toInt8.toInt32)), .val (.int (p3.toInt8.toInt32)), .val (.int (p4.toInt8.toInt32)), .unset, .unset, .unset, .unset, .unset] at_24 rfl ?_
    refine Own.iload at_26 rfl ?_
    refine Own.i2b at_28 ?_
    refine Own.istore #[.val (.int p0), .val (.int p1), .val (.int p2), .val (.int p3), .val (.int p4), .val (.int p5), .val (.int (0 : Int32)), .val (.int (p1.toInt8.toInt32)), .val (.int (p2.toInt8.toInt32)), .val (.int (p3.toInt8.toInt32)), .val (.int (p4.toInt8.toInt32)), .val (.int (p5.toInt8.toInt32)), .unset, .unset, .unset, .unset] at_29 rfl ?_
    refine Own.iload at_31 rfl ?_
    refine Own.iload at_33 rfl ?_
    refine Own.iload at_35 rfl ?_
    refine Own.iload at_37 rfl ?_
    refine Own.iload at_39 rfl ?_
    refine Own.iload at_41 rfl ?_
    refine Own.callS_ [(.int (0 : Int32)), (.int (p1.toInt8.toInt32)), (.int (p2.toInt8.toInt32)), (.int (p3.toInt8.toInt32)), (.int (p4.toInt8.toInt32)), (.int (p5.toInt8.toInt32))] [] 0 (rmM0 l Z a0 hw [] (p1.toInt8.toInt32) (p2.toInt8.toInt32) (p3.toInt8.toInt32) (p4.toInt8.toInt32) (p5.toInt8.toInt32) h0 n0 hn) (hw _ (List.mem_of_getElem? (i := 1) rfl)) (hw _ (List.mem_of_getElem? (i := 2) rfl)) (hw _ (List.mem_of_getElem? (i := 3) rfl)) (hw _ (List.mem_of_getElem? (i := 4) rfl)) (by decide) at_43 pd_0 rfl rfl rfl rfl (by decide) (by decide) (by decide) (by decide) (fun v52 h52 hq52 => ?_)
    obtain ⟨b53, k53, rfl, z53, K53, V53⟩ := hq52
    have g_b53 : n0 ≤ b53 := Nat.le_trans hn z53
    have hn := Nat.le_trans hn K53.1
    refine OAt.cast (st' := [(.ref b53)]) rfl ?_
    refine Own.astore #[.val (.int p0), .val (.int p1), .val (.int p2), .val (.int p3), .val (.int p4), .val (.int p5), .val (.int (0 : Int32)), .val (.int (p1.toInt8.toInt32)), .val (.int (p2.toInt8.toInt32)), .val (.int (p3.toInt8.toInt32)), .val (.int (p4.toInt8.toInt32)), .val (.int (p5.toInt8.toInt32)), .val (.ref b53), .unset, .unset, .unset] at_46 rfl rfl ?_
    refine Own.aload at_48 rfl rfl ?_
    refine Own.callS_ [(.ref b53)] [] 0 (rmF0 l Z a0 hw [] b53 k53  h52 n0 hn V53) (hw _ (List.mem_of_getElem? (i := 6) rfl)) (hw _ (List.mem_of_getElem? (i := 7) rfl)) (hw _ (List.mem_of_getElem? (i := 8) rfl)) (hw _ (List.mem_of_getElem? (i := 9) rfl)) (by decide) at_50 pd_2 rfl rfl rfl rfl (by decide) (by decide) (by decide) (by decide) (fun v54 h54 hq54 => ?_)
    obtain ⟨b55, k55, rfl, z55, K55, V55⟩ := hq54
    have g_b55 : n0 ≤ b55 := Nat.le_trans hn z55
    have ne_b53_b55 : b53 ≠ b55 := Nat.ne_of_lt (Nat.lt_of_lt_of_le V53.lt z55)
    have ne_b55_b53 := Ne.symm ne_b53_b55
    have hn := Nat.le_trans hn K55.1
    replace V53 := V53.keep K55 nin0
    refine OAt.cast (st' := [(.ref b55)]) rfl ?_
    refine Own.astore #[.val (.int p0), .val (.int p1), .val (.int p2), .val (.int p3), .val (.int p4), .val (.int p5), .val (.int (0 : Int32)), .val (.int (p1.toInt8.toInt32)), .val (.int (p2.toInt8.toInt32)), .val (.int (p3.toInt8.toInt32)), .val (.int (p4.toInt8.toInt32)), .val (.int (p5.toInt8.toInt32)), .val (.ref b53), .val (.ref b55), .unset, .unset] at_53 rfl rfl ?_
    refine Own.aload at_55 rfl rfl ?_
    refine Own.ifnullNo at_57 ?_
    refine Own.aload at_60 rfl rfl ?_
    refine Own.arraylength_ (3 : Int32) V55 rfl at_62 ?_
    refine Own.iload at_63 rfl ?_
    refine Own.iconst (3 : Int32) at_65 rfl ?_
    refine Own.iadd at_66 ?_
    refine OAt.cast (st' := [(.int (3 : Int32)), (.int (3 : Int32))]) rfl ?_
    refine Own.icmp_eq 72 at_67 (by decide) rfl (fun _ => ?_) (fun q => absurd (by decide) q)
    refine Own.aload at_72 rfl rfl ?_
    refine Own.iconst (0 : Int32) at_74 rfl ?_
    refine Own.baload_ V55 (i := 0) rfl rfl at_75 ?_
    refine Own.bipush (11 : Int32) at_76 rfl ?_
    refine Own.icmp_eq 83 at_78 (by decide) rfl (fun _ => ?_) (fun q => absurd rfl q)
    refine Own.aload at_83 rfl rfl ?_
    refine Own.iload at_85 rfl ?_
    refine Own.iconst (1 : Int32) at_87 rfl ?_
    refine Own.iadd at_88 ?_
    refine OAt.cast (st' := [(.int (1 : Int32)), (.ref b55)]) rfl ?_
    refine Own.baload_ V55 (i := 1) rfl rfl at_89 ?_
    refine Own.bipush (28 : Int32) at_90 rfl ?_
    refine Own.icmp_ne 107 at_92 (by decide) rfl (fun q => absurd rfl q) (fun _ => ?_)
    refine Own.aload at_95 rfl rfl ?_
    refine Own.iload at_97 rfl ?_
    refine Own.iconst (2 : Int32) at_99 rfl ?_
    refine Own.iadd at_100 ?_
    refine OAt.cast (st' := [(.int (2 : Int32)), (.ref b55)]) rfl ?_
    refine Own.baload_ V55 (i := 2) rfl rfl at_101 ?_
    refine Own.bipush (13 : Int32) at_102 rfl ?_
    refine Own.icmp_eq 109 at_104 (by decide) rfl (fun _ => ?_) (fun q => absurd rfl q)
    refine Own.iload at_109 rfl ?_
    refine Own.if_le 123 at_111 (by decide) rfl (fun _ => ?_) (fun q => absurd q (by decide))
    refine Own.iload at_123 rfl ?_
    refine Own.iconst (1 : Int32) at_125 rfl ?_
    refine Own.icmp_le 138 at_126 (by decide) rfl (fun _ => ?_) (fun q => absurd q (by decide))
    refine Own.iload at_138 rfl ?_
    refine Own.iconst (2 : Int32) at_140 rfl ?_
    refine Own.icmp_le 153 at_141 (by decide) rfl (fun _ => ?_) (fun q => absurd q (by decide))
    refine Own.iload at_153 rfl ?_
    refine Own.iconst (3 : Int32) at_155 rfl ?_
    refine Own.icmp_le 168 at_156 (by decide) rfl (fun _ => ?_) (fun q => absurd q (by decide))
    refine Own.iload at_168 rfl ?_
    refine Own.iconst (4 : Int32) at_170 rfl ?_
    refine Own.icmp_le 183 at_171 (by decide) rfl (fun _ => ?_) (fun q => absurd q (by decide))
    refine Own.iconst (1 : Int32) at_183 rfl ?_
    refine Own.goto_ 188 at_184 (by decide) rfl ?_
    refine Own.istore #[.val (.int p0), .val (.int p1), .val (.int p2), .val (.int p3), .val (.int p4), .val (.int p5), .val (.int (0 : Int32)), .val (.int (p1.toInt8.toInt32)), .val (.int (p2.toInt8.toInt32)), .val (.int (p3.toInt8.toInt32)), .val (.int (p4.toInt8.toInt32)), .val (.int (p5.toInt8.toInt32)), .val (.ref b53), .val (.ref b55), .val (.int (1 : Int32)), .unset] at_188 rfl ?_
    refine Own.aload at_190 rfl rfl ?_
    refine Own.arraylength_ (0 : Int32) V53 rfl at_192 ?_
    refine Own.iload at_193 rfl ?_
    refine Own.icmp_ne 276 at_195 (by decide) rfl (fun q => absurd (by decide) q) (fun _ => ?_)
    refine Own.iload at_198 rfl ?_
    refine Own.if_le 212 at_200 (by decide) rfl (fun _ => ?_) (fun q => absurd q (by decide))
    refine Own.iload at_212 rfl ?_
    refine Own.iconst (1 : Int32) at_214 rfl ?_
    refine Own.icmp_le 227 at_215 (by decide) rfl (fun _ => ?_) (fun q => absurd q (by decide))
    refine Own.iload at_227 rfl ?_
    refine Own.iconst (2 : Int32) at_229 rfl ?_
    refine Own.icmp_le 242 at_230 (by decide) rfl (fun _ => ?_) (fun q => absurd q (by decide))
    refine Own.iload at_242 rfl ?_
    refine Own.iconst (3 : Int32) at_244 rfl ?_
    refine Own.icmp_le 257 at_245 (by decide) rfl (fun _ => ?_) (fun q => absurd q (by decide))
    refine Own.iload at_257 rfl ?_
    refine Own.iconst (4 : Int32) at_259 rfl ?_
    refine Own.icmp_le 272 at_260 (by decide) rfl (fun _ => ?_) (fun q => absurd q (by decide))
    refine Own.iconst (1 : Int32) at_272 rfl ?_
    refine Own.goto_ 277 at_273 (by decide) rfl ?_
    refine Own.istore #[.val (.int p0), .val (.int p1), .val (.int p2), .val (.int p3), .val (.int p4), .val (.int p5), .val (.int (0 : Int32)), .val (.int (p1.toInt8.toInt32)), .val (.int (p2.toInt8.toInt32)), .val (.int (p3.toInt8.toInt32)), .val (.int (p4.toInt8.toInt32)), .val (.int (p5.toInt8.toInt32)), .val (.ref b53), .val (.ref b55), .val (.int (1 : Int32)), .val (.int (1 : Int32))] at_277 rfl ?_
    refine Own.iload at_279 rfl ?_
    refine Own.if_eq 293 at_281 (by decide) rfl (fun q => absurd q (by decide)) (fun _ => ?_)
    refine Own.iload at_284 rfl ?_
    refine Own.if_eq 293 at_286 (by decide) rfl (fun q => absurd q (by decide)) (fun _ => ?_)
    refine Own.iconst (1 : Int32) at_289 rfl ?_
    refine Own.goto_ 294 at_290 (by decide) rfl ?_
    refine Own.ret_nar (t := .boolean) (by simp) rfl at_294 (by decide) (by decide) ?_
    exact rfl
  · rw [e]
    refine Own.istore #[.val (.int p0), .val (.int p1), .val (.int p2), .val (.int p3), .val (.int p4), .val (.int p5), .val (.int (1 : Int32)), .unset, .unset, .unset, .unset, .unset, .unset, .unset, .unset, .unset] at_7 rfl ?_
    refine Own.iloadN at_9 rfl ?_
    refine Own.i2b at_10 ?_
    refine Own.istore #[.val (.int p0), .val (.int p1), .val (.int p2), .val (.int p3), .val (.int p4), .val (.int p5), .val (.int (1 : Int32)), .val (.int (p1.toInt8.toInt32)), .unset, .unset, .unset, .unset, .unset, .unset, .unset, .unset] at_11 rfl ?_
    refine Own.iloadN at_13 rfl ?_
    refine Own.i2b at_14 ?_
    refine Own.istore #[.val (.int p0), .val (.int p1), .val (.int p2), .val (.int p3), .val (.int p4), .val (.int p5), .val (.int (1 : Int32)), .val (.int (p1.toInt8.toInt32)), .val (.int (p2.toInt8.toInt32)), .unset, .unset, .unset, .unset, .unset, .unset, .unset] at_15 rfl ?_
    refine Own.iloadN at_17 rfl ?_
    refine Own.i2b at_18 ?_
    refine Own.istore #[.val (.int p0), .val (.int p1), .val (.int p2), .val (.int p3), .val (.int p4), .val (.int p5), .val (.int (1 : Int32)), .val (.int (p1.toInt8.toInt32)), .val (.int (p2.toInt8.toInt32)), .val (.int (p3.toInt8.toInt32)), .unset, .unset, .unset, .unset, .unset, .unset] at_19 rfl ?_
    refine Own.iload at_21 rfl ?_
    refine Own.i2b at_23 ?_
    refine Own.istore #[.val (.int p0), .val (.int p1), .val (.int p2), .val (.int p3), .val (.int p4), .val (.int p5), .val (.int (1 : Int32)), .val (.int (p1.toInt8.toInt32)), .val (.int (p2.toInt8.toInt32)), .val (.int (p3.toInt8.toInt32)), .val (.int (p4.toInt8.toInt32)), .unset, .unset, .unset, .unset, .unset] at_24 rfl ?_
    refine Own.iload at_26 rfl ?_
    refine Own.i2b at_28 ?_
    refine Own.istore #[.val (.int p0), .val (.int p1), .val (.int p2), .val (.int p3), .val (.int p4), .val (.int p5), .val (.int (1 : Int32)), .val (.int (p1.toInt8.toInt32)), .val (.int (p2.toInt8.toInt32)), .val (.int (p3.toInt8.toInt32)), .val (.int (p4.toInt8.toInt32)), .val (.int (p5.toInt8.toInt32)), .unset, .unset, .unset, .unset] at_29 rfl ?_
    refine Own.iload at_31 rfl ?_
    refine Own.iload at_33 rfl ?_
    refine Own.iload at_35 rfl ?_
    refine Own.iload at_37 rfl ?_
    refine Own.iload at_39 rfl ?_
    refine Own.iload at_41 rfl ?_
    refine Own.callS_ [(.int (1 : Int32)), (.int (p1.toInt8.toInt32)), (.int (p2.toInt8.toInt32)), (.int (p3.toInt8.toInt32)), (.int (p4.toInt8.toInt32)), (.int (p5.toInt8.toInt32))] [] 0 (rmM1 l Z a0 hw [] (p1.toInt8.toInt32) (p2.toInt8.toInt32) (p3.toInt8.toInt32) (p4.toInt8.toInt32) (p5.toInt8.toInt32) h0 n0 hn) (hw _ (List.mem_of_getElem? (i := 1) rfl)) (hw _ (List.mem_of_getElem? (i := 2) rfl)) (hw _ (List.mem_of_getElem? (i := 3) rfl)) (hw _ (List.mem_of_getElem? (i := 4) rfl)) (by decide) at_43 pd_0 rfl rfl rfl rfl (by decide) (by decide) (by decide) (by decide) (fun v56 h56 hq56 => ?_)
    obtain ⟨b57, k57, rfl, z57, K57, V57⟩ := hq56
    have g_b57 : n0 ≤ b57 := Nat.le_trans hn z57
    have hn := Nat.le_trans hn K57.1
    refine OAt.cast (st' := [(.ref b57)]) rfl ?_
    refine Own.astore #[.val (.int p0), .val (.int p1), .val (.int p2), .val (.int p3), .val (.int p4), .val (.int p5), .val (.int (1 : Int32)), .val (.int (p1.toInt8.toInt32)), .val (.int (p2.toInt8.toInt32)), .val (.int (p3.toInt8.toInt32)), .val (.int (p4.toInt8.toInt32)), .val (.int (p5.toInt8.toInt32)), .val (.ref b57), .unset, .unset, .unset] at_46 rfl rfl ?_
    refine Own.aload at_48 rfl rfl ?_
    refine Own.callS_ [(.ref b57)] [] 0 (rmF1 l Z a0 hw [] b57 k57 (nar .byte (p1.toInt8.toInt32)) h56 n0 hn V57) (hw _ (List.mem_of_getElem? (i := 6) rfl)) (hw _ (List.mem_of_getElem? (i := 7) rfl)) (hw _ (List.mem_of_getElem? (i := 8) rfl)) (hw _ (List.mem_of_getElem? (i := 9) rfl)) (by decide) at_50 pd_2 rfl rfl rfl rfl (by decide) (by decide) (by decide) (by decide) (fun v58 h58 hq58 => ?_)
    obtain ⟨b59, k59, rfl, z59, K59, V59⟩ := hq58
    have g_b59 : n0 ≤ b59 := Nat.le_trans hn z59
    have ne_b57_b59 : b57 ≠ b59 := Nat.ne_of_lt (Nat.lt_of_lt_of_le V57.lt z59)
    have ne_b59_b57 := Ne.symm ne_b57_b59
    have hn := Nat.le_trans hn K59.1
    replace V57 := V57.keep K59 nin0
    refine OAt.cast (st' := [(.ref b59)]) rfl ?_
    refine Own.astore #[.val (.int p0), .val (.int p1), .val (.int p2), .val (.int p3), .val (.int p4), .val (.int p5), .val (.int (1 : Int32)), .val (.int (p1.toInt8.toInt32)), .val (.int (p2.toInt8.toInt32)), .val (.int (p3.toInt8.toInt32)), .val (.int (p4.toInt8.toInt32)), .val (.int (p5.toInt8.toInt32)), .val (.ref b57), .val (.ref b59), .unset, .unset] at_53 rfl rfl ?_
    refine Own.aload at_55 rfl rfl ?_
    refine Own.ifnullNo at_57 ?_
    refine Own.aload at_60 rfl rfl ?_
    refine Own.arraylength_ (4 : Int32) V59 rfl at_62 ?_
    refine Own.iload at_63 rfl ?_
    refine Own.iconst (3 : Int32) at_65 rfl ?_
    refine Own.iadd at_66 ?_
    refine OAt.cast (st' := [(.int (4 : Int32)), (.int (4 : Int32))]) rfl ?_
    refine Own.icmp_eq 72 at_67 (by decide) rfl (fun _ => ?_) (fun q => absurd (by decide) q)
    refine Own.aload at_72 rfl rfl ?_
    refine Own.iconst (0 : Int32) at_74 rfl ?_
    refine Own.baload_ V59 (i := 0) rfl rfl at_75 ?_
    refine Own.bipush (11 : Int32) at_76 rfl ?_
    refine Own.icmp_eq 83 at_78 (by decide) rfl (fun _ => ?_) (fun q => absurd rfl q)
    refine Own.aload at_83 rfl rfl ?_
    refine Own.iload at_85 rfl ?_
    refine Own.iconst (1 : Int32) at_87 rfl ?_
    refine Own.iadd at_88 ?_
    refine OAt.cast (st' := [(.int (2 : Int32)), (.ref b59)]) rfl ?_
    refine Own.baload_ V59 (i := 2) rfl rfl at_89 ?_
    refine Own.bipush (28 : Int32) at_90 rfl ?_
    refine Own.icmp_ne 107 at_92 (by decide) rfl (fun q => absurd rfl q) (fun _ => ?_)
    refine Own.aload at_95 rfl rfl ?_
    refine Own.iload at_97 rfl ?_
    refine Own.iconst (2 : Int32) at_99 rfl ?_
    refine Own.iadd at_100 ?_
    refine OAt.cast (st' := [(.int (3 : Int32)), (.ref b59)]) rfl ?_
    refine Own.baload_ V59 (i := 3) rfl rfl at_101 ?_
    refine Own.bipush (13 : Int32) at_102 rfl ?_
    refine Own.icmp_eq 109 at_104 (by decide) rfl (fun _ => ?_) (fun q => absurd rfl q)
    refine Own.iload at_109 rfl ?_
    refine Own.if_le 123 at_111 (by decide) rfl (fun q => absurd (by decide) q) (fun _ => ?_)
    refine Own.aload at_114 rfl rfl ?_
    refine Own.iconst (1 : Int32) at_116 rfl ?_
    refine Own.baload_ V59 (i := 1) rfl rfl at_117 ?_
    refine Own.iload at_118 rfl ?_
    refine Own.icmp_ne 187 at_120 (by decide) rfl (fun q => absurd (own_b _) q) (fun _ => ?_)
    refine Own.iload at_123 rfl ?_
    refine Own.iconst (1 : Int32) at_125 rfl ?_
    refine Own.icmp_le 138 at_126 (by decide) rfl (fun _ => ?_) (fun q => absurd q (by decide))
    refine Own.iload at_138 rfl ?_
    refine Own.iconst (2 : Int32) at_140 rfl ?_
    refine Own.icmp_le 153 at_141 (by decide) rfl (fun _ => ?_) (fun q => absurd q (by decide))
    refine Own.iload at_153 rfl ?_
    refine Own.iconst (3 : Int32) at_155 rfl ?_
    refine Own.icmp_le 168 at_156 (by decide) rfl (fun _ => ?_) (fun q => absurd q (by decide))
    refine Own.iload at_168 rfl ?_
    refine Own.iconst (4 : Int32) at_170 rfl ?_
    refine Own.icmp_le 183 at_171 (by decide) rfl (fun _ => ?_) (fun q => absurd q (by decide))
    refine Own.iconst (1 : Int32) at_183 rfl ?_
    refine Own.goto_ 188 at_184 (by decide) rfl ?_
    refine Own.istore #[.val (.int p0), .val (.int p1), .val (.int p2), .val (.int p3), .val (.int p4), .val (.int p5), .val (.int (1 : Int32)), .val (.int (p1.toInt8.toInt32)), .val (.int (p2.toInt8.toInt32)), .val (.int (p3.toInt8.toInt32)), .val (.int (p4.toInt8.toInt32)), .val (.int (p5.toInt8.toInt32)), .val (.ref b57), .val (.ref b59), .val (.int (1 : Int32)), .unset] at_188 rfl ?_
    refine Own.aload at_190 rfl rfl ?_
    refine Own.arraylength_ (1 : Int32) V57 rfl at_192 ?_
    refine Own.iload at_193 rfl ?_
    refine Own.icmp_ne 276 at_195 (by decide) rfl (fun q => absurd (by decide) q) (fun _ => ?_)
    refine Own.iload at_198 rfl ?_
    refine Own.if_le 212 at_200 (by decide) rfl (fun q => absurd (by decide) q) (fun _ => ?_)
    refine Own.aload at_203 rfl rfl ?_
    refine Own.iconst (0 : Int32) at_205 rfl ?_
    refine Own.baload_ V57 (i := 0) rfl rfl at_206 ?_
    refine Own.iload at_207 rfl ?_
    refine Own.icmp_ne 276 at_209 (by decide) rfl (fun q => absurd (own_b _) q) (fun _ => ?_)
    refine Own.iload at_212 rfl ?_
    refine Own.iconst (1 : Int32) at_214 rfl ?_
    refine Own.icmp_le 227 at_215 (by decide) rfl (fun _ => ?_) (fun q => absurd q (by decide))
    refine Own.iload at_227 rfl ?_
    refine Own.iconst (2 : Int32) at_229 rfl ?_
    refine Own.icmp_le 242 at_230 (by decide) rfl (fun _ => ?_) (fun q => absurd q (by decide))
    refine Own.iload at_242 rfl ?_
    refine Own.iconst (3 : Int32) at_244 rfl ?_
    refine Own.icmp_le 257 at_245 (by decide) rfl (fun _ => ?_) (fun q => absurd q (by decide))
    refine Own.iload at_257 rfl ?_
    refine Own.iconst (4 : Int32) at_259 rfl ?_
    refine Own.icmp_le 272 at_260 (by decide) rfl (fun _ => ?_) (fun q => absurd q (by decide))
    refine Own.iconst (1 : Int32) at_272 rfl ?_
    refine Own.goto_ 277 at_273 (by decide) rfl ?_
    refine Own.istore #[.val (.int p0), .val (.int p1), .val (.int p2), .val (.int p3), .val (.int p4), .val (.int p5), .val (.int (1 : Int32)), .val (.int (p1.toInt8.toInt32)), .val (.int (p2.toInt8.toInt32)), .val (.int (p3.toInt8.toInt32)), .val (.int (p4.toInt8.toInt32)), .val (.int (p5.toInt8.toInt32)), .val (.ref b57), .val (.ref b59), .val (.int (1 : Int32)), .val (.int (1 : Int32))] at_277 rfl ?_
    refine Own.iload at_279 rfl ?_
    refine Own.if_eq 293 at_281 (by decide) rfl (fun q => absurd q (by decide)) (fun _ => ?_)
    refine Own.iload at_284 rfl ?_
    refine Own.if_eq 293 at_286 (by decide) rfl (fun q => absurd q (by decide)) (fun _ => ?_)
    refine Own.iconst (1 : Int32) at_289 rfl ?_
    refine Own.goto_ 294 at_290 (by decide) rfl ?_
    refine Own.ret_nar (t := .boolean) (by simp) rfl at_294 (by decide) (by decide) ?_
    exact rfl
  · rw [e]
    refine Own.istore #[.val (.int p0), .val (.int p1), .val (.int p2), .val (.int p3), .val (.int p4), .val (.int p5), .val (.int (2 : Int32)), .unset, .unset, .unset, .unset, .unset, .unset, .unset, .unset, .unset] at_7 rfl ?_
    refine Own.iloadN at_9 rfl ?_
    refine Own.i2b at_10 ?_
    refine Own.istore #[.val (.int p0), .val (.int p1), .val (.int p2), .val (.int p3), .val (.int p4), .val (.int p5), .val (.int (2 : Int32)), .val (.int (p1.toInt8.toInt32)), .unset, .unset, .unset, .unset, .unset, .unset, .unset, .unset] at_11 rfl ?_
    refine Own.iloadN at_13 rfl ?_
    refine Own.i2b at_14 ?_
    refine Own.istore #[.val (.int p0), .val (.int p1), .val (.int p2), .val (.int p3), .val (.int p4), .val (.int p5), .val (.int (2 : Int32)), .val (.int (p1.toInt8.toInt32)), .val (.int (p2.toInt8.toInt32)), .unset, .unset, .unset, .unset, .unset, .unset, .unset] at_15 rfl ?_
    refine Own.iloadN at_17 rfl ?_
    refine Own.i2b at_18 ?_
    refine Own.istore #[.val (.int p0), .val (.int p1), .val (.int p2), .val (.int p3), .val (.int p4), .val (.int p5), .val (.int (2 : Int32)), .val (.int (p1.toInt8.toInt32)), .val (.int (p2.toInt8.toInt32)), .val (.int (p3.toInt8.toInt32)), .unset, .unset, .unset, .unset, .unset, .unset] at_19 rfl ?_
    refine Own.iload at_21 rfl ?_
    refine Own.i2b at_23 ?_
    refine Own.istore #[.val (.int p0), .val (.int p1), .val (.int p2), .val (.int p3), .val (.int p4), .val (.int p5), .val (.int (2 : Int32)), .val (.int (p1.toInt8.toInt32)), .val (.int (p2.toInt8.toInt32)), .val (.int (p3.toInt8.toInt32)), .val (.int (p4.toInt8.toInt32)), .unset, .unset, .unset, .unset, .unset] at_24 rfl ?_
    refine Own.iload at_26 rfl ?_
    refine Own.i2b at_28 ?_
    refine Own.istore #[.val (.int p0), .val (.int p1), .val (.int p2), .val (.int p3), .val (.int p4), .val (.int p5), .val (.int (2 : Int32)), .val (.int (p1.toInt8.toInt32)), .val (.int (p2.toInt8.toInt32)), .val (.int (p3.toInt8.toInt32)), .val (.int (p4.toInt8.toInt32)), .val (.int (p5.toInt8.toInt32)), .unset, .unset, .unset, .unset] at_29 rfl ?_
    refine Own.iload at_31 rfl ?_
    refine Own.iload at_33 rfl ?_
    refine Own.iload at_35 rfl ?_
    refine Own.iload at_37 rfl ?_
    refine Own.iload at_39 rfl ?_
    refine Own.iload at_41 rfl ?_
    refine Own.callS_ [(.int (2 : Int32)), (.int (p1.toInt8.toInt32)), (.int (p2.toInt8.toInt32)), (.int (p3.toInt8.toInt32)), (.int (p4.toInt8.toInt32)), (.int (p5.toInt8.toInt32))] [] 0 (rmM2 l Z a0 hw [] (p1.toInt8.toInt32) (p2.toInt8.toInt32) (p3.toInt8.toInt32) (p4.toInt8.toInt32) (p5.toInt8.toInt32) h0 n0 hn) (hw _ (List.mem_of_getElem? (i := 1) rfl)) (hw _ (List.mem_of_getElem? (i := 2) rfl)) (hw _ (List.mem_of_getElem? (i := 3) rfl)) (hw _ (List.mem_of_getElem? (i := 4) rfl)) (by decide) at_43 pd_0 rfl rfl rfl rfl (by decide) (by decide) (by decide) (by decide) (fun v60 h60 hq60 => ?_)
    obtain ⟨b61, k61, rfl, z61, K61, V61⟩ := hq60
    have g_b61 : n0 ≤ b61 := Nat.le_trans hn z61
    have hn := Nat.le_trans hn K61.1
    refine OAt.cast (st' := [(.ref b61)]) rfl ?_
    refine Own.astore #[.val (.int p0), .val (.int p1), .val (.int p2), .val (.int p3), .val (.int p4), .val (.int p5), .val (.int (2 : Int32)), .val (.int (p1.toInt8.toInt32)), .val (.int (p2.toInt8.toInt32)), .val (.int (p3.toInt8.toInt32)), .val (.int (p4.toInt8.toInt32)), .val (.int (p5.toInt8.toInt32)), .val (.ref b61), .unset, .unset, .unset] at_46 rfl rfl ?_
    refine Own.aload at_48 rfl rfl ?_
    refine Own.callS_ [(.ref b61)] [] 0 (rmF2 l Z a0 hw [] b61 k61 (nar .byte (p1.toInt8.toInt32)) (nar .byte (p2.toInt8.toInt32)) h60 n0 hn V61) (hw _ (List.mem_of_getElem? (i := 6) rfl)) (hw _ (List.mem_of_getElem? (i := 7) rfl)) (hw _ (List.mem_of_getElem? (i := 8) rfl)) (hw _ (List.mem_of_getElem? (i := 9) rfl)) (by decide) at_50 pd_2 rfl rfl rfl rfl (by decide) (by decide) (by decide) (by decide) (fun v62 h62 hq62 => ?_)
    obtain ⟨b63, k63, rfl, z63, K63, V63⟩ := hq62
    have g_b63 : n0 ≤ b63 := Nat.le_trans hn z63
    have ne_b61_b63 : b61 ≠ b63 := Nat.ne_of_lt (Nat.lt_of_lt_of_le V61.lt z63)
    have ne_b63_b61 := Ne.symm ne_b61_b63
    have hn := Nat.le_trans hn K63.1
    replace V61 := V61.keep K63 nin0
    refine OAt.cast (st' := [(.ref b63)]) rfl ?_
    refine Own.astore #[.val (.int p0), .val (.int p1), .val (.int p2), .val (.int p3), .val (.int p4), .val (.int p5), .val (.int (2 : Int32)), .val (.int (p1.toInt8.toInt32)), .val (.int (p2.toInt8.toInt32)), .val (.int (p3.toInt8.toInt32)), .val (.int (p4.toInt8.toInt32)), .val (.int (p5.toInt8.toInt32)), .val (.ref b61), .val (.ref b63), .unset, .unset] at_53 rfl rfl ?_
    refine Own.aload at_55 rfl rfl ?_
    refine Own.ifnullNo at_57 ?_
    refine Own.aload at_60 rfl rfl ?_
    refine Own.arraylength_ (5 : Int32) V63 rfl at_62 ?_
    refine Own.iload at_63 rfl ?_
    refine Own.iconst (3 : Int32) at_65 rfl ?_
    refine Own.iadd at_66 ?_
    refine OAt.cast (st' := [(.int (5 : Int32)), (.int (5 : Int32))]) rfl ?_
    refine Own.icmp_eq 72 at_67 (by decide) rfl (fun _ => ?_) (fun q => absurd (by decide) q)
    refine Own.aload at_72 rfl rfl ?_
    refine Own.iconst (0 : Int32) at_74 rfl ?_
    refine Own.baload_ V63 (i := 0) rfl rfl at_75 ?_
    refine Own.bipush (11 : Int32) at_76 rfl ?_
    refine Own.icmp_eq 83 at_78 (by decide) rfl (fun _ => ?_) (fun q => absurd rfl q)
    refine Own.aload at_83 rfl rfl ?_
    refine Own.iload at_85 rfl ?_
    refine Own.iconst (1 : Int32) at_87 rfl ?_
    refine Own.iadd at_88 ?_
    refine OAt.cast (st' := [(.int (3 : Int32)), (.ref b63)]) rfl ?_
    refine Own.baload_ V63 (i := 3) rfl rfl at_89 ?_
    refine Own.bipush (28 : Int32) at_90 rfl ?_
    refine Own.icmp_ne 107 at_92 (by decide) rfl (fun q => absurd rfl q) (fun _ => ?_)
    refine Own.aload at_95 rfl rfl ?_
    refine Own.iload at_97 rfl ?_
    refine Own.iconst (2 : Int32) at_99 rfl ?_
    refine Own.iadd at_100 ?_
    refine OAt.cast (st' := [(.int (4 : Int32)), (.ref b63)]) rfl ?_
    refine Own.baload_ V63 (i := 4) rfl rfl at_101 ?_
    refine Own.bipush (13 : Int32) at_102 rfl ?_
    refine Own.icmp_eq 109 at_104 (by decide) rfl (fun _ => ?_) (fun q => absurd rfl q)
    refine Own.iload at_109 rfl ?_
    refine Own.if_le 123 at_111 (by decide) rfl (fun q => absurd (by decide) q) (fun _ => ?_)
    refine Own.aload at_114 rfl rfl ?_
    refine Own.iconst (1 : Int32) at_116 rfl ?_
    refine Own.baload_ V63 (i := 1) rfl rfl at_117 ?_
    refine Own.iload at_118 rfl ?_
    refine Own.icmp_ne 187 at_120 (by decide) rfl (fun q => absurd (own_b _) q) (fun _ => ?_)
    refine Own.iload at_123 rfl ?_
    refine Own.iconst (1 : Int32) at_125 rfl ?_
    refine Own.icmp_le 138 at_126 (by decide) rfl (fun q => absurd (by decide) q) (fun _ => ?_)
    refine Own.aload at_129 rfl rfl ?_
    refine Own.iconst (2 : Int32) at_131 rfl ?_
    refine Own.baload_ V63 (i := 2) rfl rfl at_132 ?_
    refine Own.iload at_133 rfl ?_
    refine Own.icmp_ne 187 at_135 (by decide) rfl (fun q => absurd (own_b _) q) (fun _ => ?_)
    refine Own.iload at_138 rfl ?_
    refine Own.iconst (2 : Int32) at_140 rfl ?_
    refine Own.icmp_le 153 at_141 (by decide) rfl (fun _ => ?_) (fun q => absurd q (by decide))
    refine Own.iload at_153 rfl ?_
    refine Own.iconst (3 : Int32) at_155 rfl ?_
    refine Own.icmp_le 168 at_156 (by decide) rfl (fun _ => ?_) (fun q => absurd q (by decide))
    refine Own.iload at_168 rfl ?_
    refine Own.iconst (4 : Int32) at_170 rfl ?_
    refine Own.icmp_le 183 at_171 (by decide) rfl (fun _ => ?_) (fun q => absurd q (by decide))
    refine Own.iconst (1 : Int32) at_183 rfl ?_
    refine Own.goto_ 188 at_184 (by decide) rfl ?_
    refine Own.istore #[.val (.int p0), .val (.int p1), .val (.int p2), .val (.int p3), .val (.int p4), .val (.int p5), .val (.int (2 : Int32)), .val (.int (p1.toInt8.toInt32)), .val (.int (p2.toInt8.toInt32)), .val (.int (p3.toInt8.toInt32)), .val (.int (p4.toInt8.toInt32)), .val (.int (p5.toInt8.toInt32)), .val (.ref b61), .val (.ref b63), .val (.int (1 : Int32)), .unset] at_188 rfl ?_
    refine Own.aload at_190 rfl rfl ?_
    refine Own.arraylength_ (2 : Int32) V61 rfl at_192 ?_
    refine Own.iload at_193 rfl ?_
    refine Own.icmp_ne 276 at_195 (by decide) rfl (fun q => absurd (by decide) q) (fun _ => ?_)
    refine Own.iload at_198 rfl ?_
    refine Own.if_le 212 at_200 (by decide) rfl (fun q => absurd (by decide) q) (fun _ => ?_)
    refine Own.aload at_203 rfl rfl ?_
    refine Own.iconst (0 : Int32) at_205 rfl ?_
    refine Own.baload_ V61 (i := 0) rfl rfl at_206 ?_
    refine Own.iload at_207 rfl ?_
    refine Own.icmp_ne 276 at_209 (by decide) rfl (fun q => absurd (own_b _) q) (fun _ => ?_)
    refine Own.iload at_212 rfl ?_
    refine Own.iconst (1 : Int32) at_214 rfl ?_
    refine Own.icmp_le 227 at_215 (by decide) rfl (fun q => absurd (by decide) q) (fun _ => ?_)
    refine Own.aload at_218 rfl rfl ?_
    refine Own.iconst (1 : Int32) at_220 rfl ?_
    refine Own.baload_ V61 (i := 1) rfl rfl at_221 ?_
    refine Own.iload at_222 rfl ?_
    refine Own.icmp_ne 276 at_224 (by decide) rfl (fun q => absurd (own_b _) q) (fun _ => ?_)
    refine Own.iload at_227 rfl ?_
    refine Own.iconst (2 : Int32) at_229 rfl ?_
    refine Own.icmp_le 242 at_230 (by decide) rfl (fun _ => ?_) (fun q => absurd q (by decide))
    refine Own.iload at_242 rfl ?_
    refine Own.iconst (3 : Int32) at_244 rfl ?_
    refine Own.icmp_le 257 at_245 (by decide) rfl (fun _ => ?_) (fun q => absurd q (by decide))
    refine Own.iload at_257 rfl ?_
    refine Own.iconst (4 : Int32) at_259 rfl ?_
    refine Own.icmp_le 272 at_260 (by decide) rfl (fun _ => ?_) (fun q => absurd q (by decide))
    refine Own.iconst (1 : Int32) at_272 rfl ?_
    refine Own.goto_ 277 at_273 (by decide) rfl ?_
    refine Own.istore #[.val (.int p0), .val (.int p1), .val (.int p2), .val (.int p3), .val (.int p4), .val (.int p5), .val (.int (2 : Int32)), .val (.int (p1.toInt8.toInt32)), .val (.int (p2.toInt8.toInt32)), .val (.int (p3.toInt8.toInt32)), .val (.int (p4.toInt8.toInt32)), .val (.int (p5.toInt8.toInt32)), .val (.ref b61), .val (.ref b63), .val (.int (1 : Int32)), .val (.int (1 : Int32))] at_277 rfl ?_
    refine Own.iload at_279 rfl ?_
    refine Own.if_eq 293 at_281 (by decide) rfl (fun q => absurd q (by decide)) (fun _ => ?_)
    refine Own.iload at_284 rfl ?_
    refine Own.if_eq 293 at_286 (by decide) rfl (fun q => absurd q (by decide)) (fun _ => ?_)
    refine Own.iconst (1 : Int32) at_289 rfl ?_
    refine Own.goto_ 294 at_290 (by decide) rfl ?_
    refine Own.ret_nar (t := .boolean) (by simp) rfl at_294 (by decide) (by decide) ?_
    exact rfl
  · rw [e]
    refine Own.istore #[.val (.int p0), .val (.int p1), .val (.int p2), .val (.int p3), .val (.int p4), .val (.int p5), .val (.int (3 : Int32)), .unset, .unset, .unset, .unset, .unset, .unset, .unset, .unset, .unset] at_7 rfl ?_
    refine Own.iloadN at_9 rfl ?_
    refine Own.i2b at_10 ?_
    refine Own.istore #[.val (.int p0), .val (.int p1), .val (.int p2), .val (.int p3), .val (.int p4), .val (.int p5), .val (.int (3 : Int32)), .val (.int (p1.toInt8.toInt32)), .unset, .unset, .unset, .unset, .unset, .unset, .unset, .unset] at_11 rfl ?_
    refine Own.iloadN at_13 rfl ?_
    refine Own.i2b at_14 ?_
    refine Own.istore #[.val (.int p0), .val (.int p1), .val (.int p2), .val (.int p3), .val (.int p4), .val (.int p5), .val (.int (3 : Int32)), .val (.int (p1.toInt8.toInt32)), .val (.int (p2.toInt8.toInt32)), .unset, .unset, .unset, .unset, .unset, .unset, .unset] at_15 rfl ?_
    refine Own.iloadN at_17 rfl ?_
    refine Own.i2b at_18 ?_
    refine Own.istore #[.val (.int p0), .val (.int p1), .val (.int p2), .val (.int p3), .val (.int p4), .val (.int p5), .val (.int (3 : Int32)), .val (.int (p1.toInt8.toInt32)), .val (.int (p2.toInt8.toInt32)), .val (.int (p3.toInt8.toInt32)), .unset, .unset, .unset, .unset, .unset, .unset] at_19 rfl ?_
    refine Own.iload at_21 rfl ?_
    refine Own.i2b at_23 ?_
    refine Own.istore #[.val (.int p0), .val (.int p1), .val (.int p2), .val (.int p3), .val (.int p4), .val (.int p5), .val (.int (3 : Int32)), .val (.int (p1.toInt8.toInt32)), .val (.int (p2.toInt8.toInt32)), .val (.int (p3.toInt8.toInt32)), .val (.int (p4.toInt8.toInt32)), .unset, .unset, .unset, .unset, .unset] at_24 rfl ?_
    refine Own.iload at_26 rfl ?_
    refine Own.i2b at_28 ?_
    refine Own.istore #[.val (.int p0), .val (.int p1), .val (.int p2), .val (.int p3), .val (.int p4), .val (.int p5), .val (.int (3 : Int32)), .val (.int (p1.toInt8.toInt32)), .val (.int (p2.toInt8.toInt32)), .val (.int (p3.toInt8.toInt32)), .val (.int (p4.toInt8.toInt32)), .val (.int (p5.toInt8.toInt32)), .unset, .unset, .unset, .unset] at_29 rfl ?_
    refine Own.iload at_31 rfl ?_
    refine Own.iload at_33 rfl ?_
    refine Own.iload at_35 rfl ?_
    refine Own.iload at_37 rfl ?_
    refine Own.iload at_39 rfl ?_
    refine Own.iload at_41 rfl ?_
    refine Own.callS_ [(.int (3 : Int32)), (.int (p1.toInt8.toInt32)), (.int (p2.toInt8.toInt32)), (.int (p3.toInt8.toInt32)), (.int (p4.toInt8.toInt32)), (.int (p5.toInt8.toInt32))] [] 0 (rmM3 l Z a0 hw [] (p1.toInt8.toInt32) (p2.toInt8.toInt32) (p3.toInt8.toInt32) (p4.toInt8.toInt32) (p5.toInt8.toInt32) h0 n0 hn) (hw _ (List.mem_of_getElem? (i := 1) rfl)) (hw _ (List.mem_of_getElem? (i := 2) rfl)) (hw _ (List.mem_of_getElem? (i := 3) rfl)) (hw _ (List.mem_of_getElem? (i := 4) rfl)) (by decide) at_43 pd_0 rfl rfl rfl rfl (by decide) (by decide) (by decide) (by decide) (fun v64 h64 hq64 => ?_)
    obtain ⟨b65, k65, rfl, z65, K65, V65⟩ := hq64
    have g_b65 : n0 ≤ b65 := Nat.le_trans hn z65
    have hn := Nat.le_trans hn K65.1
    refine OAt.cast (st' := [(.ref b65)]) rfl ?_
    refine Own.astore #[.val (.int p0), .val (.int p1), .val (.int p2), .val (.int p3), .val (.int p4), .val (.int p5), .val (.int (3 : Int32)), .val (.int (p1.toInt8.toInt32)), .val (.int (p2.toInt8.toInt32)), .val (.int (p3.toInt8.toInt32)), .val (.int (p4.toInt8.toInt32)), .val (.int (p5.toInt8.toInt32)), .val (.ref b65), .unset, .unset, .unset] at_46 rfl rfl ?_
    refine Own.aload at_48 rfl rfl ?_
    refine Own.callS_ [(.ref b65)] [] 0 (rmF3 l Z a0 hw [] b65 k65 (nar .byte (p1.toInt8.toInt32)) (nar .byte (p2.toInt8.toInt32)) (nar .byte (p3.toInt8.toInt32)) h64 n0 hn V65) (hw _ (List.mem_of_getElem? (i := 6) rfl)) (hw _ (List.mem_of_getElem? (i := 7) rfl)) (hw _ (List.mem_of_getElem? (i := 8) rfl)) (hw _ (List.mem_of_getElem? (i := 9) rfl)) (by decide) at_50 pd_2 rfl rfl rfl rfl (by decide) (by decide) (by decide) (by decide) (fun v66 h66 hq66 => ?_)
    obtain ⟨b67, k67, rfl, z67, K67, V67⟩ := hq66
    have g_b67 : n0 ≤ b67 := Nat.le_trans hn z67
    have ne_b65_b67 : b65 ≠ b67 := Nat.ne_of_lt (Nat.lt_of_lt_of_le V65.lt z67)
    have ne_b67_b65 := Ne.symm ne_b65_b67
    have hn := Nat.le_trans hn K67.1
    replace V65 := V65.keep K67 nin0
    refine OAt.cast (st' := [(.ref b67)]) rfl ?_
    refine Own.astore #[.val (.int p0), .val (.int p1), .val (.int p2), .val (.int p3), .val (.int p4), .val (.int p5), .val (.int (3 : Int32)), .val (.int (p1.toInt8.toInt32)), .val (.int (p2.toInt8.toInt32)), .val (.int (p3.toInt8.toInt32)), .val (.int (p4.toInt8.toInt32)), .val (.int (p5.toInt8.toInt32)), .val (.ref b65), .val (.ref b67), .unset, .unset] at_53 rfl rfl ?_
    refine Own.aload at_55 rfl rfl ?_
    refine Own.ifnullNo at_57 ?_
    refine Own.aload at_60 rfl rfl ?_
    refine Own.arraylength_ (6 : Int32) V67 rfl at_62 ?_
    refine Own.iload at_63 rfl ?_
    refine Own.iconst (3 : Int32) at_65 rfl ?_
    refine Own.iadd at_66 ?_
    refine OAt.cast (st' := [(.int (6 : Int32)), (.int (6 : Int32))]) rfl ?_
    refine Own.icmp_eq 72 at_67 (by decide) rfl (fun _ => ?_) (fun q => absurd (by decide) q)
    refine Own.aload at_72 rfl rfl ?_
    refine Own.iconst (0 : Int32) at_74 rfl ?_
    refine Own.baload_ V67 (i := 0) rfl rfl at_75 ?_
    refine Own.bipush (11 : Int32) at_76 rfl ?_
    refine Own.icmp_eq 83 at_78 (by decide) rfl (fun _ => ?_) (fun q => absurd rfl q)
    refine Own.aload at_83 rfl rfl ?_
    refine Own.iload at_85 rfl ?_
    refine Own.iconst (1 : Int32) at_87 rfl ?_
    refine Own.iadd at_88 ?_
    refine OAt.cast (st' := [(.int (4 : Int32)), (.ref b67)]) rfl ?_
    refine Own.baload_ V67 (i := 4) rfl rfl at_89 ?_
    refine Own.bipush (28 : Int32) at_90 rfl ?_
    refine Own.icmp_ne 107 at_92 (by decide) rfl (fun q => absurd rfl q) (fun _ => ?_)
    refine Own.aload at_95 rfl rfl ?_
    refine Own.iload at_97 rfl ?_
    refine Own.iconst (2 : Int32) at_99 rfl ?_
    refine Own.iadd at_100 ?_
    refine OAt.cast (st' := [(.int (5 : Int32)), (.ref b67)]) rfl ?_
    refine Own.baload_ V67 (i := 5) rfl rfl at_101 ?_
    refine Own.bipush (13 : Int32) at_102 rfl ?_
    refine Own.icmp_eq 109 at_104 (by decide) rfl (fun _ => ?_) (fun q => absurd rfl q)
    refine Own.iload at_109 rfl ?_
    refine Own.if_le 123 at_111 (by decide) rfl (fun q => absurd (by decide) q) (fun _ => ?_)
    refine Own.aload at_114 rfl rfl ?_
    refine Own.iconst (1 : Int32) at_116 rfl ?_
    refine Own.baload_ V67 (i := 1) rfl rfl at_117 ?_
    refine Own.iload at_118 rfl ?_
    refine Own.icmp_ne 187 at_120 (by decide) rfl (fun q => absurd (own_b _) q) (fun _ => ?_)
    refine Own.iload at_123 rfl ?_
    refine Own.iconst (1 : Int32) at_125 rfl ?_
    refine Own.icmp_le 138 at_126 (by decide) rfl (fun q => absurd (by decide) q) (fun _ => ?_)
    refine Own.aload at_129 rfl rfl ?_
    refine Own.iconst (2 : Int32) at_131 rfl ?_
    refine Own.baload_ V67 (i := 2) rfl rfl at_132 ?_
    refine Own.iload at_133 rfl ?_
    refine Own.icmp_ne 187 at_135 (by decide) rfl (fun q => absurd (own_b _) q) (fun _ => ?_)
    refine Own.iload at_138 rfl ?_
    refine Own.iconst (2 : Int32) at_140 rfl ?_
    refine Own.icmp_le 153 at_141 (by decide) rfl (fun q => absurd (by decide) q) (fun _ => ?_)
    refine Own.aload at_144 rfl rfl ?_
    refine Own.iconst (3 : Int32) at_146 rfl ?_
    refine Own.baload_ V67 (i := 3) rfl rfl at_147 ?_
    refine Own.iload at_148 rfl ?_
    refine Own.icmp_ne 187 at_150 (by decide) rfl (fun q => absurd (own_b _) q) (fun _ => ?_)
    refine Own.iload at_153 rfl ?_
    refine Own.iconst (3 : Int32) at_155 rfl ?_
    refine Own.icmp_le 168 at_156 (by decide) rfl (fun _ => ?_) (fun q => absurd q (by decide))
    refine Own.iload at_168 rfl ?_
    refine Own.iconst (4 : Int32) at_170 rfl ?_
    refine Own.icmp_le 183 at_171 (by decide) rfl (fun _ => ?_) (fun q => absurd q (by decide))
    refine Own.iconst (1 : Int32) at_183 rfl ?_
    refine Own.goto_ 188 at_184 (by decide) rfl ?_
    refine Own.istore #[.val (.int p0), .val (.int p1), .val (.int p2), .val (.int p3), .val (.int p4), .val (.int p5), .val (.int (3 : Int32)), .val (.int (p1.toInt8.toInt32)), .val (.int (p2.toInt8.toInt32)), .val (.int (p3.toInt8.toInt32)), .val (.int (p4.toInt8.toInt32)), .val (.int (p5.toInt8.toInt32)), .val (.ref b65), .val (.ref b67), .val (.int (1 : Int32)), .unset] at_188 rfl ?_
    refine Own.aload at_190 rfl rfl ?_
    refine Own.arraylength_ (3 : Int32) V65 rfl at_192 ?_
    refine Own.iload at_193 rfl ?_
    refine Own.icmp_ne 276 at_195 (by decide) rfl (fun q => absurd (by decide) q) (fun _ => ?_)
    refine Own.iload at_198 rfl ?_
    refine Own.if_le 212 at_200 (by decide) rfl (fun q => absurd (by decide) q) (fun _ => ?_)
    refine Own.aload at_203 rfl rfl ?_
    refine Own.iconst (0 : Int32) at_205 rfl ?_
    refine Own.baload_ V65 (i := 0) rfl rfl at_206 ?_
    refine Own.iload at_207 rfl ?_
    refine Own.icmp_ne 276 at_209 (by decide) rfl (fun q => absurd (own_b _) q) (fun _ => ?_)
    refine Own.iload at_212 rfl ?_
    refine Own.iconst (1 : Int32) at_214 rfl ?_
    refine Own.icmp_le 227 at_215 (by decide) rfl (fun q => absurd (by decide) q) (fun _ => ?_)
    refine Own.aload at_218 rfl rfl ?_
    refine Own.iconst (1 : Int32) at_220 rfl ?_
    refine Own.baload_ V65 (i := 1) rfl rfl at_221 ?_
    refine Own.iload at_222 rfl ?_
    refine Own.icmp_ne 276 at_224 (by decide) rfl (fun q => absurd (own_b _) q) (fun _ => ?_)
    refine Own.iload at_227 rfl ?_
    refine Own.iconst (2 : Int32) at_229 rfl ?_
    refine Own.icmp_le 242 at_230 (by decide) rfl (fun q => absurd (by decide) q) (fun _ => ?_)
    refine Own.aload at_233 rfl rfl ?_
    refine Own.iconst (2 : Int32) at_235 rfl ?_
    refine Own.baload_ V65 (i := 2) rfl rfl at_236 ?_
    refine Own.iload at_237 rfl ?_
    refine Own.icmp_ne 276 at_239 (by decide) rfl (fun q => absurd (own_b _) q) (fun _ => ?_)
    refine Own.iload at_242 rfl ?_
    refine Own.iconst (3 : Int32) at_244 rfl ?_
    refine Own.icmp_le 257 at_245 (by decide) rfl (fun _ => ?_) (fun q => absurd q (by decide))
    refine Own.iload at_257 rfl ?_
    refine Own.iconst (4 : Int32) at_259 rfl ?_
    refine Own.icmp_le 272 at_260 (by decide) rfl (fun _ => ?_) (fun q => absurd q (by decide))
    refine Own.iconst (1 : Int32) at_272 rfl ?_
    refine Own.goto_ 277 at_273 (by decide) rfl ?_
    refine Own.istore #[.val (.int p0), .val (.int p1), .val (.int p2), .val (.int p3), .val (.int p4), .val (.int p5), .val (.int (3 : Int32)), .val (.int (p1.toInt8.toInt32)), .val (.int (p2.toInt8.toInt32)), .val (.int (p3.toInt8.toInt32)), .val (.int (p4.toInt8.toInt32)), .val (.int (p5.toInt8.toInt32)), .val (.ref b65), .val (.ref b67), .val (.int (1 : Int32)), .val (.int (1 : Int32))] at_277 rfl ?_
    refine Own.iload at_279 rfl ?_
    refine Own.if_eq 293 at_281 (by decide) rfl (fun q => absurd q (by decide)) (fun _ => ?_)
    refine Own.iload at_284 rfl ?_
    refine Own.if_eq 293 at_286 (by decide) rfl (fun q => absurd q (by decide)) (fun _ => ?_)
    refine Own.iconst (1 : Int32) at_289 rfl ?_
    refine Own.goto_ 294 at_290 (by decide) rfl ?_
    refine Own.ret_nar (t := .boolean) (by simp) rfl at_294 (by decide) (by decide) ?_
    exact rfl
  · rw [e]
    refine Own.istore #[.val (.int p0), .val (.int p1), .val (.int p2), .val (.int p3), .val (.int p4), .val (.int p5), .val (.int (4 : Int32)), .unset, .unset, .unset, .unset, .unset, .unset, .unset, .unset, .unset] at_7 rfl ?_
    refine Own.iloadN at_9 rfl ?_
    refine Own.i2b at_10 ?_
    refine Own.istore #[.val (.int p0), .val (.int p1), .val (.int p2), .val (.int p3), .val (.int p4), .val (.int p5), .val (.int (4 : Int32)), .val (.int (p1.toInt8.toInt32)), .unset, .unset, .unset, .unset, .unset, .unset, .unset, .unset] at_11 rfl ?_
    refine Own.iloadN at_13 rfl ?_
    refine Own.i2b at_14 ?_
    refine Own.istore #[.val (.int p0), .val (.int p1), .val (.int p2), .val (.int p3), .val (.int p4), .val (.int p5), .val (.int (4 : Int32)), .val (.int (p1.toInt8.toInt32)), .val (.int (p2.toInt8.toInt32)), .unset, .unset, .unset, .unset, .unset, .unset, .unset] at_15 rfl ?_
    refine Own.iloadN at_17 rfl ?_
    refine Own.i2b at_18 ?_
    refine Own.istore #[.val (.int p0), .val (.int p1), .val (.int p2), .val (.int p3), .val (.int p4), .val (.int p5), .val (.int (4 : Int32)), .val (.int (p1.toInt8.toInt32)), .val (.int (p2.toInt8.toInt32)), .val (.int (p3.toInt8.toInt32)), .unset, .unset, .unset, .unset, .unset, .unset] at_19 rfl ?_
    refine Own.iload at_21 rfl ?_
    refine Own.i2b at_23 ?_
    refine Own.istore #[.val (.int p0), .val (.int p1), .val (.int p2), .val (.int p3), .val (.int p4), .val (.int p5), .val (.int (4 : Int32)), .val (.int (p1.toInt8.toInt32)), .val (.int (p2.toInt8.toInt32)), .val (.int (p3.toInt8.toInt32)), .val (.int (p4.toInt8.toInt32)), .unset, .unset, .unset, .unset, .unset] at_24 rfl ?_
    refine Own.iload at_26 rfl ?_
    refine Own.i2b at_28 ?_
    refine Own.istore #[.val (.int p0), .val (.int p1), .val (.int p2), .val (.int p3), .val (.int p4), .val (.int p5), .val (.int (4 : Int32)), .val (.int (p1.toInt8.toInt32)), .val (.int (p2.toInt8.toInt32)), .val (.int (p3.toInt8.toInt32)), .val (.int (p4.toInt8.toInt32)), .val (.int (p5.toInt8.toInt32)), .unset, .unset, .unset, .unset] at_29 rfl ?_
    refine Own.iload at_31 rfl ?_
    refine Own.iload at_33 rfl ?_
    refine Own.iload at_35 rfl ?_
    refine Own.iload at_37 rfl ?_
    refine Own.iload at_39 rfl ?_
    refine Own.iload at_41 rfl ?_
    refine Own.callS_ [(.int (4 : Int32)), (.int (p1.toInt8.toInt32)), (.int (p2.toInt8.toInt32)), (.int (p3.toInt8.toInt32)), (.int (p4.toInt8.toInt32)), (.int (p5.toInt8.toInt32))] [] 0 (rmM4 l Z a0 hw [] (p1.toInt8.toInt32) (p2.toInt8.toInt32) (p3.toInt8.toInt32) (p4.toInt8.toInt32) (p5.toInt8.toInt32) h0 n0 hn) (hw _ (List.mem_of_getElem? (i := 1) rfl)) (hw _ (List.mem_of_getElem? (i := 2) rfl)) (hw _ (List.mem_of_getElem? (i := 3) rfl)) (hw _ (List.mem_of_getElem? (i := 4) rfl)) (by decide) at_43 pd_0 rfl rfl rfl rfl (by decide) (by decide) (by decide) (by decide) (fun v68 h68 hq68 => ?_)
    obtain ⟨b69, k69, rfl, z69, K69, V69⟩ := hq68
    have g_b69 : n0 ≤ b69 := Nat.le_trans hn z69
    have hn := Nat.le_trans hn K69.1
    refine OAt.cast (st' := [(.ref b69)]) rfl ?_
    refine Own.astore #[.val (.int p0), .val (.int p1), .val (.int p2), .val (.int p3), .val (.int p4), .val (.int p5), .val (.int (4 : Int32)), .val (.int (p1.toInt8.toInt32)), .val (.int (p2.toInt8.toInt32)), .val (.int (p3.toInt8.toInt32)), .val (.int (p4.toInt8.toInt32)), .val (.int (p5.toInt8.toInt32)), .val (.ref b69), .unset, .unset, .unset] at_46 rfl rfl ?_
    refine Own.aload at_48 rfl rfl ?_
    refine Own.callS_ [(.ref b69)] [] 0 (rmF4 l Z a0 hw [] b69 k69 (nar .byte (p1.toInt8.toInt32)) (nar .byte (p2.toInt8.toInt32)) (nar .byte (p3.toInt8.toInt32)) (nar .byte (p4.toInt8.toInt32)) h68 n0 hn V69) (hw _ (List.mem_of_getElem? (i := 6) rfl)) (hw _ (List.mem_of_getElem? (i := 7) rfl)) (hw _ (List.mem_of_getElem? (i := 8) rfl)) (hw _ (List.mem_of_getElem? (i := 9) rfl)) (by decide) at_50 pd_2 rfl rfl rfl rfl (by decide) (by decide) (by decide) (by decide) (fun v70 h70 hq70 => ?_)
    obtain ⟨b71, k71, rfl, z71, K71, V71⟩ := hq70
    have g_b71 : n0 ≤ b71 := Nat.le_trans hn z71
    have ne_b69_b71 : b69 ≠ b71 := Nat.ne_of_lt (Nat.lt_of_lt_of_le V69.lt z71)
    have ne_b71_b69 := Ne.symm ne_b69_b71
    have hn := Nat.le_trans hn K71.1
    replace V69 := V69.keep K71 nin0
    refine OAt.cast (st' := [(.ref b71)]) rfl ?_
    refine Own.astore #[.val (.int p0), .val (.int p1), .val (.int p2), .val (.int p3), .val (.int p4), .val (.int p5), .val (.int (4 : Int32)), .val (.int (p1.toInt8.toInt32)), .val (.int (p2.toInt8.toInt32)), .val (.int (p3.toInt8.toInt32)), .val (.int (p4.toInt8.toInt32)), .val (.int (p5.toInt8.toInt32)), .val (.ref b69), .val (.ref b71), .unset, .unset] at_53 rfl rfl ?_
    refine Own.aload at_55 rfl rfl ?_
    refine Own.ifnullNo at_57 ?_
    refine Own.aload at_60 rfl rfl ?_
    refine Own.arraylength_ (7 : Int32) V71 rfl at_62 ?_
    refine Own.iload at_63 rfl ?_
    refine Own.iconst (3 : Int32) at_65 rfl ?_
    refine Own.iadd at_66 ?_
    refine OAt.cast (st' := [(.int (7 : Int32)), (.int (7 : Int32))]) rfl ?_
    refine Own.icmp_eq 72 at_67 (by decide) rfl (fun _ => ?_) (fun q => absurd (by decide) q)
    refine Own.aload at_72 rfl rfl ?_
    refine Own.iconst (0 : Int32) at_74 rfl ?_
    refine Own.baload_ V71 (i := 0) rfl rfl at_75 ?_
    refine Own.bipush (11 : Int32) at_76 rfl ?_
    refine Own.icmp_eq 83 at_78 (by decide) rfl (fun _ => ?_) (fun q => absurd rfl q)
    refine Own.aload at_83 rfl rfl ?_
    refine Own.iload at_85 rfl ?_
    refine Own.iconst (1 : Int32) at_87 rfl ?_
    refine Own.iadd at_88 ?_
    refine OAt.cast (st' := [(.int (5 : Int32)), (.ref b71)]) rfl ?_
    refine Own.baload_ V71 (i := 5) rfl rfl at_89 ?_
    refine Own.bipush (28 : Int32) at_90 rfl ?_
    refine Own.icmp_ne 107 at_92 (by decide) rfl (fun q => absurd rfl q) (fun _ => ?_)
    refine Own.aload at_95 rfl rfl ?_
    refine Own.iload at_97 rfl ?_
    refine Own.iconst (2 : Int32) at_99 rfl ?_
    refine Own.iadd at_100 ?_
    refine OAt.cast (st' := [(.int (6 : Int32)), (.ref b71)]) rfl ?_
    refine Own.baload_ V71 (i := 6) rfl rfl at_101 ?_
    refine Own.bipush (13 : Int32) at_102 rfl ?_
    refine Own.icmp_eq 109 at_104 (by decide) rfl (fun _ => ?_) (fun q => absurd rfl q)
    refine Own.iload at_109 rfl ?_
    refine Own.if_le 123 at_111 (by decide) rfl (fun q => absurd (by decide) q) (fun _ => ?_)
    refine Own.aload at_114 rfl rfl ?_
    refine Own.iconst (1 : Int32) at_116 rfl ?_
    refine Own.baload_ V71 (i := 1) rfl rfl at_117 ?_
    refine Own.iload at_118 rfl ?_
    refine Own.icmp_ne 187 at_120 (by decide) rfl (fun q => absurd (own_b _) q) (fun _ => ?_)
    refine Own.iload at_123 rfl ?_
    refine Own.iconst (1 : Int32) at_125 rfl ?_
    refine Own.icmp_le 138 at_126 (by decide) rfl (fun q => absurd (by decide) q) (fun _ => ?_)
    refine Own.aload at_129 rfl rfl ?_
    refine Own.iconst (2 : Int32) at_131 rfl ?_
    refine Own.baload_ V71 (i := 2) rfl rfl at_132 ?_
    refine Own.iload at_133 rfl ?_
    refine Own.icmp_ne 187 at_135 (by decide) rfl (fun q => absurd (own_b _) q) (fun _ => ?_)
    refine Own.iload at_138 rfl ?_
    refine Own.iconst (2 : Int32) at_140 rfl ?_
    refine Own.icmp_le 153 at_141 (by decide) rfl (fun q => absurd (by decide) q) (fun _ => ?_)
    refine Own.aload at_144 rfl rfl ?_
    refine Own.iconst (3 : Int32) at_146 rfl ?_
    refine Own.baload_ V71 (i := 3) rfl rfl at_147 ?_
    refine Own.iload at_148 rfl ?_
    refine Own.icmp_ne 187 at_150 (by decide) rfl (fun q => absurd (own_b _) q) (fun _ => ?_)
    refine Own.iload at_153 rfl ?_
    refine Own.iconst (3 : Int32) at_155 rfl ?_
    refine Own.icmp_le 168 at_156 (by decide) rfl (fun q => absurd (by decide) q) (fun _ => ?_)
    refine Own.aload at_159 rfl rfl ?_
    refine Own.iconst (4 : Int32) at_161 rfl ?_
    refine Own.baload_ V71 (i := 4) rfl rfl at_162 ?_
    refine Own.iload at_163 rfl ?_
    refine Own.icmp_ne 187 at_165 (by decide) rfl (fun q => absurd (own_b _) q) (fun _ => ?_)
    refine Own.iload at_168 rfl ?_
    refine Own.iconst (4 : Int32) at_170 rfl ?_
    refine Own.icmp_le 183 at_171 (by decide) rfl (fun _ => ?_) (fun q => absurd q (by decide))
    refine Own.iconst (1 : Int32) at_183 rfl ?_
    refine Own.goto_ 188 at_184 (by decide) rfl ?_
    refine Own.istore #[.val (.int p0), .val (.int p1), .val (.int p2), .val (.int p3), .val (.int p4), .val (.int p5), .val (.int (4 : Int32)), .val (.int (p1.toInt8.toInt32)), .val (.int (p2.toInt8.toInt32)), .val (.int (p3.toInt8.toInt32)), .val (.int (p4.toInt8.toInt32)), .val (.int (p5.toInt8.toInt32)), .val (.ref b69), .val (.ref b71), .val (.int (1 : Int32)), .unset] at_188 rfl ?_
    refine Own.aload at_190 rfl rfl ?_
    refine Own.arraylength_ (4 : Int32) V69 rfl at_192 ?_
    refine Own.iload at_193 rfl ?_
    refine Own.icmp_ne 276 at_195 (by decide) rfl (fun q => absurd (by decide) q) (fun _ => ?_)
    refine Own.iload at_198 rfl ?_
    refine Own.if_le 212 at_200 (by decide) rfl (fun q => absurd (by decide) q) (fun _ => ?_)
    refine Own.aload at_203 rfl rfl ?_
    refine Own.iconst (0 : Int32) at_205 rfl ?_
    refine Own.baload_ V69 (i := 0) rfl rfl at_206 ?_
    refine Own.iload at_207 rfl ?_
    refine Own.icmp_ne 276 at_209 (by decide) rfl (fun q => absurd (own_b _) q) (fun _ => ?_)
    refine Own.iload at_212 rfl ?_
    refine Own.iconst (1 : Int32) at_214 rfl ?_
    refine Own.icmp_le 227 at_215 (by decide) rfl (fun q => absurd (by decide) q) (fun _ => ?_)
    refine Own.aload at_218 rfl rfl ?_
    refine Own.iconst (1 : Int32) at_220 rfl ?_
    refine Own.baload_ V69 (i := 1) rfl rfl at_221 ?_
    refine Own.iload at_222 rfl ?_
    refine Own.icmp_ne 276 at_224 (by decide) rfl (fun q => absurd (own_b _) q) (fun _ => ?_)
    refine Own.iload at_227 rfl ?_
    refine Own.iconst (2 : Int32) at_229 rfl ?_
    refine Own.icmp_le 242 at_230 (by decide) rfl (fun q => absurd (by decide) q) (fun _ => ?_)
    refine Own.aload at_233 rfl rfl ?_
    refine Own.iconst (2 : Int32) at_235 rfl ?_
    refine Own.baload_ V69 (i := 2) rfl rfl at_236 ?_
    refine Own.iload at_237 rfl ?_
    refine Own.icmp_ne 276 at_239 (by decide) rfl (fun q => absurd (own_b _) q) (fun _ => ?_)
    refine Own.iload at_242 rfl ?_
    refine Own.iconst (3 : Int32) at_244 rfl ?_
    refine Own.icmp_le 257 at_245 (by decide) rfl (fun q => absurd (by decide) q) (fun _ => ?_)
    refine Own.aload at_248 rfl rfl ?_
    refine Own.iconst (3 : Int32) at_250 rfl ?_
    refine Own.baload_ V69 (i := 3) rfl rfl at_251 ?_
    refine Own.iload at_252 rfl ?_
    refine Own.icmp_ne 276 at_254 (by decide) rfl (fun q => absurd (own_b _) q) (fun _ => ?_)
    refine Own.iload at_257 rfl ?_
    refine Own.iconst (4 : Int32) at_259 rfl ?_
    refine Own.icmp_le 272 at_260 (by decide) rfl (fun _ => ?_) (fun q => absurd q (by decide))
    refine Own.iconst (1 : Int32) at_272 rfl ?_
    refine Own.goto_ 277 at_273 (by decide) rfl ?_
    refine Own.istore #[.val (.int p0), .val (.int p1), .val (.int p2), .val (.int p3), .val (.int p4), .val (.int p5), .val (.int (4 : Int32)), .val (.int (p1.toInt8.toInt32)), .val (.int (p2.toInt8.toInt32)), .val (.int (p3.toInt8.toInt32)), .val (.int (p4.toInt8.toInt32)), .val (.int (p5.toInt8.toInt32)), .val (.ref b69), .val (.ref b71), .val (.int (1 : Int32)), .val (.int (1 : Int32))] at_277 rfl ?_
    refine Own.iload at_279 rfl ?_
    refine Own.if_eq 293 at_281 (by decide) rfl (fun q => absurd q (by decide)) (fun _ => ?_)
    refine Own.iload at_284 rfl ?_
    refine Own.if_eq 293 at_286 (by decide) rfl (fun q => absurd q (by decide)) (fun _ => ?_)
    refine Own.iconst (1 : Int32) at_289 rfl ?_
    refine Own.goto_ 294 at_290 (by decide) rfl ?_
    refine Own.ret_nar (t := .boolean) (by simp) rfl at_294 (by decide) (by decide) ?_
    exact rfl
  · rw [e]
    refine Own.istore #[.val (.int p0), .val (.int p1), .val (.int p2), .val (.int p3), .val (.int p4), .val (.int p5), .val (.int (5 : Int32)), .unset, .unset, .unset, .unset, .unset, .unset, .unset, .unset, .unset] at_7 rfl ?_
    refine Own.iloadN at_9 rfl ?_
    refine Own.i2b at_10 ?_
    refine Own.istore #[.val (.int p0), .val (.int p1), .val (.int p2), .val (.int p3), .val (.int p4), .val (.int p5), .val (.int (5 : Int32)), .val (.int (p1.toInt8.toInt32)), .unset, .unset, .unset, .unset, .unset, .unset, .unset, .unset] at_11 rfl ?_
    refine Own.iloadN at_13 rfl ?_
    refine Own.i2b at_14 ?_
    refine Own.istore #[.val (.int p0), .val (.int p1), .val (.int p2), .val (.int p3), .val (.int p4), .val (.int p5), .val (.int (5 : Int32)), .val (.int (p1.toInt8.toInt32)), .val (.int (p2.toInt8.toInt32)), .unset, .unset, .unset, .unset, .unset, .unset, .unset] at_15 rfl ?_
    refine Own.iloadN at_17 rfl ?_
    refine Own.i2b at_18 ?_
    refine Own.istore #[.val (.int p0), .val (.int p1), .val (.int p2), .val (.int p3), .val (.int p4), .val (.int p5), .val (.int (5 : Int32)), .val (.int (p1.toInt8.toInt32)), .val (.int (p2.toInt8.toInt32)), .val (.int (p3.toInt8.toInt32)), .unset, .unset, .unset, .unset, .unset, .unset] at_19 rfl ?_
    refine Own.iload at_21 rfl ?_
    refine Own.i2b at_23 ?_
    refine Own.istore #[.val (.int p0), .val (.int p1), .val (.int p2), .val (.int p3), .val (.int p4), .val (.int p5), .val (.int (5 : Int32)), .val (.int (p1.toInt8.toInt32)), .val (.int (p2.toInt8.toInt32)), .val (.int (p3.toInt8.toInt32)), .val (.int (p4.toInt8.toInt32)), .unset, .unset, .unset, .unset, .unset] at_24 rfl ?_
    refine Own.iload at_26 rfl ?_
    refine Own.i2b at_28 ?_
    refine Own.istore #[.val (.int p0), .val (.int p1), .val (.int p2), .val (.int p3), .val (.int p4), .val (.int p5), .val (.int (5 : Int32)), .val (.int (p1.toInt8.toInt32)), .val (.int (p2.toInt8.toInt32)), .val (.int (p3.toInt8.toInt32)), .val (.int (p4.toInt8.toInt32)), .val (.int (p5.toInt8.toInt32)), .unset, .unset, .unset, .unset] at_29 rfl ?_
    refine Own.iload at_31 rfl ?_
    refine Own.iload at_33 rfl ?_
    refine Own.iload at_35 rfl ?_
    refine Own.iload at_37 rfl ?_
    refine Own.iload at_39 rfl ?_
    refine Own.iload at_41 rfl ?_
    refine Own.callS_ [(.int (5 : Int32)), (.int (p1.toInt8.toInt32)), (.int (p2.toInt8.toInt32)), (.int (p3.toInt8.toInt32)), (.int (p4.toInt8.toInt32)), (.int (p5.toInt8.toInt32))] [] 0 (rmM5 l Z a0 hw [] (p1.toInt8.toInt32) (p2.toInt8.toInt32) (p3.toInt8.toInt32) (p4.toInt8.toInt32) (p5.toInt8.toInt32) h0 n0 hn) (hw _ (List.mem_of_getElem? (i := 1) rfl)) (hw _ (List.mem_of_getElem? (i := 2) rfl)) (hw _ (List.mem_of_getElem? (i := 3) rfl)) (hw _ (List.mem_of_getElem? (i := 4) rfl)) (by decide) at_43 pd_0 rfl rfl rfl rfl (by decide) (by decide) (by decide) (by decide) (fun v72 h72 hq72 => ?_)
    obtain ⟨b73, k73, rfl, z73, K73, V73⟩ := hq72
    have g_b73 : n0 ≤ b73 := Nat.le_trans hn z73
    have hn := Nat.le_trans hn K73.1
    refine OAt.cast (st' := [(.ref b73)]) rfl ?_
    refine Own.astore #[.val (.int p0), .val (.int p1), .val (.int p2), .val (.int p3), .val (.int p4), .val (.int p5), .val (.int (5 : Int32)), .val (.int (p1.toInt8.toInt32)), .val (.int (p2.toInt8.toInt32)), .val (.int (p3.toInt8.toInt32)), .val (.int (p4.toInt8.toInt32)), .val (.int (p5.toInt8.toInt32)), .val (.ref b73), .unset, .unset, .unset] at_46 rfl rfl ?_
    refine Own.aload at_48 rfl rfl ?_
    refine Own.callS_ [(.ref b73)] [] 0 (rmF5 l Z a0 hw [] b73 k73 (nar .byte (p1.toInt8.toInt32)) (nar .byte (p2.toInt8.toInt32)) (nar .byte (p3.toInt8.toInt32)) (nar .byte (p4.toInt8.toInt32)) (nar .byte (p5.toInt8.toInt32)) h72 n0 hn V73) (hw _ (List.mem_of_getElem? (i := 6) rfl)) (hw _ (List.mem_of_getElem? (i := 7) rfl)) (hw _ (List.mem_of_getElem? (i := 8) rfl)) (hw _ (List.mem_of_getElem? (i := 9) rfl)) (by decide) at_50 pd_2 rfl rfl rfl rfl (by decide) (by decide) (by decide) (by decide) (fun v74 h74 hq74 => ?_)
    obtain ⟨b75, k75, rfl, z75, K75, V75⟩ := hq74
    have g_b75 : n0 ≤ b75 := Nat.le_trans hn z75
    have ne_b73_b75 : b73 ≠ b75 := Nat.ne_of_lt (Nat.lt_of_lt_of_le V73.lt z75)
    have ne_b75_b73 := Ne.symm ne_b73_b75
    have hn := Nat.le_trans hn K75.1
    replace V73 := V73.keep K75 nin0
    refine OAt.cast (st' := [(.ref b75)]) rfl ?_
    refine Own.astore #[.val (.int p0), .val (.int p1), .val (.int p2), .val (.int p3), .val (.int p4), .val (.int p5), .val (.int (5 : Int32)), .val (.int (p1.toInt8.toInt32)), .val (.int (p2.toInt8.toInt32)), .val (.int (p3.toInt8.toInt32)), .val (.int (p4.toInt8.toInt32)), .val (.int (p5.toInt8.toInt32)), .val (.ref b73), .val (.ref b75), .unset, .unset] at_53 rfl rfl ?_
    refine Own.aload at_55 rfl rfl ?_
    refine Own.ifnullNo at_57 ?_
    refine Own.aload at_60 rfl rfl ?_
    refine Own.arraylength_ (8 : Int32) V75 rfl at_62 ?_
    refine Own.iload at_63 rfl ?_
    refine Own.iconst (3 : Int32) at_65 rfl ?_
    refine Own.iadd at_66 ?_
    refine OAt.cast (st' := [(.int (8 : Int32)), (.int (8 : Int32))]) rfl ?_
    refine Own.icmp_eq 72 at_67 (by decide) rfl (fun _ => ?_) (fun q => absurd (by decide) q)
    refine Own.aload at_72 rfl rfl ?_
    refine Own.iconst (0 : Int32) at_74 rfl ?_
    refine Own.baload_ V75 (i := 0) rfl rfl at_75 ?_
    refine Own.bipush (11 : Int32) at_76 rfl ?_
    refine Own.icmp_eq 83 at_78 (by decide) rfl (fun _ => ?_) (fun q => absurd rfl q)
    refine Own.aload at_83 rfl rfl ?_
    refine Own.iload at_85 rfl ?_
    refine Own.iconst (1 : Int32) at_87 rfl ?_
    refine Own.iadd at_88 ?_
    refine OAt.cast (st' := [(.int (6 : Int32)), (.ref b75)]) rfl ?_
    refine Own.baload_ V75 (i := 6) rfl rfl at_89 ?_
    refine Own.bipush (28 : Int32) at_90 rfl ?_
    refine Own.icmp_ne 107 at_92 (by decide) rfl (fun q => absurd rfl q) (fun _ => ?_)
    refine Own.aload at_95 rfl rfl ?_
    refine Own.iload at_97 rfl ?_
    refine Own.iconst (2 : Int32) at_99 rfl ?_
    refine Own.iadd at_100 ?_
    refine OAt.cast (st' := [(.int (7 : Int32)), (.ref b75)]) rfl ?_
    refine Own.baload_ V75 (i := 7) rfl rfl at_101 ?_
    refine Own.bipush (13 : Int32) at_102 rfl ?_
    refine Own.icmp_eq 109 at_104 (by decide) rfl (fun _ => ?_) (fun q => absurd rfl q)
    refine Own.iload at_109 rfl ?_
    refine Own.if_le 123 at_111 (by decide) rfl (fun q => absurd (by decide) q) (fun _ => ?_)
    refine Own.aload at_114 rfl rfl ?_
    refine Own.iconst (1 : Int32) at_116 rfl ?_
    refine Own.baload_ V75 (i := 1) rfl rfl at_117 ?_
    refine Own.iload at_118 rfl ?_
    refine Own.icmp_ne 187 at_120 (by decide) rfl (fun q => absurd (own_b _) q) (fun _ => ?_)
    refine Own.iload at_123 rfl ?_
    refine Own.iconst (1 : Int32) at_125 rfl ?_
    refine Own.icmp_le 138 at_126 (by decide) rfl (fun q => absurd (by decide) q) (fun _ => ?_)
    refine Own.aload at_129 rfl rfl ?_
    refine Own.iconst (2 : Int32) at_131 rfl ?_
    refine Own.baload_ V75 (i := 2) rfl rfl at_132 ?_
    refine Own.iload at_133 rfl ?_
    refine Own.icmp_ne 187 at_135 (by decide) rfl (fun q => absurd (own_b _) q) (fun _ => ?_)
    refine Own.iload at_138 rfl ?_
    refine Own.iconst (2 : Int32) at_140 rfl ?_
    refine Own.icmp_le 153 at_141 (by decide) rfl (fun q => absurd (by decide) q) (fun _ => ?_)
    refine Own.aload at_144 rfl rfl ?_
    refine Own.iconst (3 : Int32) at_146 rfl ?_
    refine Own.baload_ V75 (i := 3) rfl rfl at_147 ?_
    refine Own.iload at_148 rfl ?_
    refine Own.icmp_ne 187 at_150 (by decide) rfl (fun q => absurd (own_b _) q) (fun _ => ?_)
    refine Own.iload at_153 rfl ?_
    refine Own.iconst (3 : Int32) at_155 rfl ?_
    refine Own.icmp_le 168 at_156 (by decide) rfl (fun q => absurd (by decide) q) (fun _ => ?_)
    refine Own.aload at_159 rfl rfl ?_
    refine Own.iconst (4 : Int32) at_161 rfl ?_
    refine Own.baload_ V75 (i := 4) rfl rfl at_162 ?_
    refine Own.iload at_163 rfl ?_
    refine Own.icmp_ne 187 at_165 (by decide) rfl (fun q => absurd (own_b _) q) (fun _ => ?_)
    refine Own.iload at_168 rfl ?_
    refine Own.iconst (4 : Int32) at_170 rfl ?_
    refine Own.icmp_le 183 at_171 (by decide) rfl (fun q => absurd (by decide) q) (fun _ => ?_)
    refine Own.aload at_174 rfl rfl ?_
    refine Own.iconst (5 : Int32) at_176 rfl ?_
    refine Own.baload_ V75 (i := 5) rfl rfl at_177 ?_
    refine Own.iload at_178 rfl ?_
    refine Own.icmp_ne 187 at_180 (by decide) rfl (fun q => absurd (own_b _) q) (fun _ => ?_)
    refine Own.iconst (1 : Int32) at_183 rfl ?_
    refine Own.goto_ 188 at_184 (by decide) rfl ?_
    refine Own.istore #[.val (.int p0), .val (.int p1), .val (.int p2), .val (.int p3), .val (.int p4), .val (.int p5), .val (.int (5 : Int32)), .val (.int (p1.toInt8.toInt32)), .val (.int (p2.toInt8.toInt32)), .val (.int (p3.toInt8.toInt32)), .val (.int (p4.toInt8.toInt32)), .val (.int (p5.toInt8.toInt32)), .val (.ref b73), .val (.ref b75), .val (.int (1 : Int32)), .unset] at_188 rfl ?_
    refine Own.aload at_190 rfl rfl ?_
    refine Own.arraylength_ (5 : Int32) V73 rfl at_192 ?_
    refine Own.iload at_193 rfl ?_
    refine Own.icmp_ne 276 at_195 (by decide) rfl (fun q => absurd (by decide) q) (fun _ => ?_)
    refine Own.iload at_198 rfl ?_
    refine Own.if_le 212 at_200 (by decide) rfl (fun q => absurd (by decide) q) (fun _ => ?_)
    refine Own.aload at_203 rfl rfl ?_
    refine Own.iconst (0 : Int32) at_205 rfl ?_
    refine Own.baload_ V73 (i := 0) rfl rfl at_206 ?_
    refine Own.iload at_207 rfl ?_
    refine Own.icmp_ne 276 at_209 (by decide) rfl (fun q => absurd (own_b _) q) (fun _ => ?_)
    refine Own.iload at_212 rfl ?_
    refine Own.iconst (1 : Int32) at_214 rfl ?_
    refine Own.icmp_le 227 at_215 (by decide) rfl (fun q => absurd (by decide) q) (fun _ => ?_)
    refine Own.aload at_218 rfl rfl ?_
    refine Own.iconst (1 : Int32) at_220 rfl ?_
    refine Own.baload_ V73 (i := 1) rfl rfl at_221 ?_
    refine Own.iload at_222 rfl ?_
    refine Own.icmp_ne 276 at_224 (by decide) rfl (fun q => absurd (own_b _) q) (fun _ => ?_)
    refine Own.iload at_227 rfl ?_
    refine Own.iconst (2 : Int32) at_229 rfl ?_
    refine Own.icmp_le 242 at_230 (by decide) rfl (fun q => absurd (by decide) q) (fun _ => ?_)
    refine Own.aload at_233 rfl rfl ?_
    refine Own.iconst (2 : Int32) at_235 rfl ?_
    refine Own.baload_ V73 (i := 2) rfl rfl at_236 ?_
    refine Own.iload at_237 rfl ?_
    refine Own.icmp_ne 276 at_239 (by decide) rfl (fun q => absurd (own_b _) q) (fun _ => ?_)
    refine Own.iload at_242 rfl ?_
    refine Own.iconst (3 : Int32) at_244 rfl ?_
    refine Own.icmp_le 257 at_245 (by decide) rfl (fun q => absurd (by decide) q) (fun _ => ?_)
    refine Own.aload at_248 rfl rfl ?_
    refine Own.iconst (3 : Int32) at_250 rfl ?_
    refine Own.baload_ V73 (i := 3) rfl rfl at_251 ?_
    refine Own.iload at_252 rfl ?_
    refine Own.icmp_ne 276 at_254 (by decide) rfl (fun q => absurd (own_b _) q) (fun _ => ?_)
    refine Own.iload at_257 rfl ?_
    refine Own.iconst (4 : Int32) at_259 rfl ?_
    refine Own.icmp_le 272 at_260 (by decide) rfl (fun q => absurd (by decide) q) (fun _ => ?_)
    refine Own.aload at_263 rfl rfl ?_
    refine Own.iconst (4 : Int32) at_265 rfl ?_
    refine Own.baload_ V73 (i := 4) rfl rfl at_266 ?_
    refine Own.iload at_267 rfl ?_
    refine Own.icmp_ne 276 at_269 (by decide) rfl (fun q => absurd (own_b _) q) (fun _ => ?_)
    refine Own.iconst (1 : Int32) at_272 rfl ?_
    refine Own.goto_ 277 at_273 (by decide) rfl ?_
    refine Own.istore #[.val (.int p0), .val (.int p1), .val (.int p2), .val (.int p3), .val (.int p4), .val (.int p5), .val (.int (5 : Int32)), .val (.int (p1.toInt8.toInt32)), .val (.int (p2.toInt8.toInt32)), .val (.int (p3.toInt8.toInt32)), .val (.int (p4.toInt8.toInt32)), .val (.int (p5.toInt8.toInt32)), .val (.ref b73), .val (.ref b75), .val (.int (1 : Int32)), .val (.int (1 : Int32))] at_277 rfl ?_
    refine Own.iload at_279 rfl ?_
    refine Own.if_eq 293 at_281 (by decide) rfl (fun q => absurd q (by decide)) (fun _ => ?_)
    refine Own.iload at_284 rfl ?_
    refine Own.if_eq 293 at_286 (by decide) rfl (fun q => absurd q (by decide)) (fun _ => ?_)
    refine Own.iconst (1 : Int32) at_289 rfl ?_
    refine Own.goto_ 294 at_290 (by decide) rfl ?_
    refine Own.ret_nar (t := .boolean) (by simp) rfl at_294 (by decide) (by decide) ?_
    exact rfl
set_option maxRecDepth 65536 in
set_option maxHeartbeats 40000000 in
theorem comes_1 {Post : Tables → Env → Array Value → State → Outcome → State → Prop} (hpost : ∀ tb e args s v u, (limb_1_1.after args s (.returned v) u = true ∧ limb_1_2.after args s (.returned v) u = true ∧ True) → FrameEnd s (.returned v) u (Jvm.fieldLocs frame_1_writes args s ++ Jvm.arrayLocs frame_1_arrays args s ++ Jvm.staticLocs frame_1_statics s) 16 128 → Post tb e args s (.returned v) u) :
    ArmFor flags0 classFile x code maxLocals ret World_1 tables_1 room_1 Calls_1 rest_1 Pre_1 Post := by
  intro l hfl _ _ p e ha hc hk s m args below hf hA hF happ hP
  obtain ⟨hcalls, hrest, hpre⟩ := hP
  obtain ⟨-, -, -, hnamed, -, -, -, hat⟩ := (Spec.applies_iff hf).mp happ
  obtain ⟨hg, hn⟩ := and_e (Cond.before_iff.mp (show (Jvm.Cond.and given_1 narrow_1).before args s = true from hpre))
  obtain ⟨gc, ga0⟩ := and_e hg
  obtain ⟨g0, ga1⟩ := and_e ga0
  obtain ⟨g1, ga2⟩ := and_e ga1
  obtain ⟨g2, ga3⟩ := and_e ga2
  obtain ⟨g3, ga4⟩ := and_e ga3
  obtain ⟨g4, ga5⟩ := and_e ga4
  have g5 := ga5
  obtain ⟨w0, w1, w2, w3, w4, w5, rfl⟩ : ∃ w0 w1 w2 w3 w4 w5 : Value, args = #[w0, w1, w2, w3, w4, w5] := by
    have hs : args.size = 6 := by simpa [Cond.value, given_1] using gc
    obtain ⟨L⟩ := args
    match L, hs with
    | [w0, w1, w2, w3, w4, w5], _ => exact ⟨w0, w1, w2, w3, w4, w5, rfl⟩
  have hw := fun d (hd : d ∈ tables_1) => atoms_spec (ws := Jvm.Cond.code x code maxLocals ret :: tables_1) hat d (List.mem_cons_of_mem _ hd)
  have hfit : Fit s := fun {y c} hc i hi => by
    obtain ⟨ha, rfl⟩ := Array.getElem?_eq_some_iff.mp hc
    have q := List.all_eq_true.mp ((Array.all_eq_true_iff_forall_mem.mp hF) _ (Array.getElem_mem ha)) i (List.mem_range.mpr hi)
    simpa [Array.getElem?_eq_getElem hi] using q
  obtain ⟨i0, ei0⟩ := is_v g0
  obtain rfl : w0 = (.int i0) := Option.some.inj ei0
  obtain ⟨i1, ei1⟩ := is_v g1
  obtain rfl : w1 = (.int i1) := Option.some.inj ei1
  obtain ⟨i2, ei2⟩ := is_v g2
  obtain rfl : w2 = (.int i2) := Option.some.inj ei2
  obtain ⟨i3, ei3⟩ := is_v g3
  obtain rfl : w3 = (.int i3) := Option.some.inj ei3
  obtain ⟨i4, ei4⟩ := is_v g4
  obtain rfl : w4 = (.int i4) := Option.some.inj ei4
  obtain ⟨i5, ei5⟩ := is_v g5
  obtain rfl : w5 = (.int i5) := Option.some.inj ei5
  obtain ⟨n, o, h1, h2, h3, _, L, rfl, ⟨N, -, rfl⟩, hq⟩ := rm0 l s _ hw tables_1 i0 i1 i2 i3 i4 i5 s.heap s.heap.size (Nat.le_refl _) p e ha hc hk s m _ below hf ((Spec.applies_iff_loose hf).mp happ).1 ⟨rfl, State.Warmed39.refl s, rfl⟩ trivial
  refine ⟨n, _, h1, h2, h3, hpost _ _ _ _ _ _ ⟨Cond.after_iff.mpr rfl, Cond.after_iff.mpr (eq_i res_at (Term.int_eval (1)) rfl), trivial⟩ ⟨hq.1, hq.2.1, (hq.2.2.sift fun y hy => Or.inr (N y hy)).mono (by decide) (by decide)⟩⟩
theorem main_1_1 : Claimed_1_1 := comes_1 fun _ _ _ _ _ _ h hF => ⟨h.1, hF⟩
theorem main_1_2 : Claimed_1_2 := comes_1 fun _ _ _ _ _ _ h hF => ⟨h.2.1, hF⟩
end Jvm.Pilot.@@N@@
namespace Jvm.Pilot.@@N@@
open Jvm Jvm.ClassFile Sem Op Lib Jvm.Free Jvm.Stand Jvm.Pilot.@@N@@.Jvm.D
/-! MADE BY PROGRAM (witnessworld.py) out of the Statement's table words and the real class files: 10 classes; the members and pool entries that the words name. The judged class is class 1, her method 2. -/
namespace start1
open Jvm.ClassFile
def u (s : String) : CpInfo := .utf8 (stringToUtf16 s)
/-- a pool by its gaps: so many unusable entries, then the entry; so many at the end -/
def gap : Nat → List CpInfo → List CpInfo
  | 0, r => r
  | n + 1, r => .unusable :: gap n r
def poolList (es : List (Nat × CpInfo)) (last : Nat) : List CpInfo := es.foldr (fun e r => gap e.1 (e.2 :: r)) (gap last [])
def pool (es : List (Nat × CpInfo)) (last : Nat) : Array CpInfo := ⟨poolList es last⟩
def fileOf (pool : Array CpInfo) (this : Nat) (attrs : Array Attribute := #[]) (ms : Array MethodInfo := #[]) (fl : Nat := 33) (sup : Nat := 0) (ifs : Array Nat := #[]) (fds : Array FieldInfo := #[]) : ClassFile where
  minorVersion := 0
  majorVersion := 65
  constantPool := pool
  accessFlags := fl
  thisClass := this
  superClass := sup
  interfaces := ifs
  fields := fds
  methods := ms
  attributes := attrs
def plain (name : String) (sup : Option ClassId) : Class where
  name := name
  kind := .ordinary
  loader := none
  accessFlags := 33
  super := sup
  interfaces := #[]
  cf := none
  fields := #[]
  methods := #[]
  instanceTypes := #[]
  staticTypes := #[]
  resolved := #[]
  callSites := []
  init := .initialized
  statics := none
  mirror := none

def pool0 : Array CpInfo := pool [(5, u "<init>"), (0, u "()V"), (1, .class_ 10), (1, u "java/lang/Object")] 113

def k0m0 : Method := { name := "<init>", desc := "()V", sig := { parameters := [], returnType := none }, accessFlags := 1, code := none }
/-- java/lang/Object -/
def k0 : Class := { plain "java/lang/Object" none with
  accessFlags := 33
  interfaces := #[]
  cf := some (fileOf pool0 8 #[] #[{ accessFlags := 1, nameIndex := 5, descriptorIndex := 6, attributes := #[] }] 33 0 #[] #[])
  fields := #[]
  methods := #[k0m0]
  instanceTypes := #[]
  staticTypes := #[]
  resolved := Array.replicate 124 none
  statics := none }

def pool1 : Array CpInfo := pool [(2, .class_ 4), (1, u "java/lang/Object"), (0, u "<init>"), (0, u "()V"), (0, .integer 2147483647), (0, .methodref 9 10), (0, .class_ 11), (0, .nameAndType 12 13), (0, u "com/example/cytorelay/cytorelay/link/MllpFramePinLaw"), (0, u "make"), (0, u "(IBBBBB)[B"), (0, .methodref 15 16), (0, .class_ 17), (0, .nameAndType 18 19), (0, u "com/example/cytorelay/cytorelay/link/Mllp"), (0, u "frame"), (0, u "([B)[B"), (3, u "law"), (0, u "(IIIIII)Z")] 4

def k1m0 : Method := { name := "<init>", desc := "()V", sig := { parameters := [], returnType := none }, accessFlags := 2, code := none }
def k1c1 : Code := { maxStack := 4, maxLocals := 6, code := method_2_code, exceptionTable := #[], attributes := #[] }
def k1m1 : Method := { name := "make", desc := "(IBBBBB)[B", sig := { parameters := [.int, .byte, .byte, .byte, .byte, .byte], returnType := some (.array .byte) }, accessFlags := 10, code := some k1c1 }
def k1c2 : Code := { maxStack := 6, maxLocals := 16, code := code, exceptionTable := #[], attributes := #[] }
def k1m2 : Method := { name := "law", desc := "(IIIIII)Z", sig := { parameters := [.int, .int, .int, .int, .int, .int], returnType := some .boolean }, accessFlags := 9, code := some k1c2 }
/-- com/example/cytorelay/cytorelay/link/MllpFramePinLaw -/
def k1 : Class := { plain "com/example/cytorelay/cytorelay/link/MllpFramePinLaw" (some 0) with
  accessFlags := 49
  interfaces := #[]
  cf := some (fileOf pool1 9 #[] #[{ accessFlags := 2, nameIndex := 5, descriptorIndex := 6, attributes := #[] }, { accessFlags := 10, nameIndex := 12, descriptorIndex := 13, attributes := #[] }, { accessFlags := 9, nameIndex := 23, descriptorIndex := 24, attributes := #[] }] 49 2 #[] #[])
  fields := #[]
  methods := #[k1m0, k1m1, k1m2]
  instanceTypes := #[]
  staticTypes := #[]
  resolved := Array.replicate 29 none
  statics := none }

def pool2 : Array CpInfo := pool [(2, .class_ 4), (1, u "java/lang/Object"), (0, u "<init>"), (0, u "()V"), (0, .class_ 8), (0, u "com/example/cytorelay/cytorelay/link/Mllp"), (0, .methodref 10 11), (0, .class_ 12), (0, .nameAndType 13 14), (0, u "java/lang/System"), (0, u "arraycopy"), (0, u "(Ljava/lang/Object;ILjava/lang/Object;II)V"), (5, u "START"), (0, u "B"), (2, u "END"), (1, u "END_CR"), (3, u "frame"), (0, u "([B)[B")] 4

def k2m0 : Method := { name := "<init>", desc := "()V", sig := { parameters := [], returnType := none }, accessFlags := 2, code := none }
def k2c1 : Code := { maxStack := 5, maxLocals := 2, code := prog_59_method_2_code, exceptionTable := #[], attributes := #[] }
def k2m1 : Method := { name := "frame", desc := "([B)[B", sig := { parameters := [(.array .byte)], returnType := some (.array .byte) }, accessFlags := 9, code := some k2c1 }
/-- com/example/cytorelay/cytorelay/link/Mllp -/
def k2 : Class := { plain "com/example/cytorelay/cytorelay/link/Mllp" (some 0) with
  accessFlags := 49
  interfaces := #[]
  cf := some (fileOf pool2 7 #[] #[{ accessFlags := 2, nameIndex := 5, descriptorIndex := 6, attributes := #[] }, { accessFlags := 9, nameIndex := 30, descriptorIndex := 31, attributes := #[] }] 49 2 #[] #[{ accessFlags := 25, nameIndex := 20, descriptorIndex := 21, attributes := #[] }, { accessFlags := 25, nameIndex := 24, descriptorIndex := 21, attributes := #[] }, { accessFlags := 25, nameIndex := 26, descriptorIndex := 21, attributes := #[] }])
  fields := #[{ name := "START", type := .byte, accessFlags := 25, slot := 0, constantValue := 0 }, { name := "END", type := .byte, accessFlags := 25, slot := 1, constantValue := 0 }, { name := "END_CR", type := .byte, accessFlags := 25, slot := 2, constantValue := 0 }]
  methods := #[k2m0, k2m1]
  instanceTypes := #[]
  staticTypes := #[.byte, .byte, .byte]
  resolved := Array.replicate 36 none
  statics := none }

def pool3 : Array CpInfo := pool [(2, .class_ 4), (1, u "java/lang/Object"), (0, u "<init>"), (0, u "()V"), (1, .class_ 10), (1, u "java/lang/System"), (0, u "allowSecurityManager"), (0, u "I"), (16, u "cons"), (0, u "Ljava/io/Console;"), (77, .class_ 110), (1, u "java/lang/System$CallersHolder"), (43, u "initialErrStream"), (0, u "Ljava/io/PrintStream;"), (19, u "security"), (0, u "Ljava/lang/SecurityManager;"), (31, .class_ 209), (0, u "java/lang/System$1"), (7, u "props"), (0, u "Ljava/util/Properties;"), (2, u "lineSeparator"), (0, u "Ljava/lang/String;"), (96, .class_ 321), (1, u "java/lang/System$LoggerFinder"), (5, .class_ 328), (0, u "java/lang/System$Logger"), (67, u "err"), (2, u "out"), (91, u "notSupportedJnuEncoding"), (15, u "in"), (17, u "initialIn"), (0, u "Ljava/io/InputStream;"), (35, u "bootLayer"), (0, u "Ljava/lang/ModuleLayer;"), (99, .class_ 664), (0, u "java/lang/System$2"), (9, u "NEVER"), (2, u "MAYBE"), (49, u "arraycopy"), (0, u "(Ljava/lang/Object;ILjava/lang/Object;II)V"), (72, .class_ 802), (0, u "java/lang/System$Logger$Level")] 31

def k3m0 : Method := { name := "<init>", desc := "()V", sig := { parameters := [], returnType := none }, accessFlags := 2, code := none }
def k3m1 : Method := { name := "arraycopy", desc := "(Ljava/lang/Object;ILjava/lang/Object;II)V", sig := { parameters := [(.object "java/lang/Object"), .int, (.object "java/lang/Object"), .int, .int], returnType := none }, accessFlags := 265, code := none }
/-- java/lang/System -/
def k3 : Class := { plain "java/lang/System" (some 0) with
  accessFlags := 49
  interfaces := #[]
  cf := some (fileOf pool3 8 #[.nestMembers #[319, 327, 801, 108, 663, 208]] #[{ accessFlags := 2, nameIndex := 5, descriptorIndex := 6, attributes := #[] }, { accessFlags := 265, nameIndex := 727, descriptorIndex := 728, attributes := #[] }] 49 2 #[] #[{ accessFlags := 25, nameIndex := 507, descriptorIndex := 526, attributes := #[] }, { accessFlags := 25, nameIndex := 399, descriptorIndex := 155, attributes := #[] }, { accessFlags := 25, nameIndex := 396, descriptorIndex := 155, attributes := #[] }, { accessFlags := 10, nameIndex := 525, descriptorIndex := 526, attributes := #[] }, { accessFlags := 26, nameIndex := 674, descriptorIndex := 12, attributes := #[] }, { accessFlags := 26, nameIndex := 677, descriptorIndex := 12, attributes := #[] }, { accessFlags := 10, nameIndex := 11, descriptorIndex := 12, attributes := #[] }, { accessFlags := 74, nameIndex := 175, descriptorIndex := 176, attributes := #[] }, { accessFlags := 10, nameIndex := 491, descriptorIndex := 222, attributes := #[] }, { accessFlags := 74, nameIndex := 29, descriptorIndex := 30, attributes := #[] }, { accessFlags := 74, nameIndex := 154, descriptorIndex := 155, attributes := #[] }, { accessFlags := 10, nameIndex := 217, descriptorIndex := 218, attributes := #[] }, { accessFlags := 10, nameIndex := 221, descriptorIndex := 222, attributes := #[] }, { accessFlags := 8, nameIndex := 562, descriptorIndex := 563, attributes := #[] }])
  fields := #[{ name := "in", type := (.object "java/io/InputStream"), accessFlags := 25, slot := 0, constantValue := 0 }, { name := "out", type := (.object "java/io/PrintStream"), accessFlags := 25, slot := 1, constantValue := 0 }, { name := "err", type := (.object "java/io/PrintStream"), accessFlags := 25, slot := 2, constantValue := 0 }, { name := "initialIn", type := (.object "java/io/InputStream"), accessFlags := 10, slot := 3, constantValue := 0 }, { name := "NEVER", type := .int, accessFlags := 26, slot := 4, constantValue := 0 }, { name := "MAYBE", type := .int, accessFlags := 26, slot := 5, constantValue := 0 }, { name := "allowSecurityManager", type := .int, accessFlags := 10, slot := 6, constantValue := 0 }, { name := "security", type := (.object "java/lang/SecurityManager"), accessFlags := 74, slot := 7, constantValue := 0 }, { name := "notSupportedJnuEncoding", type := (.object "java/lang/String"), accessFlags := 10, slot := 8, constantValue := 0 }, { name := "cons", type := (.object "java/io/Console"), accessFlags := 74, slot := 9, constantValue := 0 }, { name := "initialErrStream", type := (.object "java/io/PrintStream"), accessFlags := 74, slot := 10, constantValue := 0 }, { name := "props", type := (.object "java/util/Properties"), accessFlags := 10, slot := 11, constantValue := 0 }, { name := "lineSeparator", type := (.object "java/lang/String"), accessFlags := 10, slot := 12, constantValue := 0 }, { name := "bootLayer", type := (.object "java/lang/ModuleLayer"), accessFlags := 8, slot := 13, constantValue := 0 }]
  methods := #[k3m0, k3m1]
  instanceTypes := #[]
  staticTypes := #[(.object "java/io/InputStream"), (.object "java/io/PrintStream"), (.object "java/io/PrintStream"), (.object "java/io/InputStream"), .int, .int, .int, (.object "java/lang/SecurityManager"), (.object "java/lang/String"), (.object "java/io/Console"), (.object "java/io/PrintStream"), (.object "java/util/Properties"), (.object "java/lang/String"), (.object "java/lang/ModuleLayer")]
  resolved := Array.replicate 834 none
  statics := none }

def pool4 : Array CpInfo := pool [(1, u "java/lang/Cloneable"), (0, .class_ 1), (0, u "java/lang/Object"), (0, .class_ 3)] 3

/-- java/lang/Cloneable -/
def k4 : Class := { plain "java/lang/Cloneable" (some 0) with
  accessFlags := 1537
  interfaces := #[]
  cf := some (fileOf pool4 2 #[] #[] 1537 4 #[] #[])
  fields := #[]
  methods := #[]
  instanceTypes := #[]
  staticTypes := #[]
  resolved := Array.replicate 8 none
  statics := none }

def pool5 : Array CpInfo := pool [(1, u "java/io/Serializable"), (0, .class_ 1), (0, u "java/lang/Object"), (0, .class_ 3)] 3

/-- java/io/Serializable -/
def k5 : Class := { plain "java/io/Serializable" (some 0) with
  accessFlags := 1537
  interfaces := #[]
  cf := some (fileOf pool5 2 #[] #[] 1537 4 #[] #[])
  fields := #[]
  methods := #[]
  instanceTypes := #[]
  staticTypes := #[]
  resolved := Array.replicate 8 none
  statics := none }

/-- the primitive byte -/
def k6 : Class := { plain "byte" none with kind := .primitive 'B', accessFlags := 0x411 }
/-- [B -/
def k7 : Class := { plain "[B" (some 0) with kind := .array 6 .byte, interfaces := #[4, 5], accessFlags := 1041 }

/-- the primitive int -/
def k8 : Class := { plain "int" none with kind := .primitive 'I', accessFlags := 0x411 }
/-- [I -/
def k9 : Class := { plain "[I" (some 0) with kind := .array 8 .int, interfaces := #[4, 5], accessFlags := 1041 }

def heap : Heap := #[]
def classes : Array Class := #[k0, k1, k2, k3, k4, k5, k6, k7, k8, k9]
def interned : List (Array UInt16 × Addr) := []
def slotsUsed : Nat := 0
def theMethod : MethodId := ⟨1, 2⟩
def args0 : Array Value := #[.int 3, .int 4, .int 5, .int 6, .int 7, .int 8]
def aboutOver (below : List Frame) : State where
  vm := { classes := classes, interned := interned.toArray }
  heap := heap
  slotsUsed := slotsUsed
  threads := #[{ frames := .invoking theMethod args0 :: below }]
def below0 : List Frame := [.native { method := ⟨0, 0⟩, args := #[] }]
def about1 : State := aboutOver below0
def p0 : Program := .bare "" "" ""
def e0 : Env := launch0.env 0 0 0
theorem w_frames : about1.frames = Frame.invoking theMethod args0 :: below0 := rfl
set_option maxRecDepth 65536 in
theorem w_args : argsFit about1.vm theMethod args0 = true := by decide +kernel
set_option maxRecDepth 65536 in
theorem w_heap : heapFits about1 = true := by decide +kernel
set_option maxRecDepth 65536 in
theorem w_runnable : about1.curStatus? = some .runnable := by decide +kernel
set_option maxRecDepth 65536 in
theorem w_alone : about1.alone = true := by decide +kernel
set_option maxRecDepth 65536 in
theorem w_named : about1.methodNamed? x = some theMethod := by decide +kernel
set_option maxRecDepth 65536 in
theorem w_hears : about1.hears theMethod below0 = true := by decide +kernel
set_option maxRecDepth 65536 in
theorem w_ripe : about1.ripe theMethod args0 below0 = true := by decide +kernel
theorem w_running : about1.status = .running := rfl
set_option maxRecDepth 65536 in
theorem w_room : about1.hasRoom e0.platform room_1 = true :=
  launch0.hasRoom_least _ room_1 (by decide +kernel) (by decide +kernel) (by decide +kernel) (by decide +kernel) (by decide +kernel) (by decide +kernel)
theorem allAtoms_all (ts : List Jvm.Cond) (a : Array Jvm.Value) (st : Jvm.State) : (allAtoms ts).before a st = ts.all (fun c => c.before a st) := by
  induction ts with
  | nil => rfl
  | cons c t ih =>
    show (Jvm.Cond.and c (allAtoms t)).before a st = _
    rw [Jvm.Cond.before_and, ih, List.all_cons]
def words1 : List Jvm.Cond := Jvm.Cond.code x code maxLocals ret :: tables_1
/-- a 'code' word, met by the world's own term for the bytes: nothing is compared byte by byte -/
theorem code_word {y : MethodName} {bytes : ByteArray} {mx : Nat} {rt : Option FieldType} {a : Array Value} {s : State} {m : MethodId} {meth : Method} {c : Code} (h1 : s.methodNamed? y = some m) (h2 : s.vm.method? m = some meth) (h3 : meth.code = some c) (h4 : c.code = bytes)
    (h5 : (c.maxLocals == mx && c.exceptionTable.isEmpty && decide (c.maxStack ≤ mostOperands) && decide (meth.sig.returnType = rt) && !meth.locks && decide (parseMethodDescriptor y.desc = some meth.sig)) = true) : (Jvm.Cond.code y bytes mx rt).before a s = true := by
  simp only [Bool.and_eq_true, beq_iff_eq, Bool.not_eq_true', decide_eq_true_eq] at h5
  obtain ⟨⟨⟨⟨⟨g1, g2⟩, g3⟩, g4⟩, g5⟩, g6⟩ := h5
  simp [Cond.before, Cond.holds, Cond.value, h1, h2, h3, h4, g1, g2, g3, g4, g5, g6]
def isCode : Jvm.Cond → Bool
  | .code _ _ _ _ => true
  | _ => false
theorem all_split {L : List Jvm.Cond} {P : Jvm.Cond → Bool} (h1 : L.all (fun c => isCode c || P c) = true) (h2 : ∀ c ∈ L.filter isCode, P c = true) : L.all P = true := by
  refine List.all_eq_true.mpr fun c hc => ?_
  have h := List.all_eq_true.mp h1 c hc
  rcases Bool.eq_false_or_eq_true (isCode c) with hi | hi
  · exact h2 c (List.mem_filter.mpr ⟨hc, hi⟩)
  · simpa [hi] using h
set_option maxRecDepth 65536 in
theorem w_c0 : (Jvm.Cond.code x code maxLocals ret).before args0 about1 = true := code_word (m := ⟨1, 2⟩) (meth := k1m2) (c := k1c2) (by decide +kernel) rfl rfl rfl (by decide +kernel)
set_option maxRecDepth 65536 in
theorem w_c1 : (Jvm.Cond.code ({ cls := "com/example/cytorelay/cytorelay/link/MllpFramePinLaw", name := "make", desc := "(IBBBBB)[B" } : Jvm.MethodName) method_2_code (6 : Nat) (Option.some (Jvm.ClassFile.FieldType.array Jvm.ClassFile.FieldType.byte))).before args0 about1 = true := code_word (m := ⟨1, 1⟩) (meth := k1m1) (c := k1c1) (by decide +kernel) rfl rfl rfl (by decide +kernel)
set_option maxRecDepth 65536 in
theorem w_c2 : (Jvm.Cond.code ({ cls := "com/example/cytorelay/cytorelay/link/Mllp", name := "frame", desc := "([B)[B" } : Jvm.MethodName) prog_59_method_2_code (2 : Nat) (Option.some (Jvm.ClassFile.FieldType.array Jvm.ClassFile.FieldType.byte))).before args0 about1 = true := code_word (m := ⟨2, 1⟩) (meth := k2m1) (c := k2c1) (by decide +kernel) rfl rfl rfl (by decide +kernel)
def codes1 : List Jvm.Cond := [Jvm.Cond.code x code maxLocals ret, Jvm.Cond.code ({ cls := "com/example/cytorelay/cytorelay/link/MllpFramePinLaw", name := "make", desc := "(IBBBBB)[B" } : Jvm.MethodName) method_2_code (6 : Nat) (Option.some (Jvm.ClassFile.FieldType.array Jvm.ClassFile.FieldType.byte)), Jvm.Cond.code ({ cls := "com/example/cytorelay/cytorelay/link/Mllp", name := "frame", desc := "([B)[B" } : Jvm.MethodName) prog_59_method_2_code (2 : Nat) (Option.some (Jvm.ClassFile.FieldType.array Jvm.ClassFile.FieldType.byte))]
set_option maxRecDepth 65536 in
theorem codes_eq : words1.filter isCode = codes1 := rfl
theorem w_codes : ∀ c ∈ words1.filter isCode, c.before args0 about1 = true := by
  rw [codes_eq]
  intro c hc
  simp only [codes1, List.mem_cons, List.not_mem_nil, or_false] at hc
  rcases hc with rfl | rfl | rfl
  · exact w_c0
  · exact w_c1
  · exact w_c2
set_option maxRecDepth 65536 in
theorem w_t1 : words1.all (fun c => isCode c || c.before args0 about1) = true := by decide +kernel
theorem w_tables : (allAtoms (Jvm.Cond.code x code maxLocals ret :: tables_1)).before args0 about1 = true := by
  rw [allAtoms_all]
  show words1.all (fun c => c.before args0 about1) = true
  refine all_split ?_ w_codes
  rw [w_t1]
set_option maxRecDepth 65536 in
theorem w_case : (Jvm.Cond.and given_1 narrow_1).before args0 about1 = true := by decide +kernel
theorem w_applies : (headSpec (Jvm.Cond.code x code maxLocals ret :: tables_1) room_1).applies x e0.platform about1 = true :=
  (Spec.applies_iff w_frames).mpr ⟨w_running, w_runnable, w_alone, w_named, w_hears, w_ripe, w_room, w_tables⟩
theorem atStart : AtStart classFile x code maxLocals ret World_1 tables_1 room_1 Calls_1 rest_1 Pre_1 launch0 p0 e0 about1 theMethod args0 below0 :=
  ⟨lists_1, trivial, launch0.admits_env _ _ _, launch0.least_env, fairChoices_fair.cas, fairChoices_fair.clock, w_frames, w_args, w_heap, w_applies, trivial, trivial, w_case⟩
end start1
theorem witness_1 : WitnessClaimed_1 := ⟨start1.p0, start1.e0, start1.about1, start1.theMethod, start1.args0, start1.below0, start1.atStart⟩
end Jvm.Pilot.@@N@@
