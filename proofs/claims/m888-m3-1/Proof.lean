import JvmDerived
import JvmDerived.Pilot.@@N@@Statement
import JvmDerived.Pilot.@@N@@Code
set_option linter.unusedVariables false
set_option linter.unusedSimpArgs false

namespace Jvm.Own
open Sem ClassFile Op Lib Jvm.Stand Jvm.Free Jvm.LawKit Jvm.RoadKit Bundle
/-- how the tables over which the walk stands are related to the true start's: the same (narrow), or wider by interned constants -/
def Rel (W : Bool) (s : State) (vm0 : Vm) (n : Nat) : Prop := match W with
  | false => vm0 = s.vm
  | true => ∃ k0, s.Since vm0 k0 ∧ k0 ≤ n
theorem Rel.mono {W : Bool} {s : State} {vm0 : Vm} {n n' : Nat} (h : Rel W s vm0 n) (q : n ≤ n') : Rel W s vm0 n' := by
  cases W
  · exact h
  · obtain ⟨k0, h1, h2⟩ := h; exact ⟨k0, h1, Nat.le_trans h2 q⟩
def EndW (W : Bool) (s : State) (o : Outcome) (t : State) (L : List Loc) (k n : Nat) : Prop := match W with
  | false => FrameEnd s o t L k n
  | true => ReturnedEndW s o t L k n
def Prom (W : Bool) (n0 hz : Nat) (Q : Option Value → Heap → Prop) (R : Room) (s : State) (o : Outcome) (t : State) : Prop :=
  ∃ v L, o = .returned v ∧ (Fr n0 L ∧ hz ≤ t.heap.size ∧ Q v t.heap) ∧ EndW W s o t L R.cells R.slots
def Go (p : Program) (e : Env) (below : List Frame) (P : Outcome → State → Prop) (U : State) : Prop :=
  ∃ t o, Steps p.tables e below U t ∧ t.status = .running ∧ Ended t below o ∧ P o t
theorem Go.step {p : Program} {e : Env} {below : List Frame} {P : Outcome → State → Prop} {U V : State} (f : ∀ t, Steps p.tables e below V t → Steps p.tables e below U t) (g : Go p e below P V) : Go p e below P U := by
  obtain ⟨t, o, h1, h2⟩ := g; exact ⟨t, o, f t h1, h2⟩
def Cx (Z : State) (bytes : ByteArray) (maxL : Nat) (own nm : String) (ret : Option FieldType) (p : Program) (vm0 : Vm) (m : MethodId) (meth : Method) (c : Code) : Prop :=
  p.tables.exec = Jvm.exec ∧ c.code = bytes ∧ c.maxLocals = maxL ∧ meth.sig.returnType = ret ∧ meth.locks = false ∧ meth.name = nm ∧ Z.Warmed39 vm0 ∧ vm0.findClass own = some m.cls
/-- the contract of a body -/
def Met (W : Bool) (l : Launch) (Z : State) (y : MethodName) (bytes : ByteArray) (maxL : Nat) (ret : Option FieldType) (R : Room) (ws : List Jvm.Cond) (as' : Array Value) (h0 : Heap) (n0 : Nat) (Q : Option Value → Heap → Prop) : Prop :=
  MetFree l y (head1 (Jvm.Cond.code y bytes maxL ret :: ws) R) (fun a U => a = as' ∧ Z.Warmed39 U.vm ∧ U.heap = h0) (fun _ _ _ _ _ => True) (fun _ U o U' => Prom W n0 h0.size Q R U o U')
/-- from this point of the body on the run ends as Q says -/
def OAt (W : Bool) (l : Launch) (Z : State) (bytes : ByteArray) (maxL : Nat) (own nm : String) (ret : Option FieldType) (R : Room) (n0 hz : Nat) (Q : Option Value → Heap → Prop)
    (h : Heap) (cells slots pc : Nat) (Ls : Array Slot) (st : List Value) : Prop :=
  hz ≤ h.size → ∀ (p : Program) (e : Env) (s : State) (vm0 : Vm) (m : MethodId) (args : Array Value) (below : List Frame) (meth : Method) (c : Code) (T : State) (locs : List Loc),
    Cx Z bytes maxL own nm ret p vm0 m meth c → Rel W s vm0 h.size → Stand p l e R (s.setVm vm0) m args below meth c T locs cells slots → T.heap = h → Fr n0 locs →
    Go p e below (Prom W n0 hz Q R s) (T.setTop (mkF m pc Ls st))
section Walk
variable {W : Bool} {l : Launch} {Z : State} {a0 : Array Value} {bytes : ByteArray} {maxL : Nat} {own nm : String} {ret : Option FieldType} {R : Room} {n0 hz : Nat} {Q : Option Value → Heap → Prop} {h h' : Heap} {cells slots pc : Nat} {Ls : Array Slot} {st : List Value}
theorem Met.of {y : MethodName} {ws : List Jvm.Cond} {as' : Array Value} {h0 : Heap} (hp : plainFor y = true) {Ls : Array Slot} (hef : ∀ m, entryFrame m as' maxL = mkF m 0 Ls [])
    (k : OAt W l Z bytes maxL y.cls y.name ret R n0 h0.size Q h0 0 0 0 Ls []) : Met W l Z y bytes maxL ret R ws as' h0 n0 Q := by
  refine MetFree.of_bodySF hp hisR ?_
  intro p e s m args below meth c s₁ Bd hml0 hP hK
  obtain ⟨rfl, hZ, hh⟩ := hP
  have X0 : Stand p l e R s m args below meth c s₁ [] 0 0 := Stand.of_body Bd
  have e0 : s₁.heap = h0 := by rw [← hh, Bd.state]; rfl
  have hr : Rel W s s.vm h0.size := by
    cases W
    · exact rfl
    · exact ⟨0, State.WarmedH.since (State.WarmedH.refl s) 0, Nat.zero_le _⟩
  have g := k (Nat.le_refl _) p e s s.vm m args below meth c s₁ [] ⟨Bd.exec, Bd.bytes, hml0, Bd.returns, Bd.notSynchronized, (name_of_methodNamed Bd.named Bd.method).1, hZ, findClass_of_methodNamed Bd.named⟩ hr X0 e0 (Fr.nil n0)
  rw [← hef m] at g
  exact g
theorem Met.imp {y : MethodName} {ws : List Jvm.Cond} {as' : Array Value} {h0 : Heap} {Q' : Option Value → Heap → Prop} (k : Met W l Z y bytes maxL ret R ws as' h0 n0 Q) (f : ∀ v h, Q v h → Q' v h) : Met W l Z y bytes maxL ret R ws as' h0 n0 Q' :=
  fun p e h1 h2 h3 s m args below h4 h5 h6 h7 => by
    obtain ⟨n, o, g1, g2, g3, v, L, g4, ⟨g5, g6, g7⟩, g8⟩ := k p e h1 h2 h3 s m args below h4 h5 h6 h7
    exact ⟨n, o, g1, g2, g3, v, L, g4, ⟨g5, g6, f _ _ g7⟩, g8⟩
theorem OAt.cast {st' : List Value} (q : st' = st) (k : OAt W l Z bytes maxL own nm ret R n0 hz Q h cells slots pc Ls st') : OAt W l Z bytes maxL own nm ret R n0 hz Q h cells slots pc Ls st := q ▸ k
theorem OAt.castL {Ls' : Array Slot} {st' : List Value} (q : Ls' = Ls) (q2 : st' = st) (k : OAt W l Z bytes maxL own nm ret R n0 hz Q h cells slots pc Ls' st') : OAt W l Z bytes maxL own nm ret R n0 hz Q h cells slots pc Ls st := q ▸ q2 ▸ k
theorem OAt.mono {cells' slots' : Nat} (q1 : cells ≤ cells') (q2 : slots ≤ slots') (k : OAt W l Z bytes maxL own nm ret R n0 hz Q h cells' slots' pc Ls st) : OAt W l Z bytes maxL own nm ret R n0 hz Q h cells slots pc Ls st :=
  fun hs p e s vm0 m args below meth c T locs C r X eT N => k hs p e s vm0 m args below meth c T locs C r (X.mono q1 q2) eT N
/-- a step that leaves the state but for the frame -/
theorem OAt.plain {pc' : Nat} {Ls' : Array Slot} {st' : List Value} (k : OAt W l Z bytes maxL own nm ret R n0 hz Q h cells slots pc' Ls' st')
    (f : ∀ {p : Program} {e : Env} {below : List Frame} {m : MethodId} {c : Code} {T : State}, At T m c below → p.tables.exec = Jvm.exec → c.code = bytes → ∀ target, Steps p.tables e below (T.setTop (mkF m pc' Ls' st')) target → Steps p.tables e below (T.setTop (mkF m pc Ls st)) target) :
    OAt W l Z bytes maxL own nm ret R n0 hz Q h cells slots pc Ls st :=
  fun hs p e s vm0 m args below meth c T locs C r X eT N => (k hs p e s vm0 m args below meth c T locs C r X eT N).step (f X.here C.1 C.2.1)
/-- a step by a law over the Stand: same heap -/
theorem OAt.warm {pc' : Nat} {Ls' : Array Slot} {st' : List Value} (k : OAt W l Z bytes maxL own nm ret R n0 hz Q h cells slots pc' Ls' st')
    (f : ∀ {p : Program} {e : Env} {s : State} {m : MethodId} {args : Array Value} {below : List Frame} {meth : Method} {c : Code} {T : State} {locs : List Loc}, Cx Z bytes maxL own nm ret p s.vm m meth c → Stand p l e R s m args below meth c T locs cells slots → T.heap = h →
      ∃ T', Stand p l e R s m args below meth c T' locs cells slots ∧ T'.heap = h ∧ ∀ target, Steps p.tables e below (T'.setTop (mkF m pc' Ls' st')) target → Steps p.tables e below (T.setTop (mkF m pc Ls st)) target) :
    OAt W l Z bytes maxL own nm ret R n0 hz Q h cells slots pc Ls st :=
  fun hs p e s vm0 m args below meth c T locs C r X eT N => by
    obtain ⟨T', X', e', g⟩ := f (s := s.setVm vm0) C X eT
    exact (k hs p e s vm0 m args below meth c T' locs C r X' e' N).step g
/-- a step by a law over the Stand: the heap grows or is written at fresh places -/
theorem OAt.move {pc' : Nat} {Ls' : Array Slot} {st' : Heap → List Value} {cells' slots' : Nat} {P : Heap → Prop} (hg : ∀ h', P h' → h.size ≤ h'.size) (k : ∀ h', P h' → OAt W l Z bytes maxL own nm ret R n0 hz Q h' cells' slots' pc' Ls' (st' h'))
    (f : ∀ {p : Program} {e : Env} {s : State} {m : MethodId} {args : Array Value} {below : List Frame} {meth : Method} {c : Code} {T : State} {locs : List Loc}, Cx Z bytes maxL own nm ret p s.vm m meth c → Stand p l e R s m args below meth c T locs cells slots → T.heap = h → Fr n0 locs →
      ∃ T' h' locs', Stand p l e R s m args below meth c T' locs' cells' slots' ∧ T'.heap = h' ∧ Fr n0 locs' ∧ P h' ∧ ∀ target, Steps p.tables e below (T'.setTop (mkF m pc' Ls' (st' h'))) target → Steps p.tables e below (T.setTop (mkF m pc Ls st)) target) :
    OAt W l Z bytes maxL own nm ret R n0 hz Q h cells slots pc Ls st :=
  fun hs p e s vm0 m args below meth c T locs C r X eT N => by
    obtain ⟨T', h', locs', X', e', N', p', g⟩ := f (s := s.setVm vm0) C X eT N
    exact (k h' p' (Nat.le_trans hs (hg h' p')) p e s vm0 m args below meth c T' locs' C (r.mono (hg h' p')) X' e' N').step g
/-- the end -/
theorem OAt.done {v : Option Value} (hv : ret = none → v = none) (hq : Q v h) (hc : cells ≤ R.cells) (hn : slots ≤ R.slots)
    (f : ∀ {p : Program} {e : Env} {s : State} {m : MethodId} {args : Array Value} {below : List Frame} {meth : Method} {c : Code} {T : State} {locs : List Loc} {fs : List Frame}, Cx Z bytes maxL own nm ret p s.vm m meth c → Stand p l e R s m args below meth c T locs cells slots →
      (∀ (f : JFrame) (acts : List Action), f.method = m → f.locked = none → f.entered = [] → (doReturn e (T.setTop f) acts v).1 = T.setFrames fs) → Steps p.tables e below (T.setTop (mkF m pc Ls st)) (T.setFrames fs)) :
    OAt W l Z bytes maxL own nm ret R n0 hz Q h cells slots pc Ls st :=
  fun hs p e s vm0 m args below meth c T locs C r X eT N => by
    have hl : meth.locks = false := C.2.2.2.2.1
    have hv' : meth.sig.returnType = none → v = none := fun q => hv (C.2.2.2.1.symm.trans q)
    have hh : ∀ fs, (T.setFrames fs).heap = h := fun fs => eT
    cases W
    · obtain rfl : vm0 = s.vm := r
      obtain ⟨fs, h1, h2, h3, h4, h5⟩ := X.leave (v := v) hv' hl
      exact ⟨_, _, f C X h1, h2, h3, v, locs, rfl, ⟨N, by rw [hh]; exact hs, by rw [hh]; exact hq⟩, ⟨v, rfl⟩, h4, h5.mono hc hn⟩
    · obtain ⟨k0, r1, r2⟩ := r
      obtain ⟨fs, h1, h2, h3, h4⟩ := X.leaveW (v := v) r1 (by rw [eT]; exact r2) hv' hl
      exact ⟨_, _, f (s := s.setVm vm0) C X h1, h2, h3, v, locs, rfl, ⟨N, by rw [hh]; exact hs, by rw [hh]; exact hq⟩, h4.1, h4.2.1, h4.2.2.1, h4.2.2.2.mono hc hn⟩
theorem iconst {i : Int} (v : Int32) (hd : decode bytes pc = .ok (.iconst i, 1)) (hv : Int32.ofInt i = v) (k : OAt W l Z bytes maxL own nm ret R n0 hz Q h cells slots (pc + 1) Ls (.int v :: st)) : OAt W l Z bytes maxL own nm ret R n0 hz Q h cells slots pc Ls st :=
  k.plain fun hh hx hby _ q => XS.iconst hh hx rfl (hb hby hd) (by rw [hv]; exact q)
theorem bipush {i : Int} (v : Int32) (hd : decode bytes pc = .ok (.bipush i, 2)) (hv : (Int8.ofInt i).toInt32 = v) (k : OAt W l Z bytes maxL own nm ret R n0 hz Q h cells slots (pc + 2) Ls (.int v :: st)) : OAt W l Z bytes maxL own nm ret R n0 hz Q h cells slots pc Ls st :=
  k.plain fun hh hx hby _ q => XS.bipush hh hx rfl (hb hby hd) (by rw [hv]; exact q)
theorem sipush {i : Int} (v : Int32) (hd : decode bytes pc = .ok (.sipush i, 3)) (hv : (Int16.ofInt i).toInt32 = v) (k : OAt W l Z bytes maxL own nm ret R n0 hz Q h cells slots (pc + 3) Ls (.int v :: st)) : OAt W l Z bytes maxL own nm ret R n0 hz Q h cells slots pc Ls st :=
  k.plain fun hh hx hby _ q => XS.sipush hh hx rfl (hb hby hd) (by rw [hv]; exact q)
theorem lconst {i : Fin 2} (v : Int64) (hd : decode bytes pc = .ok (.lconst i, 1)) (hv : Int64.ofNat i = v) (k : OAt W l Z bytes maxL own nm ret R n0 hz Q h cells slots (pc + 1) Ls (.long v :: st)) : OAt W l Z bytes maxL own nm ret R n0 hz Q h cells slots pc Ls st :=
  k.plain fun hh hx hby _ q => XS.lconst hh hx rfl (hb hby hd) (by rw [hv]; exact q)
theorem aconstNull (hd : decode bytes pc = .ok (.aconst_null, 1)) (k : OAt W l Z bytes maxL own nm ret R n0 hz Q h cells slots (pc + 1) Ls (.null :: st)) : OAt W l Z bytes maxL own nm ret R n0 hz Q h cells slots pc Ls st :=
  k.plain fun hh hx hby _ q => XS.aconstNull hh hx rfl (hb hby hd) q
theorem iload {i : Nat} {v : Int32} (hd : decode bytes pc = .ok (.iload i, 2)) (hl : Ls[i]? = some (.val (.int v))) (k : OAt W l Z bytes maxL own nm ret R n0 hz Q h cells slots (pc + 2) Ls (.int v :: st)) : OAt W l Z bytes maxL own nm ret R n0 hz Q h cells slots pc Ls st :=
  k.plain fun hh hx hby _ q => XS.iload hh hx rfl (hb hby hd) hl q
theorem iloadN {i : Fin 4} {v : Int32} (hd : decode bytes pc = .ok (.iload_n i, 1)) (hl : Ls[i.val]? = some (.val (.int v))) (k : OAt W l Z bytes maxL own nm ret R n0 hz Q h cells slots (pc + 1) Ls (.int v :: st)) : OAt W l Z bytes maxL own nm ret R n0 hz Q h cells slots pc Ls st :=
  k.plain fun hh hx hby _ q => XS.iloadN hh hx rfl (hb hby hd) hl q
theorem lload {i : Nat} {v : Int64} (hd : decode bytes pc = .ok (.lload i, 2)) (hl : Ls[i]? = some (.val (.long v))) (k : OAt W l Z bytes maxL own nm ret R n0 hz Q h cells slots (pc + 2) Ls (.long v :: st)) : OAt W l Z bytes maxL own nm ret R n0 hz Q h cells slots pc Ls st :=
  k.plain fun hh hx hby _ q => XS.lload hh hx rfl (hb hby hd) hl q
theorem lloadN {i : Fin 4} {v : Int64} (hd : decode bytes pc = .ok (.lload_n i, 1)) (hl : Ls[i.val]? = some (.val (.long v))) (k : OAt W l Z bytes maxL own nm ret R n0 hz Q h cells slots (pc + 1) Ls (.long v :: st)) : OAt W l Z bytes maxL own nm ret R n0 hz Q h cells slots pc Ls st :=
  k.plain fun hh hx hby _ q => XS.lloadN hh hx rfl (hb hby hd) hl q
theorem aload {i : Nat} {v : Value} (hd : decode bytes pc = .ok (.aload i, 2)) (hl : Ls[i]? = some (.val v)) (hv : v.isRef = true) (k : OAt W l Z bytes maxL own nm ret R n0 hz Q h cells slots (pc + 2) Ls (v :: st)) : OAt W l Z bytes maxL own nm ret R n0 hz Q h cells slots pc Ls st :=
  k.plain fun hh hx hby _ q => XS.aload hh hx rfl (hb hby hd) hl hv q
theorem aloadN {i : Fin 4} {v : Value} (hd : decode bytes pc = .ok (.aload_n i, 1)) (hl : Ls[i.val]? = some (.val v)) (hv : v.isRef = true) (k : OAt W l Z bytes maxL own nm ret R n0 hz Q h cells slots (pc + 1) Ls (v :: st)) : OAt W l Z bytes maxL own nm ret R n0 hz Q h cells slots pc Ls st :=
  k.plain fun hh hx hby _ q => XS.aloadN hh hx rfl (hb hby hd) hl hv q
theorem istore {i : Nat} {v : Int32} (L2 : Array Slot) (hd : decode bytes pc = .ok (.istore i, 2)) (hl : storeLocals Ls i (.int v) = some L2) (k : OAt W l Z bytes maxL own nm ret R n0 hz Q h cells slots (pc + 2) L2 st) : OAt W l Z bytes maxL own nm ret R n0 hz Q h cells slots pc Ls (.int v :: st) :=
  k.plain fun hh hx hby _ q => XS.istore hh hx rfl (hb hby hd) rfl hl q
theorem istoreN {i : Fin 4} {v : Int32} (L2 : Array Slot) (hd : decode bytes pc = .ok (.istore_n i, 1)) (hl : storeLocals Ls i.val (.int v) = some L2) (k : OAt W l Z bytes maxL own nm ret R n0 hz Q h cells slots (pc + 1) L2 st) : OAt W l Z bytes maxL own nm ret R n0 hz Q h cells slots pc Ls (.int v :: st) :=
  k.plain fun hh hx hby _ q => XS.istoreN hh hx rfl (hb hby hd) rfl hl q
theorem lstore {i : Nat} {v : Int64} (L2 : Array Slot) (hd : decode bytes pc = .ok (.lstore i, 2)) (hl : storeLocals Ls i (.long v) = some L2) (k : OAt W l Z bytes maxL own nm ret R n0 hz Q h cells slots (pc + 2) L2 st) : OAt W l Z bytes maxL own nm ret R n0 hz Q h cells slots pc Ls (.long v :: st) :=
  k.plain fun hh hx hby _ q => XS.lstore hh hx rfl (hb hby hd) rfl hl q
theorem lstoreN {i : Fin 4} {v : Int64} (L2 : Array Slot) (hd : decode bytes pc = .ok (.lstore_n i, 1)) (hl : storeLocals Ls i.val (.long v) = some L2) (k : OAt W l Z bytes maxL own nm ret R n0 hz Q h cells slots (pc + 1) L2 st) : OAt W l Z bytes maxL own nm ret R n0 hz Q h cells slots pc Ls (.long v :: st) :=
  k.plain fun hh hx hby _ q => XS.lstoreN hh hx rfl (hb hby hd) rfl hl q
theorem astore {i : Nat} {v : Value} (L2 : Array Slot) (hd : decode bytes pc = .ok (.astore i, 2)) (hv : v.isRef = true) (hl : storeLocals Ls i v = some L2) (k : OAt W l Z bytes maxL own nm ret R n0 hz Q h cells slots (pc + 2) L2 st) : OAt W l Z bytes maxL own nm ret R n0 hz Q h cells slots pc Ls (v :: st) :=
  k.plain fun hh hx hby _ q => XS.astore hh hx rfl (hb hby hd) rfl hv hl q
theorem astoreN {i : Fin 4} {v : Value} (L2 : Array Slot) (hd : decode bytes pc = .ok (.astore_n i, 1)) (hv : v.isRef = true) (hl : storeLocals Ls i.val v = some L2) (k : OAt W l Z bytes maxL own nm ret R n0 hz Q h cells slots (pc + 1) L2 st) : OAt W l Z bytes maxL own nm ret R n0 hz Q h cells slots pc Ls (v :: st) :=
  k.plain fun hh hx hby _ q => XS.astoreN hh hx rfl (hb hby hd) rfl hv hl q
theorem iinc {i : Nat} {z : Int} {v : Int32} (w : Int32) (L2 : Array Slot) (hd : decode bytes pc = .ok (.iinc i z, 3)) (hw : Int32.ofInt z = w) (hl : Ls[i]? = some (.val (.int v))) (hl' : storeLocals Ls i (.int (v + w)) = some L2) (k : OAt W l Z bytes maxL own nm ret R n0 hz Q h cells slots (pc + 3) L2 st) : OAt W l Z bytes maxL own nm ret R n0 hz Q h cells slots pc Ls st :=
  k.plain fun hh hx hby _ q => XS.iinc hh hx rfl (hb hby hd) hl (by rw [hw]; exact hl') q
theorem iadd {x y : Int32} (hd : decode bytes pc = .ok (.iadd, 1)) (k : OAt W l Z bytes maxL own nm ret R n0 hz Q h cells slots (pc + 1) Ls (.int (x + y) :: st)) : OAt W l Z bytes maxL own nm ret R n0 hz Q h cells slots pc Ls (.int y :: .int x :: st) :=
  k.plain fun hh hx hby _ q => XS.iadd hh hx rfl (hb hby hd) rfl q
theorem isub {x y : Int32} (hd : decode bytes pc = .ok (.isub, 1)) (k : OAt W l Z bytes maxL own nm ret R n0 hz Q h cells slots (pc + 1) Ls (.int (x - y) :: st)) : OAt W l Z bytes maxL own nm ret R n0 hz Q h cells slots pc Ls (.int y :: .int x :: st) :=
  k.plain fun hh hx hby _ q => XS.isub hh hx rfl (hb hby hd) rfl q
theorem imul {x y : Int32} (hd : decode bytes pc = .ok (.imul, 1)) (k : OAt W l Z bytes maxL own nm ret R n0 hz Q h cells slots (pc + 1) Ls (.int (x * y) :: st)) : OAt W l Z bytes maxL own nm ret R n0 hz Q h cells slots pc Ls (.int y :: .int x :: st) :=
  k.plain fun hh hx hby _ q => XS.imul hh hx rfl (hb hby hd) rfl q
theorem iand {x y : Int32} (hd : decode bytes pc = .ok (.iand, 1)) (k : OAt W l Z bytes maxL own nm ret R n0 hz Q h cells slots (pc + 1) Ls (.int (x &&& y) :: st)) : OAt W l Z bytes maxL own nm ret R n0 hz Q h cells slots pc Ls (.int y :: .int x :: st) :=
  k.plain fun hh hx hby _ q => XS.iand hh hx rfl (hb hby hd) rfl q
theorem ior {x y : Int32} (hd : decode bytes pc = .ok (.ior, 1)) (k : OAt W l Z bytes maxL own nm ret R n0 hz Q h cells slots (pc + 1) Ls (.int (x ||| y) :: st)) : OAt W l Z bytes maxL own nm ret R n0 hz Q h cells slots pc Ls (.int y :: .int x :: st) :=
  k.plain fun hh hx hby _ q => XS.ior hh hx rfl (hb hby hd) rfl q
theorem ixor {x y : Int32} (hd : decode bytes pc = .ok (.ixor, 1)) (k : OAt W l Z bytes maxL own nm ret R n0 hz Q h cells slots (pc + 1) Ls (.int (x ^^^ y) :: st)) : OAt W l Z bytes maxL own nm ret R n0 hz Q h cells slots pc Ls (.int y :: .int x :: st) :=
  k.plain fun hh hx hby _ q => XS.ixor hh hx rfl (hb hby hd) rfl q
theorem ishl {x y : Int32} (hd : decode bytes pc = .ok (.ishl, 1)) (k : OAt W l Z bytes maxL own nm ret R n0 hz Q h cells slots (pc + 1) Ls (.int (x <<< (y &&& 31)) :: st)) : OAt W l Z bytes maxL own nm ret R n0 hz Q h cells slots pc Ls (.int y :: .int x :: st) :=
  k.plain fun hh hx hby _ q => XS.ishl hh hx rfl (hb hby hd) rfl q
theorem ishr {x y : Int32} (hd : decode bytes pc = .ok (.ishr, 1)) (k : OAt W l Z bytes maxL own nm ret R n0 hz Q h cells slots (pc + 1) Ls (.int (x >>> (y &&& 31)) :: st)) : OAt W l Z bytes maxL own nm ret R n0 hz Q h cells slots pc Ls (.int y :: .int x :: st) :=
  k.plain fun hh hx hby _ q => XS.ishr hh hx rfl (hb hby hd) rfl q
theorem iushr {x y : Int32} (hd : decode bytes pc = .ok (.iushr, 1)) (k : OAt W l Z bytes maxL own nm ret R n0 hz Q h cells slots (pc + 1) Ls (.int ((x.toUInt32 >>> (y &&& 31).toUInt32).toInt32) :: st)) : OAt W l Z bytes maxL own nm ret R n0 hz Q h cells slots pc Ls (.int y :: .int x :: st) :=
  k.plain fun hh hx hby _ q => XS.iushr hh hx rfl (hb hby hd) rfl q
theorem idiv {x y : Int32} (hd : decode bytes pc = .ok (.idiv, 1)) (hy : y ≠ 0) (k : OAt W l Z bytes maxL own nm ret R n0 hz Q h cells slots (pc + 1) Ls (.int (x / y) :: st)) : OAt W l Z bytes maxL own nm ret R n0 hz Q h cells slots pc Ls (.int y :: .int x :: st) :=
  k.plain fun hh hx hby _ q => XS.idiv hh hx rfl (hb hby hd) rfl hy q
theorem ladd {x y : Int64} (hd : decode bytes pc = .ok (.ladd, 1)) (k : OAt W l Z bytes maxL own nm ret R n0 hz Q h cells slots (pc + 1) Ls (.long (x + y) :: st)) : OAt W l Z bytes maxL own nm ret R n0 hz Q h cells slots pc Ls (.long y :: .long x :: st) :=
  k.plain fun hh hx hby _ q => XS.ladd hh hx rfl (hb hby hd) rfl q
theorem lsub {x y : Int64} (hd : decode bytes pc = .ok (.lsub, 1)) (k : OAt W l Z bytes maxL own nm ret R n0 hz Q h cells slots (pc + 1) Ls (.long (x - y) :: st)) : OAt W l Z bytes maxL own nm ret R n0 hz Q h cells slots pc Ls (.long y :: .long x :: st) :=
  k.plain fun hh hx hby _ q => XS.lsub hh hx rfl (hb hby hd) rfl q
theorem lmul {x y : Int64} (hd : decode bytes pc = .ok (.lmul, 1)) (k : OAt W l Z bytes maxL own nm ret R n0 hz Q h cells slots (pc + 1) Ls (.long (x * y) :: st)) : OAt W l Z bytes maxL own nm ret R n0 hz Q h cells slots pc Ls (.long y :: .long x :: st) :=
  k.plain fun hh hx hby _ q => XS.lmul hh hx rfl (hb hby hd) rfl q
theorem land {x y : Int64} (hd : decode bytes pc = .ok (.land, 1)) (k : OAt W l Z bytes maxL own nm ret R n0 hz Q h cells slots (pc + 1) Ls (.long (x &&& y) :: st)) : OAt W l Z bytes maxL own nm ret R n0 hz Q h cells slots pc Ls (.long y :: .long x :: st) :=
  k.plain fun hh hx hby _ q => XS.land hh hx rfl (hb hby hd) rfl q
theorem lor {x y : Int64} (hd : decode bytes pc = .ok (.lor, 1)) (k : OAt W l Z bytes maxL own nm ret R n0 hz Q h cells slots (pc + 1) Ls (.long (x ||| y) :: st)) : OAt W l Z bytes maxL own nm ret R n0 hz Q h cells slots pc Ls (.long y :: .long x :: st) :=
  k.plain fun hh hx hby _ q => XS.lor hh hx rfl (hb hby hd) rfl q
theorem lxor {x y : Int64} (hd : decode bytes pc = .ok (.lxor, 1)) (k : OAt W l Z bytes maxL own nm ret R n0 hz Q h cells slots (pc + 1) Ls (.long (x ^^^ y) :: st)) : OAt W l Z bytes maxL own nm ret R n0 hz Q h cells slots pc Ls (.long y :: .long x :: st) :=
  k.plain fun hh hx hby _ q => XS.lxor hh hx rfl (hb hby hd) rfl q
theorem lshl {x : Int64} {y : Int32} (hd : decode bytes pc = .ok (.lshl, 1)) (k : OAt W l Z bytes maxL own nm ret R n0 hz Q h cells slots (pc + 1) Ls (.long (x <<< (y &&& 0x3f).toInt64) :: st)) : OAt W l Z bytes maxL own nm ret R n0 hz Q h cells slots pc Ls (.int y :: .long x :: st) :=
  k.plain fun hh hx hby _ q => XS.lshl hh hx rfl (hb hby hd) rfl q
theorem lshr {x : Int64} {y : Int32} (hd : decode bytes pc = .ok (.lshr, 1)) (k : OAt W l Z bytes maxL own nm ret R n0 hz Q h cells slots (pc + 1) Ls (.long (x >>> (y &&& 0x3f).toInt64) :: st)) : OAt W l Z bytes maxL own nm ret R n0 hz Q h cells slots pc Ls (.int y :: .long x :: st) :=
  k.plain fun hh hx hby _ q => XS.lshr hh hx rfl (hb hby hd) rfl q
theorem lushr {x : Int64} {y : Int32} (hd : decode bytes pc = .ok (.lushr, 1)) (k : OAt W l Z bytes maxL own nm ret R n0 hz Q h cells slots (pc + 1) Ls (.long ((x.toUInt64 >>> (y &&& 0x3f).toInt64.toUInt64).toInt64) :: st)) : OAt W l Z bytes maxL own nm ret R n0 hz Q h cells slots pc Ls (.int y :: .long x :: st) :=
  k.plain fun hh hx hby _ q => XS.lushr hh hx rfl (hb hby hd) rfl q
theorem ldiv {x y : Int64} (hd : decode bytes pc = .ok (.ldiv, 1)) (hy : y ≠ 0) (k : OAt W l Z bytes maxL own nm ret R n0 hz Q h cells slots (pc + 1) Ls (.long (x / y) :: st)) : OAt W l Z bytes maxL own nm ret R n0 hz Q h cells slots pc Ls (.long y :: .long x :: st) :=
  k.plain fun hh hx hby _ q => XS.ldiv hh hx rfl (hb hby hd) rfl hy q
theorem lrem {x y : Int64} (hd : decode bytes pc = .ok (.lrem, 1)) (hy : y ≠ 0) (k : OAt W l Z bytes maxL own nm ret R n0 hz Q h cells slots (pc + 1) Ls (.long (x - (x / y) * y) :: st)) : OAt W l Z bytes maxL own nm ret R n0 hz Q h cells slots pc Ls (.long y :: .long x :: st) :=
  k.plain fun hh hx hby _ q => XS.lrem hh hx rfl (hb hby hd) rfl hy q
theorem ineg {x : Int32} (hd : decode bytes pc = .ok (.ineg, 1)) (k : OAt W l Z bytes maxL own nm ret R n0 hz Q h cells slots (pc + 1) Ls (.int (-x) :: st)) : OAt W l Z bytes maxL own nm ret R n0 hz Q h cells slots pc Ls (.int x :: st) :=
  k.plain fun hh hx hby _ q => XS.ineg hh hx rfl (hb hby hd) rfl q
theorem lneg {x : Int64} (hd : decode bytes pc = .ok (.lneg, 1)) (k : OAt W l Z bytes maxL own nm ret R n0 hz Q h cells slots (pc + 1) Ls (.long (-x) :: st)) : OAt W l Z bytes maxL own nm ret R n0 hz Q h cells slots pc Ls (.long x :: st) :=
  k.plain fun hh hx hby _ q => XS.lneg hh hx rfl (hb hby hd) rfl q
theorem i2l {x : Int32} (hd : decode bytes pc = .ok (.i2l, 1)) (k : OAt W l Z bytes maxL own nm ret R n0 hz Q h cells slots (pc + 1) Ls (.long x.toInt64 :: st)) : OAt W l Z bytes maxL own nm ret R n0 hz Q h cells slots pc Ls (.int x :: st) :=
  k.plain fun hh hx hby _ q => XS.i2l hh hx rfl (hb hby hd) rfl q
theorem l2i {x : Int64} (hd : decode bytes pc = .ok (.l2i, 1)) (k : OAt W l Z bytes maxL own nm ret R n0 hz Q h cells slots (pc + 1) Ls (.int x.toInt32 :: st)) : OAt W l Z bytes maxL own nm ret R n0 hz Q h cells slots pc Ls (.long x :: st) :=
  k.plain fun hh hx hby _ q => XS.l2i hh hx rfl (hb hby hd) rfl q
theorem i2b {x : Int32} (hd : decode bytes pc = .ok (.i2b, 1)) (k : OAt W l Z bytes maxL own nm ret R n0 hz Q h cells slots (pc + 1) Ls (.int x.toInt8.toInt32 :: st)) : OAt W l Z bytes maxL own nm ret R n0 hz Q h cells slots pc Ls (.int x :: st) :=
  k.plain fun hh hx hby _ q => XS.i2b hh hx rfl (hb hby hd) rfl q
theorem i2s {x : Int32} (hd : decode bytes pc = .ok (.i2s, 1)) (k : OAt W l Z bytes maxL own nm ret R n0 hz Q h cells slots (pc + 1) Ls (.int x.toInt16.toInt32 :: st)) : OAt W l Z bytes maxL own nm ret R n0 hz Q h cells slots pc Ls (.int x :: st) :=
  k.plain fun hh hx hby _ q => XS.i2s hh hx rfl (hb hby hd) rfl q
theorem i2c {x : Int32} (hd : decode bytes pc = .ok (.i2c, 1)) (k : OAt W l Z bytes maxL own nm ret R n0 hz Q h cells slots (pc + 1) Ls (.int x.toUInt32.toUInt16.toUInt32.toInt32 :: st)) : OAt W l Z bytes maxL own nm ret R n0 hz Q h cells slots pc Ls (.int x :: st) :=
  k.plain fun hh hx hby _ q => XS.i2c hh hx rfl (hb hby hd) rfl q
theorem lcmp {x y : Int64} (hd : decode bytes pc = .ok (.lcmp, 1)) (k : OAt W l Z bytes maxL own nm ret R n0 hz Q h cells slots (pc + 1) Ls (.int (lcmpV x y) :: st)) : OAt W l Z bytes maxL own nm ret R n0 hz Q h cells slots pc Ls (.long y :: .long x :: st) :=
  k.plain fun hh hx hby _ q => XS.lcmp hh hx rfl (hb hby hd) rfl (by rw [← lcW] at q; exact q)
theorem pop {v : Value} (hd : decode bytes pc = .ok (.pop, 1)) (hc : v.category = 1) (k : OAt W l Z bytes maxL own nm ret R n0 hz Q h cells slots (pc + 1) Ls st) : OAt W l Z bytes maxL own nm ret R n0 hz Q h cells slots pc Ls (v :: st) :=
  k.plain fun hh hx hby _ q => XS.pop hh hx rfl (hb hby hd) rfl hc q
theorem dup {v : Value} (hd : decode bytes pc = .ok (.dup, 1)) (hc : v.category = 1) (k : OAt W l Z bytes maxL own nm ret R n0 hz Q h cells slots (pc + 1) Ls (v :: v :: st)) : OAt W l Z bytes maxL own nm ret R n0 hz Q h cells slots pc Ls (v :: st) :=
  k.plain fun hh hx hby _ q => XS.dup hh hx rfl (hb hby hd) rfl hc q
theorem dupX1 {v w : Value} (hd : decode bytes pc = .ok (.dup_x1, 1)) (hc : v.category = 1) (hc' : w.category = 1) (k : OAt W l Z bytes maxL own nm ret R n0 hz Q h cells slots (pc + 1) Ls (v :: w :: v :: st)) : OAt W l Z bytes maxL own nm ret R n0 hz Q h cells slots pc Ls (v :: w :: st) :=
  k.plain fun hh hx hby _ q => XS.dupX1 hh hx rfl (hb hby hd) rfl hc hc' q
theorem dup2 {v w : Value} (hd : decode bytes pc = .ok (.dup2, 1)) (hc : v.category = 1) (hc' : w.category = 1) (k : OAt W l Z bytes maxL own nm ret R n0 hz Q h cells slots (pc + 1) Ls (v :: w :: v :: w :: st)) : OAt W l Z bytes maxL own nm ret R n0 hz Q h cells slots pc Ls (v :: w :: st) :=
  k.plain fun hh hx hby _ q => Jvm.Free.XT.dup2 hh hx rfl (hb hby hd) rfl hc hc' q
theorem dup2L {x : Int64} (hd : decode bytes pc = .ok (.dup2, 1)) (k : OAt W l Z bytes maxL own nm ret R n0 hz Q h cells slots (pc + 1) Ls (.long x :: .long x :: st)) : OAt W l Z bytes maxL own nm ret R n0 hz Q h cells slots pc Ls (.long x :: st) :=
  k.plain fun hh hx hby _ q => Jvm.Free.XT.dup2L hh hx rfl (hb hby hd) rfl q
theorem goto_ {o : Int} (pc' : Nat) (hd : decode bytes pc = .ok (.goto o, 3)) (ho : 0 ≤ (pc : Int) + o) (hp : ((pc : Int) + o).toNat = pc') (k : OAt W l Z bytes maxL own nm ret R n0 hz Q h cells slots pc' Ls st) : OAt W l Z bytes maxL own nm ret R n0 hz Q h cells slots pc Ls st :=
  k.plain fun hh hx hby _ q => XS.goto hh hx rfl rfl (hb hby hd) ho hp q
theorem icmp_eq {x y : Int32} {o : Int} (pc' : Nat) (hd : decode bytes pc = .ok (.if_icmp .eq o, 3)) (ho : 0 ≤ (pc : Int) + o) (hp : ((pc : Int) + o).toNat = pc') (kt : x = y → OAt W l Z bytes maxL own nm ret R n0 hz Q h cells slots pc' Ls st) (kf : ¬ x = y → OAt W l Z bytes maxL own nm ret R n0 hz Q h cells slots (pc + 3) Ls st) : OAt W l Z bytes maxL own nm ret R n0 hz Q h cells slots pc Ls (.int y :: .int x :: st) := by
  by_cases hc : x = y
  · exact (kt hc).plain fun hh hx hby _ q => XS.icmpYes hh hx rfl rfl (hb hby hd) rfl (teq hc).1 ho hp q
  · exact (kf hc).plain fun hh hx hby _ q => XS.icmpNo hh hx rfl (hb hby hd) rfl (feq hc).1 q
theorem if_eq {x : Int32} {o : Int} (pc' : Nat) (hd : decode bytes pc = .ok (.ifCond .eq o, 3)) (ho : 0 ≤ (pc : Int) + o) (hp : ((pc : Int) + o).toNat = pc') (kt : x = (0 : Int32) → OAt W l Z bytes maxL own nm ret R n0 hz Q h cells slots pc' Ls st) (kf : ¬ x = (0 : Int32) → OAt W l Z bytes maxL own nm ret R n0 hz Q h cells slots (pc + 3) Ls st) : OAt W l Z bytes maxL own nm ret R n0 hz Q h cells slots pc Ls (.int x :: st) := by
  by_cases hc : x = (0 : Int32)
  · exact (kt hc).plain fun hh hx hby _ q => XS.ifYes hh hx rfl rfl (hb hby hd) rfl ((if0 _ _).trans (teq hc).1) ho hp q
  · exact (kf hc).plain fun hh hx hby _ q => XS.ifNo hh hx rfl (hb hby hd) rfl ((if0 _ _).trans (feq hc).1) q
theorem icmp_ne {x y : Int32} {o : Int} (pc' : Nat) (hd : decode bytes pc = .ok (.if_icmp .ne o, 3)) (ho : 0 ≤ (pc : Int) + o) (hp : ((pc : Int) + o).toNat = pc') (kt : ¬ x = y → OAt W l Z bytes maxL own nm ret R n0 hz Q h cells slots pc' Ls st) (kf : x = y → OAt W l Z bytes maxL own nm ret R n0 hz Q h cells slots (pc + 3) Ls st) : OAt W l Z bytes maxL own nm ret R n0 hz Q h cells slots pc Ls (.int y :: .int x :: st) := by
  by_cases hc : ¬ x = y
  · exact (kt hc).plain fun hh hx hby _ q => XS.icmpYes hh hx rfl rfl (hb hby hd) rfl (feq hc).2 ho hp q
  · have hc' := Classical.not_not.mp hc; exact (kf hc').plain fun hh hx hby _ q => XS.icmpNo hh hx rfl (hb hby hd) rfl (teq hc').2 q
theorem if_ne {x : Int32} {o : Int} (pc' : Nat) (hd : decode bytes pc = .ok (.ifCond .ne o, 3)) (ho : 0 ≤ (pc : Int) + o) (hp : ((pc : Int) + o).toNat = pc') (kt : ¬ x = (0 : Int32) → OAt W l Z bytes maxL own nm ret R n0 hz Q h cells slots pc' Ls st) (kf : x = (0 : Int32) → OAt W l Z bytes maxL own nm ret R n0 hz Q h cells slots (pc + 3) Ls st) : OAt W l Z bytes maxL own nm ret R n0 hz Q h cells slots pc Ls (.int x :: st) := by
  by_cases hc : ¬ x = (0 : Int32)
  · exact (kt hc).plain fun hh hx hby _ q => XS.ifYes hh hx rfl rfl (hb hby hd) rfl ((if0 _ _).trans (feq hc).2) ho hp q
  · have hc' := Classical.not_not.mp hc; exact (kf hc').plain fun hh hx hby _ q => XS.ifNo hh hx rfl (hb hby hd) rfl ((if0 _ _).trans (teq hc').2) q
theorem icmp_lt {x y : Int32} {o : Int} (pc' : Nat) (hd : decode bytes pc = .ok (.if_icmp .lt o, 3)) (ho : 0 ≤ (pc : Int) + o) (hp : ((pc : Int) + o).toNat = pc') (kt : x < y → OAt W l Z bytes maxL own nm ret R n0 hz Q h cells slots pc' Ls st) (kf : ¬ x < y → OAt W l Z bytes maxL own nm ret R n0 hz Q h cells slots (pc + 3) Ls st) : OAt W l Z bytes maxL own nm ret R n0 hz Q h cells slots pc Ls (.int y :: .int x :: st) := by
  by_cases hc : x < y
  · exact (kt hc).plain fun hh hx hby _ q => XS.icmpYes hh hx rfl rfl (hb hby hd) rfl (tlt hc).1 ho hp q
  · exact (kf hc).plain fun hh hx hby _ q => XS.icmpNo hh hx rfl (hb hby hd) rfl (flt hc).1 q
theorem if_lt {x : Int32} {o : Int} (pc' : Nat) (hd : decode bytes pc = .ok (.ifCond .lt o, 3)) (ho : 0 ≤ (pc : Int) + o) (hp : ((pc : Int) + o).toNat = pc') (kt : x < (0 : Int32) → OAt W l Z bytes maxL own nm ret R n0 hz Q h cells slots pc' Ls st) (kf : ¬ x < (0 : Int32) → OAt W l Z bytes maxL own nm ret R n0 hz Q h cells slots (pc + 3) Ls st) : OAt W l Z bytes maxL own nm ret R n0 hz Q h cells slots pc Ls (.int x :: st) := by
  by_cases hc : x < (0 : Int32)
  · exact (kt hc).plain fun hh hx hby _ q => XS.ifYes hh hx rfl rfl (hb hby hd) rfl ((if0 _ _).trans (tlt hc).1) ho hp q
  · exact (kf hc).plain fun hh hx hby _ q => XS.ifNo hh hx rfl (hb hby hd) rfl ((if0 _ _).trans (flt hc).1) q
theorem icmp_ge {x y : Int32} {o : Int} (pc' : Nat) (hd : decode bytes pc = .ok (.if_icmp .ge o, 3)) (ho : 0 ≤ (pc : Int) + o) (hp : ((pc : Int) + o).toNat = pc') (kt : ¬ x < y → OAt W l Z bytes maxL own nm ret R n0 hz Q h cells slots pc' Ls st) (kf : x < y → OAt W l Z bytes maxL own nm ret R n0 hz Q h cells slots (pc + 3) Ls st) : OAt W l Z bytes maxL own nm ret R n0 hz Q h cells slots pc Ls (.int y :: .int x :: st) := by
  by_cases hc : ¬ x < y
  · exact (kt hc).plain fun hh hx hby _ q => XS.icmpYes hh hx rfl rfl (hb hby hd) rfl (flt hc).2.1 ho hp q
  · have hc' := Classical.not_not.mp hc; exact (kf hc').plain fun hh hx hby _ q => XS.icmpNo hh hx rfl (hb hby hd) rfl (tlt hc').2.1 q
theorem if_ge {x : Int32} {o : Int} (pc' : Nat) (hd : decode bytes pc = .ok (.ifCond .ge o, 3)) (ho : 0 ≤ (pc : Int) + o) (hp : ((pc : Int) + o).toNat = pc') (kt : ¬ x < (0 : Int32) → OAt W l Z bytes maxL own nm ret R n0 hz Q h cells slots pc' Ls st) (kf : x < (0 : Int32) → OAt W l Z bytes maxL own nm ret R n0 hz Q h cells slots (pc + 3) Ls st) : OAt W l Z bytes maxL own nm ret R n0 hz Q h cells slots pc Ls (.int x :: st) := by
  by_cases hc : ¬ x < (0 : Int32)
  · exact (kt hc).plain fun hh hx hby _ q => XS.ifYes hh hx rfl rfl (hb hby hd) rfl ((if0 _ _).trans (flt hc).2.1) ho hp q
  · have hc' := Classical.not_not.mp hc; exact (kf hc').plain fun hh hx hby _ q => XS.ifNo hh hx rfl (hb hby hd) rfl ((if0 _ _).trans (tlt hc').2.1) q
theorem icmp_gt {x y : Int32} {o : Int} (pc' : Nat) (hd : decode bytes pc = .ok (.if_icmp .gt o, 3)) (ho : 0 ≤ (pc : Int) + o) (hp : ((pc : Int) + o).toNat = pc') (kt : y < x → OAt W l Z bytes maxL own nm ret R n0 hz Q h cells slots pc' Ls st) (kf : ¬ y < x → OAt W l Z bytes maxL own nm ret R n0 hz Q h cells slots (pc + 3) Ls st) : OAt W l Z bytes maxL own nm ret R n0 hz Q h cells slots pc Ls (.int y :: .int x :: st) := by
  by_cases hc : y < x
  · exact (kt hc).plain fun hh hx hby _ q => XS.icmpYes hh hx rfl rfl (hb hby hd) rfl (tlt hc).2.2.1 ho hp q
  · exact (kf hc).plain fun hh hx hby _ q => XS.icmpNo hh hx rfl (hb hby hd) rfl (flt hc).2.2.1 q
theorem if_gt {x : Int32} {o : Int} (pc' : Nat) (hd : decode bytes pc = .ok (.ifCond .gt o, 3)) (ho : 0 ≤ (pc : Int) + o) (hp : ((pc : Int) + o).toNat = pc') (kt : (0 : Int32) < x → OAt W l Z bytes maxL own nm ret R n0 hz Q h cells slots pc' Ls st) (kf : ¬ (0 : Int32) < x → OAt W l Z bytes maxL own nm ret R n0 hz Q h cells slots (pc + 3) Ls st) : OAt W l Z bytes maxL own nm ret R n0 hz Q h cells slots pc Ls (.int x :: st) := by
  by_cases hc : (0 : Int32) < x
  · exact (kt hc).plain fun hh hx hby _ q => XS.ifYes hh hx rfl rfl (hb hby hd) rfl ((if0 _ _).trans (tlt hc).2.2.1) ho hp q
  · exact (kf hc).plain fun hh hx hby _ q => XS.ifNo hh hx rfl (hb hby hd) rfl ((if0 _ _).trans (flt hc).2.2.1) q
theorem icmp_le {x y : Int32} {o : Int} (pc' : Nat) (hd : decode bytes pc = .ok (.if_icmp .le o, 3)) (ho : 0 ≤ (pc : Int) + o) (hp : ((pc : Int) + o).toNat = pc') (kt : ¬ y < x → OAt W l Z bytes maxL own nm ret R n0 hz Q h cells slots pc' Ls st) (kf : y < x → OAt W l Z bytes maxL own nm ret R n0 hz Q h cells slots (pc + 3) Ls st) : OAt W l Z bytes maxL own nm ret R n0 hz Q h cells slots pc Ls (.int y :: .int x :: st) := by
  by_cases hc : ¬ y < x
  · exact (kt hc).plain fun hh hx hby _ q => XS.icmpYes hh hx rfl rfl (hb hby hd) rfl (flt hc).2.2.2 ho hp q
  · have hc' := Classical.not_not.mp hc; exact (kf hc').plain fun hh hx hby _ q => XS.icmpNo hh hx rfl (hb hby hd) rfl (tlt hc').2.2.2 q
theorem if_le {x : Int32} {o : Int} (pc' : Nat) (hd : decode bytes pc = .ok (.ifCond .le o, 3)) (ho : 0 ≤ (pc : Int) + o) (hp : ((pc : Int) + o).toNat = pc') (kt : ¬ (0 : Int32) < x → OAt W l Z bytes maxL own nm ret R n0 hz Q h cells slots pc' Ls st) (kf : (0 : Int32) < x → OAt W l Z bytes maxL own nm ret R n0 hz Q h cells slots (pc + 3) Ls st) : OAt W l Z bytes maxL own nm ret R n0 hz Q h cells slots pc Ls (.int x :: st) := by
  by_cases hc : ¬ (0 : Int32) < x
  · exact (kt hc).plain fun hh hx hby _ q => XS.ifYes hh hx rfl rfl (hb hby hd) rfl ((if0 _ _).trans (flt hc).2.2.2) ho hp q
  · have hc' := Classical.not_not.mp hc; exact (kf hc').plain fun hh hx hby _ q => XS.ifNo hh hx rfl (hb hby hd) rfl ((if0 _ _).trans (tlt hc').2.2.2) q
theorem ifnullYes {o : Int} (pc' : Nat) (hd : decode bytes pc = .ok (.ifnull o, 3)) (ho : 0 ≤ (pc : Int) + o) (hp : ((pc : Int) + o).toNat = pc') (k : OAt W l Z bytes maxL own nm ret R n0 hz Q h cells slots pc' Ls st) : OAt W l Z bytes maxL own nm ret R n0 hz Q h cells slots pc Ls (.null :: st) :=
  k.plain fun hh hx hby _ q => XS.ifnullYes hh hx rfl rfl (hb hby hd) rfl ho hp q
theorem ifnullNo {b : Addr} {o : Int} (hd : decode bytes pc = .ok (.ifnull o, 3)) (k : OAt W l Z bytes maxL own nm ret R n0 hz Q h cells slots (pc + 3) Ls st) : OAt W l Z bytes maxL own nm ret R n0 hz Q h cells slots pc Ls (.ref b :: st) :=
  k.plain fun hh hx hby _ q => XS.ifnullNo hh hx rfl (hb hby hd) rfl q
theorem ifnonnullYes {b : Addr} {o : Int} (pc' : Nat) (hd : decode bytes pc = .ok (.ifnonnull o, 3)) (ho : 0 ≤ (pc : Int) + o) (hp : ((pc : Int) + o).toNat = pc') (k : OAt W l Z bytes maxL own nm ret R n0 hz Q h cells slots pc' Ls st) : OAt W l Z bytes maxL own nm ret R n0 hz Q h cells slots pc Ls (.ref b :: st) :=
  k.plain fun hh hx hby _ q => XS.ifnonnullYes hh hx rfl rfl (hb hby hd) rfl ho hp q
theorem ifnonnullNo {o : Int} (hd : decode bytes pc = .ok (.ifnonnull o, 3)) (k : OAt W l Z bytes maxL own nm ret R n0 hz Q h cells slots (pc + 3) Ls st) : OAt W l Z bytes maxL own nm ret R n0 hz Q h cells slots pc Ls (.null :: st) :=
  k.plain fun hh hx hby _ q => XS.ifnonnullNo hh hx rfl (hb hby hd) rfl q
theorem acmp_eq {x y : Value} {o : Int} (pc' : Nat) (hd : decode bytes pc = .ok (.if_acmp .eq o, 3)) (ho : 0 ≤ (pc : Int) + o) (hp : ((pc : Int) + o).toNat = pc') (hx' : x.isRef = true) (hy' : y.isRef = true) (kt : x = y → OAt W l Z bytes maxL own nm ret R n0 hz Q h cells slots pc' Ls st) (kf : ¬ x = y → OAt W l Z bytes maxL own nm ret R n0 hz Q h cells slots (pc + 3) Ls st) : OAt W l Z bytes maxL own nm ret R n0 hz Q h cells slots pc Ls (y :: x :: st) := by
  by_cases hc : x = y
  · exact (kt hc).plain fun hh hx hby _ q => Jvm.Free.XT.acmpYes hh hx rfl rfl (hb hby hd) rfl hx' hy' (Jvm.Free.XT.aa_eq_t hc) ho hp q
  · exact (kf hc).plain fun hh hx hby _ q => Jvm.Free.XT.acmpNo hh hx rfl (hb hby hd) rfl hx' hy' (Jvm.Free.XT.aa_eq_f hc) q
theorem acmp_ne {x y : Value} {o : Int} (pc' : Nat) (hd : decode bytes pc = .ok (.if_acmp .ne o, 3)) (ho : 0 ≤ (pc : Int) + o) (hp : ((pc : Int) + o).toNat = pc') (hx' : x.isRef = true) (hy' : y.isRef = true) (kt : ¬ x = y → OAt W l Z bytes maxL own nm ret R n0 hz Q h cells slots pc' Ls st) (kf : x = y → OAt W l Z bytes maxL own nm ret R n0 hz Q h cells slots (pc + 3) Ls st) : OAt W l Z bytes maxL own nm ret R n0 hz Q h cells slots pc Ls (y :: x :: st) := by
  by_cases hc : ¬ x = y
  · exact (kt hc).plain fun hh hx hby _ q => Jvm.Free.XT.acmpYes hh hx rfl rfl (hb hby hd) rfl hx' hy' (Jvm.Free.XT.aa_ne_t hc) ho hp q
  · have hc' := Classical.not_not.mp hc; exact (kf hc').plain fun hh hx hby _ q => Jvm.Free.XT.acmpNo hh hx rfl (hb hby hd) rfl hx' hy' (Jvm.Free.XT.aa_ne_f hc') q
theorem irem_ {x y : Int32} (hd : decode bytes pc = .ok (.irem, 1)) (hy : y ≠ 0) (k : OAt W l Z bytes maxL own nm ret R n0 hz Q h cells slots (pc + 1) Ls (.int (x % y) :: st)) : OAt W l Z bytes maxL own nm ret R n0 hz Q h cells slots pc Ls (.int y :: .int x :: st) :=
  k.warm fun C X e => ⟨_, X, e, fun _ q => iremM X C.1 rfl (hb C.2.1 hd) rfl hy q⟩
theorem ldcInt {v : Int32} {i : Nat} (w : (Jvm.Cond.constant own i v).before a0 Z = true) (hd : decode bytes pc = .ok (.ldc i, 2)) (k : OAt W l Z bytes maxL own nm ret R n0 hz Q h cells slots (pc + 2) Ls (.int v :: st)) : OAt W l Z bytes maxL own nm ret R n0 hz Q h cells slots pc Ls st :=
  k.warm fun C X e => ⟨_, X, e, fun _ q => X.ldcI C.1 C.2.2.2.2.2.2.2 (mvT C.2.2.2.2.2.2.1 w) rfl (hb C.2.1 hd) q⟩
theorem ldcWInt {v : Int32} {i : Nat} (w : (Jvm.Cond.constant own i v).before a0 Z = true) (hd : decode bytes pc = .ok (.ldc_w i, 3)) (k : OAt W l Z bytes maxL own nm ret R n0 hz Q h cells slots (pc + 3) Ls (.int v :: st)) : OAt W l Z bytes maxL own nm ret R n0 hz Q h cells slots pc Ls st :=
  k.warm fun C X e => ⟨_, X, e, fun _ q => X.ldcWI C.1 C.2.2.2.2.2.2.2 (mvT C.2.2.2.2.2.2.1 w) rfl (hb C.2.1 hd) q⟩
theorem ldc2Long {v : Int64} {i : Nat} (w : (Jvm.Cond.constantLong own i v).before a0 Z = true) (hd : decode bytes pc = .ok (.ldc2_w i, 3)) (k : OAt W l Z bytes maxL own nm ret R n0 hz Q h cells slots (pc + 3) Ls (.long v :: st)) : OAt W l Z bytes maxL own nm ret R n0 hz Q h cells slots pc Ls st :=
  k.warm fun C X e => ⟨_, X, e, fun _ q => X.ldc2J C.1 C.2.2.2.2.2.2.2 (mvT C.2.2.2.2.2.2.1 w) rfl (hb C.2.1 hd) q⟩
/-! returns -/
theorem ret_int {z : Int32} (hret : ret = some .int) (hd : decode bytes pc = .ok (.ireturn, 1)) (hc : cells ≤ R.cells) (hn : slots ≤ R.slots) (hq : Q (some (.int z)) h) : OAt W l Z bytes maxL own nm ret R n0 hz Q h cells slots pc Ls (.int z :: st) :=
  OAt.done (by rw [hret]; nofun) hq hc hn fun C X hl => retOut X C.1 (t := .int) (C.2.2.2.1.trans hret) rfl (Or.inl ⟨rfl, Or.inl rfl, z, rfl⟩) (hb C.2.1 hd) hl
theorem ret_nar {z : Int32} {t : FieldType} (ht : t = .boolean ∨ t = .byte ∨ t = .char ∨ t = .short) (hret : ret = some t) (hd : decode bytes pc = .ok (.ireturn, 1)) (hc : cells ≤ R.cells) (hn : slots ≤ R.slots) (hq : Q (some (.int (nar t z))) h) : OAt W l Z bytes maxL own nm ret R n0 hz Q h cells slots pc Ls (.int z :: st) :=
  OAt.done (by rw [hret]; nofun) hq hc hn fun C X hl => retN X C.1 (C.2.2.2.1.trans hret) ht (hb C.2.1 hd) hl
theorem ret_long {z : Int64} (hret : ret = some .long) (hd : decode bytes pc = .ok (.lreturn, 1)) (hc : cells ≤ R.cells) (hn : slots ≤ R.slots) (hq : Q (some (.long z)) h) : OAt W l Z bytes maxL own nm ret R n0 hz Q h cells slots pc Ls (.long z :: st) :=
  OAt.done (by rw [hret]; nofun) hq hc hn fun C X hl => retOut X C.1 (t := .long) (C.2.2.2.1.trans hret) rfl (Or.inr (Or.inl ⟨rfl, rfl, z, rfl⟩)) (hb C.2.1 hd) hl
theorem ret_ref {v : Value} {t : FieldType} (hv : v.isRef = true) (ht : t.isReference = true) (hret : ret = some t) (hd : decode bytes pc = .ok (.areturn, 1)) (hc : cells ≤ R.cells) (hn : slots ≤ R.slots) (hq : Q (some v) h) : OAt W l Z bytes maxL own nm ret R n0 hz Q h cells slots pc Ls (v :: st) :=
  OAt.done (by rw [hret]; nofun) hq hc hn fun C X hl => retOut X C.1 (t := t) (C.2.2.2.1.trans hret) (by rcases ref_cases hv with rfl | ⟨a, rfl⟩ <;> cases t <;> first | rfl | (simp [FieldType.isReference] at ht)) (Or.inr (Or.inr (Or.inr (Or.inr ⟨rfl, ht, hv⟩)))) (hb C.2.1 hd) hl
theorem ret_void (hret : ret = none) (hd : decode bytes pc = .ok (.return_, 1)) (hc : cells ≤ R.cells) (hn : slots ≤ R.slots) (hq : Q none h) : OAt W l Z bytes maxL own nm ret R n0 hz Q h cells slots pc Ls [] :=
  OAt.done (fun _ => rfl) hq hc hn fun C X hl => X.returnOut C.1 (C.2.2.2.1.trans hret) (hb C.2.1 hd) hl

theorem Cx.exec {p : Program} {vm0 : Vm} {m : MethodId} {meth : Method} {c : Code} (C : Cx Z bytes maxL own nm ret p vm0 m meth c) : p.tables.exec = Jvm.exec := C.1
theorem Cx.by {p : Program} {vm0 : Vm} {m : MethodId} {meth : Method} {c : Code} (C : Cx Z bytes maxL own nm ret p vm0 m meth c) : c.code = bytes := C.2.1
theorem Cx.ml {p : Program} {vm0 : Vm} {m : MethodId} {meth : Method} {c : Code} (C : Cx Z bytes maxL own nm ret p vm0 m meth c) : c.maxLocals = maxL := C.2.2.1
theorem Cx.name {p : Program} {vm0 : Vm} {m : MethodId} {meth : Method} {c : Code} (C : Cx Z bytes maxL own nm ret p vm0 m meth c) : meth.name = nm := C.2.2.2.2.2.1
theorem Cx.zz {p : Program} {vm0 : Vm} {m : MethodId} {meth : Method} {c : Code} (C : Cx Z bytes maxL own nm ret p vm0 m meth c) : Z.Warmed39 vm0 := C.2.2.2.2.2.2.1
theorem Cx.ow {p : Program} {vm0 : Vm} {m : MethodId} {meth : Method} {c : Code} (C : Cx Z bytes maxL own nm ret p vm0 m meth c) : vm0.findClass own = some m.cls := C.2.2.2.2.2.2.2
/-! objects and fields -/
theorem new_ {C : String} {i n : Nat} (w : (Jvm.Cond.classLink own i C).before a0 Z = true) (wi : (Jvm.Cond.instantiable C n).before a0 Z = true) (wz : (Jvm.Cond.initialized C).before a0 Z = true) (hd : decode bytes pc = .ok (.new i, 3)) (hc : cells + 1 ≤ R.cells) (hl : slots + n ≤ R.slots)
    (k : ∀ (h' : Heap) (a : Addr), a = h.size → Ext h h' → Exa Z h' a C → (∀ {O f d : String} {ty : FieldType}, Laid Z a0 C O f d → parseFieldDescriptor d = some ty → Fld Z h' a O f d (defaultValue ty)) → OAt W l Z bytes maxL own nm ret R n0 hz Q h' (cells + 1) (slots + n) (pc + 3) Ls (.ref a :: st)) : OAt W l Z bytes maxL own nm ret R n0 hz Q h cells slots pc Ls st :=
  OAt.move (P := fun h' => Ext h h' ∧ Exa Z h' h.size C ∧ ∀ {O f d : String} {ty : FieldType}, Laid Z a0 C O f d → parseFieldDescriptor d = some ty → Fld Z h' h.size O f d (defaultValue ty)) (st' := fun _ => .ref h.size :: st) (fun _ q => q.1.1) (fun h' q => k h' _ rfl q.1 q.2.1 q.2.2) fun C X e N => by
    obtain ⟨T', h', X', e', E, A, D, -, g⟩ := newO X C.exec C.zz C.ow w wi wz e (g := mkF _ pc Ls st) rfl (hb C.by hd) hc hl
    exact ⟨T', h', _, X', e', N, ⟨E, A, D⟩, g⟩
theorem getF_ {R0 O f d host : String} {i : Nat} {a : Addr} {v : Value} (w : (Jvm.Cond.fieldLink own i R0 f d).before a0 Z = true ∨ (Jvm.Cond.fieldLinkNest own i R0 f d host).before a0 Z = true) (via : Via Z R0 O f d) (F : Fld Z h a O f d v) (hd : decode bytes pc = .ok (.getfield i, 3)) (k : OAt W l Z bytes maxL own nm ret R n0 hz Q h cells slots (pc + 3) Ls (v :: st)) : OAt W l Z bytes maxL own nm ret R n0 hz Q h cells slots pc Ls (.ref a :: st) :=
  k.warm fun C X e => Jvm.RoadKit.getF X C.exec C.zz C.ow w via e F (g := mkF _ pc Ls (.ref a :: st)) rfl rfl (hb C.by hd)
theorem getS_ {R0 O f d host : String} {i : Nat} {v : Value} (w : (Jvm.Cond.fieldLink own i R0 f d).before a0 Z = true ∨ (Jvm.Cond.fieldLinkNest own i R0 f d host).before a0 Z = true) (via : Via Z R0 O f d) (F : Sta Z h O f d v) (hd : decode bytes pc = .ok (.getstatic i, 3)) (k : OAt W l Z bytes maxL own nm ret R n0 hz Q h cells slots (pc + 3) Ls (v :: st)) : OAt W l Z bytes maxL own nm ret R n0 hz Q h cells slots pc Ls st :=
  k.warm fun C X e => getS2 X C.exec C.zz C.ow w via e F (g := mkF _ pc Ls st) rfl (hb C.by hd)
theorem putF_ {R0 O f d host K : String} {i kk : Nat} {ty : FieldType} {a : Addr} {v old : Value} (w : (Jvm.Cond.fieldLink own i R0 f d).before a0 Z = true ∨ (Jvm.Cond.fieldLinkNest own i R0 f d host).before a0 Z = true) (via : Via Z R0 O f d) (F : Fld Z h a O f d old) (E : Exa Z h a K)
    (L : (Jvm.Cond.lays K O f d).before a0 Z = true ∨ ((Jvm.Cond.laysFinal K O f d).before a0 Z = true ∧ own = O ∧ nm = "<init>")) (wi : (Jvm.Cond.instantiable K kk).before a0 Z = true) (hty : parseFieldDescriptor d = some ty) (hn : narrow ty v = v) (hf : fits ty v = true) (ha : n0 ≤ a) (hd : decode bytes pc = .ok (.putfield i, 3))
    (k : ∀ h', Wr h h' a (Jvm.RoadKit.slotOf Z O f d) v → OAt W l Z bytes maxL own nm ret R n0 hz Q h' cells slots (pc + 3) Ls st) : OAt W l Z bytes maxL own nm ret R n0 hz Q h cells slots pc Ls (v :: .ref a :: st) :=
  OAt.move (P := fun h' => Wr h h' a (Jvm.RoadKit.slotOf Z O f d) v) (st' := fun _ => st) (fun _ q => Nat.le_of_eq q.size.symm) k fun C X e N => by
    obtain ⟨T', h', X', e', W', g⟩ := putF X C.exec C.zz C.ow w via e F E (L.imp id fun q => ⟨q.1, q.2.1, C.name.trans q.2.2⟩) wi hty hn hf (g := mkF _ pc Ls (v :: .ref a :: st)) rfl rfl (hb C.by hd)
    exact ⟨T', h', _, X', e', Fr.snoc X' N ha, W', g⟩
theorem putFN_ {R0 O f d K : String} {i kk : Nat} {ty : FieldType} {a : Addr} {v v' old : Value} (w : (Jvm.Cond.fieldLink own i R0 f d).before a0 Z = true) (via : Via Z R0 O f d) (F : Fld Z h a O f d old) (E : Exa Z h a K)
    (L : (Jvm.Cond.lays K O f d).before a0 Z = true ∨ ((Jvm.Cond.laysFinal K O f d).before a0 Z = true ∧ own = O ∧ nm = "<init>")) (wi : (Jvm.Cond.instantiable K kk).before a0 Z = true) (hty : parseFieldDescriptor d = some ty) (hn : narrow ty v = v') (hf : fits ty v' = true) (ha : n0 ≤ a) (hd : decode bytes pc = .ok (.putfield i, 3))
    (k : ∀ h', Wr h h' a (Jvm.RoadKit.slotOf Z O f d) v' → OAt W l Z bytes maxL own nm ret R n0 hz Q h' cells slots (pc + 3) Ls st) : OAt W l Z bytes maxL own nm ret R n0 hz Q h cells slots pc Ls (v :: .ref a :: st) :=
  OAt.move (P := fun h' => Wr h h' a (Jvm.RoadKit.slotOf Z O f d) v') (st' := fun _ => st) (fun _ q => Nat.le_of_eq q.size.symm) k fun C X e N => by
    obtain ⟨T', h', X', e', W', g⟩ := putFN X C.exec C.zz C.ow w via e F E (L.imp id fun q => ⟨q.1, q.2.1, C.name.trans q.2.2⟩) wi hty hn hf (g := mkF _ pc Ls (v :: .ref a :: st)) rfl rfl (hb C.by hd)
    exact ⟨T', h', _, X', e', Fr.snoc X' N ha, W', g⟩
theorem initO_ {i : Nat} {a : Addr} (w1 : (Jvm.Cond.methodLink own i Lib.objectInit).before a0 Z = true) (w2 : (Jvm.Cond.instanceMethod Lib.objectInit).before a0 Z = true) (w3 : (Jvm.Cond.code Lib.objectInit ⟨#[0xb1]⟩ 1 none).before a0 Z = true) (hd : decode bytes pc = .ok (.invokespecial i, 3)) (hs : Ls.size = maxL) (hf : 1 ≤ R.frames)
    (wt : Nat) (hW : (st.map fun v => v.category).sum = wt) (hl : wt + 12 ≤ R.locals) (k : OAt W l Z bytes maxL own nm ret R n0 hz Q h cells slots (pc + 3) Ls st) : OAt W l Z bytes maxL own nm ret R n0 hz Q h cells slots pc Ls (.ref a :: st) :=
  k.warm fun C X e => initO X C.exec C.zz C.ow w1 w2 w3 e (g := mkF _ pc Ls (.ref a :: st)) rfl (by rw [C.ml]; exact hs) rfl (hb C.by hd) hf (W := wt) (by show 2 * 0 + _ ≤ _; rw [hW]; omega) hl
theorem castY_ {K : String} {i : Nat} {a : Addr} (w : (Jvm.Cond.classLink own i K).before a0 Z = true) (F : Ins Z h a K true) (hd : decode bytes pc = .ok (.checkcast i, 3)) (k : OAt W l Z bytes maxL own nm ret R n0 hz Q h cells slots (pc + 3) Ls (.ref a :: st)) : OAt W l Z bytes maxL own nm ret R n0 hz Q h cells slots pc Ls (.ref a :: st) :=
  k.warm fun C X e => castY X C.exec C.zz C.ow w e F (g := mkF _ pc Ls (.ref a :: st)) rfl rfl (hb C.by hd)
theorem castNull {i : Nat} (hd : decode bytes pc = .ok (.checkcast i, 3)) (k : OAt W l Z bytes maxL own nm ret R n0 hz Q h cells slots (pc + 3) Ls (.null :: st)) : OAt W l Z bytes maxL own nm ret R n0 hz Q h cells slots pc Ls (.null :: st) :=
  k.warm fun C X e => ⟨_, X, e, X.checkcastNull C.exec (g := mkF _ pc Ls (.null :: st)) rfl rfl (hb C.by hd)⟩
theorem instY_ {K : String} {i : Nat} {a : Addr} (w : (Jvm.Cond.classLink own i K).before a0 Z = true) (F : Ins Z h a K true) (hd : decode bytes pc = .ok (.instanceof i, 3)) (k : OAt W l Z bytes maxL own nm ret R n0 hz Q h cells slots (pc + 3) Ls (.int 1 :: st)) : OAt W l Z bytes maxL own nm ret R n0 hz Q h cells slots pc Ls (.ref a :: st) :=
  k.warm fun C X e => instY X C.exec C.zz C.ow w e F (g := mkF _ pc Ls (.ref a :: st)) rfl rfl (hb C.by hd)
/-! arrays: a list of what they hold -/
def Arl (Z : State) (h : Heap) (a : Addr) (k : ClassId) (ty : FieldType) (vs : List Value) : Prop := ∃ c : Cell, Arr Z h a c ty ∧ c.cls = k ∧ c.slots.toList = vs ∧ vs.length < 2 ^ 31 ∧ ∀ v ∈ vs, fits ty v = true
section Arl
variable {a b : Addr} {ka : ClassId} {ty : FieldType} {vs : List Value} {v : Value} {sl : Nat} {ws : List Addr}
theorem Arl.lt (F : Arl Z h a ka ty vs) : a < h.size := by obtain ⟨c, A, -⟩ := F; exact A.lt
theorem Arl.len (F : Arl Z h a ka ty vs) : vs.length < 2 ^ 31 := by obtain ⟨c, -, -, -, q, -⟩ := F; exact q
theorem Arl.fits (F : Arl Z h a ka ty vs) : ∀ v ∈ vs, Jvm.fits ty v = true := by obtain ⟨c, -, -, -, -, q⟩ := F; exact q
theorem Arl.ext (F : Arl Z h a ka ty vs) (E : Ext h h') : Arl Z h' a ka ty vs := by obtain ⟨c, A, r⟩ := F; exact ⟨c, A.ext E, r⟩
theorem Arl.other (F : Arl Z h b ka ty vs) (W : Wr h h' a sl v) (q : b ≠ a) : Arl Z h' b ka ty vs := by obtain ⟨c, A, r⟩ := F; exact ⟨c, A.other W q, r⟩
theorem Arl.keep (F : Arl Z h a ka ty vs) (K : Keep h h' ws) (q : a ∉ ws) : Arl Z h' a ka ty vs := by obtain ⟨c, A, r⟩ := F; exact ⟨c, ⟨K.2.1 a c A.1 q, A.2⟩, r⟩
theorem Arl.of_new {n : Int32} {N : Nat} (A : Arr Z h a (newA ka ty n) ty) (hn : n.toInt = N) (hf : Jvm.fits ty (defaultValue ty) = true) : Arl Z h a ka ty (List.replicate N (defaultValue ty)) := by
  have hN : n.toNatClampNeg = N := by have h1 : n.toNatClampNeg = n.toInt.toNat := rfl; rw [h1, hn]; rfl
  refine ⟨_, A, rfl, ?_, ?_, ?_⟩
  · simp [newA, hN]
  · rw [List.length_replicate]; have := n.toInt_lt; omega
  · intro v hv; rw [List.mem_replicate] at hv; rw [hv.2]; exact hf
theorem idx_of {j : Int32} {i : Nat} (hj : j.toInt = i) : ¬ j < 0 ∧ j.toNatClampNeg = i := by
  refine ⟨fun q => ?_, ?_⟩
  · rw [Int32.lt_iff_toInt_lt, hj] at q; have : (0 : Int32).toInt = 0 := rfl; omega
  · have h1 : j.toNatClampNeg = j.toInt.toNat := rfl
    rw [h1, hj]; rfl
theorem Arl.at (F : Arl Z h a ka ty vs) {j : Int32} {i : Nat} (hj : j.toInt = i) (hv : vs[i]? = some v) : ∃ c : Cell, Arr Z h a c ty ∧ ¬ (j < 0 ∨ c.slots.size ≤ j.toNatClampNeg) ∧ c.slots[j.toNatClampNeg]? = some v := by
  obtain ⟨c, A, h1, h2, h3, h4⟩ := F
  obtain ⟨q1, q2⟩ := idx_of hj
  have hi : i < vs.length := (List.getElem?_eq_some_iff.mp hv).1
  have hs : c.slots.size = vs.length := by rw [← h2]; simp
  refine ⟨c, A, ?_, ?_⟩
  · rw [q2]; rintro (x | x)
    · exact q1 x
    · omega
  · rw [q2, ← Array.getElem?_toList, h2]; exact hv
theorem Arl.set (F : Arl Z h a ka ty vs) {i : Nat} (hf : Jvm.fits ty v = true) (W : Wr h h' a i v) : Arl Z h' a ka ty (vs.set i v) := by
  obtain ⟨c, A, h1, h2, h3, h4⟩ := F
  refine ⟨_, A.same W, h1, ?_, by simpa using h3, ?_⟩
  · subst h2; simp [Cell.setSlot]
  · intro w hw
    rcases List.mem_or_eq_of_mem_set hw with q | q
    · exact h4 _ q
    · rw [q]; exact hf
theorem Arl.inb (F : Arl Z h a ka ty vs) {j : Int32} {i : Nat} (hj : j.toInt = i) (hi : i < vs.length) : ∃ c : Cell, Arr Z h a c ty ∧ ¬ (j < 0 ∨ c.slots.size ≤ j.toNatClampNeg) := by
  obtain ⟨c, A, q, -⟩ := F.at hj (v := vs[i]) (List.getElem?_eq_getElem hi)
  exact ⟨c, A, q⟩
theorem Arl.nostat (F : Arl Z h a ka ty vs) : ∀ cell : Cell, h[a]? = some cell → cell.vm.isStatics = false := by obtain ⟨c, A, -⟩ := F; exact A.nostat
theorem sto_of {y : Addr} {C : String} (F : Arl Z h a ka ty vs) (O : Ovr Z ka C) (I : Ins Z h y C true) : Sto Z h a (.ref y) := by obtain ⟨c, A, q, -⟩ := F; exact Sto.ofV A q O I
theorem sta_keep {C n d : String} {w : Value} (F : Sta Z h C n d w) (K : Keep h h' ws) (hw : ∀ x ∈ ws, ∀ cell : Cell, h[x]? = some cell → cell.vm.isStatics = false) : Sta Z h' C n d w := by
  obtain ⟨cf, i, k, f, st, cell, h1, h2, h3, h4, h5, h6, h7⟩ := F
  refine ⟨cf, i, k, f, st, cell, h1, h2, h3, h4, K.2.1 _ _ h5 fun q => ?_, h6, h7⟩
  rw [hw st q cell h5] at h6; cases h6
theorem narrow_ref {t : FieldType} {w : Value} (hv : w.isRef = true) (ht : t.isReference = true) : narrow t w = w := by rcases ref_cases hv with rfl | ⟨x, rfl⟩ <;> cases t <;> first | rfl | (simp [FieldType.isReference] at ht)
theorem fits_ref' {t : FieldType} {w : Value} (hv : w.isRef = true) (ht : t.isReference = true) : Jvm.fits t w = true := by rcases ref_cases hv with rfl | ⟨x, rfl⟩ <;> cases t <;> first | rfl | (simp [FieldType.isReference] at ht)
theorem Arl.arv (F : Arl Z h a ka ty vs) (d : Value) {z : Int32} (hz : z.toInt = vs.length) : Arv Z h a ka ty z vs d := by
  obtain ⟨c, A, h1, h2, h3, h4⟩ := F
  obtain ⟨q1, q2⟩ := idx_of hz
  have hs : c.slots.size = vs.length := by rw [← h2]; simp
  refine ⟨c, A, h1, hs.trans q2.symm, q1, ?_, ?_⟩
  · intro k hk
    have hk' : k < vs.length := by omega
    rw [← Array.getElem?_toList, h2, List.getD_eq_getElem?_getD, List.getElem?_eq_getElem hk']; rfl
  · intro i hi
    have hi' : i < vs.length := by omega
    rw [List.getD_eq_getElem?_getD, List.getElem?_eq_getElem hi']
    exact h4 _ (List.getElem_mem hi')
theorem Arl.of_arv {d : Value} {z : Int32} (F : Arv Z h a ka ty z vs d) (hz : z.toInt = vs.length) : Arl Z h a ka ty vs := by
  obtain ⟨c, A, h1, h2, h3, h4, h5⟩ := F
  obtain ⟨q1, q2⟩ := idx_of hz
  have hs : c.slots.size = vs.length := h2.trans q2
  have hv : ∀ k (hk : k < vs.length), vs.getD k d = vs[k] := fun k hk => by rw [List.getD_eq_getElem?_getD, List.getElem?_eq_getElem hk]; rfl
  refine ⟨c, A, h1, ?_, ?_, ?_⟩
  · apply List.ext_getElem?
    intro k
    rw [Array.getElem?_toList]
    by_cases hk : k < vs.length
    · rw [h4 k (by omega), List.getElem?_eq_getElem hk, hv k hk]
    · rw [List.getElem?_eq_none (by omega), Array.getElem?_eq_none (by omega)]
  · have := z.toInt_lt; omega
  · intro v hm
    obtain ⟨i, hi, rfl⟩ := List.getElem_of_mem hm
    rw [← hv i hi]; exact h5 i (by omega)
end Arl
theorem newarray_ {aty : ArrayType} {n : Int32} {N : Nat} (cap : Nat) (ty : FieldType) (hty : newarray.typeOf aty = ty) (w : (Jvm.Cond.arrayClass ty).before a0 Z = true) (hd : decode bytes pc = .ok (.newarray aty, 2)) (hn : n.toInt = N) (hcap : N ≤ cap) (hb' : cap * 8 ≤ 536870912) (hc : cells + 1 ≤ R.cells) (hl : slots + cap ≤ R.slots) (hf : fits ty (defaultValue ty) = true)
    (k : ∀ (h' : Heap) (a : Addr) (ka : ClassId), a = h.size → Ext h h' → Arl Z h' a ka ty (List.replicate N (defaultValue ty)) → OAt W l Z bytes maxL own nm ret R n0 hz Q h' (cells + 1) (slots + cap) (pc + 2) Ls (.ref a :: st)) : OAt W l Z bytes maxL own nm ret R n0 hz Q h cells slots pc Ls (.int n :: st) := by
  subst hty
  obtain ⟨q1, q2⟩ := idx_of hn
  exact OAt.move (P := fun h' => Ext h h' ∧ ∃ ka, Arl Z h' h.size ka (newarray.typeOf aty) (List.replicate N (defaultValue (newarray.typeOf aty)))) (st' := fun _ => .ref h.size :: st) (fun _ q => q.1.1) (fun h' q => by obtain ⟨q1, ka, q2⟩ := q; exact k h' _ ka rfl q1 q2) fun C X e N => by
    obtain ⟨T', h', cA, X', e', E, A, g⟩ := newP X C.exec C.zz w e (g := mkF _ pc Ls (.int n :: st)) rfl (hb C.by hd) rfl q1 (cap := cap) (by omega) hb' hc hl
    exact ⟨T', h', _, X', e', N, ⟨E, cA, Arl.of_new A hn hf⟩, g⟩
theorem anewarray_ {K : String} {i : Nat} {n : Int32} {N : Nat} (cap : Nat) (w1 : (Jvm.Cond.classLink own i K).before a0 Z = true) (w2 : (Jvm.Cond.arrayOver (.object K)).before a0 Z = true) (hd : decode bytes pc = .ok (.anewarray i, 3)) (hn : n.toInt = N) (hcap : N ≤ cap) (hb' : cap * 8 ≤ 536870912) (hc : cells + 1 ≤ R.cells) (hl : slots + cap ≤ R.slots)
    (k : ∀ (h' : Heap) (a : Addr) (ka : ClassId), a = h.size → Ext h h' → Ovr Z ka K → Arl Z h' a ka (.object K) (List.replicate N .null) → OAt W l Z bytes maxL own nm ret R n0 hz Q h' (cells + 1) (slots + cap) (pc + 3) Ls (.ref a :: st)) : OAt W l Z bytes maxL own nm ret R n0 hz Q h cells slots pc Ls (.int n :: st) := by
  obtain ⟨q1, q2⟩ := idx_of hn
  exact OAt.move (P := fun h' => Ext h h' ∧ ∃ ka, Ovr Z ka K ∧ Arl Z h' h.size ka (.object K) (List.replicate N .null)) (st' := fun _ => .ref h.size :: st) (fun _ q => q.1.1) (fun h' q => by obtain ⟨q1, ka, q3, q2⟩ := q; exact k h' _ ka rfl q1 q3 q2) fun C X e N => by
    obtain ⟨T', h', cA, X', e', E, A, O, g⟩ := newR X C.exec C.zz C.ow w1 w2 e (g := mkF _ pc Ls (.int n :: st)) rfl (hb C.by hd) rfl q1 (cap := cap) (by omega) hb' hc hl
    exact ⟨T', h', _, X', e', N, ⟨E, cA, O, Arl.of_new A hn rfl⟩, g⟩
theorem arraylength_ {a : Addr} {ka : ClassId} {ty : FieldType} {vs : List Value} (z : Int32) (F : Arl Z h a ka ty vs) (hz' : vs.length.toInt32 = z) (hd : decode bytes pc = .ok (.arraylength, 1)) (k : OAt W l Z bytes maxL own nm ret R n0 hz Q h cells slots (pc + 1) Ls (.int z :: st)) : OAt W l Z bytes maxL own nm ret R n0 hz Q h cells slots pc Ls (.ref a :: st) :=
  k.warm fun C X e => by
    obtain ⟨c, A, h1, h2, h3, h4⟩ := F
    have hs : c.slots.size.toInt32 = z := by rw [← hz', ← h2]; simp
    refine ⟨_, X, e, fun t q => X.arraylength C.exec (by rw [e]; exact A.1) (State.isArrayOf_alike C.zz.alike A.2.1) (g := mkF _ pc Ls (.ref a :: st)) rfl rfl (hb C.by hd) t ?_⟩
    rw [hs]; exact q
theorem iaload_ {a : Addr} {ka : ClassId} {vs : List Value} {j : Int32} {i : Nat} {v : Value} (F : Arl Z h a ka .int vs) (hj : j.toInt = i) (hv : vs[i]? = some v) (hd : decode bytes pc = .ok (.iaload, 1)) (k : OAt W l Z bytes maxL own nm ret R n0 hz Q h cells slots (pc + 1) Ls (v :: st)) : OAt W l Z bytes maxL own nm ret R n0 hz Q h cells slots pc Ls (.int j :: .ref a :: st) :=
  k.warm fun C X e => by
    obtain ⟨c, A, h1, h2⟩ := F.at hj hv
    exact ⟨_, X, e, fun t q => X.iaload C.exec (by rw [e]; exact A.1) (State.isArrayOf_alike C.zz.alike A.2.1) A.2.2 h1 h2 (g := mkF _ pc Ls (.int j :: .ref a :: st)) rfl rfl (hb C.by hd) t q⟩
theorem laload_ {a : Addr} {ka : ClassId} {vs : List Value} {j : Int32} {i : Nat} {v : Value} (F : Arl Z h a ka .long vs) (hj : j.toInt = i) (hv : vs[i]? = some v) (hd : decode bytes pc = .ok (.laload, 1)) (k : OAt W l Z bytes maxL own nm ret R n0 hz Q h cells slots (pc + 1) Ls (v :: st)) : OAt W l Z bytes maxL own nm ret R n0 hz Q h cells slots pc Ls (.int j :: .ref a :: st) :=
  k.warm fun C X e => by
    obtain ⟨c, A, h1, h2⟩ := F.at hj hv
    exact ⟨_, X, e, fun t q => X.laload C.exec (by rw [e]; exact A.1) (State.isArrayOf_alike C.zz.alike A.2.1) A.2.2 h1 h2 (g := mkF _ pc Ls (.int j :: .ref a :: st)) rfl rfl (hb C.by hd) t q⟩
theorem caload_ {a : Addr} {ka : ClassId} {vs : List Value} {j : Int32} {i : Nat} {v : Value} (F : Arl Z h a ka .char vs) (hj : j.toInt = i) (hv : vs[i]? = some v) (hd : decode bytes pc = .ok (.caload, 1)) (k : OAt W l Z bytes maxL own nm ret R n0 hz Q h cells slots (pc + 1) Ls (v :: st)) : OAt W l Z bytes maxL own nm ret R n0 hz Q h cells slots pc Ls (.int j :: .ref a :: st) :=
  k.warm fun C X e => by
    obtain ⟨c, A, h1, h2⟩ := F.at hj hv
    exact ⟨_, X, e, fun t q => X.caload C.exec (by rw [e]; exact A.1) (State.isArrayOf_alike C.zz.alike A.2.1) A.2.2 h1 h2 (g := mkF _ pc Ls (.int j :: .ref a :: st)) rfl rfl (hb C.by hd) t q⟩
theorem baload_ {a : Addr} {ka : ClassId} {vs : List Value} {j : Int32} {i : Nat} {v : Value} (F : Arl Z h a ka .byte vs) (hj : j.toInt = i) (hv : vs[i]? = some v) (hd : decode bytes pc = .ok (.baload, 1)) (k : OAt W l Z bytes maxL own nm ret R n0 hz Q h cells slots (pc + 1) Ls (v :: st)) : OAt W l Z bytes maxL own nm ret R n0 hz Q h cells slots pc Ls (.int j :: .ref a :: st) :=
  k.warm fun C X e => by
    obtain ⟨c, A, h1, h2⟩ := F.at hj hv
    exact ⟨_, X, e, fun t q => X.baloadBytes C.exec (by rw [e]; exact A.1) (State.isArrayOf_alike C.zz.alike A.2.1) A.2.2 h1 h2 (g := mkF _ pc Ls (.int j :: .ref a :: st)) rfl rfl (hb C.by hd) t q⟩
theorem zaload_ {a : Addr} {ka : ClassId} {vs : List Value} {j : Int32} {i : Nat} {v : Value} (F : Arl Z h a ka .boolean vs) (hj : j.toInt = i) (hv : vs[i]? = some v) (hd : decode bytes pc = .ok (.baload, 1)) (k : OAt W l Z bytes maxL own nm ret R n0 hz Q h cells slots (pc + 1) Ls (v :: st)) : OAt W l Z bytes maxL own nm ret R n0 hz Q h cells slots pc Ls (.int j :: .ref a :: st) :=
  k.warm fun C X e => by
    obtain ⟨c, A, h1, h2⟩ := F.at hj hv
    exact ⟨_, X, e, fun t q => X.baloadBooleans C.exec (by rw [e]; exact A.1) (State.isArrayOf_alike C.zz.alike A.2.1) A.2.2 h1 h2 (g := mkF _ pc Ls (.int j :: .ref a :: st)) rfl rfl (hb C.by hd) t q⟩
theorem aaload_ {a : Addr} {ka : ClassId} {ty : FieldType} {vs : List Value} {j : Int32} {i : Nat} {v : Value} (F : Arl Z h a ka ty vs) (hty : ty.isReference = true) (hj : j.toInt = i) (hv : vs[i]? = some v) (hd : decode bytes pc = .ok (.aaload, 1)) (k : OAt W l Z bytes maxL own nm ret R n0 hz Q h cells slots (pc + 1) Ls (v :: st)) : OAt W l Z bytes maxL own nm ret R n0 hz Q h cells slots pc Ls (.int j :: .ref a :: st) :=
  k.warm fun C X e => by
    obtain ⟨c, A, h1, h2⟩ := F.at hj hv
    exact ⟨_, X, e, fun t q => X.aaload C.exec (by rw [e]; exact A.1) (State.isArrayOf_alike C.zz.alike A.2.1) hty A.2.2 h1 h2 (g := mkF _ pc Ls (.int j :: .ref a :: st)) rfl rfl (hb C.by hd) t q⟩
theorem iastore_ {a : Addr} {ka : ClassId} {vs : List Value} {j : Int32} {x : Int32} {i : Nat} (F : Arl Z h a ka .int vs) (hj : j.toInt = i) (hi : i < vs.length) (ha : n0 ≤ a) (hd : decode bytes pc = .ok (.iastore, 1)) (k : ∀ h', Wr h h' a i (.int x) → Arl Z h' a ka .int (vs.set i (.int x)) → OAt W l Z bytes maxL own nm ret R n0 hz Q h' cells slots (pc + 1) Ls st) : OAt W l Z bytes maxL own nm ret R n0 hz Q h cells slots pc Ls (.int x :: .int j :: .ref a :: st) :=
  OAt.move (P := fun h' => Wr h h' a i (.int x) ∧ Arl Z h' a ka .int (vs.set i (.int x))) (st' := fun _ => st) (fun _ q => Nat.le_of_eq q.1.size.symm) (fun h' q => k h' q.1 q.2) fun C X e N => by
    obtain ⟨c, A, h1⟩ := F.inb hj hi
    obtain ⟨T', h', X', e', W', g⟩ := stI X C.exec C.zz e A h1 (g := mkF _ pc Ls (.int x :: .int j :: .ref a :: st)) rfl rfl (hb C.by hd)
    rw [(idx_of hj).2] at W'
    exact ⟨T', h', _, X', e', Fr.snoc X' N ha, ⟨W', F.set (rfl) W'⟩, g⟩
theorem lastore_ {a : Addr} {ka : ClassId} {vs : List Value} {j : Int32} {x : Int64} {i : Nat} (F : Arl Z h a ka .long vs) (hj : j.toInt = i) (hi : i < vs.length) (ha : n0 ≤ a) (hd : decode bytes pc = .ok (.lastore, 1)) (k : ∀ h', Wr h h' a i (.long x) → Arl Z h' a ka .long (vs.set i (.long x)) → OAt W l Z bytes maxL own nm ret R n0 hz Q h' cells slots (pc + 1) Ls st) : OAt W l Z bytes maxL own nm ret R n0 hz Q h cells slots pc Ls (.long x :: .int j :: .ref a :: st) :=
  OAt.move (P := fun h' => Wr h h' a i (.long x) ∧ Arl Z h' a ka .long (vs.set i (.long x))) (st' := fun _ => st) (fun _ q => Nat.le_of_eq q.1.size.symm) (fun h' q => k h' q.1 q.2) fun C X e N => by
    obtain ⟨c, A, h1⟩ := F.inb hj hi
    obtain ⟨T', h', X', e', W', g⟩ := stJ X C.exec C.zz e A h1 (g := mkF _ pc Ls (.long x :: .int j :: .ref a :: st)) rfl rfl (hb C.by hd)
    rw [(idx_of hj).2] at W'
    exact ⟨T', h', _, X', e', Fr.snoc X' N ha, ⟨W', F.set (rfl) W'⟩, g⟩
theorem castore_ {a : Addr} {ka : ClassId} {vs : List Value} {j : Int32} {x : Int32} {i : Nat} (F : Arl Z h a ka .char vs) (hj : j.toInt = i) (hi : i < vs.length) (ha : n0 ≤ a) (hd : decode bytes pc = .ok (.castore, 1)) (k : ∀ h', Wr h h' a i (.int (nar .char x)) → Arl Z h' a ka .char (vs.set i (.int (nar .char x))) → OAt W l Z bytes maxL own nm ret R n0 hz Q h' cells slots (pc + 1) Ls st) : OAt W l Z bytes maxL own nm ret R n0 hz Q h cells slots pc Ls (.int x :: .int j :: .ref a :: st) :=
  OAt.move (P := fun h' => Wr h h' a i (.int (nar .char x)) ∧ Arl Z h' a ka .char (vs.set i (.int (nar .char x)))) (st' := fun _ => st) (fun _ q => Nat.le_of_eq q.1.size.symm) (fun h' q => k h' q.1 q.2) fun C X e N => by
    obtain ⟨c, A, h1⟩ := F.inb hj hi
    obtain ⟨T', h', X', e', W', g⟩ := stC X C.exec C.zz e A h1 (g := mkF _ pc Ls (.int x :: .int j :: .ref a :: st)) rfl rfl (hb C.by hd)
    rw [(idx_of hj).2] at W'
    exact ⟨T', h', _, X', e', Fr.snoc X' N ha, ⟨W', F.set (fits_nar_char x) W'⟩, g⟩
theorem bastore_ {a : Addr} {ka : ClassId} {vs : List Value} {j : Int32} {x : Int32} {i : Nat} (F : Arl Z h a ka .byte vs) (hj : j.toInt = i) (hi : i < vs.length) (ha : n0 ≤ a) (hd : decode bytes pc = .ok (.bastore, 1)) (k : ∀ h', Wr h h' a i (.int (nar .byte x)) → Arl Z h' a ka .byte (vs.set i (.int (nar .byte x))) → OAt W l Z bytes maxL own nm ret R n0 hz Q h' cells slots (pc + 1) Ls st) : OAt W l Z bytes maxL own nm ret R n0 hz Q h cells slots pc Ls (.int x :: .int j :: .ref a :: st) :=
  OAt.move (P := fun h' => Wr h h' a i (.int (nar .byte x)) ∧ Arl Z h' a ka .byte (vs.set i (.int (nar .byte x)))) (st' := fun _ => st) (fun _ q => Nat.le_of_eq q.1.size.symm) (fun h' q => k h' q.1 q.2) fun C X e N => by
    obtain ⟨c, A, h1⟩ := F.inb hj hi
    obtain ⟨T', h', X', e', W', g⟩ := stB X C.exec C.zz e A h1 (g := mkF _ pc Ls (.int x :: .int j :: .ref a :: st)) rfl rfl (hb C.by hd)
    rw [(idx_of hj).2] at W'
    exact ⟨T', h', _, X', e', Fr.snoc X' N ha, ⟨W', F.set (fits_nar_byte x) W'⟩, g⟩
theorem zastore_ {a : Addr} {ka : ClassId} {vs : List Value} {j : Int32} {x : Int32} {i : Nat} (F : Arl Z h a ka .boolean vs) (hj : j.toInt = i) (hi : i < vs.length) (ha : n0 ≤ a) (hd : decode bytes pc = .ok (.bastore, 1)) (k : ∀ h', Wr h h' a i (.int (nar .boolean x)) → Arl Z h' a ka .boolean (vs.set i (.int (nar .boolean x))) → OAt W l Z bytes maxL own nm ret R n0 hz Q h' cells slots (pc + 1) Ls st) : OAt W l Z bytes maxL own nm ret R n0 hz Q h cells slots pc Ls (.int x :: .int j :: .ref a :: st) :=
  OAt.move (P := fun h' => Wr h h' a i (.int (nar .boolean x)) ∧ Arl Z h' a ka .boolean (vs.set i (.int (nar .boolean x)))) (st' := fun _ => st) (fun _ q => Nat.le_of_eq q.1.size.symm) (fun h' q => k h' q.1 q.2) fun C X e N => by
    obtain ⟨c, A, h1⟩ := F.inb hj hi
    obtain ⟨T', h', X', e', W', g⟩ := stZ X C.exec C.zz e A h1 (g := mkF _ pc Ls (.int x :: .int j :: .ref a :: st)) rfl rfl (hb C.by hd)
    rw [(idx_of hj).2] at W'
    exact ⟨T', h', _, X', e', Fr.snoc X' N ha, ⟨W', F.set (fits_nar_bool x) W'⟩, g⟩
theorem aastore_ {a : Addr} {ka : ClassId} {ty : FieldType} {vs : List Value} {j : Int32} {x : Value} {i : Nat} (F : Arl Z h a ka ty vs) (hty : ty.isReference = true) (hx : x.isRef = true) (S : Sto Z h a x) (hj : j.toInt = i) (hi : i < vs.length) (ha : n0 ≤ a) (hd : decode bytes pc = .ok (.aastore, 1)) (k : ∀ h', Wr h h' a i x → Arl Z h' a ka ty (vs.set i x) → OAt W l Z bytes maxL own nm ret R n0 hz Q h' cells slots (pc + 1) Ls st) : OAt W l Z bytes maxL own nm ret R n0 hz Q h cells slots pc Ls (x :: .int j :: .ref a :: st) :=
  OAt.move (P := fun h' => Wr h h' a i x ∧ Arl Z h' a ka ty (vs.set i x)) (st' := fun _ => st) (fun _ q => Nat.le_of_eq q.1.size.symm) (fun h' q => k h' q.1 q.2) fun C X e N => by
    obtain ⟨c, A, h1⟩ := F.inb hj hi
    obtain ⟨T', h', X', e', W', g⟩ := stR X C.exec C.zz e A h1 hty S (g := mkF _ pc Ls (x :: .int j :: .ref a :: st)) rfl rfl (hb C.by hd)
    rw [(idx_of hj).2] at W'
    have hf : fits ty x = true := by rcases ref_cases hx with rfl | ⟨y, rfl⟩ <;> cases ty <;> first | rfl | (simp [FieldType.isReference] at hty)
    exact ⟨T', h', _, X', e', Fr.snoc X' N ha, ⟨W', F.set hf W'⟩, g⟩
/-! calls by contract: a callee that interns nothing -/
theorem OAt.callN {y : MethodName} {bytes' : ByteArray} {maxL' : Nat} {ret' : Option FieldType} {R' : Room} {as' : Array Value} {Q' : Option Value → Heap → Prop} {len wt : Nat} {rest : List Value} (hM : Met false l Z y bytes' maxL' ret' R' [] as' h n0 Q')
    (wc : (Jvm.Cond.code y bytes' maxL' ret').before a0 Z = true) (wz : (Jvm.Cond.initialized y.cls).before a0 Z = true) (hf : R'.frames + 1 ≤ R.frames) (hl : wt + (maxL' + 11) + R'.locals ≤ R.locals) (hc : cells + R'.cells ≤ R.cells) (hs : slots + R'.slots ≤ R.slots)
    (f : ∀ {p : Program} {e : Env} {s : State} {m : MethodId} {args : Array Value} {below : List Frame} {meth : Method} {c : Code} {T : State} {locs : List Loc}, Cx Z bytes maxL own nm ret p s.vm m meth c → Stand p l e R s m args below meth c T locs cells slots → T.heap = h → ∀ (Pre : Pt → Array Value → Prop) (Post : Pt → Array Value → Option Value → Pt → Prop), Back l R p e below s args y len wt Pre Post → (∀ vm₁, s.WarmedH vm₁ → Pre ⟨T.setVm vm₁, locs, cells, slots⟩ as') →
      ∃ (v : Option Value) (vm₁ : Vm) (B : Pt), s.WarmedH vm₁ ∧ Stand p l e R s m args below meth c B.U B.locs B.cells B.slots ∧ Post ⟨T.setVm vm₁, locs, cells, slots⟩ as' v B ∧ ∀ target, Steps p.tables e below (B.U.setTop (mkF m (pc + len) Ls (v.toList ++ rest))) target → Steps p.tables e below (T.setTop (mkF m pc Ls st)) target)
    (k : ∀ v h', Q' v h' → OAt W l Z bytes maxL own nm ret R n0 hz Q h' (cells + R'.cells) (slots + R'.slots) (pc + len) Ls (v.toList ++ rest)) : OAt W l Z bytes maxL own nm ret R n0 hz Q h cells slots pc Ls st :=
  fun hs' p e s vm0 m args below meth c T locs C r X eT N => by
    have hB : Back l R p e below (s.setVm vm0) args y len wt _ _ := backOf (Q := fun v h' L => Fr n0 L ∧ h.size ≤ h'.size ∧ Q' v h') hM C.zz wc wz hf hl
    obtain ⟨v, vm₁, ⟨T', L', k', n'⟩, hW, X', ⟨Lc, ⟨N', hg, hq⟩, l1, l2, l3⟩, g⟩ := f (s := s.setVm vm0) C X eT _ _ hB (fun vm₁ _ => ⟨rfl, eT, hc, hs⟩)
    dsimp only [Pt.U, Pt.locs, Pt.cells, Pt.slots] at X' l1 l2 l3 g hg hq
    subst l1 l2 l3
    exact (k v T'.heap hq (Nat.le_trans hs' hg) p e s vm0 m args below meth c T' _ C (r.mono hg) X' rfl (N.app N')).step g
/-- what a call of a contract asks of room and words -/
theorem callS_ {y : MethodName} {bytes' : ByteArray} {maxL' : Nat} {ret' : Option FieldType} {R' : Room} {Q' : Option Value → Heap → Prop} {i : Nat} {ps : List FieldType} {rt : Option FieldType} (argsL rest : List Value) (wt : Nat) (hM : Met false l Z y bytes' maxL' ret' R' [] argsL.toArray h n0 Q')
    (w1 : (Jvm.Cond.methodLink own i y).before a0 Z = true) (w2 : (Jvm.Cond.static y).before a0 Z = true) (wz : (Jvm.Cond.initialized y.cls).before a0 Z = true) (wc : (Jvm.Cond.code y bytes' maxL' ret').before a0 Z = true) (hy : y.cls ≠ "java/lang/invoke/MethodHandle" ∧ y.cls ≠ "java/lang/invoke/VarHandle")
    (hd : decode bytes pc = .ok (.invokestatic i, 3)) (hp : parseMethodDescriptor y.desc = some ⟨ps, rt⟩) (hn : argsL.length = ps.length) (hst : st = argsL.reverse ++ rest) (hwt : (rest.map fun v => v.category).sum = wt) (hs : Ls.size = maxL)
    (hf : R'.frames + 1 ≤ R.frames) (hl : wt + (maxL' + 11) + R'.locals ≤ R.locals) (hc : cells + R'.cells ≤ R.cells) (hsl : slots + R'.slots ≤ R.slots)
    (k : ∀ v h', Q' v h' → OAt W l Z bytes maxL own nm ret R n0 hz Q h' (cells + R'.cells) (slots + R'.slots) (pc + 3) Ls (v.toList ++ rest)) : OAt W l Z bytes maxL own nm ret R n0 hz Q h cells slots pc Ls st :=
  OAt.callN (len := 3) hM wc wz hf hl hc hsl (fun C X eT _ _ hB hpre => by
    obtain ⟨v, vm₁, B, h1, h2, h3, h4⟩ := Jvm.LawKit.callS X C.exec C.ow (mvT C.zz w1) (mvT C.zz w2) (mvT C.zz wz) (mvT C.zz wc) hy hB (g := mkF _ pc Ls st) rfl (by rw [C.ml]; exact hs) (lenOf hp hn) hst (by show 2 * 0 + _ ≤ _; rw [hwt]; omega) (hb C.by hd) hpre
    exact ⟨v, vm₁, B, h1, h2, h3, h4⟩) k
/-- a static call of a body that writes nothing and returns val -/
def Pur (val : Value) (h : Heap) : Option Value → Heap → Prop := fun v h' => v = some val ∧ h' = h
theorem callSP {y : MethodName} {bytes' : ByteArray} {maxL' : Nat} {ret' : Option FieldType} {R' : Room} {val : Value} {i : Nat} {ps : List FieldType} {rt : Option FieldType} (argsL rest : List Value) (wt : Nat) (hM : Met false l Z y bytes' maxL' ret' R' [] argsL.toArray h n0 (Pur val h))
    (w1 : (Jvm.Cond.methodLink own i y).before a0 Z = true) (w2 : (Jvm.Cond.static y).before a0 Z = true) (wz : (Jvm.Cond.initialized y.cls).before a0 Z = true) (wc : (Jvm.Cond.code y bytes' maxL' ret').before a0 Z = true) (hy : y.cls ≠ "java/lang/invoke/MethodHandle" ∧ y.cls ≠ "java/lang/invoke/VarHandle")
    (hd : decode bytes pc = .ok (.invokestatic i, 3)) (hp : parseMethodDescriptor y.desc = some ⟨ps, rt⟩) (hn : argsL.length = ps.length) (hst : st = argsL.reverse ++ rest) (hwt : (rest.map fun v => v.category).sum = wt) (hs : Ls.size = maxL)
    (hf : R'.frames + 1 ≤ R.frames) (hl : wt + (maxL' + 11) + R'.locals ≤ R.locals) (hc : cells + R'.cells ≤ R.cells) (hsl : slots + R'.slots ≤ R.slots)
    (k : OAt W l Z bytes maxL own nm ret R n0 hz Q h (cells + R'.cells) (slots + R'.slots) (pc + 3) Ls (val :: rest)) : OAt W l Z bytes maxL own nm ret R n0 hz Q h cells slots pc Ls st :=
  callS_ argsL rest wt hM w1 w2 wz wc hy hd hp hn hst hwt hs hf hl hc hsl (fun v h' q => by obtain ⟨rfl, rfl⟩ := q; exact k)
/-- a constructor -/
theorem callI_ {y : MethodName} {bytes' : ByteArray} {maxL' : Nat} {R' : Room} {Q' : Option Value → Heap → Prop} {i : Nat} {ps : List FieldType} {rt : Option FieldType} (a : Addr) (argsL rest : List Value) (wt : Nat) (hM : Met false l Z y bytes' maxL' none R' [] (.ref a :: argsL).toArray h n0 Q')
    (w1 : (Jvm.Cond.methodLink own i y).before a0 Z = true) (w2 : (Jvm.Cond.instanceMethod y).before a0 Z = true) (wz : (Jvm.Cond.initialized y.cls).before a0 Z = true) (wc : (Jvm.Cond.code y bytes' maxL' none).before a0 Z = true) (hy1 : y.name = "<init>") (hy : y.cls ≠ "java/lang/invoke/MethodHandle" ∧ y.cls ≠ "java/lang/invoke/VarHandle")
    (hd : decode bytes pc = .ok (.invokespecial i, 3)) (hp : parseMethodDescriptor y.desc = some ⟨ps, rt⟩) (hn : argsL.length = ps.length) (hst : st = argsL.reverse ++ .ref a :: rest) (hwt : (rest.map fun v => v.category).sum = wt) (hs : Ls.size = maxL)
    (hf : R'.frames + 1 ≤ R.frames) (hl : wt + (maxL' + 11) + R'.locals ≤ R.locals) (hc : cells + R'.cells ≤ R.cells) (hsl : slots + R'.slots ≤ R.slots)
    (k : ∀ v h', Q' v h' → OAt W l Z bytes maxL own nm ret R n0 hz Q h' (cells + R'.cells) (slots + R'.slots) (pc + 3) Ls (v.toList ++ rest)) : OAt W l Z bytes maxL own nm ret R n0 hz Q h cells slots pc Ls st :=
  OAt.callN (len := 3) hM wc wz hf hl hc hsl (fun C X eT _ _ hB hpre => by
    obtain ⟨v, vm₁, B, h1, h2, h3, h4⟩ := X.specialBack C.exec hy1 C.ow (mvT C.zz w1) (mvT C.zz w2) (mvT C.zz wc) hy hB (g := mkF _ pc Ls st) rfl (by rw [C.ml]; exact hs) (Steps.refl _) (lenOf hp hn) hst (by show 2 * 0 + _ ≤ _; rw [hwt]; omega) (hb C.by hd) hpre
    exact ⟨v, vm₁, B, h1, h2, h3, fun t q => h4.trans q⟩) k
/-- an instance method, selected by the receiver's class K -/
theorem callV_ {x y : MethodName} {K : String} {bytes' : ByteArray} {maxL' : Nat} {ret' : Option FieldType} {R' : Room} {Q' : Option Value → Heap → Prop} {i : Nat} {ps : List FieldType} {rt : Option FieldType} (a : Addr) (argsL rest : List Value) (wt : Nat) (hM : Met false l Z y bytes' maxL' ret' R' [] (.ref a :: argsL).toArray h n0 Q')
    (w1 : (Jvm.Cond.methodLink own i x).before a0 Z = true) (w2 : (Jvm.Cond.declares x).before a0 Z = true) (hnf : ∀ s : State, Z.Warmed39 s.vm → NotFace s x) (w3 : (Jvm.Cond.selects K x y).before a0 Z = true) (w4 : (Jvm.Cond.instanceMethod y).before a0 Z = true) (wz : (Jvm.Cond.initialized y.cls).before a0 Z = true) (wc : (Jvm.Cond.code y bytes' maxL' ret').before a0 Z = true)
    (hy : x.cls ≠ "java/lang/invoke/MethodHandle" ∧ x.cls ≠ "java/lang/invoke/VarHandle") (E : Exa Z h a K)
    (hd : decode bytes pc = .ok (.invokevirtual i, 3)) (hp : parseMethodDescriptor x.desc = some ⟨ps, rt⟩) (hn : argsL.length = ps.length) (hst : st = argsL.reverse ++ .ref a :: rest) (hwt : (rest.map fun v => v.category).sum = wt) (hs : Ls.size = maxL)
    (hf : R'.frames + 1 ≤ R.frames) (hl : wt + (maxL' + 11) + R'.locals ≤ R.locals) (hc : cells + R'.cells ≤ R.cells) (hsl : slots + R'.slots ≤ R.slots)
    (k : ∀ v h', Q' v h' → OAt W l Z bytes maxL own nm ret R n0 hz Q h' (cells + R'.cells) (slots + R'.slots) (pc + 3) Ls (v.toList ++ rest)) : OAt W l Z bytes maxL own nm ret R n0 hz Q h cells slots pc Ls st :=
  OAt.callN (len := 3) hM wc wz hf hl hc hsl (fun C X eT _ _ hB hpre => by
    obtain ⟨cq, kq, qa, qb, qc⟩ := isOf C.zz eT E
    obtain ⟨v, vm₁, B, h1, h2, h3, h4⟩ := X.virtualBack C.exec C.ow (mvT C.zz w1) (mvT C.zz w2) (hnf _ C.zz) (mvT C.zz w3) (mvT C.zz w4) hy hB qa qc (g := mkF _ pc Ls st) rfl (by rw [C.ml]; exact hs) (Steps.refl _) (lenOf hp hn) hst (by show 2 * 0 + _ ≤ _; rw [hwt]; omega) (hb C.by hd) hpre
    exact ⟨v, vm₁, B, h1, h2, h3, fun t q => h4.trans q⟩) k
/-- through an interface -/
theorem callF_ {x y : MethodName} {K : String} {bytes' : ByteArray} {maxL' : Nat} {ret' : Option FieldType} {R' : Room} {Q' : Option Value → Heap → Prop} {i cn : Nat} {ps : List FieldType} {rt : Option FieldType} (a : Addr) (argsL rest : List Value) (wt : Nat) (hM : Met false l Z y bytes' maxL' ret' R' [] (.ref a :: argsL).toArray h n0 Q')
    (w1 : (Jvm.Cond.methodLink own i x).before a0 Z = true) (w2 : (Jvm.Cond.declares x).before a0 Z = true) (w5 : (Jvm.Cond.interfaceMethod x.cls x.cls x.name x.desc).before a0 Z = true) (hfa : ((Jvm.Cond.interfaceMethod x.cls x.cls x.name x.desc).onTables && (Jvm.Cond.interfaceMethod x.cls x.cls x.name x.desc).keepsFace) = true) (w3 : (Jvm.Cond.selects K x y).before a0 Z = true) (w4 : (Jvm.Cond.instanceMethod y).before a0 Z = true) (w6 : (Jvm.Cond.publicMethod y).before a0 Z = true) (w7 : (Jvm.Cond.unhidden K x.name x.desc).before a0 Z = true) (w8 : (Jvm.Cond.castable K x.cls).before a0 Z = true)
    (wz : (Jvm.Cond.initialized y.cls).before a0 Z = true) (wc : (Jvm.Cond.code y bytes' maxL' ret').before a0 Z = true)
    (hy : x.cls ≠ "java/lang/invoke/MethodHandle" ∧ x.cls ≠ "java/lang/invoke/VarHandle") (E : Exa Z h a K)
    (hd : decode bytes pc = .ok (.invokeinterface i cn, 5)) (hp : parseMethodDescriptor x.desc = some ⟨ps, rt⟩) (hn : argsL.length = ps.length) (hst : st = argsL.reverse ++ .ref a :: rest) (hwt : (rest.map fun v => v.category).sum = wt) (hs : Ls.size = maxL)
    (hf : R'.frames + 1 ≤ R.frames) (hl : wt + (maxL' + 11) + R'.locals ≤ R.locals) (hc : cells + R'.cells ≤ R.cells) (hsl : slots + R'.slots ≤ R.slots)
    (k : ∀ v h', Q' v h' → OAt W l Z bytes maxL own nm ret R n0 hz Q h' (cells + R'.cells) (slots + R'.slots) (pc + 5) Ls (v.toList ++ rest)) : OAt W l Z bytes maxL own nm ret R n0 hz Q h cells slots pc Ls st :=
  OAt.callN (len := 5) hM wc wz hf hl hc hsl (fun C X eT _ _ hB hpre => by
    obtain ⟨cq, kq, qa, qb, qc⟩ := isOf C.zz eT E
    obtain ⟨v, vm₁, B, h1, h2, h3, h4⟩ := X.interfaceBack C.exec C.ow (mvT C.zz w1) (mvT C.zz w2) (mvT C.zz w5 hfa) (mvT C.zz w3) (mvT C.zz w4) (mvT C.zz w6) (mvT C.zz w7) (mvT C.zz w8) hy hB qa qb qc (g := mkF _ pc Ls st) rfl (by rw [C.ml]; exact hs) (Steps.refl _) (lenOf hp hn) hst (by show 2 * 0 + _ ≤ _; rw [hwt]; omega) (hb C.by hd) hpre
    exact ⟨v, vm₁, B, h1, h2, h3, fun t q => h4.trans q⟩) k
/-- a private method, by invokevirtual -/
theorem callP_ {y : MethodName} {K : String} {bytes' : ByteArray} {maxL' : Nat} {ret' : Option FieldType} {R' : Room} {Q' : Option Value → Heap → Prop} {i : Nat} {ps : List FieldType} {rt : Option FieldType} (a : Addr) (argsL rest : List Value) (wt : Nat) (hM : Met false l Z y bytes' maxL' ret' R' [] (.ref a :: argsL).toArray h n0 Q')
    (w1 : (Jvm.Cond.methodLink own i y).before a0 Z = true) (w4 : (Jvm.Cond.instanceMethod y).before a0 Z = true) (w3 : (Jvm.Cond.selects y.cls y y).before a0 Z = true) (w5 : (Jvm.Cond.privateMethod y).before a0 Z = true) (wz : (Jvm.Cond.initialized y.cls).before a0 Z = true) (wc : (Jvm.Cond.code y bytes' maxL' ret').before a0 Z = true)
    (hy : y.cls ≠ "java/lang/invoke/MethodHandle" ∧ y.cls ≠ "java/lang/invoke/VarHandle") (E : Exa Z h a K)
    (hd : decode bytes pc = .ok (.invokevirtual i, 3)) (hp : parseMethodDescriptor y.desc = some ⟨ps, rt⟩) (hn : argsL.length = ps.length) (hst : st = argsL.reverse ++ .ref a :: rest) (hwt : (rest.map fun v => v.category).sum = wt) (hs : Ls.size = maxL)
    (hf : R'.frames + 1 ≤ R.frames) (hl : wt + (maxL' + 11) + R'.locals ≤ R.locals) (hc : cells + R'.cells ≤ R.cells) (hsl : slots + R'.slots ≤ R.slots)
    (k : ∀ v h', Q' v h' → OAt W l Z bytes maxL own nm ret R n0 hz Q h' (cells + R'.cells) (slots + R'.slots) (pc + 3) Ls (v.toList ++ rest)) : OAt W l Z bytes maxL own nm ret R n0 hz Q h cells slots pc Ls st :=
  OAt.callN (len := 3) hM wc wz hf hl hc hsl (fun C X eT _ _ hB hpre => by
    obtain ⟨cq, qa, qb⟩ := E.cell
    obtain ⟨v, vm₁, B, h1, h2, h3, h4⟩ := X.privateBack C.exec C.ow (mvT C.zz w1) (mvT C.zz w4) (mvT C.zz w3) (Cond.privateMethod_at (mvP C.zz w5 (args := #[]))) (mvT C.zz wc) hy hB (g := mkF _ pc Ls st) rfl (by rw [C.ml]; exact hs) (Steps.refl _) (a := a) (by rw [eT]; exact qa) qb (lenOf hp hn) hst (by show 2 * 0 + _ ≤ _; rw [hwt]; omega) (hb C.by hd) hpre
    exact ⟨v, vm₁, B, h1, h2, h3, fun t q => h4.trans q⟩) k
def Pur0 (h : Heap) : Option Value → Heap → Prop := fun v h' => v = none ∧ h' = h
theorem callIP {y : MethodName} {bytes' : ByteArray} {maxL' : Nat} {R' : Room} {i : Nat} {ps : List FieldType} {rt : Option FieldType} (a : Addr) (argsL rest : List Value) (wt : Nat) (hM : Met false l Z y bytes' maxL' none R' [] (.ref a :: argsL).toArray h n0 (Pur0 h))
    (w1 : (Jvm.Cond.methodLink own i y).before a0 Z = true) (w2 : (Jvm.Cond.instanceMethod y).before a0 Z = true) (wz : (Jvm.Cond.initialized y.cls).before a0 Z = true) (wc : (Jvm.Cond.code y bytes' maxL' none).before a0 Z = true) (hy1 : y.name = "<init>") (hy : y.cls ≠ "java/lang/invoke/MethodHandle" ∧ y.cls ≠ "java/lang/invoke/VarHandle")
    (hd : decode bytes pc = .ok (.invokespecial i, 3)) (hp : parseMethodDescriptor y.desc = some ⟨ps, rt⟩) (hn : argsL.length = ps.length) (hst : st = argsL.reverse ++ .ref a :: rest) (hwt : (rest.map fun v => v.category).sum = wt) (hs : Ls.size = maxL)
    (hf : R'.frames + 1 ≤ R.frames) (hl : wt + (maxL' + 11) + R'.locals ≤ R.locals) (hc : cells + R'.cells ≤ R.cells) (hsl : slots + R'.slots ≤ R.slots)
    (k : OAt W l Z bytes maxL own nm ret R n0 hz Q h (cells + R'.cells) (slots + R'.slots) (pc + 3) Ls rest) : OAt W l Z bytes maxL own nm ret R n0 hz Q h cells slots pc Ls st :=
  callI_ a argsL rest wt hM w1 w2 wz wc hy1 hy hd hp hn hst hwt hs hf hl hc hsl (fun v h' q => by obtain ⟨rfl, rfl⟩ := q; exact k)
theorem callVP {x y : MethodName} {K : String} {bytes' : ByteArray} {maxL' : Nat} {ret' : Option FieldType} {R' : Room} {val : Value} {i : Nat} {ps : List FieldType} {rt : Option FieldType} (a : Addr) (argsL rest : List Value) (wt : Nat) (hM : Met false l Z y bytes' maxL' ret' R' [] (.ref a :: argsL).toArray h n0 (Pur val h))
    (w1 : (Jvm.Cond.methodLink own i x).before a0 Z = true) (w2 : (Jvm.Cond.declares x).before a0 Z = true) (hnf : ∀ s : State, Z.Warmed39 s.vm → NotFace s x) (w3 : (Jvm.Cond.selects K x y).before a0 Z = true) (w4 : (Jvm.Cond.instanceMethod y).before a0 Z = true) (wz : (Jvm.Cond.initialized y.cls).before a0 Z = true) (wc : (Jvm.Cond.code y bytes' maxL' ret').before a0 Z = true)
    (hy : x.cls ≠ "java/lang/invoke/MethodHandle" ∧ x.cls ≠ "java/lang/invoke/VarHandle") (E : Exa Z h a K)
    (hd : decode bytes pc = .ok (.invokevirtual i, 3)) (hp : parseMethodDescriptor x.desc = some ⟨ps, rt⟩) (hn : argsL.length = ps.length) (hst : st = argsL.reverse ++ .ref a :: rest) (hwt : (rest.map fun v => v.category).sum = wt) (hs : Ls.size = maxL)
    (hf : R'.frames + 1 ≤ R.frames) (hl : wt + (maxL' + 11) + R'.locals ≤ R.locals) (hc : cells + R'.cells ≤ R.cells) (hsl : slots + R'.slots ≤ R.slots)
    (k : OAt W l Z bytes maxL own nm ret R n0 hz Q h (cells + R'.cells) (slots + R'.slots) (pc + 3) Ls (val :: rest)) : OAt W l Z bytes maxL own nm ret R n0 hz Q h cells slots pc Ls st :=
  callV_ a argsL rest wt hM w1 w2 hnf w3 w4 wz wc hy E hd hp hn hst hwt hs hf hl hc hsl (fun v h' q => by obtain ⟨rfl, rfl⟩ := q; exact k)
theorem callFP {x y : MethodName} {K : String} {bytes' : ByteArray} {maxL' : Nat} {ret' : Option FieldType} {R' : Room} {val : Value} {i cn : Nat} {ps : List FieldType} {rt : Option FieldType} (a : Addr) (argsL rest : List Value) (wt : Nat) (hM : Met false l Z y bytes' maxL' ret' R' [] (.ref a :: argsL).toArray h n0 (Pur val h))
    (w1 : (Jvm.Cond.methodLink own i x).before a0 Z = true) (w2 : (Jvm.Cond.declares x).before a0 Z = true) (w5 : (Jvm.Cond.interfaceMethod x.cls x.cls x.name x.desc).before a0 Z = true) (hfa : ((Jvm.Cond.interfaceMethod x.cls x.cls x.name x.desc).onTables && (Jvm.Cond.interfaceMethod x.cls x.cls x.name x.desc).keepsFace) = true) (w3 : (Jvm.Cond.selects K x y).before a0 Z = true) (w4 : (Jvm.Cond.instanceMethod y).before a0 Z = true) (w6 : (Jvm.Cond.publicMethod y).before a0 Z = true) (w7 : (Jvm.Cond.unhidden K x.name x.desc).before a0 Z = true) (w8 : (Jvm.Cond.castable K x.cls).before a0 Z = true)
    (wz : (Jvm.Cond.initialized y.cls).before a0 Z = true) (wc : (Jvm.Cond.code y bytes' maxL' ret').before a0 Z = true)
    (hy : x.cls ≠ "java/lang/invoke/MethodHandle" ∧ x.cls ≠ "java/lang/invoke/VarHandle") (E : Exa Z h a K)
    (hd : decode bytes pc = .ok (.invokeinterface i cn, 5)) (hp : parseMethodDescriptor x.desc = some ⟨ps, rt⟩) (hn : argsL.length = ps.length) (hst : st = argsL.reverse ++ .ref a :: rest) (hwt : (rest.map fun v => v.category).sum = wt) (hs : Ls.size = maxL)
    (hf : R'.frames + 1 ≤ R.frames) (hl : wt + (maxL' + 11) + R'.locals ≤ R.locals) (hc : cells + R'.cells ≤ R.cells) (hsl : slots + R'.slots ≤ R.slots)
    (k : OAt W l Z bytes maxL own nm ret R n0 hz Q h (cells + R'.cells) (slots + R'.slots) (pc + 5) Ls (val :: rest)) : OAt W l Z bytes maxL own nm ret R n0 hz Q h cells slots pc Ls st :=
  callF_ a argsL rest wt hM w1 w2 w5 hfa w3 w4 w6 w7 w8 wz wc hy E hd hp hn hst hwt hs hf hl hc hsl (fun v h' q => by obtain ⟨rfl, rfl⟩ := q; exact k)
theorem callPP {y : MethodName} {K : String} {bytes' : ByteArray} {maxL' : Nat} {ret' : Option FieldType} {R' : Room} {val : Value} {i : Nat} {ps : List FieldType} {rt : Option FieldType} (a : Addr) (argsL rest : List Value) (wt : Nat) (hM : Met false l Z y bytes' maxL' ret' R' [] (.ref a :: argsL).toArray h n0 (Pur val h))
    (w1 : (Jvm.Cond.methodLink own i y).before a0 Z = true) (w4 : (Jvm.Cond.instanceMethod y).before a0 Z = true) (w3 : (Jvm.Cond.selects y.cls y y).before a0 Z = true) (w5 : (Jvm.Cond.privateMethod y).before a0 Z = true) (wz : (Jvm.Cond.initialized y.cls).before a0 Z = true) (wc : (Jvm.Cond.code y bytes' maxL' ret').before a0 Z = true)
    (hy : y.cls ≠ "java/lang/invoke/MethodHandle" ∧ y.cls ≠ "java/lang/invoke/VarHandle") (E : Exa Z h a K)
    (hd : decode bytes pc = .ok (.invokevirtual i, 3)) (hp : parseMethodDescriptor y.desc = some ⟨ps, rt⟩) (hn : argsL.length = ps.length) (hst : st = argsL.reverse ++ .ref a :: rest) (hwt : (rest.map fun v => v.category).sum = wt) (hs : Ls.size = maxL)
    (hf : R'.frames + 1 ≤ R.frames) (hl : wt + (maxL' + 11) + R'.locals ≤ R.locals) (hc : cells + R'.cells ≤ R.cells) (hsl : slots + R'.slots ≤ R.slots)
    (k : OAt W l Z bytes maxL own nm ret R n0 hz Q h (cells + R'.cells) (slots + R'.slots) (pc + 3) Ls (val :: rest)) : OAt W l Z bytes maxL own nm ret R n0 hz Q h cells slots pc Ls st :=
  callP_ a argsL rest wt hM w1 w4 w3 w5 wz wc hy E hd hp hn hst hwt hs hf hl hc hsl (fun v h' q => by obtain ⟨rfl, rfl⟩ := q; exact k)
theorem arraycopy_ {a b : Addr} {ka kb : ClassId} {ty : FieldType} {vs vd : List Value} {sp dp nn : Int32} {i j n : Nat} {ix : Nat} (wt : Nat) (w1 : (Jvm.Cond.methodLink own ix Jvm.Stand.acN).before a0 Z = true) (w2 : (Jvm.Cond.native Jvm.Stand.acN).before a0 Z = true) (w3 : (Jvm.Cond.static Jvm.Stand.acN).before a0 Z = true) (w4 : (Jvm.Cond.initialized "java/lang/System").before a0 Z = true)
    (F : Arl Z h a ka ty vs) (G : Arl Z h b kb ty vd) (hty : refKind ty = false) (h1 : sp.toInt = i) (h2 : dp.toInt = j) (h3 : nn.toInt = n) (h4 : i + n ≤ vs.length) (h5 : j + n ≤ vd.length) (ge : n0 ≤ b) (hs : Ls.size = maxL) (hd : decode bytes pc = .ok (.invokestatic ix, 3)) (hf : 1 ≤ R.frames) (hwt : (st.map fun v => v.category).sum = wt) (hlo : wt + (nativeFrameWords "java/lang/System" "arraycopy" 5 + 11) ≤ R.locals)
    (k : ∀ h', Keep h h' [b] → Arl Z h' b kb ty (vd.take j ++ (vs.drop i).take n ++ vd.drop (j + n)) → OAt W l Z bytes maxL own nm ret R n0 hz Q h' cells slots (pc + 3) Ls st) : OAt W l Z bytes maxL own nm ret R n0 hz Q h cells slots pc Ls (.int nn :: .int dp :: .ref b :: .int sp :: .ref a :: st) := by
  obtain ⟨p1, q1⟩ := idx_of h1
  obtain ⟨p2, q2⟩ := idx_of h2
  obtain ⟨p3, q3⟩ := idx_of h3
  have la := F.len
  have lb := G.len
  have za : (Int32.ofNat vs.length).toInt = vs.length := Int32.toInt_ofNat_of_lt la
  have zb : (Int32.ofNat vd.length).toInt = vd.length := Int32.toInt_ofNat_of_lt lb
  obtain ⟨pa, qa⟩ := idx_of za
  obtain ⟨pb, qb⟩ := idx_of zb
  have hus : (vs.drop i).take n = (List.range n).map fun k => vs.getD (i + k) .null := by
    apply List.ext_getElem?
    intro k
    by_cases hk : k < n
    · rw [List.getElem?_take_of_lt hk, List.getElem?_drop, List.getElem?_map, List.getElem?_range hk, Option.map_some, List.getD_eq_getElem?_getD, List.getElem?_eq_getElem (by omega)]; rfl
    · rw [List.getElem?_eq_none (by simp; omega), List.getElem?_eq_none (by simp; omega)]
  exact OAt.move (P := fun h' => Keep h h' [b] ∧ Arl Z h' b kb ty (vd.take j ++ (vs.drop i).take n ++ vd.drop (j + n))) (st' := fun _ => st) (fun _ q => q.1.1) (fun h' q => k h' q.1 q.2) fun C X e N => by
    obtain ⟨T', h', L, X', e', N', K, V, g⟩ := cpA X C.exec C.zz C.ow w1 w2 w3 w4 e (F.arv .null za) (G.arv .null zb) (us := (vs.drop i).take n) (Or.inl ⟨rfl, hty⟩) p1 p2 p3 (by omega) (by omega) (by rw [q3, q1]; exact hus) (by omega) N ge (g := mkF _ pc Ls (.int nn :: .int dp :: .ref b :: .int sp :: .ref a :: st)) rfl (by rw [C.ml]; exact hs) rfl (hb C.by hd) hf (W := wt) (by show 2 * 0 + _ ≤ _; rw [hwt]; omega) hlo
    rw [q2, q3] at V
    refine ⟨T', h', L, X', e', N', ⟨K, Arl.of_arv V ?_⟩, g⟩
    rw [zb]; simp; omega
/-! String constants, and callees that may intern (W = true) -/
theorem ldcS_ {text : String} {i : Nat} (n : Nat) (w : (Jvm.Cond.stringLink own i text).before a0 Z = true) (wS : ∀ a ∈ Bundle.stringAtoms, a.before a0 Z = true) (hd : decode bytes pc = .ok (.ldc i, 2)) (hn' : 4 * text.toList.length ≤ n) (hbig : n ≤ 536870912) (hc : cells + 2 ≤ R.cells) (hl : slots + (n + 4) ≤ R.slots)
    (k : ∀ (h' : Heap) (a : Addr), Ext h h' → OAt true l Z bytes maxL own nm ret R n0 hz Q h' (cells + 2) (slots + (n + 4)) (pc + 2) Ls (.ref a :: st)) : OAt true l Z bytes maxL own nm ret R n0 hz Q h cells slots pc Ls st :=
  fun hs p e s vm0 m args below meth c T locs C r X eT N => by
    obtain ⟨k0, r1, r2⟩ := r
    obtain ⟨a, T', h', k1, X', e', E, hS', hk', hZ', hown', g⟩ := ldcS X C.exec C.zz C.ow w wS eT r1 r2 (g := mkF m pc Ls st) rfl (hb C.by hd) hn' hbig hc hl
    exact (k h' a E (Nat.le_trans hs E.1) p e s T'.vm m args below meth c T' locs ⟨C.1, C.2.1, C.2.2.1, C.2.2.2.1, C.2.2.2.2.1, C.2.2.2.2.2.1, hZ', hown'⟩ ⟨k1, hS', hk'⟩ X' e' N).step g
theorem OAt.callW {y : MethodName} {bytes' : ByteArray} {maxL' : Nat} {ret' : Option FieldType} {R' : Room} {as' : Array Value} {Q' : Option Value → Heap → Prop} {len wt : Nat} {rest : List Value} (hM : Met true l Z y bytes' maxL' ret' R' [] as' h n0 Q')
    (wc : (Jvm.Cond.code y bytes' maxL' ret').before a0 Z = true) (wz : (Jvm.Cond.initialized y.cls).before a0 Z = true) (hf : R'.frames + 1 ≤ R.frames) (hl : wt + (maxL' + 11) + R'.locals ≤ R.locals) (hc : cells + R'.cells ≤ R.cells) (hs : slots + R'.slots ≤ R.slots)
    (f : ∀ {p : Program} {e : Env} {s : State} {m : MethodId} {args : Array Value} {below : List Frame} {meth : Method} {c : Code} {T : State} {locs : List Loc}, Cx Z bytes maxL own nm ret p s.vm m meth c → Stand p l e R s m args below meth c T locs cells slots → T.heap = h → ∀ (Pre : Pt → Array Value → Prop) (Post : Pt → Array Value → Option Value → Pt → Prop), BackS l R p e below s args y len wt Pre Post → (∀ vm₁, s.WarmedH vm₁ → Pre ⟨T.setVm vm₁, locs, cells, slots⟩ as') →
      ∃ (v : Option Value) (vm₁ : Vm) (B : Pt), s.WarmedH vm₁ ∧ Stand p l e R (s.setVm B.U.vm) m args below meth c B.U B.locs B.cells B.slots ∧ s.Since B.U.vm B.U.heap.size ∧ T.heap.size ≤ B.U.heap.size ∧ Post ⟨T.setVm vm₁, locs, cells, slots⟩ as' v B ∧ ∀ target, Steps p.tables e below (B.U.setTop (mkF m (pc + len) Ls (v.toList ++ rest))) target → Steps p.tables e below (T.setTop (mkF m pc Ls st)) target)
    (k : ∀ v h', Q' v h' → OAt true l Z bytes maxL own nm ret R n0 hz Q h' (cells + R'.cells) (slots + R'.slots) (pc + len) Ls (v.toList ++ rest)) : OAt true l Z bytes maxL own nm ret R n0 hz Q h cells slots pc Ls st :=
  fun hs' p e s vm0 m args below meth c T locs C r X eT N => by
    obtain ⟨k0, r1, r2⟩ := r
    have hB : BackS l R p e below (s.setVm vm0) args y len wt _ _ := backOfS (Q := fun v h' L => Fr n0 L ∧ h.size ≤ h'.size ∧ Q' v h') hM C.zz wc wz hf hl
    obtain ⟨v, vm₁, ⟨T', L', k', n'⟩, hW, X', hS2, hg2, ⟨Lc, ⟨N', hg, hq⟩, l1, l2, l3⟩, g⟩ := f (s := s.setVm vm0) C X eT _ _ hB (fun vm₁ _ => ⟨rfl, eT, hc, hs⟩)
    dsimp only [Pt.U, Pt.locs, Pt.cells, Pt.slots] at X' hS2 hg2 l1 l2 l3 g hg hq
    subst l1 l2 l3
    obtain ⟨X2, hS3, hZ3, ho3⟩ := rebS r1 (by rw [eT]; exact r2) X' hS2 hg2 C.zz C.ow
    exact (k v T'.heap hq (Nat.le_trans hs' hg) p e s T'.vm m args below meth c T' _ ⟨C.1, C.2.1, C.2.2.1, C.2.2.2.1, C.2.2.2.2.1, C.2.2.2.2.2.1, hZ3, ho3⟩ ⟨_, hS3, Nat.le_refl _⟩ X2 rfl (N.app N')).step g
theorem callS0 {y : MethodName} {bytes' : ByteArray} {maxL' : Nat} {ret' : Option FieldType} {R' : Room} {i : Nat} {ps : List FieldType} {rt : Option FieldType} (argsL rest : List Value) (wt : Nat) (hM : Met false l Z y bytes' maxL' ret' R' [] argsL.toArray h n0 (Pur0 h))
    (w1 : (Jvm.Cond.methodLink own i y).before a0 Z = true) (w2 : (Jvm.Cond.static y).before a0 Z = true) (wz : (Jvm.Cond.initialized y.cls).before a0 Z = true) (wc : (Jvm.Cond.code y bytes' maxL' ret').before a0 Z = true) (hy : y.cls ≠ "java/lang/invoke/MethodHandle" ∧ y.cls ≠ "java/lang/invoke/VarHandle")
    (hd : decode bytes pc = .ok (.invokestatic i, 3)) (hp : parseMethodDescriptor y.desc = some ⟨ps, rt⟩) (hn : argsL.length = ps.length) (hst : st = argsL.reverse ++ rest) (hwt : (rest.map fun v => v.category).sum = wt) (hs : Ls.size = maxL)
    (hf : R'.frames + 1 ≤ R.frames) (hl : wt + (maxL' + 11) + R'.locals ≤ R.locals) (hc : cells + R'.cells ≤ R.cells) (hsl : slots + R'.slots ≤ R.slots)
    (k : OAt W l Z bytes maxL own nm ret R n0 hz Q h (cells + R'.cells) (slots + R'.slots) (pc + 3) Ls rest) : OAt W l Z bytes maxL own nm ret R n0 hz Q h cells slots pc Ls st :=
  callS_ argsL rest wt hM w1 w2 wz wc hy hd hp hn hst hwt hs hf hl hc hsl (fun v h' q => by obtain ⟨rfl, rfl⟩ := q; exact k)
theorem callV0 {x y : MethodName} {K : String} {bytes' : ByteArray} {maxL' : Nat} {ret' : Option FieldType} {R' : Room} {i : Nat} {ps : List FieldType} {rt : Option FieldType} (a : Addr) (argsL rest : List Value) (wt : Nat) (hM : Met false l Z y bytes' maxL' ret' R' [] (.ref a :: argsL).toArray h n0 (Pur0 h))
    (w1 : (Jvm.Cond.methodLink own i x).before a0 Z = true) (w2 : (Jvm.Cond.declares x).before a0 Z = true) (hnf : ∀ s : State, Z.Warmed39 s.vm → NotFace s x) (w3 : (Jvm.Cond.selects K x y).before a0 Z = true) (w4 : (Jvm.Cond.instanceMethod y).before a0 Z = true) (wz : (Jvm.Cond.initialized y.cls).before a0 Z = true) (wc : (Jvm.Cond.code y bytes' maxL' ret').before a0 Z = true)
    (hy : x.cls ≠ "java/lang/invoke/MethodHandle" ∧ x.cls ≠ "java/lang/invoke/VarHandle") (E : Exa Z h a K)
    (hd : decode bytes pc = .ok (.invokevirtual i, 3)) (hp : parseMethodDescriptor x.desc = some ⟨ps, rt⟩) (hn : argsL.length = ps.length) (hst : st = argsL.reverse ++ .ref a :: rest) (hwt : (rest.map fun v => v.category).sum = wt) (hs : Ls.size = maxL)
    (hf : R'.frames + 1 ≤ R.frames) (hl : wt + (maxL' + 11) + R'.locals ≤ R.locals) (hc : cells + R'.cells ≤ R.cells) (hsl : slots + R'.slots ≤ R.slots)
    (k : OAt W l Z bytes maxL own nm ret R n0 hz Q h (cells + R'.cells) (slots + R'.slots) (pc + 3) Ls rest) : OAt W l Z bytes maxL own nm ret R n0 hz Q h cells slots pc Ls st :=
  callV_ a argsL rest wt hM w1 w2 hnf w3 w4 wz wc hy E hd hp hn hst hwt hs hf hl hc hsl (fun v h' q => by obtain ⟨rfl, rfl⟩ := q; exact k)
theorem callF0 {x y : MethodName} {K : String} {bytes' : ByteArray} {maxL' : Nat} {ret' : Option FieldType} {R' : Room} {i cn : Nat} {ps : List FieldType} {rt : Option FieldType} (a : Addr) (argsL rest : List Value) (wt : Nat) (hM : Met false l Z y bytes' maxL' ret' R' [] (.ref a :: argsL).toArray h n0 (Pur0 h))
    (w1 : (Jvm.Cond.methodLink own i x).before a0 Z = true) (w2 : (Jvm.Cond.declares x).before a0 Z = true) (w5 : (Jvm.Cond.interfaceMethod x.cls x.cls x.name x.desc).before a0 Z = true) (hfa : ((Jvm.Cond.interfaceMethod x.cls x.cls x.name x.desc).onTables && (Jvm.Cond.interfaceMethod x.cls x.cls x.name x.desc).keepsFace) = true) (w3 : (Jvm.Cond.selects K x y).before a0 Z = true) (w4 : (Jvm.Cond.instanceMethod y).before a0 Z = true) (w6 : (Jvm.Cond.publicMethod y).before a0 Z = true) (w7 : (Jvm.Cond.unhidden K x.name x.desc).before a0 Z = true) (w8 : (Jvm.Cond.castable K x.cls).before a0 Z = true)
    (wz : (Jvm.Cond.initialized y.cls).before a0 Z = true) (wc : (Jvm.Cond.code y bytes' maxL' ret').before a0 Z = true)
    (hy : x.cls ≠ "java/lang/invoke/MethodHandle" ∧ x.cls ≠ "java/lang/invoke/VarHandle") (E : Exa Z h a K)
    (hd : decode bytes pc = .ok (.invokeinterface i cn, 5)) (hp : parseMethodDescriptor x.desc = some ⟨ps, rt⟩) (hn : argsL.length = ps.length) (hst : st = argsL.reverse ++ .ref a :: rest) (hwt : (rest.map fun v => v.category).sum = wt) (hs : Ls.size = maxL)
    (hf : R'.frames + 1 ≤ R.frames) (hl : wt + (maxL' + 11) + R'.locals ≤ R.locals) (hc : cells + R'.cells ≤ R.cells) (hsl : slots + R'.slots ≤ R.slots)
    (k : OAt W l Z bytes maxL own nm ret R n0 hz Q h (cells + R'.cells) (slots + R'.slots) (pc + 5) Ls rest) : OAt W l Z bytes maxL own nm ret R n0 hz Q h cells slots pc Ls st :=
  callF_ a argsL rest wt hM w1 w2 w5 hfa w3 w4 w6 w7 w8 wz wc hy E hd hp hn hst hwt hs hf hl hc hsl (fun v h' q => by obtain ⟨rfl, rfl⟩ := q; exact k)
theorem callP0 {y : MethodName} {K : String} {bytes' : ByteArray} {maxL' : Nat} {ret' : Option FieldType} {R' : Room} {i : Nat} {ps : List FieldType} {rt : Option FieldType} (a : Addr) (argsL rest : List Value) (wt : Nat) (hM : Met false l Z y bytes' maxL' ret' R' [] (.ref a :: argsL).toArray h n0 (Pur0 h))
    (w1 : (Jvm.Cond.methodLink own i y).before a0 Z = true) (w4 : (Jvm.Cond.instanceMethod y).before a0 Z = true) (w3 : (Jvm.Cond.selects y.cls y y).before a0 Z = true) (w5 : (Jvm.Cond.privateMethod y).before a0 Z = true) (wz : (Jvm.Cond.initialized y.cls).before a0 Z = true) (wc : (Jvm.Cond.code y bytes' maxL' ret').before a0 Z = true)
    (hy : y.cls ≠ "java/lang/invoke/MethodHandle" ∧ y.cls ≠ "java/lang/invoke/VarHandle") (E : Exa Z h a K)
    (hd : decode bytes pc = .ok (.invokevirtual i, 3)) (hp : parseMethodDescriptor y.desc = some ⟨ps, rt⟩) (hn : argsL.length = ps.length) (hst : st = argsL.reverse ++ .ref a :: rest) (hwt : (rest.map fun v => v.category).sum = wt) (hs : Ls.size = maxL)
    (hf : R'.frames + 1 ≤ R.frames) (hl : wt + (maxL' + 11) + R'.locals ≤ R.locals) (hc : cells + R'.cells ≤ R.cells) (hsl : slots + R'.slots ≤ R.slots)
    (k : OAt W l Z bytes maxL own nm ret R n0 hz Q h (cells + R'.cells) (slots + R'.slots) (pc + 3) Ls rest) : OAt W l Z bytes maxL own nm ret R n0 hz Q h cells slots pc Ls st :=
  callP_ a argsL rest wt hM w1 w4 w3 w5 wz wc hy E hd hp hn hst hwt hs hf hl hc hsl (fun v h' q => by obtain ⟨rfl, rfl⟩ := q; exact k)
theorem callSW {y : MethodName} {bytes' : ByteArray} {maxL' : Nat} {ret' : Option FieldType} {R' : Room} {Q' : Option Value → Heap → Prop} {i : Nat} {ps : List FieldType} {rt : Option FieldType} (argsL rest : List Value) (wt : Nat) (hM : Met true l Z y bytes' maxL' ret' R' [] argsL.toArray h n0 Q')
    (w1 : (Jvm.Cond.methodLink own i y).before a0 Z = true) (w2 : (Jvm.Cond.static y).before a0 Z = true) (wz : (Jvm.Cond.initialized y.cls).before a0 Z = true) (wc : (Jvm.Cond.code y bytes' maxL' ret').before a0 Z = true) (hy : y.cls ≠ "java/lang/invoke/MethodHandle" ∧ y.cls ≠ "java/lang/invoke/VarHandle")
    (hd : decode bytes pc = .ok (.invokestatic i, 3)) (hp : parseMethodDescriptor y.desc = some ⟨ps, rt⟩) (hn : argsL.length = ps.length) (hst : st = argsL.reverse ++ rest) (hwt : (rest.map fun v => v.category).sum = wt) (hs : Ls.size = maxL)
    (hf : R'.frames + 1 ≤ R.frames) (hl : wt + (maxL' + 11) + R'.locals ≤ R.locals) (hc : cells + R'.cells ≤ R.cells) (hsl : slots + R'.slots ≤ R.slots)
    (k : ∀ v h', Q' v h' → OAt true l Z bytes maxL own nm ret R n0 hz Q h' (cells + R'.cells) (slots + R'.slots) (pc + 3) Ls (v.toList ++ rest)) : OAt true l Z bytes maxL own nm ret R n0 hz Q h cells slots pc Ls st :=
  OAt.callW (len := 3) hM wc wz hf hl hc hsl (fun C X eT _ _ hB hpre => by
    obtain ⟨v, vm₁, B, h1, h2, h5, h6, h3, h4⟩ := Jvm.RoadKit.callSS X C.exec C.ow (mvT C.zz w1) (mvT C.zz w2) (mvT C.zz wz) (mvT C.zz wc) hy hB (g := mkF _ pc Ls st) rfl (by rw [C.ml]; exact hs) (lenOf hp hn) hst (by show 2 * 0 + _ ≤ _; rw [hwt]; omega) (hb C.by hd) hpre
    exact ⟨v, vm₁, B, h1, h2, h5, h6, h3, fun t q => h4.trans q⟩) k
theorem callIW {y : MethodName} {bytes' : ByteArray} {maxL' : Nat} {R' : Room} {Q' : Option Value → Heap → Prop} {i : Nat} {ps : List FieldType} {rt : Option FieldType} (a : Addr) (argsL rest : List Value) (wt : Nat) (hM : Met true l Z y bytes' maxL' none R' [] (.ref a :: argsL).toArray h n0 Q')
    (w1 : (Jvm.Cond.methodLink own i y).before a0 Z = true) (w2 : (Jvm.Cond.instanceMethod y).before a0 Z = true) (wz : (Jvm.Cond.initialized y.cls).before a0 Z = true) (wc : (Jvm.Cond.code y bytes' maxL' none).before a0 Z = true) (hy1 : y.name = "<init>") (hy : y.cls ≠ "java/lang/invoke/MethodHandle" ∧ y.cls ≠ "java/lang/invoke/VarHandle")
    (hd : decode bytes pc = .ok (.invokespecial i, 3)) (hp : parseMethodDescriptor y.desc = some ⟨ps, rt⟩) (hn : argsL.length = ps.length) (hst : st = argsL.reverse ++ .ref a :: rest) (hwt : (rest.map fun v => v.category).sum = wt) (hs : Ls.size = maxL)
    (hf : R'.frames + 1 ≤ R.frames) (hl : wt + (maxL' + 11) + R'.locals ≤ R.locals) (hc : cells + R'.cells ≤ R.cells) (hsl : slots + R'.slots ≤ R.slots)
    (k : ∀ v h', Q' v h' → OAt true l Z bytes maxL own nm ret R n0 hz Q h' (cells + R'.cells) (slots + R'.slots) (pc + 3) Ls (v.toList ++ rest)) : OAt true l Z bytes maxL own nm ret R n0 hz Q h cells slots pc Ls st :=
  OAt.callW (len := 3) hM wc wz hf hl hc hsl (fun C X eT _ _ hB hpre => by
    obtain ⟨v, vm₁, B, h1, h2, h5, h6, h3, h4⟩ := X.specialBackS C.exec hy1 C.ow (mvT C.zz w1) (mvT C.zz w2) (mvT C.zz wc) hy hB (g := mkF _ pc Ls st) rfl (by rw [C.ml]; exact hs) (Steps.refl _) (lenOf hp hn) hst (by show 2 * 0 + _ ≤ _; rw [hwt]; omega) (hb C.by hd) hpre
    exact ⟨v, vm₁, B, h1, h2, h5, h6, h3, fun t q => h4.trans q⟩) k
theorem callVW {x y : MethodName} {K : String} {bytes' : ByteArray} {maxL' : Nat} {ret' : Option FieldType} {R' : Room} {Q' : Option Value → Heap → Prop} {i : Nat} {ps : List FieldType} {rt : Option FieldType} (a : Addr) (argsL rest : List Value) (wt : Nat) (hM : Met true l Z y bytes' maxL' ret' R' [] (.ref a :: argsL).toArray h n0 Q')
    (w1 : (Jvm.Cond.methodLink own i x).before a0 Z = true) (w2 : (Jvm.Cond.declares x).before a0 Z = true) (hnf : ∀ s : State, Z.Warmed39 s.vm → NotFace s x) (w3 : (Jvm.Cond.selects K x y).before a0 Z = true) (w4 : (Jvm.Cond.instanceMethod y).before a0 Z = true) (wz : (Jvm.Cond.initialized y.cls).before a0 Z = true) (wc : (Jvm.Cond.code y bytes' maxL' ret').before a0 Z = true)
    (hy : x.cls ≠ "java/lang/invoke/MethodHandle" ∧ x.cls ≠ "java/lang/invoke/VarHandle") (E : Exa Z h a K)
    (hd : decode bytes pc = .ok (.invokevirtual i, 3)) (hp : parseMethodDescriptor x.desc = some ⟨ps, rt⟩) (hn : argsL.length = ps.length) (hst : st = argsL.reverse ++ .ref a :: rest) (hwt : (rest.map fun v => v.category).sum = wt) (hs : Ls.size = maxL)
    (hf : R'.frames + 1 ≤ R.frames) (hl : wt + (maxL' + 11) + R'.locals ≤ R.locals) (hc : cells + R'.cells ≤ R.cells) (hsl : slots + R'.slots ≤ R.slots)
    (k : ∀ v h', Q' v h' → OAt true l Z bytes maxL own nm ret R n0 hz Q h' (cells + R'.cells) (slots + R'.slots) (pc + 3) Ls (v.toList ++ rest)) : OAt true l Z bytes maxL own nm ret R n0 hz Q h cells slots pc Ls st :=
  OAt.callW (len := 3) hM wc wz hf hl hc hsl (fun C X eT _ _ hB hpre => by
    obtain ⟨cq, kq, qa, qb, qc⟩ := isOf C.zz eT E
    obtain ⟨v, vm₁, B, h1, h2, h5, h6, h3, h4⟩ := X.virtualBackS C.exec C.ow (mvT C.zz w1) (mvT C.zz w2) (hnf _ C.zz) (mvT C.zz w3) (mvT C.zz w4) hy hB qa qc (g := mkF _ pc Ls st) rfl (by rw [C.ml]; exact hs) (Steps.refl _) (lenOf hp hn) hst (by show 2 * 0 + _ ≤ _; rw [hwt]; omega) (hb C.by hd) hpre
    exact ⟨v, vm₁, B, h1, h2, h5, h6, h3, fun t q => h4.trans q⟩) k
theorem callFW {x y : MethodName} {K : String} {bytes' : ByteArray} {maxL' : Nat} {ret' : Option FieldType} {R' : Room} {Q' : Option Value → Heap → Prop} {i cn : Nat} {ps : List FieldType} {rt : Option FieldType} (a : Addr) (argsL rest : List Value) (wt : Nat) (hM : Met true l Z y bytes' maxL' ret' R' [] (.ref a :: argsL).toArray h n0 Q')
    (w1 : (Jvm.Cond.methodLink own i x).before a0 Z = true) (w2 : (Jvm.Cond.declares x).before a0 Z = true) (w5 : (Jvm.Cond.interfaceMethod x.cls x.cls x.name x.desc).before a0 Z = true) (hfa : ((Jvm.Cond.interfaceMethod x.cls x.cls x.name x.desc).onTables && (Jvm.Cond.interfaceMethod x.cls x.cls x.name x.desc).keepsFace) = true) (w3 : (Jvm.Cond.selects K x y).before a0 Z = true) (w4 : (Jvm.Cond.instanceMethod y).before a0 Z = true) (w6 : (Jvm.Cond.publicMethod y).before a0 Z = true) (w7 : (Jvm.Cond.unhidden K x.name x.desc).before a0 Z = true) (w8 : (Jvm.Cond.castable K x.cls).before a0 Z = true)
    (wz : (Jvm.Cond.initialized y.cls).before a0 Z = true) (wc : (Jvm.Cond.code y bytes' maxL' ret').before a0 Z = true)
    (hy : x.cls ≠ "java/lang/invoke/MethodHandle" ∧ x.cls ≠ "java/lang/invoke/VarHandle") (E : Exa Z h a K)
    (hd : decode bytes pc = .ok (.invokeinterface i cn, 5)) (hp : parseMethodDescriptor x.desc = some ⟨ps, rt⟩) (hn : argsL.length = ps.length) (hst : st = argsL.reverse ++ .ref a :: rest) (hwt : (rest.map fun v => v.category).sum = wt) (hs : Ls.size = maxL)
    (hf : R'.frames + 1 ≤ R.frames) (hl : wt + (maxL' + 11) + R'.locals ≤ R.locals) (hc : cells + R'.cells ≤ R.cells) (hsl : slots + R'.slots ≤ R.slots)
    (k : ∀ v h', Q' v h' → OAt true l Z bytes maxL own nm ret R n0 hz Q h' (cells + R'.cells) (slots + R'.slots) (pc + 5) Ls (v.toList ++ rest)) : OAt true l Z bytes maxL own nm ret R n0 hz Q h cells slots pc Ls st :=
  OAt.callW (len := 5) hM wc wz hf hl hc hsl (fun C X eT _ _ hB hpre => by
    obtain ⟨cq, kq, qa, qb, qc⟩ := isOf C.zz eT E
    obtain ⟨v, vm₁, B, h1, h2, h5, h6, h3, h4⟩ := X.interfaceBackS C.exec C.ow (mvT C.zz w1) (mvT C.zz w2) (mvT C.zz w5 hfa) (mvT C.zz w3) (mvT C.zz w4) (mvT C.zz w6) (mvT C.zz w7) (mvT C.zz w8) hy hB qa qb qc (g := mkF _ pc Ls st) rfl (by rw [C.ml]; exact hs) (Steps.refl _) (lenOf hp hn) hst (by show 2 * 0 + _ ≤ _; rw [hwt]; omega) (hb C.by hd) hpre
    exact ⟨v, vm₁, B, h1, h2, h5, h6, h3, fun t q => h4.trans q⟩) k
theorem callPW {y : MethodName} {K : String} {bytes' : ByteArray} {maxL' : Nat} {ret' : Option FieldType} {R' : Room} {Q' : Option Value → Heap → Prop} {i : Nat} {ps : List FieldType} {rt : Option FieldType} (a : Addr) (argsL rest : List Value) (wt : Nat) (hM : Met true l Z y bytes' maxL' ret' R' [] (.ref a :: argsL).toArray h n0 Q')
    (w1 : (Jvm.Cond.methodLink own i y).before a0 Z = true) (w4 : (Jvm.Cond.instanceMethod y).before a0 Z = true) (w3 : (Jvm.Cond.selects y.cls y y).before a0 Z = true) (w5 : (Jvm.Cond.privateMethod y).before a0 Z = true) (wz : (Jvm.Cond.initialized y.cls).before a0 Z = true) (wc : (Jvm.Cond.code y bytes' maxL' ret').before a0 Z = true)
    (hy : y.cls ≠ "java/lang/invoke/MethodHandle" ∧ y.cls ≠ "java/lang/invoke/VarHandle") (E : Exa Z h a K)
    (hd : decode bytes pc = .ok (.invokevirtual i, 3)) (hp : parseMethodDescriptor y.desc = some ⟨ps, rt⟩) (hn : argsL.length = ps.length) (hst : st = argsL.reverse ++ .ref a :: rest) (hwt : (rest.map fun v => v.category).sum = wt) (hs : Ls.size = maxL)
    (hf : R'.frames + 1 ≤ R.frames) (hl : wt + (maxL' + 11) + R'.locals ≤ R.locals) (hc : cells + R'.cells ≤ R.cells) (hsl : slots + R'.slots ≤ R.slots)
    (k : ∀ v h', Q' v h' → OAt true l Z bytes maxL own nm ret R n0 hz Q h' (cells + R'.cells) (slots + R'.slots) (pc + 3) Ls (v.toList ++ rest)) : OAt true l Z bytes maxL own nm ret R n0 hz Q h cells slots pc Ls st :=
  OAt.callW (len := 3) hM wc wz hf hl hc hsl (fun C X eT _ _ hB hpre => by
    obtain ⟨cq, qa, qb⟩ := E.cell
    obtain ⟨v, vm₁, B, h1, h2, h5, h6, h3, h4⟩ := X.privateBackS C.exec C.ow (mvT C.zz w1) (mvT C.zz w4) (mvT C.zz w3) (Cond.privateMethod_at (mvP C.zz w5 (args := #[]))) (mvT C.zz wc) hy hB (g := mkF _ pc Ls st) rfl (by rw [C.ml]; exact hs) (Steps.refl _) (a := a) (by rw [eT]; exact qa) qb (lenOf hp hn) hst (by show 2 * 0 + _ ≤ _; rw [hwt]; omega) (hb C.by hd) hpre
    exact ⟨v, vm₁, B, h1, h2, h5, h6, h3, fun t q => h4.trans q⟩) k

end Walk
end Jvm.Own
namespace Jvm.Pilot.@@N@@
open Jvm Jvm.ClassFile Sem Op Lib Jvm.Free Jvm.Stand Jvm.LawKit Jvm.RoadKit Jvm.Own Bundle Jvm.Pilot.@@N@@.Jvm.D
def own_b0 (c : Int32) : Int32 := nar .byte ((c >>> ((0 : Int32) &&& 31)).toInt8.toInt32)
def own_b1 (c : Int32) : Int32 := nar .byte ((c >>> ((8 : Int32) &&& 31)).toInt8.toInt32)
def own_gc (x y : Int32) : Int32 := nar .char (((((x &&& (255 : Int32)) <<< ((0 : Int32) &&& 31)) ||| ((y &&& (255 : Int32)) <<< ((8 : Int32) &&& 31))).toUInt32.toUInt16.toUInt32.toInt32))
def own_lc (x : Int32) : Int32 := nar .char ((x &&& (255 : Int32)).toUInt32.toUInt16.toUInt32.toInt32)
theorem own_b0v (c : Int32) : (own_b0 c).toInt % 256 = c.toInt % 256 := by
  have h1 := c_ishr c 0 0 rfl
  have h2 := c_i2b (c >>> ((0 : Int32) &&& 31))
  have h3 := c_i2b ((c >>> ((0 : Int32) &&& 31)).toInt8.toInt32)
  show ((c >>> ((0 : Int32) &&& 31)).toInt8.toInt32.toInt8.toInt32).toInt % 256 = _
  omega
theorem own_b1v (c : Int32) : (own_b1 c).toInt % 256 = (c.toInt / 256) % 256 := by
  have h1 := c_ishr c 8 8 rfl
  have h2 := c_i2b (c >>> ((8 : Int32) &&& 31))
  have h3 := c_i2b ((c >>> ((8 : Int32) &&& 31)).toInt8.toInt32)
  show ((c >>> ((8 : Int32) &&& 31)).toInt8.toInt32.toInt8.toInt32).toInt % 256 = _
  omega
theorem own_gcv {c : Int32} (h0 : 0 ≤ c.toInt) (h1 : c.toInt < 65536) : own_gc (own_b0 c) (own_b1 c) = c := by
  have e0 := own_b0v c
  have e1 := own_b1v c
  unfold own_gc
  generalize own_b0 c = x at *
  generalize own_b1 c = y at *
  have m0 := c_mask x 255 8 (by decide) (by decide)
  have m1 := c_mask y 255 8 (by decide) (by decide)
  have s0 := c_ishl (x &&& 255) 0 0 rfl
  have s1 := c_ishl (y &&& 255) 8 8 rfl
  generalize (x &&& 255) <<< ((0 : Int32) &&& 31) = X at *
  generalize (y &&& 255) <<< ((8 : Int32) &&& 31) = Y at *
  have lx := X.le_toInt; have ux := X.toInt_lt; have ly := Y.le_toInt; have uy := Y.toInt_lt
  have o := c_or' X Y 8 (by decide) 256 rfl (by omega) (by omega) (by omega)
  have i1 := c_i2c (X ||| Y)
  have i2 := c_i2c ((X ||| Y).toUInt32.toUInt16.toUInt32.toInt32)
  apply Int32.toInt_inj.mp
  show ((X ||| Y).toUInt32.toUInt16.toUInt32.toInt32.toUInt32.toUInt16.toUInt32.toInt32).toInt = _
  omega
theorem own_lcv {c : Int32} (h0 : 0 ≤ c.toInt) (h1 : ¬ (255 : Int32) < c) : own_lc (nar .byte (c.toInt8.toInt32)) = c := by
  have h2 := c_i2b c
  have h3 := c_i2b (c.toInt8.toInt32)
  have m0 := c_mask (c.toInt8.toInt32.toInt8.toInt32) 255 8 (by decide) (by decide)
  have i1 := c_i2c (c.toInt8.toInt32.toInt8.toInt32 &&& 255)
  have i2 := c_i2c ((c.toInt8.toInt32.toInt8.toInt32 &&& 255).toUInt32.toUInt16.toUInt32.toInt32)
  rw [Int32.lt_iff_toInt_lt] at h1
  have e : (255 : Int32).toInt = 255 := rfl
  apply Int32.toInt_inj.mp
  show ((c.toInt8.toInt32.toInt8.toInt32 &&& 255).toUInt32.toUInt16.toUInt32.toInt32.toUInt32.toUInt16.toUInt32.toInt32).toInt = _
  omega

def own_spell (cod : Int32) (bs : List Value) (c0 : Int32) (c1 : Int32) (c2 : Int32) (c3 : Int32) : Prop := (cod = 0 ∧ bs = [(.int (nar .byte (c0.toInt8.toInt32))), (.int (nar .byte (c1.toInt8.toInt32))), (.int (nar .byte (c2.toInt8.toInt32))), (.int (nar .byte (c3.toInt8.toInt32)))] ∧ ¬ (255 : Int32) < c0 ∧ ¬ (255 : Int32) < c1 ∧ ¬ (255 : Int32) < c2 ∧ ¬ (255 : Int32) < c3) ∨ (cod = 1 ∧ bs = [(.int (own_b0 c0)), (.int (own_b1 c0)), (.int (own_b0 c1)), (.int (own_b1 c1)), (.int (own_b0 c2)), (.int (own_b1 c2)), (.int (own_b0 c3)), (.int (own_b1 c3))])
theorem d21_0 : decode jdk_52_method_6_code 0 = .ok (.aload_n 0, 1) := by decide +kernel
theorem d21_1 : decode jdk_52_method_6_code 1 = .ok (.arraylength, 1) := by decide +kernel
theorem d21_2 : decode jdk_52_method_6_code 2 = .ok (.iconst 1, 1) := by decide +kernel
theorem d21_3 : decode jdk_52_method_6_code 3 = .ok (.ishr, 1) := by decide +kernel
theorem d21_4 : decode jdk_52_method_6_code 4 = .ok (.ireturn, 1) := by decide +kernel
theorem ef_rmULen (m : MethodId) (a1 : Addr)  : entryFrame m #[(.ref a1)] 1 = mkF m 0 #[.val (.ref a1)] [] := by first | (simp [entryFrame, mkF, argsToLocals, Value.category]; done) | rfl
theorem pn_21 : plainFor (⟨"java/lang/StringUTF16", "length", "([B)I"⟩ : MethodName) = true := plainFor_of_name (show plainName "java/lang/StringUTF16" = true by first | (simp [plainName, overriddenIn]; done) | decide +kernel)
set_option maxRecDepth 65536 in
set_option maxHeartbeats 40000000 in
theorem rmULen (l : Launch) (Z : State) (a0 : Array Value) (hw : ∀ d ∈ tables_1, d.before a0 Z = true) (ws : List Jvm.Cond) (a1 : Addr) (ka : ClassId) (vs : List Value) (h0 : Heap) (n0 : Nat) (hn : n0 ≤ h0.size) (V_a1 : Arl Z h0 a1 ka .byte vs) (hl : vs.length = 8) :
    Met false l Z (⟨"java/lang/StringUTF16", "length", "([B)I"⟩ : MethodName) jdk_52_method_6_code 1 (some .int) ({ frames := 0, cells := 0, slots := 0, locals := 0 } : Room) ws #[(.ref a1)] h0 n0 (Pur (.int (4 : Int32)) h0) := by
  refine Met.of pn_21 (fun m => ef_rmULen m a1) ?_
  refine Own.aloadN d21_0 rfl rfl ?_
  refine Own.arraylength_ (8 : Int32) V_a1 (by rw [hl]; rfl) d21_1 ?_
  refine Own.iconst (1 : Int32) d21_2 rfl ?_
  refine Own.ishr d21_3 ?_
  refine OAt.cast (st' := [(.int (4 : Int32))]) rfl ?_
  refine Own.ret_int rfl d21_4 (by decide) (by decide) ?_
  exact ⟨rfl, rfl⟩
theorem d16_0 : decode jdk_52_method_3_code 0 = .ok (.iload_n 0, 1) := by decide +kernel
theorem d16_1 : decode jdk_52_method_3_code 1 = .ok (.ifCond .ge 11, 3) := by decide +kernel
theorem d16_12 : decode jdk_52_method_3_code 12 = .ok (.iload_n 0, 1) := by decide +kernel
theorem d16_13 : decode jdk_52_method_3_code 13 = .ok (.ldc 20, 2) := by decide +kernel
theorem d16_15 : decode jdk_52_method_3_code 15 = .ok (.if_icmp .lt 40, 3) := by decide +kernel
theorem d16_55 : decode jdk_52_method_3_code 55 = .ok (.iload_n 0, 1) := by decide +kernel
theorem d16_56 : decode jdk_52_method_3_code 56 = .ok (.iconst 1, 1) := by decide +kernel
theorem d16_57 : decode jdk_52_method_3_code 57 = .ok (.ishl, 1) := by decide +kernel
theorem d16_58 : decode jdk_52_method_3_code 58 = .ok (.ireturn, 1) := by decide +kernel
theorem ef_rmNBL (m : MethodId)   : entryFrame m #[(.int (4 : Int32))] 1 = mkF m 0 #[.val (.int (4 : Int32))] [] := by first | (simp [entryFrame, mkF, argsToLocals, Value.category]; done) | rfl
theorem pn_16 : plainFor (⟨"java/lang/StringUTF16", "newBytesLength", "(I)I"⟩ : MethodName) = true := plainFor_of_name (show plainName "java/lang/StringUTF16" = true by first | (simp [plainName, overriddenIn]; done) | decide +kernel)
set_option maxRecDepth 65536 in
set_option maxHeartbeats 40000000 in
theorem rmNBL (l : Launch) (Z : State) (a0 : Array Value) (hw : ∀ d ∈ tables_1, d.before a0 Z = true) (ws : List Jvm.Cond)  (h0 : Heap) (n0 : Nat) (hn : n0 ≤ h0.size) :
    Met false l Z (⟨"java/lang/StringUTF16", "newBytesLength", "(I)I"⟩ : MethodName) jdk_52_method_3_code 1 (some .int) ({ frames := 0, cells := 0, slots := 0, locals := 0 } : Room) ws #[(.int (4 : Int32))] h0 n0 (Pur (.int (8 : Int32)) h0) := by
  refine Met.of pn_16 (fun m => ef_rmNBL m ) ?_
  refine Own.iloadN d16_0 rfl ?_
  refine Own.if_ge 12 d16_1 (by decide) rfl (fun _ => ?_) (fun q => absurd q (by decide))
  refine Own.iloadN d16_12 rfl ?_
  refine Own.ldcInt (hw _ (List.mem_of_getElem? (i := 72) rfl)) d16_13 ?_
  refine Own.icmp_lt 55 d16_15 (by decide) rfl (fun _ => ?_) (fun q => absurd (by decide) q)
  refine Own.iloadN d16_55 rfl ?_
  refine Own.iconst (1 : Int32) d16_56 rfl ?_
  refine Own.ishl d16_57 ?_
  refine OAt.cast (st' := [(.int (8 : Int32))]) rfl ?_
  refine Own.ret_int rfl d16_58 (by decide) (by decide) ?_
  exact ⟨rfl, rfl⟩
theorem d15_0 : decode jdk_52_method_2_code 0 = .ok (.iload_n 0, 1) := by decide +kernel
theorem d15_1 : decode jdk_52_method_2_code 1 = .ok (.invokestatic 11, 3) := by decide +kernel
theorem pd_3 : parseMethodDescriptor "(I)I" = some ⟨[.int], some .int⟩ := by decide +kernel
theorem d15_4 : decode jdk_52_method_2_code 4 = .ok (.newarray .byte, 2) := by decide +kernel
theorem d15_6 : decode jdk_52_method_2_code 6 = .ok (.areturn, 1) := by decide +kernel
def Q_rmNBF (Z : State)  (h0 : Heap) (n0 : Nat) (v : Option Value) (h : Heap) : Prop := ∃ (a : Addr) (ka : ClassId), v = some (.ref a) ∧ h0.size ≤ a ∧ Keep h0 h [] ∧ Arl Z h a ka .byte [(.int (0 : Int32)), (.int (0 : Int32)), (.int (0 : Int32)), (.int (0 : Int32)), (.int (0 : Int32)), (.int (0 : Int32)), (.int (0 : Int32)), (.int (0 : Int32))]
theorem ef_rmNBF (m : MethodId)   : entryFrame m #[(.int (4 : Int32))] 1 = mkF m 0 #[.val (.int (4 : Int32))] [] := by first | (simp [entryFrame, mkF, argsToLocals, Value.category]; done) | rfl
theorem pn_15 : plainFor (⟨"java/lang/StringUTF16", "newBytesFor", "(I)[B"⟩ : MethodName) = true := plainFor_of_name (show plainName "java/lang/StringUTF16" = true by first | (simp [plainName, overriddenIn]; done) | decide +kernel)
set_option maxRecDepth 65536 in
set_option maxHeartbeats 40000000 in
theorem rmNBF (l : Launch) (Z : State) (a0 : Array Value) (hw : ∀ d ∈ tables_1, d.before a0 Z = true) (ws : List Jvm.Cond)  (h0 : Heap) (n0 : Nat) (hn : n0 ≤ h0.size) :
    Met false l Z (⟨"java/lang/StringUTF16", "newBytesFor", "(I)[B"⟩ : MethodName) jdk_52_method_2_code 1 (some (.array .byte)) ({ frames := 1, cells := 1, slots := 8, locals := 12 } : Room) ws #[(.int (4 : Int32))] h0 n0 (Q_rmNBF Z  h0 n0) := by
  refine Met.of pn_15 (fun m => ef_rmNBF m ) ?_
  have K := Keep.refl h0 []
  refine Own.iloadN d15_0 rfl ?_
  refine Own.callSP [(.int (4 : Int32))] [] 0 (rmNBL l Z a0 hw [] h0 n0 hn) (hw _ (List.mem_of_getElem? (i := 69) rfl)) (hw _ (List.mem_of_getElem? (i := 70) rfl)) (hw _ (List.mem_of_getElem? (i := 24) rfl)) (hw _ (List.mem_of_getElem? (i := 71) rfl)) (by decide) d15_1 pd_3 rfl rfl rfl rfl (by decide) (by decide) (by decide) (by decide) ?_
  refine Own.newarray_ 8 .byte rfl (hw _ (List.mem_of_getElem? (i := 26) rfl)) d15_4 (N := 8) rfl (by decide) (by decide) (by decide) (by decide) rfl (fun h1 b1 k1 gb1 E1 V1 => ?_)
  have g_b1 : n0 ≤ b1 := by rw [gb1]; exact hn
  have hn := Nat.le_trans hn E1.1
  replace V1 : Arl Z h1 b1 k1 .byte [(.int (0 : Int32)), (.int (0 : Int32)), (.int (0 : Int32)), (.int (0 : Int32)), (.int (0 : Int32)), (.int (0 : Int32)), (.int (0 : Int32)), (.int (0 : Int32))] := V1
  have sz_b1 : h0.size ≤ b1 := by rw [gb1]; exact K.1
  have K := K.ext E1
  refine Own.ret_ref (t := (.array .byte)) rfl rfl rfl d15_6 (by decide) (by decide) ?_
  exact ⟨b1, k1, rfl, sz_b1, K, V1⟩
theorem d17_0 : decode jdk_52_method_4_code 0 = .ok (.getstatic 44, 3) := by decide +kernel
theorem d17_3 : decode jdk_52_method_4_code 3 = .ok (.ifCond .ne 25, 3) := by decide +kernel
theorem d17_28 : decode jdk_52_method_4_code 28 = .ok (.iload_n 1, 1) := by decide +kernel
theorem d17_29 : decode jdk_52_method_4_code 29 = .ok (.iconst 1, 1) := by decide +kernel
theorem d17_30 : decode jdk_52_method_4_code 30 = .ok (.ishl, 1) := by decide +kernel
theorem d17_31 : decode jdk_52_method_4_code 31 = .ok (.istore_n 1, 1) := by decide +kernel
theorem d17_32 : decode jdk_52_method_4_code 32 = .ok (.aload_n 0, 1) := by decide +kernel
theorem d17_33 : decode jdk_52_method_4_code 33 = .ok (.iload_n 1, 1) := by decide +kernel
theorem d17_34 : decode jdk_52_method_4_code 34 = .ok (.iinc 1 1, 3) := by decide +kernel
theorem d17_37 : decode jdk_52_method_4_code 37 = .ok (.iload_n 2, 1) := by decide +kernel
theorem d17_38 : decode jdk_52_method_4_code 38 = .ok (.getstatic 59, 3) := by decide +kernel
theorem d17_41 : decode jdk_52_method_4_code 41 = .ok (.ishr, 1) := by decide +kernel
theorem d17_42 : decode jdk_52_method_4_code 42 = .ok (.i2b, 1) := by decide +kernel
theorem d17_43 : decode jdk_52_method_4_code 43 = .ok (.bastore, 1) := by decide +kernel
theorem d17_44 : decode jdk_52_method_4_code 44 = .ok (.aload_n 0, 1) := by decide +kernel
theorem d17_45 : decode jdk_52_method_4_code 45 = .ok (.iload_n 1, 1) := by decide +kernel
theorem d17_46 : decode jdk_52_method_4_code 46 = .ok (.iload_n 2, 1) := by decide +kernel
theorem d17_47 : decode jdk_52_method_4_code 47 = .ok (.getstatic 63, 3) := by decide +kernel
theorem d17_50 : decode jdk_52_method_4_code 50 = .ok (.ishr, 1) := by decide +kernel
theorem d17_51 : decode jdk_52_method_4_code 51 = .ok (.i2b, 1) := by decide +kernel
theorem d17_52 : decode jdk_52_method_4_code 52 = .ok (.bastore, 1) := by decide +kernel
theorem d17_53 : decode jdk_52_method_4_code 53 = .ok (.return_, 1) := by decide +kernel
def Q_rmPut0 (Z : State) (a1 : Addr) (ka : ClassId) (vs : List Value) (x : Int32) (h0 : Heap) (n0 : Nat) (v : Option Value) (h : Heap) : Prop := v = none ∧ Keep h0 h [a1] ∧ Arl Z h a1 ka .byte ((vs.set 0 (.int (own_b0 x))).set 1 (.int (own_b1 x)))
theorem ef_rmPut0 (m : MethodId) (a1 : Addr) (x : Int32)  : entryFrame m #[(.ref a1), (.int (0 : Int32)), (.int x)] 3 = mkF m 0 #[.val (.ref a1), .val (.int (0 : Int32)), .val (.int x)] [] := by first | (simp [entryFrame, mkF, argsToLocals, Value.category]; done) | rfl
theorem pn_17 : plainFor (⟨"java/lang/StringUTF16", "putChar", "([BII)V"⟩ : MethodName) = true := plainFor_of_name (show plainName "java/lang/StringUTF16" = true by first | (simp [plainName, overriddenIn]; done) | decide +kernel)
set_option maxRecDepth 65536 in
set_option maxHeartbeats 40000000 in
theorem rmPut0 (l : Launch) (Z : State) (a0 : Array Value) (hw : ∀ d ∈ tables_1, d.before a0 Z = true) (ws : List Jvm.Cond) (a1 : Addr) (ka : ClassId) (vs : List Value) (x : Int32) (h0 : Heap) (n0 : Nat) (hn : n0 ≤ h0.size) (V_a1 : Arl Z h0 a1 ka .byte vs) (hl : vs.length = 8) (g_a1 : n0 ≤ a1) (S_A : Sta Z h0 "java/lang/StringUTF16" "$assertionsDisabled" "Z" (.int (1 : Int32))) (S_H : Sta Z h0 "java/lang/StringUTF16" "HI_BYTE_SHIFT" "I" (.int (0 : Int32))) (S_L : Sta Z h0 "java/lang/StringUTF16" "LO_BYTE_SHIFT" "I" (.int (8 : Int32))) :
    Met false l Z (⟨"java/lang/StringUTF16", "putChar", "([BII)V"⟩ : MethodName) jdk_52_method_4_code 3 none ({ frames := 0, cells := 0, slots := 0, locals := 0 } : Room) ws #[(.ref a1), (.int (0 : Int32)), (.int x)] h0 n0 (Q_rmPut0 Z a1 ka vs x h0 n0) := by
  refine Met.of pn_17 (fun m => ef_rmPut0 m a1 x) ?_
  have K := Keep.refl h0 [a1]
  refine Own.getS_ (host := "") (Or.inl (hw _ (List.mem_of_getElem? (i := 76) rfl))) Via.refl S_A d17_0 ?_
  refine Own.if_ne 28 d17_3 (by decide) rfl (fun _ => ?_) (fun q => absurd q (by decide))
  refine Own.iloadN d17_28 rfl ?_
  refine Own.iconst (1 : Int32) d17_29 rfl ?_
  refine Own.ishl d17_30 ?_
  refine OAt.cast (st' := [(.int (0 : Int32))]) rfl ?_
  refine Own.istoreN #[.val (.ref a1), .val (.int (0 : Int32)), .val (.int x)] d17_31 rfl ?_
  refine Own.aloadN d17_32 rfl rfl ?_
  refine Own.iloadN d17_33 rfl ?_
  refine Own.iinc (1 : Int32) #[.val (.ref a1), .val (.int ((0 : Int32) + (1 : Int32))), .val (.int x)] d17_34 rfl rfl rfl ?_
  refine OAt.castL (Ls' := #[.val (.ref a1), .val (.int (1 : Int32)), .val (.int x)]) rfl rfl ?_
  refine Own.iloadN d17_37 rfl ?_
  refine Own.getS_ (host := "") (Or.inl (hw _ (List.mem_of_getElem? (i := 77) rfl))) Via.refl S_H d17_38 ?_
  refine Own.ishr d17_41 ?_
  refine Own.i2b d17_42 ?_
  refine Own.bastore_ V_a1 (i := 0) rfl (by rw [hl]; decide) g_a1 d17_43 (fun h2 W2 V2 => ?_)
  have hn : n0 ≤ h2.size := by rw [W2.size]; exact hn
  replace S_A := S_A.wr W2
  replace S_H := S_H.wr W2
  replace S_L := S_L.wr W2
  clear V_a1
  have K := K.wr W2 (Or.inl (List.mem_of_getElem? (i := 0) rfl))
  refine Own.aloadN d17_44 rfl rfl ?_
  refine Own.iloadN d17_45 rfl ?_
  refine Own.iloadN d17_46 rfl ?_
  refine Own.getS_ (host := "") (Or.inl (hw _ (List.mem_of_getElem? (i := 78) rfl))) Via.refl S_L d17_47 ?_
  refine Own.ishr d17_50 ?_
  refine Own.i2b d17_51 ?_
  refine Own.bastore_ V2 (i := 1) rfl (by rw [List.length_set, hl]; decide) g_a1 d17_52 (fun h3 W3 V3 => ?_)
  have hn : n0 ≤ h3.size := by rw [W3.size]; exact hn
  replace S_A := S_A.wr W3
  replace S_H := S_H.wr W3
  replace S_L := S_L.wr W3
  clear V2
  have K := K.wr W3 (Or.inl (List.mem_of_getElem? (i := 0) rfl))
  refine Own.ret_void rfl d17_53 (by decide) (by decide) ?_
  exact ⟨rfl, K, V3⟩
theorem d18_0 : decode jdk_52_method_5_code 0 = .ok (.getstatic 44, 3) := by decide +kernel
theorem d18_3 : decode jdk_52_method_5_code 3 = .ok (.ifCond .ne 25, 3) := by decide +kernel
theorem d18_28 : decode jdk_52_method_5_code 28 = .ok (.iload_n 1, 1) := by decide +kernel
theorem d18_29 : decode jdk_52_method_5_code 29 = .ok (.iconst 1, 1) := by decide +kernel
theorem d18_30 : decode jdk_52_method_5_code 30 = .ok (.ishl, 1) := by decide +kernel
theorem d18_31 : decode jdk_52_method_5_code 31 = .ok (.istore_n 1, 1) := by decide +kernel
theorem d18_32 : decode jdk_52_method_5_code 32 = .ok (.aload_n 0, 1) := by decide +kernel
theorem d18_33 : decode jdk_52_method_5_code 33 = .ok (.iload_n 1, 1) := by decide +kernel
theorem d18_34 : decode jdk_52_method_5_code 34 = .ok (.iinc 1 1, 3) := by decide +kernel
theorem d18_37 : decode jdk_52_method_5_code 37 = .ok (.baload, 1) := by decide +kernel
theorem d18_38 : decode jdk_52_method_5_code 38 = .ok (.sipush 255, 3) := by decide +kernel
theorem d18_41 : decode jdk_52_method_5_code 41 = .ok (.iand, 1) := by decide +kernel
theorem d18_42 : decode jdk_52_method_5_code 42 = .ok (.getstatic 59, 3) := by decide +kernel
theorem d18_45 : decode jdk_52_method_5_code 45 = .ok (.ishl, 1) := by decide +kernel
theorem d18_46 : decode jdk_52_method_5_code 46 = .ok (.aload_n 0, 1) := by decide +kernel
theorem d18_47 : decode jdk_52_method_5_code 47 = .ok (.iload_n 1, 1) := by decide +kernel
theorem d18_48 : decode jdk_52_method_5_code 48 = .ok (.baload, 1) := by decide +kernel
theorem d18_49 : decode jdk_52_method_5_code 49 = .ok (.sipush 255, 3) := by decide +kernel
theorem d18_52 : decode jdk_52_method_5_code 52 = .ok (.iand, 1) := by decide +kernel
theorem d18_53 : decode jdk_52_method_5_code 53 = .ok (.getstatic 63, 3) := by decide +kernel
theorem d18_56 : decode jdk_52_method_5_code 56 = .ok (.ishl, 1) := by decide +kernel
theorem d18_57 : decode jdk_52_method_5_code 57 = .ok (.ior, 1) := by decide +kernel
theorem d18_58 : decode jdk_52_method_5_code 58 = .ok (.i2c, 1) := by decide +kernel
theorem d18_59 : decode jdk_52_method_5_code 59 = .ok (.ireturn, 1) := by decide +kernel
theorem ef_rmGet0 (m : MethodId) (a1 : Addr)  : entryFrame m #[(.ref a1), (.int (0 : Int32))] 2 = mkF m 0 #[.val (.ref a1), .val (.int (0 : Int32))] [] := by first | (simp [entryFrame, mkF, argsToLocals, Value.category]; done) | rfl
theorem pn_18 : plainFor (⟨"java/lang/StringUTF16", "getChar", "([BI)C"⟩ : MethodName) = true := plainFor_of_name (show plainName "java/lang/StringUTF16" = true by first | (simp [plainName, overriddenIn]; done) | decide +kernel)
set_option maxRecDepth 65536 in
set_option maxHeartbeats 40000000 in
theorem rmGet0 (l : Launch) (Z : State) (a0 : Array Value) (hw : ∀ d ∈ tables_1, d.before a0 Z = true) (ws : List Jvm.Cond) (a1 : Addr) (ka : ClassId) (vs : List Value) (x : Int32) (y : Int32) (h0 : Heap) (n0 : Nat) (hn : n0 ≤ h0.size) (V_a1 : Arl Z h0 a1 ka .byte vs) (hx : vs[0]? = some (.int x)) (hy : vs[1]? = some (.int y)) (S_A : Sta Z h0 "java/lang/StringUTF16" "$assertionsDisabled" "Z" (.int (1 : Int32))) (S_H : Sta Z h0 "java/lang/StringUTF16" "HI_BYTE_SHIFT" "I" (.int (0 : Int32))) (S_L : Sta Z h0 "java/lang/StringUTF16" "LO_BYTE_SHIFT" "I" (.int (8 : Int32))) :
    Met false l Z (⟨"java/lang/StringUTF16", "getChar", "([BI)C"⟩ : MethodName) jdk_52_method_5_code 2 (some .char) ({ frames := 0, cells := 0, slots := 0, locals := 0 } : Room) ws #[(.ref a1), (.int (0 : Int32))] h0 n0 (Pur (.int (own_gc x y)) h0) := by
  refine Met.of pn_18 (fun m => ef_rmGet0 m a1) ?_
  refine Own.getS_ (host := "") (Or.inl (hw _ (List.mem_of_getElem? (i := 76) rfl))) Via.refl S_A d18_0 ?_
  refine Own.if_ne 28 d18_3 (by decide) rfl (fun _ => ?_) (fun q => absurd q (by decide))
  refine Own.iloadN d18_28 rfl ?_
  refine Own.iconst (1 : Int32) d18_29 rfl ?_
  refine Own.ishl d18_30 ?_
  refine OAt.cast (st' := [(.int (0 : Int32))]) rfl ?_
  refine Own.istoreN #[.val (.ref a1), .val (.int (0 : Int32))] d18_31 rfl ?_
  refine Own.aloadN d18_32 rfl rfl ?_
  refine Own.iloadN d18_33 rfl ?_
  refine Own.iinc (1 : Int32) #[.val (.ref a1), .val (.int ((0 : Int32) + (1 : Int32)))] d18_34 rfl rfl rfl ?_
  refine OAt.castL (Ls' := #[.val (.ref a1), .val (.int (1 : Int32))]) rfl rfl ?_
  refine Own.baload_ V_a1 (i := 0) rfl (v := (.int x)) hx d18_37 ?_
  refine Own.sipush (255 : Int32) d18_38 rfl ?_
  refine Own.iand d18_41 ?_
  refine Own.getS_ (host := "") (Or.inl (hw _ (List.mem_of_getElem? (i := 77) rfl))) Via.refl S_H d18_42 ?_
  refine Own.ishl d18_45 ?_
  refine Own.aloadN d18_46 rfl rfl ?_
  refine Own.iloadN d18_47 rfl ?_
  refine Own.baload_ V_a1 (i := 1) rfl (v := (.int y)) hy d18_48 ?_
  refine Own.sipush (255 : Int32) d18_49 rfl ?_
  refine Own.iand d18_52 ?_
  refine Own.getS_ (host := "") (Or.inl (hw _ (List.mem_of_getElem? (i := 78) rfl))) Via.refl S_L d18_53 ?_
  refine Own.ishl d18_56 ?_
  refine Own.ior d18_57 ?_
  refine Own.i2c d18_58 ?_
  refine Own.ret_nar (t := .char) (by simp) rfl d18_59 (by decide) (by decide) ?_
  exact ⟨rfl, rfl⟩
def Q_rmPut1 (Z : State) (a1 : Addr) (ka : ClassId) (vs : List Value) (x : Int32) (h0 : Heap) (n0 : Nat) (v : Option Value) (h : Heap) : Prop := v = none ∧ Keep h0 h [a1] ∧ Arl Z h a1 ka .byte ((vs.set 2 (.int (own_b0 x))).set 3 (.int (own_b1 x)))
theorem ef_rmPut1 (m : MethodId) (a1 : Addr) (x : Int32)  : entryFrame m #[(.ref a1), (.int (1 : Int32)), (.int x)] 3 = mkF m 0 #[.val (.ref a1), .val (.int (1 : Int32)), .val (.int x)] [] := by first | (simp [entryFrame, mkF, argsToLocals, Value.category]; done) | rfl
set_option maxRecDepth 65536 in
set_option maxHeartbeats 40000000 in
theorem rmPut1 (l : Launch) (Z : State) (a0 : Array Value) (hw : ∀ d ∈ tables_1, d.before a0 Z = true) (ws : List Jvm.Cond) (a1 : Addr) (ka : ClassId) (vs : List Value) (x : Int32) (h0 : Heap) (n0 : Nat) (hn : n0 ≤ h0.size) (V_a1 : Arl Z h0 a1 ka .byte vs) (hl : vs.length = 8) (g_a1 : n0 ≤ a1) (S_A : Sta Z h0 "java/lang/StringUTF16" "$assertionsDisabled" "Z" (.int (1 : Int32))) (S_H : Sta Z h0 "java/lang/StringUTF16" "HI_BYTE_SHIFT" "I" (.int (0 : Int32))) (S_L : Sta Z h0 "java/lang/StringUTF16" "LO_BYTE_SHIFT" "I" (.int (8 : Int32))) :
    Met false l Z (⟨"java/lang/StringUTF16", "putChar", "([BII)V"⟩ : MethodName) jdk_52_method_4_code 3 none ({ frames := 0, cells := 0, slots := 0, locals := 0 } : Room) ws #[(.ref a1), (.int (1 : Int32)), (.int x)] h0 n0 (Q_rmPut1 Z a1 ka vs x h0 n0) := by
  refine Met.of pn_17 (fun m => ef_rmPut1 m a1 x) ?_
  have K := Keep.refl h0 [a1]
  refine Own.getS_ (host := "") (Or.inl (hw _ (List.mem_of_getElem? (i := 76) rfl))) Via.refl S_A d17_0 ?_
  refine Own.if_ne 28 d17_3 (by decide) rfl (fun _ => ?_) (fun q => absurd q (by decide))
  refine Own.iloadN d17_28 rfl ?_
  refine Own.iconst (1 : Int32) d17_29 rfl ?_
  refine Own.ishl d17_30 ?_
  refine OAt.cast (st' := [(.int (2 : Int32))]) rfl ?_
  refine Own.istoreN #[.val (.ref a1), .val (.int (2 : Int32)), .val (.int x)] d17_31 rfl ?_
  refine Own.aloadN d17_32 rfl rfl ?_
  refine Own.iloadN d17_33 rfl ?_
  refine Own.iinc (1 : Int32) #[.val (.ref a1), .val (.int ((2 : Int32) + (1 : Int32))), .val (.int x)] d17_34 rfl rfl rfl ?_
  refine OAt.castL (Ls' := #[.val (.ref a1), .val (.int (3 : Int32)), .val (.int x)]) rfl rfl ?_
  refine Own.iloadN d17_37 rfl ?_
  refine Own.getS_ (host := "") (Or.inl (hw _ (List.mem_of_getElem? (i := 77) rfl))) Via.refl S_H d17_38 ?_
  refine Own.ishr d17_41 ?_
  refine Own.i2b d17_42 ?_
  refine Own.bastore_ V_a1 (i := 2) rfl (by rw [hl]; decide) g_a1 d17_43 (fun h4 W4 V4 => ?_)
  have hn : n0 ≤ h4.size := by rw [W4.size]; exact hn
  replace S_A := S_A.wr W4
  replace S_H := S_H.wr W4
  replace S_L := S_L.wr W4
  clear V_a1
  have K := K.wr W4 (Or.inl (List.mem_of_getElem? (i := 0) rfl))
  refine Own.aloadN d17_44 rfl rfl ?_
  refine Own.iloadN d17_45 rfl ?_
  refine Own.iloadN d17_46 rfl ?_
  refine Own.getS_ (host := "") (Or.inl (hw _ (List.mem_of_getElem? (i := 78) rfl))) Via.refl S_L d17_47 ?_
  refine Own.ishr d17_50 ?_
  refine Own.i2b d17_51 ?_
  refine Own.bastore_ V4 (i := 3) rfl (by rw [List.length_set, hl]; decide) g_a1 d17_52 (fun h5 W5 V5 => ?_)
  have hn : n0 ≤ h5.size := by rw [W5.size]; exact hn
  replace S_A := S_A.wr W5
  replace S_H := S_H.wr W5
  replace S_L := S_L.wr W5
  clear V4
  have K := K.wr W5 (Or.inl (List.mem_of_getElem? (i := 0) rfl))
  refine Own.ret_void rfl d17_53 (by decide) (by decide) ?_
  exact ⟨rfl, K, V5⟩
theorem ef_rmGet1 (m : MethodId) (a1 : Addr)  : entryFrame m #[(.ref a1), (.int (1 : Int32))] 2 = mkF m 0 #[.val (.ref a1), .val (.int (1 : Int32))] [] := by first | (simp [entryFrame, mkF, argsToLocals, Value.category]; done) | rfl
set_option maxRecDepth 65536 in
set_option maxHeartbeats 40000000 in
theorem rmGet1 (l : Launch) (Z : State) (a0 : Array Value) (hw : ∀ d ∈ tables_1, d.before a0 Z = true) (ws : List Jvm.Cond) (a1 : Addr) (ka : ClassId) (vs : List Value) (x : Int32) (y : Int32) (h0 : Heap) (n0 : Nat) (hn : n0 ≤ h0.size) (V_a1 : Arl Z h0 a1 ka .byte vs) (hx : vs[2]? = some (.int x)) (hy : vs[3]? = some (.int y)) (S_A : Sta Z h0 "java/lang/StringUTF16" "$assertionsDisabled" "Z" (.int (1 : Int32))) (S_H : Sta Z h0 "java/lang/StringUTF16" "HI_BYTE_SHIFT" "I" (.int (0 : Int32))) (S_L : Sta Z h0 "java/lang/StringUTF16" "LO_BYTE_SHIFT" "I" (.int (8 : Int32))) :
    Met false l Z (⟨"java/lang/StringUTF16", "getChar", "([BI)C"⟩ : MethodName) jdk_52_method_5_code 2 (some .char) ({ frames := 0, cells := 0, slots := 0, locals := 0 } : Room) ws #[(.ref a1), (.int (1 : Int32))] h0 n0 (Pur (.int (own_gc x y)) h0) := by
  refine Met.of pn_18 (fun m => ef_rmGet1 m a1) ?_
  refine Own.getS_ (host := "") (Or.inl (hw _ (List.mem_of_getElem? (i := 76) rfl))) Via.refl S_A d18_0 ?_
  refine Own.if_ne 28 d18_3 (by decide) rfl (fun _ => ?_) (fun q => absurd q (by decide))
  refine Own.iloadN d18_28 rfl ?_
  refine Own.iconst (1 : Int32) d18_29 rfl ?_
  refine Own.ishl d18_30 ?_
  refine OAt.cast (st' := [(.int (2 : Int32))]) rfl ?_
  refine Own.istoreN #[.val (.ref a1), .val (.int (2 : Int32))] d18_31 rfl ?_
  refine Own.aloadN d18_32 rfl rfl ?_
  refine Own.iloadN d18_33 rfl ?_
  refine Own.iinc (1 : Int32) #[.val (.ref a1), .val (.int ((2 : Int32) + (1 : Int32)))] d18_34 rfl rfl rfl ?_
  refine OAt.castL (Ls' := #[.val (.ref a1), .val (.int (3 : Int32))]) rfl rfl ?_
  refine Own.baload_ V_a1 (i := 2) rfl (v := (.int x)) hx d18_37 ?_
  refine Own.sipush (255 : Int32) d18_38 rfl ?_
  refine Own.iand d18_41 ?_
  refine Own.getS_ (host := "") (Or.inl (hw _ (List.mem_of_getElem? (i := 77) rfl))) Via.refl S_H d18_42 ?_
  refine Own.ishl d18_45 ?_
  refine Own.aloadN d18_46 rfl rfl ?_
  refine Own.iloadN d18_47 rfl ?_
  refine Own.baload_ V_a1 (i := 3) rfl (v := (.int y)) hy d18_48 ?_
  refine Own.sipush (255 : Int32) d18_49 rfl ?_
  refine Own.iand d18_52 ?_
  refine Own.getS_ (host := "") (Or.inl (hw _ (List.mem_of_getElem? (i := 78) rfl))) Via.refl S_L d18_53 ?_
  refine Own.ishl d18_56 ?_
  refine Own.ior d18_57 ?_
  refine Own.i2c d18_58 ?_
  refine Own.ret_nar (t := .char) (by simp) rfl d18_59 (by decide) (by decide) ?_
  exact ⟨rfl, rfl⟩
def Q_rmPut2 (Z : State) (a1 : Addr) (ka : ClassId) (vs : List Value) (x : Int32) (h0 : Heap) (n0 : Nat) (v : Option Value) (h : Heap) : Prop := v = none ∧ Keep h0 h [a1] ∧ Arl Z h a1 ka .byte ((vs.set 4 (.int (own_b0 x))).set 5 (.int (own_b1 x)))
theorem ef_rmPut2 (m : MethodId) (a1 : Addr) (x : Int32)  : entryFrame m #[(.ref a1), (.int (2 : Int32)), (.int x)] 3 = mkF m 0 #[.val (.ref a1), .val (.int (2 : Int32)), .val (.int x)] [] := by first | (simp [entryFrame, mkF, argsToLocals, Value.category]; done) | rfl
set_option maxRecDepth 65536 in
set_option maxHeartbeats 40000000 in
theorem rmPut2 (l : Launch) (Z : State) (a0 : Array Value) (hw : ∀ d ∈ tables_1, d.before a0 Z = true) (ws : List Jvm.Cond) (a1 : Addr) (ka : ClassId) (vs : List Value) (x : Int32) (h0 : Heap) (n0 : Nat) (hn : n0 ≤ h0.size) (V_a1 : Arl Z h0 a1 ka .byte vs) (hl : vs.length = 8) (g_a1 : n0 ≤ a1) (S_A : Sta Z h0 "java/lang/StringUTF16" "$assertionsDisabled" "Z" (.int (1 : Int32))) (S_H : Sta Z h0 "java/lang/StringUTF16" "HI_BYTE_SHIFT" "I" (.int (0 : Int32))) (S_L : Sta Z h0 "java/lang/StringUTF16" "LO_BYTE_SHIFT" "I" (.int (8 : Int32))) :
    Met false l Z (⟨"java/lang/StringUTF16", "putChar", "([BII)V"⟩ : MethodName) jdk_52_method_4_code 3 none ({ frames := 0, cells := 0, slots := 0, locals := 0 } : Room) ws #[(.ref a1), (.int (2 : Int32)), (.int x)] h0 n0 (Q_rmPut2 Z a1 ka vs x h0 n0) := by
  refine Met.of pn_17 (fun m => ef_rmPut2 m a1 x) ?_
  have K := Keep.refl h0 [a1]
  refine Own.getS_ (host := "") (Or.inl (hw _ (List.mem_of_getElem? (i := 76) rfl))) Via.refl S_A d17_0 ?_
  refine Own.if_ne 28 d17_3 (by decide) rfl (fun _ => ?_) (fun q => absurd q (by decide))
  refine Own.iloadN d17_28 rfl ?_
  refine Own.iconst (1 : Int32) d17_29 rfl ?_
  refine Own.ishl d17_30 ?_
  refine OAt.cast (st' := [(.int (4 : Int32))]) rfl ?_
  refine Own.istoreN #[.val (.ref a1), .val (.int (4 : Int32)), .val (.int x)] d17_31 rfl ?_
  refine Own.aloadN d17_32 rfl rfl ?_
  refine Own.iloadN d17_33 rfl ?_
  refine Own.iinc (1 : Int32) #[.val (.ref a1), .val (.int ((4 : Int32) + (1 : Int32))), .val (.int x)] d17_34 rfl rfl rfl ?_
  refine OAt.castL (Ls' := #[.val (.ref a1), .val (.int (5 : Int32)), .val (.int x)]) rfl rfl ?_
  refine Own.iloadN d17_37 rfl ?_
  refine Own.getS_ (host := "") (Or.inl (hw _ (List.mem_of_getElem? (i := 77) rfl))) Via.refl S_H d17_38 ?_
  refine Own.ishr d17_41 ?_
  refine Own.i2b d17_42 ?_
  refine Own.bastore_ V_a1 (i := 4) rfl (by rw [hl]; decide) g_a1 d17_43 (fun h6 W6 V6 => ?_)
  have hn : n0 ≤ h6.size := by rw [W6.size]; exact hn
  replace S_A := S_A.wr W6
  replace S_H := S_H.wr W6
  replace S_L := S_L.wr W6
  clear V_a1
  have K := K.wr W6 (Or.inl (List.mem_of_getElem? (i := 0) rfl))
  refine Own.aloadN d17_44 rfl rfl ?_
  refine Own.iloadN d17_45 rfl ?_
  refine Own.iloadN d17_46 rfl ?_
  refine Own.getS_ (host := "") (Or.inl (hw _ (List.mem_of_getElem? (i := 78) rfl))) Via.refl S_L d17_47 ?_
  refine Own.ishr d17_50 ?_
  refine Own.i2b d17_51 ?_
  refine Own.bastore_ V6 (i := 5) rfl (by rw [List.length_set, hl]; decide) g_a1 d17_52 (fun h7 W7 V7 => ?_)
  have hn : n0 ≤ h7.size := by rw [W7.size]; exact hn
  replace S_A := S_A.wr W7
  replace S_H := S_H.wr W7
  replace S_L := S_L.wr W7
  clear V6
  have K := K.wr W7 (Or.inl (List.mem_of_getElem? (i := 0) rfl))
  refine Own.ret_void rfl d17_53 (by decide) (by decide) ?_
  exact ⟨rfl, K, V7⟩
theorem ef_rmGet2 (m : MethodId) (a1 : Addr)  : entryFrame m #[(.ref a1), (.int (2 : Int32))] 2 = mkF m 0 #[.val (.ref a1), .val (.int (2 : Int32))] [] := by first | (simp [entryFrame, mkF, argsToLocals, Value.category]; done) | rfl
set_option maxRecDepth 65536 in
set_option maxHeartbeats 40000000 in
theorem rmGet2 (l : Launch) (Z : State) (a0 : Array Value) (hw : ∀ d ∈ tables_1, d.before a0 Z = true) (ws : List Jvm.Cond) (a1 : Addr) (ka : ClassId) (vs : List Value) (x : Int32) (y : Int32) (h0 : Heap) (n0 : Nat) (hn : n0 ≤ h0.size) (V_a1 : Arl Z h0 a1 ka .byte vs) (hx : vs[4]? = some (.int x)) (hy : vs[5]? = some (.int y)) (S_A : Sta Z h0 "java/lang/StringUTF16" "$assertionsDisabled" "Z" (.int (1 : Int32))) (S_H : Sta Z h0 "java/lang/StringUTF16" "HI_BYTE_SHIFT" "I" (.int (0 : Int32))) (S_L : Sta Z h0 "java/lang/StringUTF16" "LO_BYTE_SHIFT" "I" (.int (8 : Int32))) :
    Met false l Z (⟨"java/lang/StringUTF16", "getChar", "([BI)C"⟩ : MethodName) jdk_52_method_5_code 2 (some .char) ({ frames := 0, cells := 0, slots := 0, locals := 0 } : Room) ws #[(.ref a1), (.int (2 : Int32))] h0 n0 (Pur (.int (own_gc x y)) h0) := by
  refine Met.of pn_18 (fun m => ef_rmGet2 m a1) ?_
  refine Own.getS_ (host := "") (Or.inl (hw _ (List.mem_of_getElem? (i := 76) rfl))) Via.refl S_A d18_0 ?_
  refine Own.if_ne 28 d18_3 (by decide) rfl (fun _ => ?_) (fun q => absurd q (by decide))
  refine Own.iloadN d18_28 rfl ?_
  refine Own.iconst (1 : Int32) d18_29 rfl ?_
  refine Own.ishl d18_30 ?_
  refine OAt.cast (st' := [(.int (4 : Int32))]) rfl ?_
  refine Own.istoreN #[.val (.ref a1), .val (.int (4 : Int32))] d18_31 rfl ?_
  refine Own.aloadN d18_32 rfl rfl ?_
  refine Own.iloadN d18_33 rfl ?_
  refine Own.iinc (1 : Int32) #[.val (.ref a1), .val (.int ((4 : Int32) + (1 : Int32)))] d18_34 rfl rfl rfl ?_
  refine OAt.castL (Ls' := #[.val (.ref a1), .val (.int (5 : Int32))]) rfl rfl ?_
  refine Own.baload_ V_a1 (i := 4) rfl (v := (.int x)) hx d18_37 ?_
  refine Own.sipush (255 : Int32) d18_38 rfl ?_
  refine Own.iand d18_41 ?_
  refine Own.getS_ (host := "") (Or.inl (hw _ (List.mem_of_getElem? (i := 77) rfl))) Via.refl S_H d18_42 ?_
  refine Own.ishl d18_45 ?_
  refine Own.aloadN d18_46 rfl rfl ?_
  refine Own.iloadN d18_47 rfl ?_
  refine Own.baload_ V_a1 (i := 5) rfl (v := (.int y)) hy d18_48 ?_
  refine Own.sipush (255 : Int32) d18_49 rfl ?_
  refine Own.iand d18_52 ?_
  refine Own.getS_ (host := "") (Or.inl (hw _ (List.mem_of_getElem? (i := 78) rfl))) Via.refl S_L d18_53 ?_
  refine Own.ishl d18_56 ?_
  refine Own.ior d18_57 ?_
  refine Own.i2c d18_58 ?_
  refine Own.ret_nar (t := .char) (by simp) rfl d18_59 (by decide) (by decide) ?_
  exact ⟨rfl, rfl⟩
def Q_rmPut3 (Z : State) (a1 : Addr) (ka : ClassId) (vs : List Value) (x : Int32) (h0 : Heap) (n0 : Nat) (v : Option Value) (h : Heap) : Prop := v = none ∧ Keep h0 h [a1] ∧ Arl Z h a1 ka .byte ((vs.set 6 (.int (own_b0 x))).set 7 (.int (own_b1 x)))
theorem ef_rmPut3 (m : MethodId) (a1 : Addr) (x : Int32)  : entryFrame m #[(.ref a1), (.int (3 : Int32)), (.int x)] 3 = mkF m 0 #[.val (.ref a1), .val (.int (3 : Int32)), .val (.int x)] [] := by first | (simp [entryFrame, mkF, argsToLocals, Value.category]; done) | rfl
set_option maxRecDepth 65536 in
set_option maxHeartbeats 40000000 in
theorem rmPut3 (l : Launch) (Z : State) (a0 : Array Value) (hw : ∀ d ∈ tables_1, d.before a0 Z = true) (ws : List Jvm.Cond) (a1 : Addr) (ka : ClassId) (vs : List Value) (x : Int32) (h0 : Heap) (n0 : Nat) (hn : n0 ≤ h0.size) (V_a1 : Arl Z h0 a1 ka .byte vs) (hl : vs.length = 8) (g_a1 : n0 ≤ a1) (S_A : Sta Z h0 "java/lang/StringUTF16" "$assertionsDisabled" "Z" (.int (1 : Int32))) (S_H : Sta Z h0 "java/lang/StringUTF16" "HI_BYTE_SHIFT" "I" (.int (0 : Int32))) (S_L : Sta Z h0 "java/lang/StringUTF16" "LO_BYTE_SHIFT" "I" (.int (8 : Int32))) :
    Met false l Z (⟨"java/lang/StringUTF16", "putChar", "([BII)V"⟩ : MethodName) jdk_52_method_4_code 3 none ({ frames := 0, cells := 0, slots := 0, locals := 0 } : Room) ws #[(.ref a1), (.int (3 : Int32)), (.int x)] h0 n0 (Q_rmPut3 Z a1 ka vs x h0 n0) := by
  refine Met.of pn_17 (fun m => ef_rmPut3 m a1 x) ?_
  have K := Keep.refl h0 [a1]
  refine Own.getS_ (host := "") (Or.inl (hw _ (List.mem_of_getElem? (i := 76) rfl))) Via.refl S_A d17_0 ?_
  refine Own.if_ne 28 d17_3 (by decide) rfl (fun _ => ?_) (fun q => absurd q (by decide))
  refine Own.iloadN d17_28 rfl ?_
  refine Own.iconst (1 : Int32) d17_29 rfl ?_
  refine Own.ishl d17_30 ?_
  refine OAt.cast (st' := [(.int (6 : Int32))]) rfl ?_
  refine Own.istoreN #[.val (.ref a1), .val (.int (6 : Int32)), .val (.int x)] d17_31 rfl ?_
  refine Own.aloadN d17_32 rfl rfl ?_
  refine Own.iloadN d17_33 rfl ?_
  refine Own.iinc (1 : Int32) #[.val (.ref a1), .val (.int ((6 : Int32) + (1 : Int32))), .val (.int x)] d17_34 rfl rfl rfl ?_
  refine OAt.castL (Ls' := #[.val (.ref a1), .val (.int (7 : Int32)), .val (.int x)]) rfl rfl ?_
  refine Own.iloadN d17_37 rfl ?_
  refine Own.getS_ (host := "") (Or.inl (hw _ (List.mem_of_getElem? (i := 77) rfl))) Via.refl S_H d17_38 ?_
  refine Own.ishr d17_41 ?_
  refine Own.i2b d17_42 ?_
  refine Own.bastore_ V_a1 (i := 6) rfl (by rw [hl]; decide) g_a1 d17_43 (fun h8 W8 V8 => ?_)
  have hn : n0 ≤ h8.size := by rw [W8.size]; exact hn
  replace S_A := S_A.wr W8
  replace S_H := S_H.wr W8
  replace S_L := S_L.wr W8
  clear V_a1
  have K := K.wr W8 (Or.inl (List.mem_of_getElem? (i := 0) rfl))
  refine Own.aloadN d17_44 rfl rfl ?_
  refine Own.iloadN d17_45 rfl ?_
  refine Own.iloadN d17_46 rfl ?_
  refine Own.getS_ (host := "") (Or.inl (hw _ (List.mem_of_getElem? (i := 78) rfl))) Via.refl S_L d17_47 ?_
  refine Own.ishr d17_50 ?_
  refine Own.i2b d17_51 ?_
  refine Own.bastore_ V8 (i := 7) rfl (by rw [List.length_set, hl]; decide) g_a1 d17_52 (fun h9 W9 V9 => ?_)
  have hn : n0 ≤ h9.size := by rw [W9.size]; exact hn
  replace S_A := S_A.wr W9
  replace S_H := S_H.wr W9
  replace S_L := S_L.wr W9
  clear V8
  have K := K.wr W9 (Or.inl (List.mem_of_getElem? (i := 0) rfl))
  refine Own.ret_void rfl d17_53 (by decide) (by decide) ?_
  exact ⟨rfl, K, V9⟩
theorem ef_rmGet3 (m : MethodId) (a1 : Addr)  : entryFrame m #[(.ref a1), (.int (3 : Int32))] 2 = mkF m 0 #[.val (.ref a1), .val (.int (3 : Int32))] [] := by first | (simp [entryFrame, mkF, argsToLocals, Value.category]; done) | rfl
set_option maxRecDepth 65536 in
set_option maxHeartbeats 40000000 in
theorem rmGet3 (l : Launch) (Z : State) (a0 : Array Value) (hw : ∀ d ∈ tables_1, d.before a0 Z = true) (ws : List Jvm.Cond) (a1 : Addr) (ka : ClassId) (vs : List Value) (x : Int32) (y : Int32) (h0 : Heap) (n0 : Nat) (hn : n0 ≤ h0.size) (V_a1 : Arl Z h0 a1 ka .byte vs) (hx : vs[6]? = some (.int x)) (hy : vs[7]? = some (.int y)) (S_A : Sta Z h0 "java/lang/StringUTF16" "$assertionsDisabled" "Z" (.int (1 : Int32))) (S_H : Sta Z h0 "java/lang/StringUTF16" "HI_BYTE_SHIFT" "I" (.int (0 : Int32))) (S_L : Sta Z h0 "java/lang/StringUTF16" "LO_BYTE_SHIFT" "I" (.int (8 : Int32))) :
    Met false l Z (⟨"java/lang/StringUTF16", "getChar", "([BI)C"⟩ : MethodName) jdk_52_method_5_code 2 (some .char) ({ frames := 0, cells := 0, slots := 0, locals := 0 } : Room) ws #[(.ref a1), (.int (3 : Int32))] h0 n0 (Pur (.int (own_gc x y)) h0) := by
  refine Met.of pn_18 (fun m => ef_rmGet3 m a1) ?_
  refine Own.getS_ (host := "") (Or.inl (hw _ (List.mem_of_getElem? (i := 76) rfl))) Via.refl S_A d18_0 ?_
  refine Own.if_ne 28 d18_3 (by decide) rfl (fun _ => ?_) (fun q => absurd q (by decide))
  refine Own.iloadN d18_28 rfl ?_
  refine Own.iconst (1 : Int32) d18_29 rfl ?_
  refine Own.ishl d18_30 ?_
  refine OAt.cast (st' := [(.int (6 : Int32))]) rfl ?_
  refine Own.istoreN #[.val (.ref a1), .val (.int (6 : Int32))] d18_31 rfl ?_
  refine Own.aloadN d18_32 rfl rfl ?_
  refine Own.iloadN d18_33 rfl ?_
  refine Own.iinc (1 : Int32) #[.val (.ref a1), .val (.int ((6 : Int32) + (1 : Int32)))] d18_34 rfl rfl rfl ?_
  refine OAt.castL (Ls' := #[.val (.ref a1), .val (.int (7 : Int32))]) rfl rfl ?_
  refine Own.baload_ V_a1 (i := 6) rfl (v := (.int x)) hx d18_37 ?_
  refine Own.sipush (255 : Int32) d18_38 rfl ?_
  refine Own.iand d18_41 ?_
  refine Own.getS_ (host := "") (Or.inl (hw _ (List.mem_of_getElem? (i := 77) rfl))) Via.refl S_H d18_42 ?_
  refine Own.ishl d18_45 ?_
  refine Own.aloadN d18_46 rfl rfl ?_
  refine Own.iloadN d18_47 rfl ?_
  refine Own.baload_ V_a1 (i := 7) rfl (v := (.int y)) hy d18_48 ?_
  refine Own.sipush (255 : Int32) d18_49 rfl ?_
  refine Own.iand d18_52 ?_
  refine Own.getS_ (host := "") (Or.inl (hw _ (List.mem_of_getElem? (i := 78) rfl))) Via.refl S_L d18_53 ?_
  refine Own.ishl d18_56 ?_
  refine Own.ior d18_57 ?_
  refine Own.i2c d18_58 ?_
  refine Own.ret_nar (t := .char) (by simp) rfl d18_59 (by decide) (by decide) ?_
  exact ⟨rfl, rfl⟩
theorem d14_0 : decode jdk_52_method_14_code 0 = .ok (.iload_n 2, 1) := by decide +kernel
theorem d14_1 : decode jdk_52_method_14_code 1 = .ok (.invokestatic 107, 3) := by decide +kernel
theorem pd_4 : parseMethodDescriptor "(I)[B" = some ⟨[.int], some (.array .byte)⟩ := by decide +kernel
theorem d14_4 : decode jdk_52_method_14_code 4 = .ok (.astore_n 3, 1) := by decide +kernel
theorem d14_5 : decode jdk_52_method_14_code 5 = .ok (.iconst 0, 1) := by decide +kernel
theorem d14_6 : decode jdk_52_method_14_code 6 = .ok (.istore 4, 2) := by decide +kernel
theorem d14_8 : decode jdk_52_method_14_code 8 = .ok (.iload 4, 2) := by decide +kernel
theorem d14_10 : decode jdk_52_method_14_code 10 = .ok (.iload_n 2, 1) := by decide +kernel
theorem d14_11 : decode jdk_52_method_14_code 11 = .ok (.if_icmp .ge 21, 3) := by decide +kernel
theorem d14_14 : decode jdk_52_method_14_code 14 = .ok (.aload_n 3, 1) := by decide +kernel
theorem d14_15 : decode jdk_52_method_14_code 15 = .ok (.iload 4, 2) := by decide +kernel
theorem d14_17 : decode jdk_52_method_14_code 17 = .ok (.aload_n 0, 1) := by decide +kernel
theorem d14_18 : decode jdk_52_method_14_code 18 = .ok (.iload_n 1, 1) := by decide +kernel
theorem d14_19 : decode jdk_52_method_14_code 19 = .ok (.caload, 1) := by decide +kernel
theorem d14_20 : decode jdk_52_method_14_code 20 = .ok (.invokestatic 111, 3) := by decide +kernel
theorem pd_13 : parseMethodDescriptor "([BII)V" = some ⟨[(.array .byte), .int, .int], none⟩ := by decide +kernel
theorem d14_23 : decode jdk_52_method_14_code 23 = .ok (.iinc 1 1, 3) := by decide +kernel
theorem d14_26 : decode jdk_52_method_14_code 26 = .ok (.iinc 4 1, 3) := by decide +kernel
theorem d14_29 : decode jdk_52_method_14_code 29 = .ok (.goto (-21), 3) := by decide +kernel
theorem d14_32 : decode jdk_52_method_14_code 32 = .ok (.aload_n 3, 1) := by decide +kernel
theorem d14_33 : decode jdk_52_method_14_code 33 = .ok (.areturn, 1) := by decide +kernel
def Q_rmTo (Z : State) (c0 : Int32) (c1 : Int32) (c2 : Int32) (c3 : Int32) (h0 : Heap) (n0 : Nat) (v : Option Value) (h : Heap) : Prop := ∃ (a : Addr) (ka : ClassId), v = some (.ref a) ∧ h0.size ≤ a ∧ Keep h0 h [] ∧ Arl Z h a ka .byte [(.int (own_b0 c0)), (.int (own_b1 c0)), (.int (own_b0 c1)), (.int (own_b1 c1)), (.int (own_b0 c2)), (.int (own_b1 c2)), (.int (own_b0 c3)), (.int (own_b1 c3))]
theorem ef_rmTo (m : MethodId) (a1 : Addr)  : entryFrame m #[(.ref a1), (.int (0 : Int32)), (.int (4 : Int32))] 5 = mkF m 0 #[.val (.ref a1), .val (.int (0 : Int32)), .val (.int (4 : Int32)), .unset, .unset] [] := by first | (simp [entryFrame, mkF, argsToLocals, Value.category]; done) | rfl
theorem pn_14 : plainFor (⟨"java/lang/StringUTF16", "toBytes", "([CII)[B"⟩ : MethodName) = true := plainFor_of_name (show plainName "java/lang/StringUTF16" = true by first | (simp [plainName, overriddenIn]; done) | decide +kernel)
set_option maxRecDepth 65536 in
set_option maxHeartbeats 40000000 in
theorem rmTo (l : Launch) (Z : State) (a0 : Array Value) (hw : ∀ d ∈ tables_1, d.before a0 Z = true) (ws : List Jvm.Cond) (a1 : Addr) (kc : ClassId) (c0 : Int32) (c1 : Int32) (c2 : Int32) (c3 : Int32) (h0 : Heap) (n0 : Nat) (hn : n0 ≤ h0.size) (V_a1 : Arl Z h0 a1 kc .char [(.int c0), (.int c1), (.int c2), (.int c3)]) (S_A : Sta Z h0 "java/lang/StringUTF16" "$assertionsDisabled" "Z" (.int (1 : Int32))) (S_H : Sta Z h0 "java/lang/StringUTF16" "HI_BYTE_SHIFT" "I" (.int (0 : Int32))) (S_L : Sta Z h0 "java/lang/StringUTF16" "LO_BYTE_SHIFT" "I" (.int (8 : Int32))) :
    Met false l Z (⟨"java/lang/StringUTF16", "toBytes", "([CII)[B"⟩ : MethodName) jdk_52_method_14_code 5 (some (.array .byte)) ({ frames := 2, cells := 1, slots := 8, locals := 24 } : Room) ws #[(.ref a1), (.int (0 : Int32)), (.int (4 : Int32))] h0 n0 (Q_rmTo Z c0 c1 c2 c3 h0 n0) := by
  refine Met.of pn_14 (fun m => ef_rmTo m a1) ?_
  have K := Keep.refl h0 []
  refine Own.iloadN d14_0 rfl ?_
  refine Own.callS_ [(.int (4 : Int32))] [] 0 (rmNBF l Z a0 hw [] h0 n0 hn) (hw _ (List.mem_of_getElem? (i := 66) rfl)) (hw _ (List.mem_of_getElem? (i := 67) rfl)) (hw _ (List.mem_of_getElem? (i := 24) rfl)) (hw _ (List.mem_of_getElem? (i := 68) rfl)) (by decide) d14_1 pd_4 rfl rfl rfl rfl (by decide) (by decide) (by decide) (by decide) (fun v10 h10 hq10 => ?_)
  obtain ⟨b11, k11, rfl, z11, K11, V11⟩ := hq10
  have g_b11 : n0 ≤ b11 := Nat.le_trans hn z11
  have ne_a1_b11 : a1 ≠ b11 := Nat.ne_of_lt (Nat.lt_of_lt_of_le V_a1.lt z11)
  have ne_b11_a1 := Ne.symm ne_a1_b11
  have sz_b11 : h0.size ≤ b11 := Nat.le_trans K.1 z11
  have hn := Nat.le_trans hn K11.1
  replace S_A := sta_keep S_A K11 ns0
  replace S_H := sta_keep S_H K11 ns0
  replace S_L := sta_keep S_L K11 ns0
  replace V_a1 := V_a1.keep K11 nin0
  have K := K.trans K11 all0
  refine OAt.cast (st' := [(.ref b11)]) rfl ?_
  refine Own.astoreN #[.val (.ref a1), .val (.int (0 : Int32)), .val (.int (4 : Int32)), .val (.ref b11), .unset] d14_4 rfl rfl ?_
  refine Own.iconst (0 : Int32) d14_5 rfl ?_
  refine Own.istore #[.val (.ref a1), .val (.int (0 : Int32)), .val (.int (4 : Int32)), .val (.ref b11), .val (.int (0 : Int32))] d14_6 rfl ?_
  refine Own.iload d14_8 rfl ?_
  refine Own.iloadN d14_10 rfl ?_
  refine Own.icmp_ge 32 d14_11 (by decide) rfl (fun q => absurd (by decide) q) (fun _ => ?_)
  refine Own.aloadN d14_14 rfl rfl ?_
  refine Own.iload d14_15 rfl ?_
  refine Own.aloadN d14_17 rfl rfl ?_
  refine Own.iloadN d14_18 rfl ?_
  refine Own.caload_ V_a1 (i := 0) rfl rfl d14_19 ?_
  refine Own.callS_ [(.ref b11), (.int (0 : Int32)), (.int c0)] [] 0 (rmPut0 l Z a0 hw [] b11 k11 _ c0 h10 n0 hn V11 rfl g_b11 S_A S_H S_L) (hw _ (List.mem_of_getElem? (i := 73) rfl)) (hw _ (List.mem_of_getElem? (i := 74) rfl)) (hw _ (List.mem_of_getElem? (i := 24) rfl)) (hw _ (List.mem_of_getElem? (i := 75) rfl)) (by decide) d14_20 pd_13 rfl rfl rfl rfl (by decide) (by decide) (by decide) (by decide) (fun v13 h13 hq13 => ?_)
  obtain ⟨rfl, K12, V12⟩ := hq13
  have hn := Nat.le_trans hn K12.1
  replace S_A := sta_keep S_A K12 (nsS V11.nostat ns0)
  replace S_H := sta_keep S_H K12 (nsS V11.nostat ns0)
  replace S_L := sta_keep S_L K12 (nsS V11.nostat ns0)
  replace V_a1 := V_a1.keep K12 (ninS ne_a1_b11 nin0)
  have K := K.trans K12 (allS (Or.inr sz_b11) all0)
  replace V12 : Arl Z h13 b11 k11 .byte [(.int (own_b0 c0)), (.int (own_b1 c0)), (.int (0 : Int32)), (.int (0 : Int32)), (.int (0 : Int32)), (.int (0 : Int32)), (.int (0 : Int32)), (.int (0 : Int32))] := V12
  refine OAt.cast (st' := []) rfl ?_
  refine Own.iinc (1 : Int32) #[.val (.ref a1), .val (.int ((0 : Int32) + (1 : Int32))), .val (.int (4 : Int32)), .val (.ref b11), .val (.int (0 : Int32))] d14_23 rfl rfl rfl ?_
  refine OAt.castL (Ls' := #[.val (.ref a1), .val (.int (1 : Int32)), .val (.int (4 : Int32)), .val (.ref b11), .val (.int (0 : Int32))]) rfl rfl ?_
  refine Own.iinc (1 : Int32) #[.val (.ref a1), .val (.int (1 : Int32)), .val (.int (4 : Int32)), .val (.ref b11), .val (.int ((0 : Int32) + (1 : Int32)))] d14_26 rfl rfl rfl ?_
  refine OAt.castL (Ls' := #[.val (.ref a1), .val (.int (1 : Int32)), .val (.int (4 : Int32)), .val (.ref b11), .val (.int (1 : Int32))]) rfl rfl ?_
  refine Own.goto_ 8 d14_29 (by decide) rfl ?_
  refine Own.iload d14_8 rfl ?_
  refine Own.iloadN d14_10 rfl ?_
  refine Own.icmp_ge 32 d14_11 (by decide) rfl (fun q => absurd (by decide) q) (fun _ => ?_)
  refine Own.aloadN d14_14 rfl rfl ?_
  refine Own.iload d14_15 rfl ?_
  refine Own.aloadN d14_17 rfl rfl ?_
  refine Own.iloadN d14_18 rfl ?_
  refine Own.caload_ V_a1 (i := 1) rfl rfl d14_19 ?_
  refine Own.callS_ [(.ref b11), (.int (1 : Int32)), (.int c1)] [] 0 (rmPut1 l Z a0 hw [] b11 k11 _ c1 h13 n0 hn V12 rfl g_b11 S_A S_H S_L) (hw _ (List.mem_of_getElem? (i := 73) rfl)) (hw _ (List.mem_of_getElem? (i := 74) rfl)) (hw _ (List.mem_of_getElem? (i := 24) rfl)) (hw _ (List.mem_of_getElem? (i := 75) rfl)) (by decide) d14_20 pd_13 rfl rfl rfl rfl (by decide) (by decide) (by decide) (by decide) (fun v15 h15 hq15 => ?_)
  obtain ⟨rfl, K14, V14⟩ := hq15
  have hn := Nat.le_trans hn K14.1
  replace S_A := sta_keep S_A K14 (nsS V12.nostat ns0)
  replace S_H := sta_keep S_H K14 (nsS V12.nostat ns0)
  replace S_L := sta_keep S_L K14 (nsS V12.nostat ns0)
  replace V_a1 := V_a1.keep K14 (ninS ne_a1_b11 nin0)
  have K := K.trans K14 (allS (Or.inr sz_b11) all0)
  replace V14 : Arl Z h15 b11 k11 .byte [(.int (own_b0 c0)), (.int (own_b1 c0)), (.int (own_b0 c1)), (.int (own_b1 c1)), (.int (0 : Int32)), (.int (0 : Int32)), (.int (0 : Int32)), (.int (0 : Int32))] := V14
  refine OAt.cast (st' := []) rfl ?_
  refine Own.iinc (1 : Int32) #[.val (.ref a1), .val (.int ((1 : Int32) + (1 : Int32))), .val (.int (4 : Int32)), .val (.ref b11), .val (.int (1 : Int32))] d14_23 rfl rfl rfl ?_
  refine OAt.castL (Ls' := #[.val (.ref a1), .val (.int (2 : Int32)), .val (.int (4 : Int32)), .val (.ref b11), .val (.int (1 : Int32))]) rfl rfl ?_
  refine Own.iinc (1 : Int32) #[.val (.ref a1), .val (.int (2 : Int32)), .val (.int (4 : Int32)), .val (.ref b11), .val (.int ((1 : Int32) + (1 : Int32)))] d14_26 rfl rfl rfl ?_
  refine OAt.castL (Ls' := #[.val (.ref a1), .val (.int (2 : Int32)), .val (.int (4 : Int32)), .val (.ref b11), .val (.int (2 : Int32))]) rfl rfl ?_
  refine Own.goto_ 8 d14_29 (by decide) rfl ?_
  refine Own.iload d14_8 rfl ?_
  refine Own.iloadN d14_10 rfl ?_
  refine Own.icmp_ge 32 d14_11 (by decide) rfl (fun q => absurd (by decide) q) (fun _ => ?_)
  refine Own.aloadN d14_14 rfl rfl ?_
  refine Own.iload d14_15 rfl ?_
  refine Own.aloadN d14_17 rfl rfl ?_
  refine Own.iloadN d14_18 rfl ?_
  refine Own.caload_ V_a1 (i := 2) rfl rfl d14_19 ?_
  refine Own.callS_ [(.ref b11), (.int (2 : Int32)), (.int c2)] [] 0 (rmPut2 l Z a0 hw [] b11 k11 _ c2 h15 n0 hn V14 rfl g_b11 S_A S_H S_L) (hw _ (List.mem_of_getElem? (i := 73) rfl)) (hw _ (List.mem_of_getElem? (i := 74) rfl)) (hw _ (List.mem_of_getElem? (i := 24) rfl)) (hw _ (List.mem_of_getElem? (i := 75) rfl)) (by decide) d14_20 pd_13 rfl rfl rfl rfl (by decide) (by decide) (by decide) (by decide) (fun v17 h17 hq17 => ?_)
  obtain ⟨rfl, K16, V16⟩ := hq17
  have hn := Nat.le_trans hn K16.1
  replace S_A := sta_keep S_A K16 (nsS V14.nostat ns0)
  replace S_H := sta_keep S_H K16 (nsS V14.nostat ns0)
  replace S_L := sta_keep S_L K16 (nsS V14.nostat ns0)
  replace V_a1 := V_a1.keep K16 (ninS ne_a1_b11 nin0)
  have K := K.trans K16 (allS (Or.inr sz_b11) all0)
  replace V16 : Arl Z h17 b11 k11 .byte [(.int (own_b0 c0)), (.int (own_b1 c0)), (.int (own_b0 c1)), (.int (own_b1 c1)), (.int (own_b0 c2)), (.int (own_b1 c2)), (.int (0 : Int32)), (.int (0 : Int32))] := V16
  refine OAt.cast (st' := []) rfl ?_
  refine Own.iinc (1 : Int32) #[.val (.ref a1), .val (.int ((2 : Int32) + (1 : Int32))), .val (.int (4 : Int32)), .val (.ref b11), .val (.int (2 : Int32))] d14_23 rfl rfl rfl ?_
  refine OAt.castL (Ls' := #[.val (.ref a1), .val (.int (3 : Int32)), .val (.int (4 : Int32)), .val (.ref b11), .val (.int (2 : Int32))]) rfl rfl ?_
  refine Own.iinc (1 : Int32) #[.val (.ref a1), .val (.int (3 : Int32)), .val (.int (4 : Int32)), .val (.ref b11), .val (.int ((2 : Int32) + (1 : Int32)))] d14_26 rfl rfl rfl ?_
  refine OAt.castL (Ls' := #[.val (.ref a1), .val (.int (3 : Int32)), .val (.int (4 : Int32)), .val (.ref b11), .val (.int (3 : Int32))]) rfl rfl ?_
  refine Own.goto_ 8 d14_29 (by decide) rfl ?_
  refine Own.iload d14_8 rfl ?_
  refine Own.iloadN d14_10 rfl ?_
  refine Own.icmp_ge 32 d14_11 (by decide) rfl (fun q => absurd (by decide) q) (fun _ => ?_)
  refine Own.aloadN d14_14 rfl rfl ?_
  refine Own.iload d14_15 rfl ?_
  refine Own.aloadN d14_17 rfl rfl ?_
  refine Own.iloadN d14_18 rfl ?_
  refine Own.caload_ V_a1 (i := 3) rfl rfl d14_19 ?_
  refine Own.callS_ [(.ref b11), (.int (3 : Int32)), (.int c3)] [] 0 (rmPut3 l Z a0 hw [] b11 k11 _ c3 h17 n0 hn V16 rfl g_b11 S_A S_H S_L) (hw _ (List.mem_of_getElem? (i := 73) rfl)) (hw _ (List.mem_of_getElem? (i := 74) rfl)) (hw _ (List.mem_of_getElem? (i := 24) rfl)) (hw _ (List.mem_of_getElem? (i := 75) rfl)) (by decide) d14_20 pd_13 rfl rfl rfl rfl (by decide) (by decide) (by decide) (by decide) (fun v19 h19 hq19 => ?_)
  obtain ⟨rfl, K18, V18⟩ := hq19
  have hn := Nat.le_trans hn K18.1
  replace S_A := sta_keep S_A K18 (nsS V16.nostat ns0)
  replace S_H := sta_keep S_H K18 (nsS V16.nostat ns0)
  replace S_L := sta_keep S_L K18 (nsS V16.nostat ns0)
  replace V_a1 := V_a1.keep K18 (ninS ne_a1_b11 nin0)
  have K := K.trans K18 (allS (Or.inr sz_b11) all0)
  replace V18 : Arl Z h19 b11 k11 .byte [(.int (own_b0 c0)), (.int (own_b1 c0)), (.int (own_b0 c1)), (.int (own_b1 c1)), (.int (own_b0 c2)), (.int (own_b1 c2)), (.int (own_b0 c3)), (.int (own_b1 c3))] := V18
  refine OAt.cast (st' := []) rfl ?_
  refine Own.iinc (1 : Int32) #[.val (.ref a1), .val (.int ((3 : Int32) + (1 : Int32))), .val (.int (4 : Int32)), .val (.ref b11), .val (.int (3 : Int32))] d14_23 rfl rfl rfl ?_
  refine OAt.castL (Ls' := #[.val (.ref a1), .val (.int (4 : Int32)), .val (.int (4 : Int32)), .val (.ref b11), .val (.int (3 : Int32))]) rfl rfl ?_
  refine Own.iinc (1 : Int32) #[.val (.ref a1), .val (.int (4 : Int32)), .val (.int (4 : Int32)), .val (.ref b11), .val (.int ((3 : Int32) + (1 : Int32)))] d14_26 rfl rfl rfl ?_
  refine OAt.castL (Ls' := #[.val (.ref a1), .val (.int (4 : Int32)), .val (.int (4 : Int32)), .val (.ref b11), .val (.int (4 : Int32))]) rfl rfl ?_
  refine Own.goto_ 8 d14_29 (by decide) rfl ?_
  refine Own.iload d14_8 rfl ?_
  refine Own.iloadN d14_10 rfl ?_
  refine Own.icmp_ge 32 d14_11 (by decide) rfl (fun _ => ?_) (fun q => absurd q (by decide))
  refine Own.aloadN d14_32 rfl rfl ?_
  refine Own.ret_ref (t := (.array .byte)) rfl rfl rfl d14_33 (by decide) (by decide) ?_
  exact ⟨b11, k11, rfl, sz_b11, K, V18⟩
theorem d7_0 : decode jdk_52_method_15_code 0 = .ok (.iload_n 1, 1) := by decide +kernel
theorem d7_1 : decode jdk_52_method_15_code 1 = .ok (.aload_n 0, 1) := by decide +kernel
theorem d7_2 : decode jdk_52_method_15_code 2 = .ok (.arraylength, 1) := by decide +kernel
theorem d7_3 : decode jdk_52_method_15_code 3 = .ok (.isub, 1) := by decide +kernel
theorem d7_4 : decode jdk_52_method_15_code 4 = .ok (.bipush 31, 2) := by decide +kernel
theorem d7_6 : decode jdk_52_method_15_code 6 = .ok (.iushr, 1) := by decide +kernel
theorem d7_7 : decode jdk_52_method_15_code 7 = .ok (.i2b, 1) := by decide +kernel
theorem d7_8 : decode jdk_52_method_15_code 8 = .ok (.ireturn, 1) := by decide +kernel
theorem ef_rmlU (m : MethodId) (a1 : Addr)  : entryFrame m #[(.ref a1), (.int (4 : Int32))] 2 = mkF m 0 #[.val (.ref a1), .val (.int (4 : Int32))] [] := by first | (simp [entryFrame, mkF, argsToLocals, Value.category]; done) | rfl
theorem pn_7 : plainFor (⟨"java/lang/StringUTF16", "coderFromArrayLen", "([BI)B"⟩ : MethodName) = true := plainFor_of_name (show plainName "java/lang/StringUTF16" = true by first | (simp [plainName, overriddenIn]; done) | decide +kernel)
set_option maxRecDepth 65536 in
set_option maxHeartbeats 40000000 in
theorem rmlU (l : Launch) (Z : State) (a0 : Array Value) (hw : ∀ d ∈ tables_1, d.before a0 Z = true) (ws : List Jvm.Cond) (a1 : Addr) (ka : ClassId) (vs : List Value) (h0 : Heap) (n0 : Nat) (hn : n0 ≤ h0.size) (V_a1 : Arl Z h0 a1 ka .byte vs) (hl : vs.length = 8) :
    Met false l Z (⟨"java/lang/StringUTF16", "coderFromArrayLen", "([BI)B"⟩ : MethodName) jdk_52_method_15_code 2 (some .byte) ({ frames := 0, cells := 0, slots := 0, locals := 0 } : Room) ws #[(.ref a1), (.int (4 : Int32))] h0 n0 (Pur (.int (1 : Int32)) h0) := by
  refine Met.of pn_7 (fun m => ef_rmlU m a1) ?_
  refine Own.iloadN d7_0 rfl ?_
  refine Own.aloadN d7_1 rfl rfl ?_
  refine Own.arraylength_ (8 : Int32) V_a1 (by rw [hl]; rfl) d7_2 ?_
  refine Own.isub d7_3 ?_
  refine OAt.cast (st' := [(.int (-4 : Int32))]) rfl ?_
  refine Own.bipush (31 : Int32) d7_4 rfl ?_
  refine Own.iushr d7_6 ?_
  refine OAt.cast (st' := [(.int (1 : Int32))]) rfl ?_
  refine Own.i2b d7_7 ?_
  refine OAt.cast (st' := [(.int (1 : Int32))]) rfl ?_
  refine Own.ret_nar (t := .byte) (by simp) rfl d7_8 (by decide) (by decide) ?_
  exact ⟨rfl, rfl⟩
theorem d6_0 : decode jdk_52_method_21_code 0 = .ok (.iconst 0, 1) := by decide +kernel
theorem d6_1 : decode jdk_52_method_21_code 1 = .ok (.istore 5, 2) := by decide +kernel
theorem d6_3 : decode jdk_52_method_21_code 3 = .ok (.iload 5, 2) := by decide +kernel
theorem d6_5 : decode jdk_52_method_21_code 5 = .ok (.iload 4, 2) := by decide +kernel
theorem d6_7 : decode jdk_52_method_21_code 7 = .ok (.if_icmp .ge 37, 3) := by decide +kernel
theorem d6_10 : decode jdk_52_method_21_code 10 = .ok (.aload_n 0, 1) := by decide +kernel
theorem d6_11 : decode jdk_52_method_21_code 11 = .ok (.iload_n 1, 1) := by decide +kernel
theorem d6_12 : decode jdk_52_method_21_code 12 = .ok (.caload, 1) := by decide +kernel
theorem d6_13 : decode jdk_52_method_21_code 13 = .ok (.istore 6, 2) := by decide +kernel
theorem d6_15 : decode jdk_52_method_21_code 15 = .ok (.iload 6, 2) := by decide +kernel
theorem d6_17 : decode jdk_52_method_21_code 17 = .ok (.sipush 255, 3) := by decide +kernel
theorem d6_20 : decode jdk_52_method_21_code 20 = .ok (.if_icmp .le 6, 3) := by decide +kernel
theorem d6_23 : decode jdk_52_method_21_code 23 = .ok (.iload 5, 2) := by decide +kernel
theorem d6_25 : decode jdk_52_method_21_code 25 = .ok (.ireturn, 1) := by decide +kernel
def Q_rm5u0 (Z : State) (a3 : Addr) (h0 : Heap) (n0 : Nat) (v : Option Value) (h : Heap) : Prop := v = some (.int (0 : Int32)) ∧ Keep h0 h [a3]
theorem ef_rm5u0 (m : MethodId) (a1 : Addr) (a3 : Addr)  : entryFrame m #[(.ref a1), (.int (0 : Int32)), (.ref a3), (.int (0 : Int32)), (.int (4 : Int32))] 7 = mkF m 0 #[.val (.ref a1), .val (.int (0 : Int32)), .val (.ref a3), .val (.int (0 : Int32)), .val (.int (4 : Int32)), .unset, .unset] [] := by first | (simp [entryFrame, mkF, argsToLocals, Value.category]; done) | rfl
theorem pn_6 : plainFor (⟨"java/lang/StringUTF16", "compress", "([CI[BII)I"⟩ : MethodName) = true := plainFor_of_name (show plainName "java/lang/StringUTF16" = true by first | (simp [plainName, overriddenIn]; done) | decide +kernel)
set_option maxRecDepth 65536 in
set_option maxHeartbeats 40000000 in
theorem rm5u0 (l : Launch) (Z : State) (a0 : Array Value) (hw : ∀ d ∈ tables_1, d.before a0 Z = true) (ws : List Jvm.Cond) (a1 : Addr) (ka : ClassId) (a3 : Addr) (kb : ClassId) (c0 : Int32) (c1 : Int32) (c2 : Int32) (c3 : Int32) (h0 : Heap) (n0 : Nat) (hn : n0 ≤ h0.size) (V_a1 : Arl Z h0 a1 ka .char [(.int c0), (.int c1), (.int c2), (.int c3)]) (V_a3 : Arl Z h0 a3 kb .byte [(.int (0 : Int32)), (.int (0 : Int32)), (.int (0 : Int32)), (.int (0 : Int32))]) (ne_a1_a3 : a1 ≠ a3) (g_a3 : n0 ≤ a3) (hj : (255 : Int32) < c0) :
    Met false l Z (⟨"java/lang/StringUTF16", "compress", "([CI[BII)I"⟩ : MethodName) jdk_52_method_21_code 7 (some .int) ({ frames := 0, cells := 0, slots := 0, locals := 0 } : Room) ws #[(.ref a1), (.int (0 : Int32)), (.ref a3), (.int (0 : Int32)), (.int (4 : Int32))] h0 n0 (Q_rm5u0 Z a3 h0 n0) := by
  refine Met.of pn_6 (fun m => ef_rm5u0 m a1 a3) ?_
  have K := Keep.refl h0 [a3]
  refine Own.iconst (0 : Int32) d6_0 rfl ?_
  refine Own.istore #[.val (.ref a1), .val (.int (0 : Int32)), .val (.ref a3), .val (.int (0 : Int32)), .val (.int (4 : Int32)), .val (.int (0 : Int32)), .unset] d6_1 rfl ?_
  refine Own.iload d6_3 rfl ?_
  refine Own.iload d6_5 rfl ?_
  refine Own.icmp_ge 44 d6_7 (by decide) rfl (fun q => absurd (by decide) q) (fun _ => ?_)
  refine Own.aloadN d6_10 rfl rfl ?_
  refine Own.iloadN d6_11 rfl ?_
  refine Own.caload_ V_a1 (i := 0) rfl rfl d6_12 ?_
  refine Own.istore #[.val (.ref a1), .val (.int (0 : Int32)), .val (.ref a3), .val (.int (0 : Int32)), .val (.int (4 : Int32)), .val (.int (0 : Int32)), .val (.int c0)] d6_13 rfl ?_
  refine Own.iload d6_15 rfl ?_
  refine Own.sipush (255 : Int32) d6_17 rfl ?_
  refine Own.icmp_le 26 d6_20 (by decide) rfl (fun q => absurd hj q) (fun _ => ?_)
  refine Own.iload d6_23 rfl ?_
  refine Own.ret_int rfl d6_25 (by decide) (by decide) ?_
  exact ⟨rfl, K⟩
theorem d5_0 : decode jdk_52_method_16_code 0 = .ok (.iload_n 2, 1) := by decide +kernel
theorem d5_1 : decode jdk_52_method_16_code 1 = .ok (.newarray .byte, 2) := by decide +kernel
theorem d5_3 : decode jdk_52_method_16_code 3 = .ok (.astore_n 3, 1) := by decide +kernel
theorem d5_4 : decode jdk_52_method_16_code 4 = .ok (.aload_n 0, 1) := by decide +kernel
theorem d5_5 : decode jdk_52_method_16_code 5 = .ok (.iload_n 1, 1) := by decide +kernel
theorem d5_6 : decode jdk_52_method_16_code 6 = .ok (.aload_n 3, 1) := by decide +kernel
theorem d5_7 : decode jdk_52_method_16_code 7 = .ok (.iconst 0, 1) := by decide +kernel
theorem d5_8 : decode jdk_52_method_16_code 8 = .ok (.iload_n 2, 1) := by decide +kernel
theorem d5_9 : decode jdk_52_method_16_code 9 = .ok (.invokestatic 115, 3) := by decide +kernel
theorem pd_17 : parseMethodDescriptor "([CI[BII)I" = some ⟨[(.array .char), .int, (.array .byte), .int, .int], some .int⟩ := by decide +kernel
theorem d5_12 : decode jdk_52_method_16_code 12 = .ok (.istore 4, 2) := by decide +kernel
theorem d5_14 : decode jdk_52_method_16_code 14 = .ok (.iload 4, 2) := by decide +kernel
theorem d5_16 : decode jdk_52_method_16_code 16 = .ok (.iload_n 2, 1) := by decide +kernel
theorem d5_17 : decode jdk_52_method_16_code 17 = .ok (.if_icmp .eq 40, 3) := by decide +kernel
theorem d5_20 : decode jdk_52_method_16_code 20 = .ok (.aload_n 0, 1) := by decide +kernel
theorem d5_21 : decode jdk_52_method_16_code 21 = .ok (.iload_n 1, 1) := by decide +kernel
theorem d5_22 : decode jdk_52_method_16_code 22 = .ok (.iload_n 2, 1) := by decide +kernel
theorem d5_23 : decode jdk_52_method_16_code 23 = .ok (.invokestatic 119, 3) := by decide +kernel
theorem pd_15 : parseMethodDescriptor "([CII)[B" = some ⟨[(.array .char), .int, .int], some (.array .byte)⟩ := by decide +kernel
theorem d5_26 : decode jdk_52_method_16_code 26 = .ok (.astore 5, 2) := by decide +kernel
theorem d5_28 : decode jdk_52_method_16_code 28 = .ok (.aload 5, 2) := by decide +kernel
theorem d5_30 : decode jdk_52_method_16_code 30 = .ok (.iload 4, 2) := by decide +kernel
theorem d5_32 : decode jdk_52_method_16_code 32 = .ok (.invokestatic 71, 3) := by decide +kernel
theorem pd_12 : parseMethodDescriptor "([BI)C" = some ⟨[(.array .byte), .int], some .char⟩ := by decide +kernel
theorem d5_35 : decode jdk_52_method_16_code 35 = .ok (.sipush 255, 3) := by decide +kernel
theorem d5_38 : decode jdk_52_method_16_code 38 = .ok (.if_icmp .gt 16, 3) := by decide +kernel
theorem d5_54 : decode jdk_52_method_16_code 54 = .ok (.aload 5, 2) := by decide +kernel
theorem d5_56 : decode jdk_52_method_16_code 56 = .ok (.areturn, 1) := by decide +kernel
def Q_rm3u0 (Z : State) (c0 : Int32) (c1 : Int32) (c2 : Int32) (c3 : Int32) (h0 : Heap) (n0 : Nat) (v : Option Value) (h : Heap) : Prop := ∃ (a : Addr) (ka : ClassId), v = some (.ref a) ∧ h0.size ≤ a ∧ Keep h0 h [] ∧ Arl Z h a ka .byte [(.int (own_b0 c0)), (.int (own_b1 c0)), (.int (own_b0 c1)), (.int (own_b1 c1)), (.int (own_b0 c2)), (.int (own_b1 c2)), (.int (own_b0 c3)), (.int (own_b1 c3))]
theorem ef_rm3u0 (m : MethodId) (a1 : Addr)  : entryFrame m #[(.ref a1), (.int (0 : Int32)), (.int (4 : Int32))] 6 = mkF m 0 #[.val (.ref a1), .val (.int (0 : Int32)), .val (.int (4 : Int32)), .unset, .unset, .unset] [] := by first | (simp [entryFrame, mkF, argsToLocals, Value.category]; done) | rfl
theorem pn_5 : plainFor (⟨"java/lang/StringUTF16", "compress", "([CII)[B"⟩ : MethodName) = true := plainFor_of_name (show plainName "java/lang/StringUTF16" = true by first | (simp [plainName, overriddenIn]; done) | decide +kernel)
set_option maxRecDepth 65536 in
set_option maxHeartbeats 40000000 in
theorem rm3u0 (l : Launch) (Z : State) (a0 : Array Value) (hw : ∀ d ∈ tables_1, d.before a0 Z = true) (ws : List Jvm.Cond) (a1 : Addr) (ka : ClassId) (c0 : Int32) (c1 : Int32) (c2 : Int32) (c3 : Int32) (h0 : Heap) (n0 : Nat) (hn : n0 ≤ h0.size) (V_a1 : Arl Z h0 a1 ka .char [(.int c0), (.int c1), (.int c2), (.int c3)]) (S_A : Sta Z h0 "java/lang/StringUTF16" "$assertionsDisabled" "Z" (.int (1 : Int32))) (S_H : Sta Z h0 "java/lang/StringUTF16" "HI_BYTE_SHIFT" "I" (.int (0 : Int32))) (S_L : Sta Z h0 "java/lang/StringUTF16" "LO_BYTE_SHIFT" "I" (.int (8 : Int32))) (hr0 : 0 ≤ c0.toInt ∧ c0.toInt < 65536) (hj : (255 : Int32) < c0) :
    Met false l Z (⟨"java/lang/StringUTF16", "compress", "([CII)[B"⟩ : MethodName) jdk_52_method_16_code 6 (some (.array .byte)) ({ frames := 3, cells := 2, slots := 12, locals := 40 } : Room) ws #[(.ref a1), (.int (0 : Int32)), (.int (4 : Int32))] h0 n0 (Q_rm3u0 Z c0 c1 c2 c3 h0 n0) := by
  refine Met.of pn_5 (fun m => ef_rm3u0 m a1) ?_
  have K := Keep.refl h0 []
  refine Own.iloadN d5_0 rfl ?_
  refine Own.newarray_ 4 .byte rfl (hw _ (List.mem_of_getElem? (i := 26) rfl)) d5_1 (N := 4) rfl (by decide) (by decide) (by decide) (by decide) rfl (fun h20 b20 k20 gb20 E20 V20 => ?_)
  have g_b20 : n0 ≤ b20 := by rw [gb20]; exact hn
  have ne_a1_b20 : a1 ≠ b20 := fun q => Nat.ne_of_lt V_a1.lt (q.trans gb20)
  have ne_b20_a1 := Ne.symm ne_a1_b20
  have hn := Nat.le_trans hn E20.1
  replace S_A := S_A.ext E20
  replace S_H := S_H.ext E20
  replace S_L := S_L.ext E20
  replace V_a1 := V_a1.ext E20
  replace V20 : Arl Z h20 b20 k20 .byte [(.int (0 : Int32)), (.int (0 : Int32)), (.int (0 : Int32)), (.int (0 : Int32))] := V20
  have sz_b20 : h0.size ≤ b20 := by rw [gb20]; exact K.1
  have K := K.ext E20
  refine Own.astoreN #[.val (.ref a1), .val (.int (0 : Int32)), .val (.int (4 : Int32)), .val (.ref b20), .unset, .unset] d5_3 rfl rfl ?_
  refine Own.aloadN d5_4 rfl rfl ?_
  refine Own.iloadN d5_5 rfl ?_
  refine Own.aloadN d5_6 rfl rfl ?_
  refine Own.iconst (0 : Int32) d5_7 rfl ?_
  refine Own.iloadN d5_8 rfl ?_
  refine Own.callS_ [(.ref a1), (.int (0 : Int32)), (.ref b20), (.int (0 : Int32)), (.int (4 : Int32))] [] 0 (rm5u0 l Z a0 hw [] a1 ka b20 k20 c0 c1 c2 c3 h20 n0 hn V_a1 V20 ne_a1_b20 g_b20 hj) (hw _ (List.mem_of_getElem? (i := 27) rfl)) (hw _ (List.mem_of_getElem? (i := 28) rfl)) (hw _ (List.mem_of_getElem? (i := 24) rfl)) (hw _ (List.mem_of_getElem? (i := 29) rfl)) (by decide) d5_9 pd_17 rfl rfl rfl rfl (by decide) (by decide) (by decide) (by decide) (fun v21 h21 hq21 => ?_)
  obtain ⟨rfl, K22⟩ := hq21
  have hn := Nat.le_trans hn K22.1
  replace S_A := sta_keep S_A K22 (nsS V20.nostat ns0)
  replace S_H := sta_keep S_H K22 (nsS V20.nostat ns0)
  replace S_L := sta_keep S_L K22 (nsS V20.nostat ns0)
  replace V_a1 := V_a1.keep K22 (ninS ne_a1_b20 nin0)
  have K := K.trans K22 (allS (Or.inr sz_b20) all0)
  refine OAt.cast (st' := [(.int (0 : Int32))]) rfl ?_
  refine Own.istore #[.val (.ref a1), .val (.int (0 : Int32)), .val (.int (4 : Int32)), .val (.ref b20), .val (.int (0 : Int32)), .unset] d5_12 rfl ?_
  refine Own.iload d5_14 rfl ?_
  refine Own.iloadN d5_16 rfl ?_
  refine Own.icmp_eq 57 d5_17 (by decide) rfl (fun q => absurd q (by decide)) (fun _ => ?_)
  refine Own.aloadN d5_20 rfl rfl ?_
  refine Own.iloadN d5_21 rfl ?_
  refine Own.iloadN d5_22 rfl ?_
  refine Own.callS_ [(.ref a1), (.int (0 : Int32)), (.int (4 : Int32))] [] 0 (rmTo l Z a0 hw [] a1 ka c0 c1 c2 c3 h21 n0 hn V_a1 S_A S_H S_L) (hw _ (List.mem_of_getElem? (i := 63) rfl)) (hw _ (List.mem_of_getElem? (i := 64) rfl)) (hw _ (List.mem_of_getElem? (i := 24) rfl)) (hw _ (List.mem_of_getElem? (i := 65) rfl)) (by decide) d5_23 pd_15 rfl rfl rfl rfl (by decide) (by decide) (by decide) (by decide) (fun v23 h23 hq23 => ?_)
  obtain ⟨b24, k24, rfl, z24, K24, V24⟩ := hq23
  have g_b24 : n0 ≤ b24 := Nat.le_trans hn z24
  have ne_a1_b24 : a1 ≠ b24 := Nat.ne_of_lt (Nat.lt_of_lt_of_le V_a1.lt z24)
  have ne_b24_a1 := Ne.symm ne_a1_b24
  have sz_b24 : h0.size ≤ b24 := Nat.le_trans K.1 z24
  have hn := Nat.le_trans hn K24.1
  replace S_A := sta_keep S_A K24 ns0
  replace S_H := sta_keep S_H K24 ns0
  replace S_L := sta_keep S_L K24 ns0
  replace V_a1 := V_a1.keep K24 nin0
  have K := K.trans K24 all0
  refine OAt.cast (st' := [(.ref b24)]) rfl ?_
  refine Own.astore #[.val (.ref a1), .val (.int (0 : Int32)), .val (.int (4 : Int32)), .val (.ref b20), .val (.int (0 : Int32)), .val (.ref b24)] d5_26 rfl rfl ?_
  refine Own.aload d5_28 rfl rfl ?_
  refine Own.iload d5_30 rfl ?_
  refine Own.callSP [(.ref b24), (.int (0 : Int32))] [] 0 (rmGet0 l Z a0 hw [] b24 k24 _ (own_b0 c0) (own_b1 c0) h23 n0 hn V24 rfl rfl S_A S_H S_L) (hw _ (List.mem_of_getElem? (i := 79) rfl)) (hw _ (List.mem_of_getElem? (i := 80) rfl)) (hw _ (List.mem_of_getElem? (i := 24) rfl)) (hw _ (List.mem_of_getElem? (i := 81) rfl)) (by decide) d5_32 pd_12 rfl rfl rfl rfl (by decide) (by decide) (by decide) (by decide) ?_
  refine Own.sipush (255 : Int32) d5_35 rfl ?_
  refine Own.icmp_gt 54 d5_38 (by decide) rfl (fun _ => ?_) (fun q => absurd (by rw [own_gcv hr0.1 hr0.2]; exact hj) q)
  refine Own.aload d5_54 rfl rfl ?_
  refine Own.ret_ref (t := (.array .byte)) rfl rfl rfl d5_56 (by decide) (by decide) ?_
  exact ⟨b24, k24, rfl, sz_b24, K, V24⟩
theorem d3_0 : decode jdk_42_method_149_code 0 = .ok (.aload_n 0, 1) := by decide +kernel
theorem d3_1 : decode jdk_42_method_149_code 1 = .ok (.invokespecial 1, 3) := by decide +kernel
theorem d3_4 : decode jdk_42_method_149_code 4 = .ok (.iload_n 3, 1) := by decide +kernel
theorem d3_5 : decode jdk_42_method_149_code 5 = .ok (.ifCond .ne 22, 3) := by decide +kernel
theorem d3_27 : decode jdk_42_method_149_code 27 = .ok (.getstatic 38, 3) := by decide +kernel
theorem d3_30 : decode jdk_42_method_149_code 30 = .ok (.ifCond .eq 28, 3) := by decide +kernel
theorem d3_33 : decode jdk_42_method_149_code 33 = .ok (.aload_n 1, 1) := by decide +kernel
theorem d3_34 : decode jdk_42_method_149_code 34 = .ok (.iload_n 2, 1) := by decide +kernel
theorem d3_35 : decode jdk_42_method_149_code 35 = .ok (.iload_n 3, 1) := by decide +kernel
theorem d3_36 : decode jdk_42_method_149_code 36 = .ok (.invokestatic 177, 3) := by decide +kernel
theorem d3_39 : decode jdk_42_method_149_code 39 = .ok (.astore 5, 2) := by decide +kernel
theorem d3_41 : decode jdk_42_method_149_code 41 = .ok (.aload_n 0, 1) := by decide +kernel
theorem d3_42 : decode jdk_42_method_149_code 42 = .ok (.aload 5, 2) := by decide +kernel
theorem d3_44 : decode jdk_42_method_149_code 44 = .ok (.iload_n 3, 1) := by decide +kernel
theorem d3_45 : decode jdk_42_method_149_code 45 = .ok (.invokestatic 47, 3) := by decide +kernel
theorem pd_11 : parseMethodDescriptor "([BI)B" = some ⟨[(.array .byte), .int], some .byte⟩ := by decide +kernel
theorem d3_48 : decode jdk_42_method_149_code 48 = .ok (.putfield 15, 3) := by decide +kernel
theorem d3_51 : decode jdk_42_method_149_code 51 = .ok (.aload_n 0, 1) := by decide +kernel
theorem d3_52 : decode jdk_42_method_149_code 52 = .ok (.aload 5, 2) := by decide +kernel
theorem d3_54 : decode jdk_42_method_149_code 54 = .ok (.putfield 9, 3) := by decide +kernel
theorem d3_57 : decode jdk_42_method_149_code 57 = .ok (.return_, 1) := by decide +kernel
def Q_rm4u0 (Z : State) (a1 : Addr) (c0 : Int32) (c1 : Int32) (c2 : Int32) (c3 : Int32) (h0 : Heap) (n0 : Nat) (v : Option Value) (h : Heap) : Prop := v = none ∧ Keep h0 h [a1] ∧ ∃ (b : Addr) (kb : ClassId) (cod : Int32) (bs : List Value), h0.size ≤ b ∧ Fld Z h a1 "java/lang/String" "value" "[B" (.ref b) ∧ Fld Z h a1 "java/lang/String" "coder" "B" (.int cod) ∧ Arl Z h b kb .byte bs ∧ own_spell cod bs c0 c1 c2 c3
theorem ef_rm4u0 (m : MethodId) (a1 : Addr) (a2 : Addr)  : entryFrame m #[(.ref a1), (.ref a2), (.int (0 : Int32)), (.int (4 : Int32)), .null] 6 = mkF m 0 #[.val (.ref a1), .val (.ref a2), .val (.int (0 : Int32)), .val (.int (4 : Int32)), .val .null, .unset] [] := by first | (simp [entryFrame, mkF, argsToLocals, Value.category]; done) | rfl
theorem pn_3 : plainFor (⟨"java/lang/String", "<init>", "([CIILjava/lang/Void;)V"⟩ : MethodName) = true := plainFor_of_name (show plainName "java/lang/String" = true by first | (simp [plainName, overriddenIn]; done) | decide +kernel)
set_option maxRecDepth 65536 in
set_option maxHeartbeats 40000000 in
theorem rm4u0 (l : Launch) (Z : State) (a0 : Array Value) (hw : ∀ d ∈ tables_1, d.before a0 Z = true) (ws : List Jvm.Cond) (a1 : Addr) (a2 : Addr) (ka : ClassId) (zc : Int32) (c0 : Int32) (c1 : Int32) (c2 : Int32) (c3 : Int32) (h0 : Heap) (n0 : Nat) (hn : n0 ≤ h0.size) (X_a1 : Exa Z h0 a1 "java/lang/String") (g_a1 : n0 ≤ a1) (F_value_a1 : Fld Z h0 a1 "java/lang/String" "value" "[B" .null) (F_coder_a1 : Fld Z h0 a1 "java/lang/String" "coder" "B" (.int (0 : Int32))) (V_a2 : Arl Z h0 a2 ka .char [(.int c0), (.int c1), (.int c2), (.int c3)]) (ne_a2_a1 : a2 ≠ a1) (S_C : Sta Z h0 "java/lang/String" "COMPACT_STRINGS" "Z" (.int zc)) (S_A : Sta Z h0 "java/lang/StringUTF16" "$assertionsDisabled" "Z" (.int (1 : Int32))) (S_H : Sta Z h0 "java/lang/StringUTF16" "HI_BYTE_SHIFT" "I" (.int (0 : Int32))) (S_L : Sta Z h0 "java/lang/StringUTF16" "LO_BYTE_SHIFT" "I" (.int (8 : Int32))) (hz : ¬ zc = 0) (hr0 : 0 ≤ c0.toInt ∧ c0.toInt < 65536) (hr1 : 0 ≤ c1.toInt ∧ c1.toInt < 65536) (hr2 : 0 ≤ c2.toInt ∧ c2.toInt < 65536) (hr3 : 0 ≤ c3.toInt ∧ c3.toInt < 65536) (hj : (255 : Int32) < c0) :
    Met false l Z (⟨"java/lang/String", "<init>", "([CIILjava/lang/Void;)V"⟩ : MethodName) jdk_42_method_149_code 6 none ({ frames := 4, cells := 2, slots := 12, locals := 57 } : Room) ws #[(.ref a1), (.ref a2), (.int (0 : Int32)), (.int (4 : Int32)), .null] h0 n0 (Q_rm4u0 Z a1 c0 c1 c2 c3 h0 n0) := by
  refine Met.of pn_3 (fun m => ef_rm4u0 m a1 a2) ?_
  have ne_a1_a2 := Ne.symm ne_a2_a1
  have K := Keep.refl h0 [a1]
  refine Own.aloadN d3_0 rfl rfl ?_
  refine Own.initO_ (hw _ (List.mem_of_getElem? (i := 18) rfl)) (hw _ (List.mem_of_getElem? (i := 19) rfl)) (hw _ (List.mem_of_getElem? (i := 20) rfl)) d3_1 rfl (by decide) 0 rfl (by decide) ?_
  refine Own.iloadN d3_4 rfl ?_
  refine Own.if_ne 27 d3_5 (by decide) rfl (fun _ => ?_) (fun q => absurd q (by decide))
  refine Own.getS_ (host := "") (Or.inl (hw _ (List.mem_of_getElem? (i := 21) rfl))) Via.refl S_C d3_27 ?_
  refine Own.if_eq 58 d3_30 (by decide) rfl (fun q => absurd q hz) (fun _ => ?_)
  refine Own.aloadN d3_33 rfl rfl ?_
  refine Own.iloadN d3_34 rfl ?_
  refine Own.iloadN d3_35 rfl ?_
  refine Own.callS_ [(.ref a2), (.int (0 : Int32)), (.int (4 : Int32))] [] 0 (rm3u0 l Z a0 hw [] a2 ka c0 c1 c2 c3 h0 n0 hn V_a2 S_A S_H S_L hr0 hj) (hw _ (List.mem_of_getElem? (i := 22) rfl)) (hw _ (List.mem_of_getElem? (i := 23) rfl)) (hw _ (List.mem_of_getElem? (i := 24) rfl)) (hw _ (List.mem_of_getElem? (i := 25) rfl)) (by decide) d3_36 pd_15 rfl rfl rfl rfl (by decide) (by decide) (by decide) (by decide) (fun v25 h25 hq25 => ?_)
  obtain ⟨b26, k26, rfl, z26, K26, V26⟩ := hq25
  have g_b26 : n0 ≤ b26 := Nat.le_trans hn z26
  have ne_a1_b26 : a1 ≠ b26 := Nat.ne_of_lt (Nat.lt_of_lt_of_le X_a1.lt z26)
  have ne_b26_a1 := Ne.symm ne_a1_b26
  have ne_a2_b26 : a2 ≠ b26 := Nat.ne_of_lt (Nat.lt_of_lt_of_le V_a2.lt z26)
  have ne_b26_a2 := Ne.symm ne_a2_b26
  have sz_b26 : h0.size ≤ b26 := Nat.le_trans K.1 z26
  have hn := Nat.le_trans hn K26.1
  replace S_C := sta_keep S_C K26 ns0
  replace S_A := sta_keep S_A K26 ns0
  replace S_H := sta_keep S_H K26 ns0
  replace S_L := sta_keep S_L K26 ns0
  replace X_a1 := X_a1.keep K26
  replace F_value_a1 := F_value_a1.keep K26 nin0
  replace F_coder_a1 := F_coder_a1.keep K26 nin0
  replace V_a2 := V_a2.keep K26 nin0
  have K := K.trans K26 all0
  refine OAt.cast (st' := [(.ref b26)]) rfl ?_
  refine Own.astore #[.val (.ref a1), .val (.ref a2), .val (.int (0 : Int32)), .val (.int (4 : Int32)), .val .null, .val (.ref b26)] d3_39 rfl rfl ?_
  refine Own.aloadN d3_41 rfl rfl ?_
  refine Own.aload d3_42 rfl rfl ?_
  refine Own.iloadN d3_44 rfl ?_
  refine Own.callSP [(.ref b26), (.int (4 : Int32))] [(.ref a1)] 1 (rmlU l Z a0 hw [] b26 k26 _ h25 n0 hn V26 rfl) (hw _ (List.mem_of_getElem? (i := 30) rfl)) (hw _ (List.mem_of_getElem? (i := 31) rfl)) (hw _ (List.mem_of_getElem? (i := 24) rfl)) (hw _ (List.mem_of_getElem? (i := 32) rfl)) (by decide) d3_45 pd_11 rfl rfl rfl rfl (by decide) (by decide) (by decide) (by decide) ?_
  refine Own.putFN_ (hw _ (List.mem_of_getElem? (i := 33) rfl)) Via.refl F_coder_a1 X_a1 (Or.inr ⟨(hw _ (List.mem_of_getElem? (i := 34) rfl)), rfl, rfl⟩) (hw _ (List.mem_of_getElem? (i := 9) rfl)) (ty := .byte) (v' := (.int (nar .byte (1 : Int32)))) (by decide) rfl (fits_nar_byte _) g_a1 d3_48 (fun h27 W28 => ?_)
  replace F_coder_a1 := F_coder_a1.same W28
  have hn : n0 ≤ h27.size := by rw [W28.size]; exact hn
  replace X_a1 := X_a1.wr W28
  replace F_value_a1 := F_value_a1.other W28 (Or.inr (slot_ne (Or.inr (hw _ (List.mem_of_getElem? (i := 36) rfl))) (Or.inr (hw _ (List.mem_of_getElem? (i := 34) rfl))) (by decide) (t := (.array .byte)) (t' := .byte) (by decide) (by decide)))
  replace V_a2 := V_a2.other W28 ne_a2_a1
  replace S_C := S_C.wr W28
  replace S_A := S_A.wr W28
  replace S_H := S_H.wr W28
  replace S_L := S_L.wr W28
  replace V26 := V26.other W28 ne_b26_a1
  rw [show nar .byte (1 : Int32) = 1 from rfl] at F_coder_a1
  have K := K.wr W28 (Or.inl (List.mem_of_getElem? (i := 0) rfl))
  refine Own.aloadN d3_51 rfl rfl ?_
  refine Own.aload d3_52 rfl rfl ?_
  refine Own.putF_ (host := "") (Or.inl (hw _ (List.mem_of_getElem? (i := 35) rfl))) Via.refl F_value_a1 X_a1 (Or.inr ⟨(hw _ (List.mem_of_getElem? (i := 36) rfl)), rfl, rfl⟩) (hw _ (List.mem_of_getElem? (i := 9) rfl)) (ty := (.array .byte)) (by decide) rfl rfl g_a1 d3_54 (fun h29 W30 => ?_)
  replace F_value_a1 := F_value_a1.same W30
  have hn : n0 ≤ h29.size := by rw [W30.size]; exact hn
  replace X_a1 := X_a1.wr W30
  replace F_coder_a1 := F_coder_a1.other W30 (Or.inr (slot_ne (Or.inr (hw _ (List.mem_of_getElem? (i := 34) rfl))) (Or.inr (hw _ (List.mem_of_getElem? (i := 36) rfl))) (by decide) (t := .byte) (t' := (.array .byte)) (by decide) (by decide)))
  replace V_a2 := V_a2.other W30 ne_a2_a1
  replace S_C := S_C.wr W30
  replace S_A := S_A.wr W30
  replace S_H := S_H.wr W30
  replace S_L := S_L.wr W30
  replace V26 := V26.other W30 ne_b26_a1
  have K := K.wr W30 (Or.inl (List.mem_of_getElem? (i := 0) rfl))
  refine Own.ret_void rfl d3_57 (by decide) (by decide) ?_
  exact ⟨rfl, K, b26, k26, _, _, sz_b26, F_value_a1, F_coder_a1, V26, Or.inr ⟨rfl, rfl⟩⟩
theorem d2_0 : decode jdk_42_method_3_code 0 = .ok (.aload_n 0, 1) := by decide +kernel
theorem d2_1 : decode jdk_42_method_3_code 1 = .ok (.aload_n 1, 1) := by decide +kernel
theorem d2_2 : decode jdk_42_method_3_code 2 = .ok (.iconst 0, 1) := by decide +kernel
theorem d2_3 : decode jdk_42_method_3_code 3 = .ok (.aload_n 1, 1) := by decide +kernel
theorem d2_4 : decode jdk_42_method_3_code 4 = .ok (.arraylength, 1) := by decide +kernel
theorem d2_5 : decode jdk_42_method_3_code 5 = .ok (.aconst_null, 1) := by decide +kernel
theorem d2_6 : decode jdk_42_method_3_code 6 = .ok (.invokespecial 27, 3) := by decide +kernel
theorem pd_16 : parseMethodDescriptor "([CIILjava/lang/Void;)V" = some ⟨[(.array .char), .int, .int, (.object "java/lang/Void")], none⟩ := by decide +kernel
theorem d2_9 : decode jdk_42_method_3_code 9 = .ok (.return_, 1) := by decide +kernel
def Q_rm1u0 (Z : State) (a1 : Addr) (c0 : Int32) (c1 : Int32) (c2 : Int32) (c3 : Int32) (h0 : Heap) (n0 : Nat) (v : Option Value) (h : Heap) : Prop := v = none ∧ Keep h0 h [a1] ∧ ∃ (b : Addr) (kb : ClassId) (cod : Int32) (bs : List Value), h0.size ≤ b ∧ Fld Z h a1 "java/lang/String" "value" "[B" (.ref b) ∧ Fld Z h a1 "java/lang/String" "coder" "B" (.int cod) ∧ Arl Z h b kb .byte bs ∧ own_spell cod bs c0 c1 c2 c3
theorem ef_rm1u0 (m : MethodId) (a1 : Addr) (a2 : Addr)  : entryFrame m #[(.ref a1), (.ref a2)] 2 = mkF m 0 #[.val (.ref a1), .val (.ref a2)] [] := by first | (simp [entryFrame, mkF, argsToLocals, Value.category]; done) | rfl
theorem pn_2 : plainFor (⟨"java/lang/String", "<init>", "([C)V"⟩ : MethodName) = true := plainFor_of_name (show plainName "java/lang/String" = true by first | (simp [plainName, overriddenIn]; done) | decide +kernel)
set_option maxRecDepth 65536 in
set_option maxHeartbeats 40000000 in
theorem rm1u0 (l : Launch) (Z : State) (a0 : Array Value) (hw : ∀ d ∈ tables_1, d.before a0 Z = true) (ws : List Jvm.Cond) (a1 : Addr) (a2 : Addr) (ka : ClassId) (zc : Int32) (c0 : Int32) (c1 : Int32) (c2 : Int32) (c3 : Int32) (h0 : Heap) (n0 : Nat) (hn : n0 ≤ h0.size) (X_a1 : Exa Z h0 a1 "java/lang/String") (g_a1 : n0 ≤ a1) (F_value_a1 : Fld Z h0 a1 "java/lang/String" "value" "[B" .null) (F_coder_a1 : Fld Z h0 a1 "java/lang/String" "coder" "B" (.int (0 : Int32))) (V_a2 : Arl Z h0 a2 ka .char [(.int c0), (.int c1), (.int c2), (.int c3)]) (ne_a2_a1 : a2 ≠ a1) (S_C : Sta Z h0 "java/lang/String" "COMPACT_STRINGS" "Z" (.int zc)) (S_A : Sta Z h0 "java/lang/StringUTF16" "$assertionsDisabled" "Z" (.int (1 : Int32))) (S_H : Sta Z h0 "java/lang/StringUTF16" "HI_BYTE_SHIFT" "I" (.int (0 : Int32))) (S_L : Sta Z h0 "java/lang/StringUTF16" "LO_BYTE_SHIFT" "I" (.int (8 : Int32))) (hz : ¬ zc = 0) (hr0 : 0 ≤ c0.toInt ∧ c0.toInt < 65536) (hr1 : 0 ≤ c1.toInt ∧ c1.toInt < 65536) (hr2 : 0 ≤ c2.toInt ∧ c2.toInt < 65536) (hr3 : 0 ≤ c3.toInt ∧ c3.toInt < 65536) (hj : (255 : Int32) < c0) :
    Met false l Z (⟨"java/lang/String", "<init>", "([C)V"⟩ : MethodName) jdk_42_method_3_code 2 none ({ frames := 5, cells := 2, slots := 12, locals := 74 } : Room) ws #[(.ref a1), (.ref a2)] h0 n0 (Q_rm1u0 Z a1 c0 c1 c2 c3 h0 n0) := by
  refine Met.of pn_2 (fun m => ef_rm1u0 m a1 a2) ?_
  have ne_a1_a2 := Ne.symm ne_a2_a1
  have K := Keep.refl h0 [a1]
  refine Own.aloadN d2_0 rfl rfl ?_
  refine Own.aloadN d2_1 rfl rfl ?_
  refine Own.iconst (0 : Int32) d2_2 rfl ?_
  refine Own.aloadN d2_3 rfl rfl ?_
  refine Own.arraylength_ (4 : Int32) V_a2 rfl d2_4 ?_
  refine Own.aconstNull d2_5 ?_
  refine Own.callI_ a1 [(.ref a2), (.int (0 : Int32)), (.int (4 : Int32)), .null] [] 0 (rm4u0 l Z a0 hw [] a1 a2 ka zc c0 c1 c2 c3 h0 n0 hn X_a1 g_a1 F_value_a1 F_coder_a1 V_a2 ne_a2_a1 S_C S_A S_H S_L hz hr0 hr1 hr2 hr3 hj) (hw _ (List.mem_of_getElem? (i := 14) rfl)) (hw _ (List.mem_of_getElem? (i := 15) rfl)) (hw _ (List.mem_of_getElem? (i := 10) rfl)) (hw _ (List.mem_of_getElem? (i := 17) rfl)) rfl (by decide) d2_6 pd_16 rfl rfl rfl rfl (by decide) (by decide) (by decide) (by decide) (fun v31 h31 hq31 => ?_)
  obtain ⟨rfl, K4, rest4⟩ := hq31
  have hn := Nat.le_trans hn K4.1
  replace S_C := sta_keep S_C K4 (nsS X_a1.nostat ns0)
  replace S_A := sta_keep S_A K4 (nsS X_a1.nostat ns0)
  replace S_H := sta_keep S_H K4 (nsS X_a1.nostat ns0)
  replace S_L := sta_keep S_L K4 (nsS X_a1.nostat ns0)
  replace X_a1 := X_a1.keep K4
  replace V_a2 := V_a2.keep K4 (ninS ne_a2_a1 nin0)
  have K := K.trans K4 (allS (Or.inl (List.mem_of_getElem? (i := 0) rfl)) all0)
  refine OAt.cast (st' := []) rfl ?_
  refine Own.ret_void rfl d2_9 (by decide) (by decide) ?_
  exact ⟨rfl, K, rest4⟩
theorem d6_26 : decode jdk_52_method_21_code 26 = .ok (.aload_n 2, 1) := by decide +kernel
theorem d6_27 : decode jdk_52_method_21_code 27 = .ok (.iload_n 3, 1) := by decide +kernel
theorem d6_28 : decode jdk_52_method_21_code 28 = .ok (.iload 6, 2) := by decide +kernel
theorem d6_30 : decode jdk_52_method_21_code 30 = .ok (.i2b, 1) := by decide +kernel
theorem d6_31 : decode jdk_52_method_21_code 31 = .ok (.bastore, 1) := by decide +kernel
theorem d6_32 : decode jdk_52_method_21_code 32 = .ok (.iinc 1 1, 3) := by decide +kernel
theorem d6_35 : decode jdk_52_method_21_code 35 = .ok (.iinc 3 1, 3) := by decide +kernel
theorem d6_38 : decode jdk_52_method_21_code 38 = .ok (.iinc 5 1, 3) := by decide +kernel
theorem d6_41 : decode jdk_52_method_21_code 41 = .ok (.goto (-38), 3) := by decide +kernel
def Q_rm5u1 (Z : State) (a3 : Addr) (h0 : Heap) (n0 : Nat) (v : Option Value) (h : Heap) : Prop := v = some (.int (1 : Int32)) ∧ Keep h0 h [a3]
theorem ef_rm5u1 (m : MethodId) (a1 : Addr) (a3 : Addr)  : entryFrame m #[(.ref a1), (.int (0 : Int32)), (.ref a3), (.int (0 : Int32)), (.int (4 : Int32))] 7 = mkF m 0 #[.val (.ref a1), .val (.int (0 : Int32)), .val (.ref a3), .val (.int (0 : Int32)), .val (.int (4 : Int32)), .unset, .unset] [] := by first | (simp [entryFrame, mkF, argsToLocals, Value.category]; done) | rfl
set_option maxRecDepth 65536 in
set_option maxHeartbeats 40000000 in
theorem rm5u1 (l : Launch) (Z : State) (a0 : Array Value) (hw : ∀ d ∈ tables_1, d.before a0 Z = true) (ws : List Jvm.Cond) (a1 : Addr) (ka : ClassId) (a3 : Addr) (kb : ClassId) (c0 : Int32) (c1 : Int32) (c2 : Int32) (c3 : Int32) (h0 : Heap) (n0 : Nat) (hn : n0 ≤ h0.size) (V_a1 : Arl Z h0 a1 ka .char [(.int c0), (.int c1), (.int c2), (.int c3)]) (V_a3 : Arl Z h0 a3 kb .byte [(.int (0 : Int32)), (.int (0 : Int32)), (.int (0 : Int32)), (.int (0 : Int32))]) (ne_a1_a3 : a1 ≠ a3) (g_a3 : n0 ≤ a3) (hc0 : ¬ (255 : Int32) < c0) (hj : (255 : Int32) < c1) :
    Met false l Z (⟨"java/lang/StringUTF16", "compress", "([CI[BII)I"⟩ : MethodName) jdk_52_method_21_code 7 (some .int) ({ frames := 0, cells := 0, slots := 0, locals := 0 } : Room) ws #[(.ref a1), (.int (0 : Int32)), (.ref a3), (.int (0 : Int32)), (.int (4 : Int32))] h0 n0 (Q_rm5u1 Z a3 h0 n0) := by
  refine Met.of pn_6 (fun m => ef_rm5u1 m a1 a3) ?_
  have K := Keep.refl h0 [a3]
  refine Own.iconst (0 : Int32) d6_0 rfl ?_
  refine Own.istore #[.val (.ref a1), .val (.int (0 : Int32)), .val (.ref a3), .val (.int (0 : Int32)), .val (.int (4 : Int32)), .val (.int (0 : Int32)), .unset] d6_1 rfl ?_
  refine Own.iload d6_3 rfl ?_
  refine Own.iload d6_5 rfl ?_
  refine Own.icmp_ge 44 d6_7 (by decide) rfl (fun q => absurd (by decide) q) (fun _ => ?_)
  refine Own.aloadN d6_10 rfl rfl ?_
  refine Own.iloadN d6_11 rfl ?_
  refine Own.caload_ V_a1 (i := 0) rfl rfl d6_12 ?_
  refine Own.istore #[.val (.ref a1), .val (.int (0 : Int32)), .val (.ref a3), .val (.int (0 : Int32)), .val (.int (4 : Int32)), .val (.int (0 : Int32)), .val (.int c0)] d6_13 rfl ?_
  refine Own.iload d6_15 rfl ?_
  refine Own.sipush (255 : Int32) d6_17 rfl ?_
  refine Own.icmp_le 26 d6_20 (by decide) rfl (fun _ => ?_) (fun q => absurd q hc0)
  refine Own.aloadN d6_26 rfl rfl ?_
  refine Own.iloadN d6_27 rfl ?_
  refine Own.iload d6_28 rfl ?_
  refine Own.i2b d6_30 ?_
  refine Own.bastore_ V_a3 (i := 0) rfl (Nat.le_of_ble_eq_true rfl) g_a3 d6_31 (fun h32 W32 V32 => ?_)
  have hn : n0 ≤ h32.size := by rw [W32.size]; exact hn
  replace V_a1 := V_a1.other W32 ne_a1_a3
  clear V_a3
  replace V32 : Arl Z h32 a3 kb .byte [(.int (nar .byte (c0.toInt8.toInt32))), (.int (0 : Int32)), (.int (0 : Int32)), (.int (0 : Int32))] := V32
  have K := K.wr W32 (Or.inl (List.mem_of_getElem? (i := 0) rfl))
  refine Own.iinc (1 : Int32) #[.val (.ref a1), .val (.int ((0 : Int32) + (1 : Int32))), .val (.ref a3), .val (.int (0 : Int32)), .val (.int (4 : Int32)), .val (.int (0 : Int32)), .val (.int c0)] d6_32 rfl rfl rfl ?_
  refine OAt.castL (Ls' := #[.val (.ref a1), .val (.int (1 : Int32)), .val (.ref a3), .val (.int (0 : Int32)), .val (.int (4 : Int32)), .val (.int (0 : Int32)), .val (.int c0)]) rfl rfl ?_
  refine Own.iinc (1 : Int32) #[.val (.ref a1), .val (.int (1 : Int32)), .val (.ref a3), .val (.int ((0 : Int32) + (1 : Int32))), .val (.int (4 : Int32)), .val (.int (0 : Int32)), .val (.int c0)] d6_35 rfl rfl rfl ?_
  refine OAt.castL (Ls' := #[.val (.ref a1), .val (.int (1 : Int32)), .val (.ref a3), .val (.int (1 : Int32)), .val (.int (4 : Int32)), .val (.int (0 : Int32)), .val (.int c0)]) rfl rfl ?_
  refine Own.iinc (1 : Int32) #[.val (.ref a1), .val (.int (1 : Int32)), .val (.ref a3), .val (.int (1 : Int32)), .val (.int (4 : Int32)), .val (.int ((0 : Int32) + (1 : Int32))), .val (.int c0)] d6_38 rfl rfl rfl ?_
  refine OAt.castL (Ls' := #[.val (.ref a1), .val (.int (1 : Int32)), .val (.ref a3), .val (.int (1 : Int32)), .val (.int (4 : Int32)), .val (.int (1 : Int32)), .val (.int c0)]) rfl rfl ?_
  refine Own.goto_ 3 d6_41 (by decide) rfl ?_
  refine Own.iload d6_3 rfl ?_
  refine Own.iload d6_5 rfl ?_
  refine Own.icmp_ge 44 d6_7 (by decide) rfl (fun q => absurd (by decide) q) (fun _ => ?_)
  refine Own.aloadN d6_10 rfl rfl ?_
  refine Own.iloadN d6_11 rfl ?_
  refine Own.caload_ V_a1 (i := 1) rfl rfl d6_12 ?_
  refine Own.istore #[.val (.ref a1), .val (.int (1 : Int32)), .val (.ref a3), .val (.int (1 : Int32)), .val (.int (4 : Int32)), .val (.int (1 : Int32)), .val (.int c1)] d6_13 rfl ?_
  refine Own.iload d6_15 rfl ?_
  refine Own.sipush (255 : Int32) d6_17 rfl ?_
  refine Own.icmp_le 26 d6_20 (by decide) rfl (fun q => absurd hj q) (fun _ => ?_)
  refine Own.iload d6_23 rfl ?_
  refine Own.ret_int rfl d6_25 (by decide) (by decide) ?_
  exact ⟨rfl, K⟩
def Q_rm3u1 (Z : State) (c0 : Int32) (c1 : Int32) (c2 : Int32) (c3 : Int32) (h0 : Heap) (n0 : Nat) (v : Option Value) (h : Heap) : Prop := ∃ (a : Addr) (ka : ClassId), v = some (.ref a) ∧ h0.size ≤ a ∧ Keep h0 h [] ∧ Arl Z h a ka .byte [(.int (own_b0 c0)), (.int (own_b1 c0)), (.int (own_b0 c1)), (.int (own_b1 c1)), (.int (own_b0 c2)), (.int (own_b1 c2)), (.int (own_b0 c3)), (.int (own_b1 c3))]
theorem ef_rm3u1 (m : MethodId) (a1 : Addr)  : entryFrame m #[(.ref a1), (.int (0 : Int32)), (.int (4 : Int32))] 6 = mkF m 0 #[.val (.ref a1), .val (.int (0 : Int32)), .val (.int (4 : Int32)), .unset, .unset, .unset] [] := by first | (simp [entryFrame, mkF, argsToLocals, Value.category]; done) | rfl
set_option maxRecDepth 65536 in
set_option maxHeartbeats 40000000 in
theorem rm3u1 (l : Launch) (Z : State) (a0 : Array Value) (hw : ∀ d ∈ tables_1, d.before a0 Z = true) (ws : List Jvm.Cond) (a1 : Addr) (ka : ClassId) (c0 : Int32) (c1 : Int32) (c2 : Int32) (c3 : Int32) (h0 : Heap) (n0 : Nat) (hn : n0 ≤ h0.size) (V_a1 : Arl Z h0 a1 ka .char [(.int c0), (.int c1), (.int c2), (.int c3)]) (S_A : Sta Z h0 "java/lang/StringUTF16" "$assertionsDisabled" "Z" (.int (1 : Int32))) (S_H : Sta Z h0 "java/lang/StringUTF16" "HI_BYTE_SHIFT" "I" (.int (0 : Int32))) (S_L : Sta Z h0 "java/lang/StringUTF16" "LO_BYTE_SHIFT" "I" (.int (8 : Int32))) (hr1 : 0 ≤ c1.toInt ∧ c1.toInt < 65536) (hc0 : ¬ (255 : Int32) < c0) (hj : (255 : Int32) < c1) :
    Met false l Z (⟨"java/lang/StringUTF16", "compress", "([CII)[B"⟩ : MethodName) jdk_52_method_16_code 6 (some (.array .byte)) ({ frames := 3, cells := 2, slots := 12, locals := 40 } : Room) ws #[(.ref a1), (.int (0 : Int32)), (.int (4 : Int32))] h0 n0 (Q_rm3u1 Z c0 c1 c2 c3 h0 n0) := by
  refine Met.of pn_5 (fun m => ef_rm3u1 m a1) ?_
  have K := Keep.refl h0 []
  refine Own.iloadN d5_0 rfl ?_
  refine Own.newarray_ 4 .byte rfl (hw _ (List.mem_of_getElem? (i := 26) rfl)) d5_1 (N := 4) rfl (by decide) (by decide) (by decide) (by decide) rfl (fun h33 b33 k33 gb33 E33 V33 => ?_)
  have g_b33 : n0 ≤ b33 := by rw [gb33]; exact hn
  have ne_a1_b33 : a1 ≠ b33 := fun q => Nat.ne_of_lt V_a1.lt (q.trans gb33)
  have ne_b33_a1 := Ne.symm ne_a1_b33
  have hn := Nat.le_trans hn E33.1
  replace S_A := S_A.ext E33
  replace S_H := S_H.ext E33
  replace S_L := S_L.ext E33
  replace V_a1 := V_a1.ext E33
  replace V33 : Arl Z h33 b33 k33 .byte [(.int (0 : Int32)), (.int (0 : Int32)), (.int (0 : Int32)), (.int (0 : Int32))] := V33
  have sz_b33 : h0.size ≤ b33 := by rw [gb33]; exact K.1
  have K := K.ext E33
  refine Own.astoreN #[.val (.ref a1), .val (.int (0 : Int32)), .val (.int (4 : Int32)), .val (.ref b33), .unset, .unset] d5_3 rfl rfl ?_
  refine Own.aloadN d5_4 rfl rfl ?_
  refine Own.iloadN d5_5 rfl ?_
  refine Own.aloadN d5_6 rfl rfl ?_
  refine Own.iconst (0 : Int32) d5_7 rfl ?_
  refine Own.iloadN d5_8 rfl ?_
  refine Own.callS_ [(.ref a1), (.int (0 : Int32)), (.ref b33), (.int (0 : Int32)), (.int (4 : Int32))] [] 0 (rm5u1 l Z a0 hw [] a1 ka b33 k33 c0 c1 c2 c3 h33 n0 hn V_a1 V33 ne_a1_b33 g_b33 hc0 hj) (hw _ (List.mem_of_getElem? (i := 27) rfl)) (hw _ (List.mem_of_getElem? (i := 28) rfl)) (hw _ (List.mem_of_getElem? (i := 24) rfl)) (hw _ (List.mem_of_getElem? (i := 29) rfl)) (by decide) d5_9 pd_17 rfl rfl rfl rfl (by decide) (by decide) (by decide) (by decide) (fun v34 h34 hq34 => ?_)
  obtain ⟨rfl, K35⟩ := hq34
  have hn := Nat.le_trans hn K35.1
  replace S_A := sta_keep S_A K35 (nsS V33.nostat ns0)
  replace S_H := sta_keep S_H K35 (nsS V33.nostat ns0)
  replace S_L := sta_keep S_L K35 (nsS V33.nostat ns0)
  replace V_a1 := V_a1.keep K35 (ninS ne_a1_b33 nin0)
  have K := K.trans K35 (allS (Or.inr sz_b33) all0)
  refine OAt.cast (st' := [(.int (1 : Int32))]) rfl ?_
  refine Own.istore #[.val (.ref a1), .val (.int (0 : Int32)), .val (.int (4 : Int32)), .val (.ref b33), .val (.int (1 : Int32)), .unset] d5_12 rfl ?_
  refine Own.iload d5_14 rfl ?_
  refine Own.iloadN d5_16 rfl ?_
  refine Own.icmp_eq 57 d5_17 (by decide) rfl (fun q => absurd q (by decide)) (fun _ => ?_)
  refine Own.aloadN d5_20 rfl rfl ?_
  refine Own.iloadN d5_21 rfl ?_
  refine Own.iloadN d5_22 rfl ?_
  refine Own.callS_ [(.ref a1), (.int (0 : Int32)), (.int (4 : Int32))] [] 0 (rmTo l Z a0 hw [] a1 ka c0 c1 c2 c3 h34 n0 hn V_a1 S_A S_H S_L) (hw _ (List.mem_of_getElem? (i := 63) rfl)) (hw _ (List.mem_of_getElem? (i := 64) rfl)) (hw _ (List.mem_of_getElem? (i := 24) rfl)) (hw _ (List.mem_of_getElem? (i := 65) rfl)) (by decide) d5_23 pd_15 rfl rfl rfl rfl (by decide) (by decide) (by decide) (by decide) (fun v36 h36 hq36 => ?_)
  obtain ⟨b37, k37, rfl, z37, K37, V37⟩ := hq36
  have g_b37 : n0 ≤ b37 := Nat.le_trans hn z37
  have ne_a1_b37 : a1 ≠ b37 := Nat.ne_of_lt (Nat.lt_of_lt_of_le V_a1.lt z37)
  have ne_b37_a1 := Ne.symm ne_a1_b37
  have sz_b37 : h0.size ≤ b37 := Nat.le_trans K.1 z37
  have hn := Nat.le_trans hn K37.1
  replace S_A := sta_keep S_A K37 ns0
  replace S_H := sta_keep S_H K37 ns0
  replace S_L := sta_keep S_L K37 ns0
  replace V_a1 := V_a1.keep K37 nin0
  have K := K.trans K37 all0
  refine OAt.cast (st' := [(.ref b37)]) rfl ?_
  refine Own.astore #[.val (.ref a1), .val (.int (0 : Int32)), .val (.int (4 : Int32)), .val (.ref b33), .val (.int (1 : Int32)), .val (.ref b37)] d5_26 rfl rfl ?_
  refine Own.aload d5_28 rfl rfl ?_
  refine Own.iload d5_30 rfl ?_
  refine Own.callSP [(.ref b37), (.int (1 : Int32))] [] 0 (rmGet1 l Z a0 hw [] b37 k37 _ (own_b0 c1) (own_b1 c1) h36 n0 hn V37 rfl rfl S_A S_H S_L) (hw _ (List.mem_of_getElem? (i := 79) rfl)) (hw _ (List.mem_of_getElem? (i := 80) rfl)) (hw _ (List.mem_of_getElem? (i := 24) rfl)) (hw _ (List.mem_of_getElem? (i := 81) rfl)) (by decide) d5_32 pd_12 rfl rfl rfl rfl (by decide) (by decide) (by decide) (by decide) ?_
  refine Own.sipush (255 : Int32) d5_35 rfl ?_
  refine Own.icmp_gt 54 d5_38 (by decide) rfl (fun _ => ?_) (fun q => absurd (by rw [own_gcv hr1.1 hr1.2]; exact hj) q)
  refine Own.aload d5_54 rfl rfl ?_
  refine Own.ret_ref (t := (.array .byte)) rfl rfl rfl d5_56 (by decide) (by decide) ?_
  exact ⟨b37, k37, rfl, sz_b37, K, V37⟩
def Q_rm4u1 (Z : State) (a1 : Addr) (c0 : Int32) (c1 : Int32) (c2 : Int32) (c3 : Int32) (h0 : Heap) (n0 : Nat) (v : Option Value) (h : Heap) : Prop := v = none ∧ Keep h0 h [a1] ∧ ∃ (b : Addr) (kb : ClassId) (cod : Int32) (bs : List Value), h0.size ≤ b ∧ Fld Z h a1 "java/lang/String" "value" "[B" (.ref b) ∧ Fld Z h a1 "java/lang/String" "coder" "B" (.int cod) ∧ Arl Z h b kb .byte bs ∧ own_spell cod bs c0 c1 c2 c3
theorem ef_rm4u1 (m : MethodId) (a1 : Addr) (a2 : Addr)  : entryFrame m #[(.ref a1), (.ref a2), (.int (0 : Int32)), (.int (4 : Int32)), .null] 6 = mkF m 0 #[.val (.ref a1), .val (.ref a2), .val (.int (0 : Int32)), .val (.int (4 : Int32)), .val .null, .unset] [] := by first | (simp [entryFrame, mkF, argsToLocals, Value.category]; done) | rfl
set_option maxRecDepth 65536 in
set_option maxHeartbeats 40000000 in
theorem rm4u1 (l : Launch) (Z : State) (a0 : Array Value) (hw : ∀ d ∈ tables_1, d.before a0 Z = true) (ws : List Jvm.Cond) (a1 : Addr) (a2 : Addr) (ka : ClassId) (zc : Int32) (c0 : Int32) (c1 : Int32) (c2 : Int32) (c3 : Int32) (h0 : Heap) (n0 : Nat) (hn : n0 ≤ h0.size) (X_a1 : Exa Z h0 a1 "java/lang/String") (g_a1 : n0 ≤ a1) (F_value_a1 : Fld Z h0 a1 "java/lang/String" "value" "[B" .null) (F_coder_a1 : Fld Z h0 a1 "java/lang/String" "coder" "B" (.int (0 : Int32))) (V_a2 : Arl Z h0 a2 ka .char [(.int c0), (.int c1), (.int c2), (.int c3)]) (ne_a2_a1 : a2 ≠ a1) (S_C : Sta Z h0 "java/lang/String" "COMPACT_STRINGS" "Z" (.int zc)) (S_A : Sta Z h0 "java/lang/StringUTF16" "$assertionsDisabled" "Z" (.int (1 : Int32))) (S_H : Sta Z h0 "java/lang/StringUTF16" "HI_BYTE_SHIFT" "I" (.int (0 : Int32))) (S_L : Sta Z h0 "java/lang/StringUTF16" "LO_BYTE_SHIFT" "I" (.int (8 : Int32))) (hz : ¬ zc = 0) (hr0 : 0 ≤ c0.toInt ∧ c0.toInt < 65536) (hr1 : 0 ≤ c1.toInt ∧ c1.toInt < 65536) (hr2 : 0 ≤ c2.toInt ∧ c2.toInt < 65536) (hr3 : 0 ≤ c3.toInt ∧ c3.toInt < 65536) (hc0 : ¬ (255 : Int32) < c0) (hj : (255 : Int32) < c1) :
    Met false l Z (⟨"java/lang/String", "<init>", "([CIILjava/lang/Void;)V"⟩ : MethodName) jdk_42_method_149_code 6 none ({ frames := 4, cells := 2, slots := 12, locals := 57 } : Room) ws #[(.ref a1), (.ref a2), (.int (0 : Int32)), (.int (4 : Int32)), .null] h0 n0 (Q_rm4u1 Z a1 c0 c1 c2 c3 h0 n0) := by
  refine Met.of pn_3 (fun m => ef_rm4u1 m a1 a2) ?_
  have ne_a1_a2 := Ne.symm ne_a2_a1
  have K := Keep.refl h0 [a1]
  refine Own.aloadN d3_0 rfl rfl ?_
  refine Own.initO_ (hw _ (List.mem_of_getElem? (i := 18) rfl)) (hw _ (List.mem_of_getElem? (i := 19) rfl)) (hw _ (List.mem_of_getElem? (i := 20) rfl)) d3_1 rfl (by decide) 0 rfl (by decide) ?_
  refine Own.iloadN d3_4 rfl ?_
  refine Own.if_ne 27 d3_5 (by decide) rfl (fun _ => ?_) (fun q => absurd q (by decide))
  refine Own.getS_ (host := "") (Or.inl (hw _ (List.mem_of_getElem? (i := 21) rfl))) Via.refl S_C d3_27 ?_
  refine Own.if_eq 58 d3_30 (by decide) rfl (fun q => absurd q hz) (fun _ => ?_)
  refine Own.aloadN d3_33 rfl rfl ?_
  refine Own.iloadN d3_34 rfl ?_
  refine Own.iloadN d3_35 rfl ?_
  refine Own.callS_ [(.ref a2), (.int (0 : Int32)), (.int (4 : Int32))] [] 0 (rm3u1 l Z a0 hw [] a2 ka c0 c1 c2 c3 h0 n0 hn V_a2 S_A S_H S_L hr1 hc0 hj) (hw _ (List.mem_of_getElem? (i := 22) rfl)) (hw _ (List.mem_of_getElem? (i := 23) rfl)) (hw _ (List.mem_of_getElem? (i := 24) rfl)) (hw _ (List.mem_of_getElem? (i := 25) rfl)) (by decide) d3_36 pd_15 rfl rfl rfl rfl (by decide) (by decide) (by decide) (by decide) (fun v38 h38 hq38 => ?_)
  obtain ⟨b39, k39, rfl, z39, K39, V39⟩ := hq38
  have g_b39 : n0 ≤ b39 := Nat.le_trans hn z39
  have ne_a1_b39 : a1 ≠ b39 := Nat.ne_of_lt (Nat.lt_of_lt_of_le X_a1.lt z39)
  have ne_b39_a1 := Ne.symm ne_a1_b39
  have ne_a2_b39 : a2 ≠ b39 := Nat.ne_of_lt (Nat.lt_of_lt_of_le V_a2.lt z39)
  have ne_b39_a2 := Ne.symm ne_a2_b39
  have sz_b39 : h0.size ≤ b39 := Nat.le_trans K.1 z39
  have hn := Nat.le_trans hn K39.1
  replace S_C := sta_keep S_C K39 ns0
  replace S_A := sta_keep S_A K39 ns0
  replace S_H := sta_keep S_H K39 ns0
  replace S_L := sta_keep S_L K39 ns0
  replace X_a1 := X_a1.keep K39
  replace F_value_a1 := F_value_a1.keep K39 nin0
  replace F_coder_a1 := F_coder_a1.keep K39 nin0
  replace V_a2 := V_a2.keep K39 nin0
  have K := K.trans K39 all0
  refine OAt.cast (st' := [(.ref b39)]) rfl ?_
  refine Own.astore #[.val (.ref a1), .val (.ref a2), .val (.int (0 : Int32)), .val (.int (4 : Int32)), .val .null, .val (.ref b39)] d3_39 rfl rfl ?_
  refine Own.aloadN d3_41 rfl rfl ?_
  refine Own.aload d3_42 rfl rfl ?_
  refine Own.iloadN d3_44 rfl ?_
  refine Own.callSP [(.ref b39), (.int (4 : Int32))] [(.ref a1)] 1 (rmlU l Z a0 hw [] b39 k39 _ h38 n0 hn V39 rfl) (hw _ (List.mem_of_getElem? (i := 30) rfl)) (hw _ (List.mem_of_getElem? (i := 31) rfl)) (hw _ (List.mem_of_getElem? (i := 24) rfl)) (hw _ (List.mem_of_getElem? (i := 32) rfl)) (by decide) d3_45 pd_11 rfl rfl rfl rfl (by decide) (by decide) (by decide) (by decide) ?_
  refine Own.putFN_ (hw _ (List.mem_of_getElem? (i := 33) rfl)) Via.refl F_coder_a1 X_a1 (Or.inr ⟨(hw _ (List.mem_of_getElem? (i := 34) rfl)), rfl, rfl⟩) (hw _ (List.mem_of_getElem? (i := 9) rfl)) (ty := .byte) (v' := (.int (nar .byte (1 : Int32)))) (by decide) rfl (fits_nar_byte _) g_a1 d3_48 (fun h40 W41 => ?_)
  replace F_coder_a1 := F_coder_a1.same W41
  have hn : n0 ≤ h40.size := by rw [W41.size]; exact hn
  replace X_a1 := X_a1.wr W41
  replace F_value_a1 := F_value_a1.other W41 (Or.inr (slot_ne (Or.inr (hw _ (List.mem_of_getElem? (i := 36) rfl))) (Or.inr (hw _ (List.mem_of_getElem? (i := 34) rfl))) (by decide) (t := (.array .byte)) (t' := .byte) (by decide) (by decide)))
  replace V_a2 := V_a2.other W41 ne_a2_a1
  replace S_C := S_C.wr W41
  replace S_A := S_A.wr W41
  replace S_H := S_H.wr W41
  replace S_L := S_L.wr W41
  replace V39 := V39.other W41 ne_b39_a1
  rw [show nar .byte (1 : Int32) = 1 from rfl] at F_coder_a1
  have K := K.wr W41 (Or.inl (List.mem_of_getElem? (i := 0) rfl))
  refine Own.aloadN d3_51 rfl rfl ?_
  refine Own.aload d3_52 rfl rfl ?_
  refine Own.putF_ (host := "") (Or.inl (hw _ (List.mem_of_getElem? (i := 35) rfl))) Via.refl F_value_a1 X_a1 (Or.inr ⟨(hw _ (List.mem_of_getElem? (i := 36) rfl)), rfl, rfl⟩) (hw _ (List.mem_of_getElem? (i := 9) rfl)) (ty := (.array .byte)) (by decide) rfl rfl g_a1 d3_54 (fun h42 W43 => ?_)
  replace F_value_a1 := F_value_a1.same W43
  have hn : n0 ≤ h42.size := by rw [W43.size]; exact hn
  replace X_a1 := X_a1.wr W43
  replace F_coder_a1 := F_coder_a1.other W43 (Or.inr (slot_ne (Or.inr (hw _ (List.mem_of_getElem? (i := 34) rfl))) (Or.inr (hw _ (List.mem_of_getElem? (i := 36) rfl))) (by decide) (t := .byte) (t' := (.array .byte)) (by decide) (by decide)))
  replace V_a2 := V_a2.other W43 ne_a2_a1
  replace S_C := S_C.wr W43
  replace S_A := S_A.wr W43
  replace S_H := S_H.wr W43
  replace S_L := S_L.wr W43
  replace V39 := V39.other W43 ne_b39_a1
  have K := K.wr W43 (Or.inl (List.mem_of_getElem? (i := 0) rfl))
  refine Own.ret_void rfl d3_57 (by decide) (by decide) ?_
  exact ⟨rfl, K, b39, k39, _, _, sz_b39, F_value_a1, F_coder_a1, V39, Or.inr ⟨rfl, rfl⟩⟩
def Q_rm1u1 (Z : State) (a1 : Addr) (c0 : Int32) (c1 : Int32) (c2 : Int32) (c3 : Int32) (h0 : Heap) (n0 : Nat) (v : Option Value) (h : Heap) : Prop := v = none ∧ Keep h0 h [a1] ∧ ∃ (b : Addr) (kb : ClassId) (cod : Int32) (bs : List Value), h0.size ≤ b ∧ Fld Z h a1 "java/lang/String" "value" "[B" (.ref b) ∧ Fld Z h a1 "java/lang/String" "coder" "B" (.int cod) ∧ Arl Z h b kb .byte bs ∧ own_spell cod bs c0 c1 c2 c3
theorem ef_rm1u1 (m : MethodId) (a1 : Addr) (a2 : Addr)  : entryFrame m #[(.ref a1), (.ref a2)] 2 = mkF m 0 #[.val (.ref a1), .val (.ref a2)] [] := by first | (simp [entryFrame, mkF, argsToLocals, Value.category]; done) | rfl
set_option maxRecDepth 65536 in
set_option maxHeartbeats 40000000 in
theorem rm1u1 (l : Launch) (Z : State) (a0 : Array Value) (hw : ∀ d ∈ tables_1, d.before a0 Z = true) (ws : List Jvm.Cond) (a1 : Addr) (a2 : Addr) (ka : ClassId) (zc : Int32) (c0 : Int32) (c1 : Int32) (c2 : Int32) (c3 : Int32) (h0 : Heap) (n0 : Nat) (hn : n0 ≤ h0.size) (X_a1 : Exa Z h0 a1 "java/lang/String") (g_a1 : n0 ≤ a1) (F_value_a1 : Fld Z h0 a1 "java/lang/String" "value" "[B" .null) (F_coder_a1 : Fld Z h0 a1 "java/lang/String" "coder" "B" (.int (0 : Int32))) (V_a2 : Arl Z h0 a2 ka .char [(.int c0), (.int c1), (.int c2), (.int c3)]) (ne_a2_a1 : a2 ≠ a1) (S_C : Sta Z h0 "java/lang/String" "COMPACT_STRINGS" "Z" (.int zc)) (S_A : Sta Z h0 "java/lang/StringUTF16" "$assertionsDisabled" "Z" (.int (1 : Int32))) (S_H : Sta Z h0 "java/lang/StringUTF16" "HI_BYTE_SHIFT" "I" (.int (0 : Int32))) (S_L : Sta Z h0 "java/lang/StringUTF16" "LO_BYTE_SHIFT" "I" (.int (8 : Int32))) (hz : ¬ zc = 0) (hr0 : 0 ≤ c0.toInt ∧ c0.toInt < 65536) (hr1 : 0 ≤ c1.toInt ∧ c1.toInt < 65536) (hr2 : 0 ≤ c2.toInt ∧ c2.toInt < 65536) (hr3 : 0 ≤ c3.toInt ∧ c3.toInt < 65536) (hc0 : ¬ (255 : Int32) < c0) (hj : (255 : Int32) < c1) :
    Met false l Z (⟨"java/lang/String", "<init>", "([C)V"⟩ : MethodName) jdk_42_method_3_code 2 none ({ frames := 5, cells := 2, slots := 12, locals := 74 } : Room) ws #[(.ref a1), (.ref a2)] h0 n0 (Q_rm1u1 Z a1 c0 c1 c2 c3 h0 n0) := by
  refine Met.of pn_2 (fun m => ef_rm1u1 m a1 a2) ?_
  have ne_a1_a2 := Ne.symm ne_a2_a1
  have K := Keep.refl h0 [a1]
  refine Own.aloadN d2_0 rfl rfl ?_
  refine Own.aloadN d2_1 rfl rfl ?_
  refine Own.iconst (0 : Int32) d2_2 rfl ?_
  refine Own.aloadN d2_3 rfl rfl ?_
  refine Own.arraylength_ (4 : Int32) V_a2 rfl d2_4 ?_
  refine Own.aconstNull d2_5 ?_
  refine Own.callI_ a1 [(.ref a2), (.int (0 : Int32)), (.int (4 : Int32)), .null] [] 0 (rm4u1 l Z a0 hw [] a1 a2 ka zc c0 c1 c2 c3 h0 n0 hn X_a1 g_a1 F_value_a1 F_coder_a1 V_a2 ne_a2_a1 S_C S_A S_H S_L hz hr0 hr1 hr2 hr3 hc0 hj) (hw _ (List.mem_of_getElem? (i := 14) rfl)) (hw _ (List.mem_of_getElem? (i := 15) rfl)) (hw _ (List.mem_of_getElem? (i := 10) rfl)) (hw _ (List.mem_of_getElem? (i := 17) rfl)) rfl (by decide) d2_6 pd_16 rfl rfl rfl rfl (by decide) (by decide) (by decide) (by decide) (fun v44 h44 hq44 => ?_)
  obtain ⟨rfl, K4, rest4⟩ := hq44
  have hn := Nat.le_trans hn K4.1
  replace S_C := sta_keep S_C K4 (nsS X_a1.nostat ns0)
  replace S_A := sta_keep S_A K4 (nsS X_a1.nostat ns0)
  replace S_H := sta_keep S_H K4 (nsS X_a1.nostat ns0)
  replace S_L := sta_keep S_L K4 (nsS X_a1.nostat ns0)
  replace X_a1 := X_a1.keep K4
  replace V_a2 := V_a2.keep K4 (ninS ne_a2_a1 nin0)
  have K := K.trans K4 (allS (Or.inl (List.mem_of_getElem? (i := 0) rfl)) all0)
  refine OAt.cast (st' := []) rfl ?_
  refine Own.ret_void rfl d2_9 (by decide) (by decide) ?_
  exact ⟨rfl, K, rest4⟩
def Q_rm5u2 (Z : State) (a3 : Addr) (h0 : Heap) (n0 : Nat) (v : Option Value) (h : Heap) : Prop := v = some (.int (2 : Int32)) ∧ Keep h0 h [a3]
theorem ef_rm5u2 (m : MethodId) (a1 : Addr) (a3 : Addr)  : entryFrame m #[(.ref a1), (.int (0 : Int32)), (.ref a3), (.int (0 : Int32)), (.int (4 : Int32))] 7 = mkF m 0 #[.val (.ref a1), .val (.int (0 : Int32)), .val (.ref a3), .val (.int (0 : Int32)), .val (.int (4 : Int32)), .unset, .unset] [] := by first | (simp [entryFrame, mkF, argsToLocals, Value.category]; done) | rfl
set_option maxRecDepth 65536 in
set_option maxHeartbeats 40000000 in
theorem rm5u2 (l : Launch) (Z : State) (a0 : Array Value) (hw : ∀ d ∈ tables_1, d.before a0 Z = true) (ws : List Jvm.Cond) (a1 : Addr) (ka : ClassId) (a3 : Addr) (kb : ClassId) (c0 : Int32) (c1 : Int32) (c2 : Int32) (c3 : Int32) (h0 : Heap) (n0 : Nat) (hn : n0 ≤ h0.size) (V_a1 : Arl Z h0 a1 ka .char [(.int c0), (.int c1), (.int c2), (.int c3)]) (V_a3 : Arl Z h0 a3 kb .byte [(.int (0 : Int32)), (.int (0 : Int32)), (.int (0 : Int32)), (.int (0 : Int32))]) (ne_a1_a3 : a1 ≠ a3) (g_a3 : n0 ≤ a3) (hc0 : ¬ (255 : Int32) < c0) (hc1 : ¬ (255 : Int32) < c1) (hj : (255 : Int32) < c2) :
    Met false l Z (⟨"java/lang/StringUTF16", "compress", "([CI[BII)I"⟩ : MethodName) jdk_52_method_21_code 7 (some .int) ({ frames := 0, cells := 0, slots := 0, locals := 0 } : Room) ws #[(.ref a1), (.int (0 : Int32)), (.ref a3), (.int (0 : Int32)), (.int (4 : Int32))] h0 n0 (Q_rm5u2 Z a3 h0 n0) := by
  refine Met.of pn_6 (fun m => ef_rm5u2 m a1 a3) ?_
  have K := Keep.refl h0 [a3]
  refine Own.iconst (0 : Int32) d6_0 rfl ?_
  refine Own.istore #[.val (.ref a1), .val (.int (0 : Int32)), .val (.ref a3), .val (.int (0 : Int32)), .val (.int (4 : Int32)), .val (.int (0 : Int32)), .unset] d6_1 rfl ?_
  refine Own.iload d6_3 rfl ?_
  refine Own.iload d6_5 rfl ?_
  refine Own.icmp_ge 44 d6_7 (by decide) rfl (fun q => absurd (by decide) q) (fun _ => ?_)
  refine Own.aloadN d6_10 rfl rfl ?_
  refine Own.iloadN d6_11 rfl ?_
  refine Own.caload_ V_a1 (i := 0) rfl rfl d6_12 ?_
  refine Own.istore #[.val (.ref a1), .val (.int (0 : Int32)), .val (.ref a3), .val (.int (0 : Int32)), .val (.int (4 : Int32)), .val (.int (0 : Int32)), .val (.int c0)] d6_13 rfl ?_
  refine Own.iload d6_15 rfl ?_
  refine Own.sipush (255 : Int32) d6_17 rfl ?_
  refine Own.icmp_le 26 d6_20 (by decide) rfl (fun _ => ?_) (fun q => absurd q hc0)
  refine Own.aloadN d6_26 rfl rfl ?_
  refine Own.iloadN d6_27 rfl ?_
  refine Own.iload d6_28 rfl ?_
  refine Own.i2b d6_30 ?_
  refine Own.bastore_ V_a3 (i := 0) rfl (Nat.le_of_ble_eq_true rfl) g_a3 d6_31 (fun h45 W45 V45 => ?_)
  have hn : n0 ≤ h45.size := by rw [W45.size]; exact hn
  replace V_a1 := V_a1.other W45 ne_a1_a3
  clear V_a3
  replace V45 : Arl Z h45 a3 kb .byte [(.int (nar .byte (c0.toInt8.toInt32))), (.int (0 : Int32)), (.int (0 : Int32)), (.int (0 : Int32))] := V45
  have K := K.wr W45 (Or.inl (List.mem_of_getElem? (i := 0) rfl))
  refine Own.iinc (1 : Int32) #[.val (.ref a1), .val (.int ((0 : Int32) + (1 : Int32))), .val (.ref a3), .val (.int (0 : Int32)), .val (.int (4 : Int32)), .val (.int (0 : Int32)), .val (.int c0)] d6_32 rfl rfl rfl ?_
  refine OAt.castL (Ls' := #[.val (.ref a1), .val (.int (1 : Int32)), .val (.ref a3), .val (.int (0 : Int32)), .val (.int (4 : Int32)), .val (.int (0 : Int32)), .val (.int c0)]) rfl rfl ?_
  refine Own.iinc (1 : Int32) #[.val (.ref a1), .val (.int (1 : Int32)), .val (.ref a3), .val (.int ((0 : Int32) + (1 : Int32))), .val (.int (4 : Int32)), .val (.int (0 : Int32)), .val (.int c0)] d6_35 rfl rfl rfl ?_
  refine OAt.castL (Ls' := #[.val (.ref a1), .val (.int (1 : Int32)), .val (.ref a3), .val (.int (1 : Int32)), .val (.int (4 : Int32)), .val (.int (0 : Int32)), .val (.int c0)]) rfl rfl ?_
  refine Own.iinc (1 : Int32) #[.val (.ref a1), .val (.int (1 : Int32)), .val (.ref a3), .val (.int (1 : Int32)), .val (.int (4 : Int32)), .val (.int ((0 : Int32) + (1 : Int32))), .val (.int c0)] d6_38 rfl rfl rfl ?_
  refine OAt.castL (Ls' := #[.val (.ref a1), .val (.int (1 : Int32)), .val (.ref a3), .val (.int (1 : Int32)), .val (.int (4 : Int32)), .val (.int (1 : Int32)), .val (.int c0)]) rfl rfl ?_
  refine Own.goto_ 3 d6_41 (by decide) rfl ?_
  refine Own.iload d6_3 rfl ?_
  refine Own.iload d6_5 rfl ?_
  refine Own.icmp_ge 44 d6_7 (by decide) rfl (fun q => absurd (by decide) q) (fun _ => ?_)
  refine Own.aloadN d6_10 rfl rfl ?_
  refine Own.iloadN d6_11 rfl ?_
  refine Own.caload_ V_a1 (i := 1) rfl rfl d6_12 ?_
  refine Own.istore #[.val (.ref a1), .val (.int (1 : Int32)), .val (.ref a3), .val (.int (1 : Int32)), .val (.int (4 : Int32)), .val (.int (1 : Int32)), .val (.int c1)] d6_13 rfl ?_
  refine Own.iload d6_15 rfl ?_
  refine Own.sipush (255 : Int32) d6_17 rfl ?_
  refine Own.icmp_le 26 d6_20 (by decide) rfl (fun _ => ?_) (fun q => absurd q hc1)
  refine Own.aloadN d6_26 rfl rfl ?_
  refine Own.iloadN d6_27 rfl ?_
  refine Own.iload d6_28 rfl ?_
  refine Own.i2b d6_30 ?_
  refine Own.bastore_ V45 (i := 1) rfl (Nat.le_of_ble_eq_true rfl) g_a3 d6_31 (fun h46 W46 V46 => ?_)
  have hn : n0 ≤ h46.size := by rw [W46.size]; exact hn
  replace V_a1 := V_a1.other W46 ne_a1_a3
  clear V45
  replace V46 : Arl Z h46 a3 kb .byte [(.int (nar .byte (c0.toInt8.toInt32))), (.int (nar .byte (c1.toInt8.toInt32))), (.int (0 : Int32)), (.int (0 : Int32))] := V46
  have K := K.wr W46 (Or.inl (List.mem_of_getElem? (i := 0) rfl))
  refine Own.iinc (1 : Int32) #[.val (.ref a1), .val (.int ((1 : Int32) + (1 : Int32))), .val (.ref a3), .val (.int (1 : Int32)), .val (.int (4 : Int32)), .val (.int (1 : Int32)), .val (.int c1)] d6_32 rfl rfl rfl ?_
  refine OAt.castL (Ls' := #[.val (.ref a1), .val (.int (2 : Int32)), .val (.ref a3), .val (.int (1 : Int32)), .val (.int (4 : Int32)), .val (.int (1 : Int32)), .val (.int c1)]) rfl rfl ?_
  refine Own.iinc (1 : Int32) #[.val (.ref a1), .val (.int (2 : Int32)), .val (.ref a3), .val (.int ((1 : Int32) + (1 : Int32))), .val (.int (4 : Int32)), .val (.int (1 : Int32)), .val (.int c1)] d6_35 rfl rfl rfl ?_
  refine OAt.castL (Ls' := #[.val (.ref a1), .val (.int (2 : Int32)), .val (.ref a3), .val (.int (2 : Int32)), .val (.int (4 : Int32)), .val (.int (1 : Int32)), .val (.int c1)]) rfl rfl ?_
  refine Own.iinc (1 : Int32) #[.val (.ref a1), .val (.int (2 : Int32)), .val (.ref a3), .val (.int (2 : Int32)), .val (.int (4 : Int32)), .val (.int ((1 : Int32) + (1 : Int32))), .val (.int c1)] d6_38 rfl rfl rfl ?_
  refine OAt.castL (Ls' := #[.val (.ref a1), .val (.int (2 : Int32)), .val (.ref a3), .val (.int (2 : Int32)), .val (.int (4 : Int32)), .val (.int (2 : Int32)), .val (.int c1)]) rfl rfl ?_
  refine Own.goto_ 3 d6_41 (by decide) rfl ?_
  refine Own.iload d6_3 rfl ?_
  refine Own.iload d6_5 rfl ?_
  refine Own.icmp_ge 44 d6_7 (by decide) rfl (fun q => absurd (by decide) q) (fun _ => ?_)
  refine Own.aloadN d6_10 rfl rfl ?_
  refine Own.iloadN d6_11 rfl ?_
  refine Own.caload_ V_a1 (i := 2) rfl rfl d6_12 ?_
  refine Own.istore #[.val (.ref a1), .val (.int (2 : Int32)), .val (.ref a3), .val (.int (2 : Int32)), .val (.int (4 : Int32)), .val (.int (2 : Int32)), .val (.int c2)] d6_13 rfl ?_
  refine Own.iload d6_15 rfl ?_
  refine Own.sipush (255 : Int32) d6_17 rfl ?_
  refine Own.icmp_le 26 d6_20 (by decide) rfl (fun q => absurd hj q) (fun _ => ?_)
  refine Own.iload d6_23 rfl ?_
  refine Own.ret_int rfl d6_25 (by decide) (by decide) ?_
  exact ⟨rfl, K⟩
def Q_rm3u2 (Z : State) (c0 : Int32) (c1 : Int32) (c2 : Int32) (c3 : Int32) (h0 : Heap) (n0 : Nat) (v : Option Value) (h : Heap) : Prop := ∃ (a : Addr) (ka : ClassId), v = some (.ref a) ∧ h0.size ≤ a ∧ Keep h0 h [] ∧ Arl Z h a ka .byte [(.int (own_b0 c0)), (.int (own_b1 c0)), (.int (own_b0 c1)), (.int (own_b1 c1)), (.int (own_b0 c2)), (.int (own_b1 c2)), (.int (own_b0 c3)), (.int (own_b1 c3))]
theorem ef_rm3u2 (m : MethodId) (a1 : Addr)  : entryFrame m #[(.ref a1), (.int (0 : Int32)), (.int (4 : Int32))] 6 = mkF m 0 #[.val (.ref a1), .val (.int (0 : Int32)), .val (.int (4 : Int32)), .unset, .unset, .unset] [] := by first | (simp [entryFrame, mkF, argsToLocals, Value.category]; done) | rfl
set_option maxRecDepth 65536 in
set_option maxHeartbeats 40000000 in
theorem rm3u2 (l : Launch) (Z : State) (a0 : Array Value) (hw : ∀ d ∈ tables_1, d.before a0 Z = true) (ws : List Jvm.Cond) (a1 : Addr) (ka : ClassId) (c0 : Int32) (c1 : Int32) (c2 : Int32) (c3 : Int32) (h0 : Heap) (n0 : Nat) (hn : n0 ≤ h0.size) (V_a1 : Arl Z h0 a1 ka .char [(.int c0), (.int c1), (.int c2), (.int c3)]) (S_A : Sta Z h0 "java/lang/StringUTF16" "$assertionsDisabled" "Z" (.int (1 : Int32))) (S_H : Sta Z h0 "java/lang/StringUTF16" "HI_BYTE_SHIFT" "I" (.int (0 : Int32))) (S_L : Sta Z h0 "java/lang/StringUTF16" "LO_BYTE_SHIFT" "I" (.int (8 : Int32))) (hr2 : 0 ≤ c2.toInt ∧ c2.toInt < 65536) (hc0 : ¬ (255 : Int32) < c0) (hc1 : ¬ (255 : Int32) < c1) (hj : (255 : Int32) < c2) :
    Met false l Z (⟨"java/lang/StringUTF16", "compress", "([CII)[B"⟩ : MethodName) jdk_52_method_16_code 6 (some (.array .byte)) ({ frames := 3, cells := 2, slots := 12, locals := 40 } : Room) ws #[(.ref a1), (.int (0 : Int32)), (.int (4 : Int32))] h0 n0 (Q_rm3u2 Z c0 c1 c2 c3 h0 n0) := by
  refine Met.of pn_5 (fun m => ef_rm3u2 m a1) ?_
  have K := Keep.refl h0 []
  refine Own.iloadN d5_0 rfl ?_
  refine Own.newarray_ 4 .byte rfl (hw _ (List.mem_of_getElem? (i := 26) rfl)) d5_1 (N := 4) rfl (by decide) (by decide) (by decide) (by decide) rfl (fun h47 b47 k47 gb47 E47 V47 => ?_)
  have g_b47 : n0 ≤ b47 := by rw [gb47]; exact hn
  have ne_a1_b47 : a1 ≠ b47 := fun q => Nat.ne_of_lt V_a1.lt (q.trans gb47)
  have ne_b47_a1 := Ne.symm ne_a1_b47
  have hn := Nat.le_trans hn E47.1
  replace S_A := S_A.ext E47
  replace S_H := S_H.ext E47
  replace S_L := S_L.ext E47
  replace V_a1 := V_a1.ext E47
  replace V47 : Arl Z h47 b47 k47 .byte [(.int (0 : Int32)), (.int (0 : Int32)), (.int (0 : Int32)), (.int (0 : Int32))] := V47
  have sz_b47 : h0.size ≤ b47 := by rw [gb47]; exact K.1
  have K := K.ext E47
  refine Own.astoreN #[.val (.ref a1), .val (.int (0 : Int32)), .val (.int (4 : Int32)), .val (.ref b47), .unset, .unset] d5_3 rfl rfl ?_
  refine Own.aloadN d5_4 rfl rfl ?_
  refine Own.iloadN d5_5 rfl ?_
  refine Own.aloadN d5_6 rfl rfl ?_
  refine Own.iconst (0 : Int32) d5_7 rfl ?_
  refine Own.iloadN d5_8 rfl ?_
  refine Own.callS_ [(.ref a1), (.int (0 : Int32)), (.ref b47), (.int (0 : Int32)), (.int (4 : Int32))] [] 0 (rm5u2 l Z a0 hw [] a1 ka b47 k47 c0 c1 c2 c3 h47 n0 hn V_a1 V47 ne_a1_b47 g_b47 hc0 hc1 hj) (hw _ (List.mem_of_getElem? (i := 27) rfl)) (hw _ (List.mem_of_getElem? (i := 28) rfl)) (hw _ (List.mem_of_getElem? (i := 24) rfl)) (hw _ (List.mem_of_getElem? (i := 29) rfl)) (by decide) d5_9 pd_17 rfl rfl rfl rfl (by decide) (by decide) (by decide) (by decide) (fun v48 h48 hq48 => ?_)
  obtain ⟨rfl, K49⟩ := hq48
  have hn := Nat.le_trans hn K49.1
  replace S_A := sta_keep S_A K49 (nsS V47.nostat ns0)
  replace S_H := sta_keep S_H K49 (nsS V47.nostat ns0)
  replace S_L := sta_keep S_L K49 (nsS V47.nostat ns0)
  replace V_a1 := V_a1.keep K49 (ninS ne_a1_b47 nin0)
  have K := K.trans K49 (allS (Or.inr sz_b47) all0)
  refine OAt.cast (st' := [(.int (2 : Int32))]) rfl ?_
  refine Own.istore #[.val (.ref a1), .val (.int (0 : Int32)), .val (.int (4 : Int32)), .val (.ref b47), .val (.int (2 : Int32)), .unset] d5_12 rfl ?_
  refine Own.iload d5_14 rfl ?_
  refine Own.iloadN d5_16 rfl ?_
  refine Own.icmp_eq 57 d5_17 (by decide) rfl (fun q => absurd q (by decide)) (fun _ => ?_)
  refine Own.aloadN d5_20 rfl rfl ?_
  refine Own.iloadN d5_21 rfl ?_
  refine Own.iloadN d5_22 rfl ?_
  refine Own.callS_ [(.ref a1), (.int (0 : Int32)), (.int (4 : Int32))] [] 0 (rmTo l Z a0 hw [] a1 ka c0 c1 c2 c3 h48 n0 hn V_a1 S_A S_H S_L) (hw _ (List.mem_of_getElem? (i := 63) rfl)) (hw _ (List.mem_of_getElem? (i := 64) rfl)) (hw _ (List.mem_of_getElem? (i := 24) rfl)) (hw _ (List.mem_of_getElem? (i := 65) rfl)) (by decide) d5_23 pd_15 rfl rfl rfl rfl (by decide) (by decide) (by decide) (by decide) (fun v50 h50 hq50 => ?_)
  obtain ⟨b51, k51, rfl, z51, K51, V51⟩ := hq50
  have g_b51 : n0 ≤ b51 := Nat.le_trans hn z51
  have ne_a1_b51 : a1 ≠ b51 := Nat.ne_of_lt (Nat.lt_of_lt_of_le V_a1.lt z51)
  have ne_b51_a1 := Ne.symm ne_a1_b51
  have sz_b51 : h0.size ≤ b51 := Nat.le_trans K.1 z51
  have hn := Nat.le_trans hn K51.1
  replace S_A := sta_keep S_A K51 ns0
  replace S_H := sta_keep S_H K51 ns0
  replace S_L := sta_keep S_L K51 ns0
  replace V_a1 := V_a1.keep K51 nin0
  have K := K.trans K51 all0
  refine OAt.cast (st' := [(.ref b51)]) rfl ?_
  refine Own.astore #[.val (.ref a1), .val (.int (0 : Int32)), .val (.int (4 : Int32)), .val (.ref b47), .val (.int (2 : Int32)), .val (.ref b51)] d5_26 rfl rfl ?_
  refine Own.aload d5_28 rfl rfl ?_
  refine Own.iload d5_30 rfl ?_
  refine Own.callSP [(.ref b51), (.int (2 : Int32))] [] 0 (rmGet2 l Z a0 hw [] b51 k51 _ (own_b0 c2) (own_b1 c2) h50 n0 hn V51 rfl rfl S_A S_H S_L) (hw _ (List.mem_of_getElem? (i := 79) rfl)) (hw _ (List.mem_of_getElem? (i := 80) rfl)) (hw _ (List.mem_of_getElem? (i := 24) rfl)) (hw _ (List.mem_of_getElem? (i := 81) rfl)) (by decide) d5_32 pd_12 rfl rfl rfl rfl (by decide) (by decide) (by decide) (by decide) ?_
  refine Own.sipush (255 : Int32) d5_35 rfl ?_
  refine Own.icmp_gt 54 d5_38 (by decide) rfl (fun _ => ?_) (fun q => absurd (by rw [own_gcv hr2.1 hr2.2]; exact hj) q)
  refine Own.aload d5_54 rfl rfl ?_
  refine Own.ret_ref (t := (.array .byte)) rfl rfl rfl d5_56 (by decide) (by decide) ?_
  exact ⟨b51, k51, rfl, sz_b51, K, V51⟩
def Q_rm4u2 (Z : State) (a1 : Addr) (c0 : Int32) (c1 : Int32) (c2 : Int32) (c3 : Int32) (h0 : Heap) (n0 : Nat) (v : Option Value) (h : Heap) : Prop := v = none ∧ Keep h0 h [a1] ∧ ∃ (b : Addr) (kb : ClassId) (cod : Int32) (bs : List Value), h0.size ≤ b ∧ Fld Z h a1 "java/lang/String" "value" "[B" (.ref b) ∧ Fld Z h a1 "java/lang/String" "coder" "B" (.int cod) ∧ Arl Z h b kb .byte bs ∧ own_spell cod bs c0 c1 c2 c3
theorem ef_rm4u2 (m : MethodId) (a1 : Addr) (a2 : Addr)  : entryFrame m #[(.ref a1), (.ref a2), (.int (0 : Int32)), (.int (4 : Int32)), .null] 6 = mkF m 0 #[.val (.ref a1), .val (.ref a2), .val (.int (0 : Int32)), .val (.int (4 : Int32)), .val .null, .unset] [] := by first | (simp [entryFrame, mkF, argsToLocals, Value.category]; done) | rfl
set_option maxRecDepth 65536 in
set_option maxHeartbeats 40000000 in
theorem rm4u2 (l : Launch) (Z : State) (a0 : Array Value) (hw : ∀ d ∈ tables_1, d.before a0 Z = true) (ws : List Jvm.Cond) (a1 : Addr) (a2 : Addr) (ka : ClassId) (zc : Int32) (c0 : Int32) (c1 : Int32) (c2 : Int32) (c3 : Int32) (h0 : Heap) (n0 : Nat) (hn : n0 ≤ h0.size) (X_a1 : Exa Z h0 a1 "java/lang/String") (g_a1 : n0 ≤ a1) (F_value_a1 : Fld Z h0 a1 "java/lang/String" "value" "[B" .null) (F_coder_a1 : Fld Z h0 a1 "java/lang/String" "coder" "B" (.int (0 : Int32))) (V_a2 : Arl Z h0 a2 ka .char [(.int c0), (.int c1), (.int c2), (.int c3)]) (ne_a2_a1 : a2 ≠ a1) (S_C : Sta Z h0 "java/lang/String" "COMPACT_STRINGS" "Z" (.int zc)) (S_A : Sta Z h0 "java/lang/StringUTF16" "$assertionsDisabled" "Z" (.int (1 : Int32))) (S_H : Sta Z h0 "java/lang/StringUTF16" "HI_BYTE_SHIFT" "I" (.int (0 : Int32))) (S_L : Sta Z h0 "java/lang/StringUTF16" "LO_BYTE_SHIFT" "I" (.int (8 : Int32))) (hz : ¬ zc = 0) (hr0 : 0 ≤ c0.toInt ∧ c0.toInt < 65536) (hr1 : 0 ≤ c1.toInt ∧ c1.toInt < 65536) (hr2 : 0 ≤ c2.toInt ∧ c2.toInt < 65536) (hr3 : 0 ≤ c3.toInt ∧ c3.toInt < 65536) (hc0 : ¬ (255 : Int32) < c0) (hc1 : ¬ (255 : Int32) < c1) (hj : (255 : Int32) < c2) :
    Met false l Z (⟨"java/lang/String", "<init>", "([CIILjava/lang/Void;)V"⟩ : MethodName) jdk_42_method_149_code 6 none ({ frames := 4, cells := 2, slots := 12, locals := 57 } : Room) ws #[(.ref a1), (.ref a2), (.int (0 : Int32)), (.int (4 : Int32)), .null] h0 n0 (Q_rm4u2 Z a1 c0 c1 c2 c3 h0 n0) := by
  refine Met.of pn_3 (fun m => ef_rm4u2 m a1 a2) ?_
  have ne_a1_a2 := Ne.symm ne_a2_a1
  have K := Keep.refl h0 [a1]
  refine Own.aloadN d3_0 rfl rfl ?_
  refine Own.initO_ (hw _ (List.mem_of_getElem? (i := 18) rfl)) (hw _ (List.mem_of_getElem? (i := 19) rfl)) (hw _ (List.mem_of_getElem? (i := 20) rfl)) d3_1 rfl (by decide) 0 rfl (by decide) ?_
  refine Own.iloadN d3_4 rfl ?_
  refine Own.if_ne 27 d3_5 (by decide) rfl (fun _ => ?_) (fun q => absurd q (by decide))
  refine Own.getS_ (host := "") (Or.inl (hw _ (List.mem_of_getElem? (i := 21) rfl))) Via.refl S_C d3_27 ?_
  refine Own.if_eq 58 d3_30 (by decide) rfl (fun q => absurd q hz) (fun _ => ?_)
  refine Own.aloadN d3_33 rfl rfl ?_
  refine Own.iloadN d3_34 rfl ?_
  refine Own.iloadN d3_35 rfl ?_
  refine Own.callS_ [(.ref a2), (.int (0 : Int32)), (.int (4 : Int32))] [] 0 (rm3u2 l Z a0 hw [] a2 ka c0 c1 c2 c3 h0 n0 hn V_a2 S_A S_H S_L hr2 hc0 hc1 hj) (hw _ (List.mem_of_getElem? (i := 22) rfl)) (hw _ (List.mem_of_getElem? (i := 23) rfl)) (hw _ (List.mem_of_getElem? (i := 24) rfl)) (hw _ (List.mem_of_getElem? (i := 25) rfl)) (by decide) d3_36 pd_15 rfl rfl rfl rfl (by decide) (by decide) (by decide) (by decide) (fun v52 h52 hq52 => ?_)
  obtain ⟨b53, k53, rfl, z53, K53, V53⟩ := hq52
  have g_b53 : n0 ≤ b53 := Nat.le_trans hn z53
  have ne_a1_b53 : a1 ≠ b53 := Nat.ne_of_lt (Nat.lt_of_lt_of_le X_a1.lt z53)
  have ne_b53_a1 := Ne.symm ne_a1_b53
  have ne_a2_b53 : a2 ≠ b53 := Nat.ne_of_lt (Nat.lt_of_lt_of_le V_a2.lt z53)
  have ne_b53_a2 := Ne.symm ne_a2_b53
  have sz_b53 : h0.size ≤ b53 := Nat.le_trans K.1 z53
  have hn := Nat.le_trans hn K53.1
  replace S_C := sta_keep S_C K53 ns0
  replace S_A := sta_keep S_A K53 ns0
  replace S_H := sta_keep S_H K53 ns0
  replace S_L := sta_keep S_L K53 ns0
  replace X_a1 := X_a1.keep K53
  replace F_value_a1 := F_value_a1.keep K53 nin0
  replace F_coder_a1 := F_coder_a1.keep K53 nin0
  replace V_a2 := V_a2.keep K53 nin0
  have K := K.trans K53 all0
  refine OAt.cast (st' := [(.ref b53)]) rfl ?_
  refine Own.astore #[.val (.ref a1), .val (.ref a2), .val (.int (0 : Int32)), .val (.int (4 : Int32)), .val .null, .val (.ref b53)] d3_39 rfl rfl ?_
  refine Own.aloadN d3_41 rfl rfl ?_
  refine Own.aload d3_42 rfl rfl ?_
  refine Own.iloadN d3_44 rfl ?_
  refine Own.callSP [(.ref b53), (.int (4 : Int32))] [(.ref a1)] 1 (rmlU l Z a0 hw [] b53 k53 _ h52 n0 hn V53 rfl) (hw _ (List.mem_of_getElem? (i := 30) rfl)) (hw _ (List.mem_of_getElem? (i := 31) rfl)) (hw _ (List.mem_of_getElem? (i := 24) rfl)) (hw _ (List.mem_of_getElem? (i := 32) rfl)) (by decide) d3_45 pd_11 rfl rfl rfl rfl (by decide) (by decide) (by decide) (by decide) ?_
  refine Own.putFN_ (hw _ (List.mem_of_getElem? (i := 33) rfl)) Via.refl F_coder_a1 X_a1 (Or.inr ⟨(hw _ (List.mem_of_getElem? (i := 34) rfl)), rfl, rfl⟩) (hw _ (List.mem_of_getElem? (i := 9) rfl)) (ty := .byte) (v' := (.int (nar .byte (1 : Int32)))) (by decide) rfl (fits_nar_byte _) g_a1 d3_48 (fun h54 W55 => ?_)
  replace F_coder_a1 := F_coder_a1.same W55
  have hn : n0 ≤ h54.size := by rw [W55.size]; exact hn
  replace X_a1 := X_a1.wr W55
  replace F_value_a1 := F_value_a1.other W55 (Or.inr (slot_ne (Or.inr (hw _ (List.mem_of_getElem? (i := 36) rfl))) (Or.inr (hw _ (List.mem_of_getElem? (i := 34) rfl))) (by decide) (t := (.array .byte)) (t' := .byte) (by decide) (by decide)))
  replace V_a2 := V_a2.other W55 ne_a2_a1
  replace S_C := S_C.wr W55
  replace S_A := S_A.wr W55
  replace S_H := S_H.wr W55
  replace S_L := S_L.wr W55
  replace V53 := V53.other W55 ne_b53_a1
  rw [show nar .byte (1 : Int32) = 1 from rfl] at F_coder_a1
  have K := K.wr W55 (Or.inl (List.mem_of_getElem? (i := 0) rfl))
  refine Own.aloadN d3_51 rfl rfl ?_
  refine Own.aload d3_52 rfl rfl ?_
  refine Own.putF_ (host := "") (Or.inl (hw _ (List.mem_of_getElem? (i := 35) rfl))) Via.refl F_value_a1 X_a1 (Or.inr ⟨(hw _ (List.mem_of_getElem? (i := 36) rfl)), rfl, rfl⟩) (hw _ (List.mem_of_getElem? (i := 9) rfl)) (ty := (.array .byte)) (by decide) rfl rfl g_a1 d3_54 (fun h56 W57 => ?_)
  replace F_value_a1 := F_value_a1.same W57
  have hn : n0 ≤ h56.size := by rw [W57.size]; exact hn
  replace X_a1 := X_a1.wr W57
  replace F_coder_a1 := F_coder_a1.other W57 (Or.inr (slot_ne (Or.inr (hw _ (List.mem_of_getElem? (i := 34) rfl))) (Or.inr (hw _ (List.mem_of_getElem? (i := 36) rfl))) (by decide) (t := .byte) (t' := (.array .byte)) (by decide) (by decide)))
  replace V_a2 := V_a2.other W57 ne_a2_a1
  replace S_C := S_C.wr W57
  replace S_A := S_A.wr W57
  replace S_H := S_H.wr W57
  replace S_L := S_L.wr W57
  replace V53 := V53.other W57 ne_b53_a1
  have K := K.wr W57 (Or.inl (List.mem_of_getElem? (i := 0) rfl))
  refine Own.ret_void rfl d3_57 (by decide) (by decide) ?_
  exact ⟨rfl, K, b53, k53, _, _, sz_b53, F_value_a1, F_coder_a1, V53, Or.inr ⟨rfl, rfl⟩⟩
def Q_rm1u2 (Z : State) (a1 : Addr) (c0 : Int32) (c1 : Int32) (c2 : Int32) (c3 : Int32) (h0 : Heap) (n0 : Nat) (v : Option Value) (h : Heap) : Prop := v = none ∧ Keep h0 h [a1] ∧ ∃ (b : Addr) (kb : ClassId) (cod : Int32) (bs : List Value), h0.size ≤ b ∧ Fld Z h a1 "java/lang/String" "value" "[B" (.ref b) ∧ Fld Z h a1 "java/lang/String" "coder" "B" (.int cod) ∧ Arl Z h b kb .byte bs ∧ own_spell cod bs c0 c1 c2 c3
theorem ef_rm1u2 (m : MethodId) (a1 : Addr) (a2 : Addr)  : entryFrame m #[(.ref a1), (.ref a2)] 2 = mkF m 0 #[.val (.ref a1), .val (.ref a2)] [] := by first | (simp [entryFrame, mkF, argsToLocals, Value.category]; done) | rfl
set_option maxRecDepth 65536 in
set_option maxHeartbeats 40000000 in
theorem rm1u2 (l : Launch) (Z : State) (a0 : Array Value) (hw : ∀ d ∈ tables_1, d.before a0 Z = true) (ws : List Jvm.Cond) (a1 : Addr) (a2 : Addr) (ka : ClassId) (zc : Int32) (c0 : Int32) (c1 : Int32) (c2 : Int32) (c3 : Int32) (h0 : Heap) (n0 : Nat) (hn : n0 ≤ h0.size) (X_a1 : Exa Z h0 a1 "java/lang/String") (g_a1 : n0 ≤ a1) (F_value_a1 : Fld Z h0 a1 "java/lang/String" "value" "[B" .null) (F_coder_a1 : Fld Z h0 a1 "java/lang/String" "coder" "B" (.int (0 : Int32))) (V_a2 : Arl Z h0 a2 ka .char [(.int c0), (.int c1), (.int c2), (.int c3)]) (ne_a2_a1 : a2 ≠ a1) (S_C : Sta Z h0 "java/lang/String" "COMPACT_STRINGS" "Z" (.int zc)) (S_A : Sta Z h0 "java/lang/StringUTF16" "$assertionsDisabled" "Z" (.int (1 : Int32))) (S_H : Sta Z h0 "java/lang/StringUTF16" "HI_BYTE_SHIFT" "I" (.int (0 : Int32))) (S_L : Sta Z h0 "java/lang/StringUTF16" "LO_BYTE_SHIFT" "I" (.int (8 : Int32))) (hz : ¬ zc = 0) (hr0 : 0 ≤ c0.toInt ∧ c0.toInt < 65536) (hr1 : 0 ≤ c1.toInt ∧ c1.toInt < 65536) (hr2 : 0 ≤ c2.toInt ∧ c2.toInt < 65536) (hr3 : 0 ≤ c3.toInt ∧ c3.toInt < 65536) (hc0 : ¬ (255 : Int32) < c0) (hc1 : ¬ (255 : Int32) < c1) (hj : (255 : Int32) < c2) :
    Met false l Z (⟨"java/lang/String", "<init>", "([C)V"⟩ : MethodName) jdk_42_method_3_code 2 none ({ frames := 5, cells := 2, slots := 12, locals := 74 } : Room) ws #[(.ref a1), (.ref a2)] h0 n0 (Q_rm1u2 Z a1 c0 c1 c2 c3 h0 n0) := by
  refine Met.of pn_2 (fun m => ef_rm1u2 m a1 a2) ?_
  have ne_a1_a2 := Ne.symm ne_a2_a1
  have K := Keep.refl h0 [a1]
  refine Own.aloadN d2_0 rfl rfl ?_
  refine Own.aloadN d2_1 rfl rfl ?_
  refine Own.iconst (0 : Int32) d2_2 rfl ?_
  refine Own.aloadN d2_3 rfl rfl ?_
  refine Own.arraylength_ (4 : Int32) V_a2 rfl d2_4 ?_
  refine Own.aconstNull d2_5 ?_
  refine Own.callI_ a1 [(.ref a2), (.int (0 : Int32)), (.int (4 : Int32)), .null] [] 0 (rm4u2 l Z a0 hw [] a1 a2 ka zc c0 c1 c2 c3 h0 n0 hn X_a1 g_a1 F_value_a1 F_coder_a1 V_a2 ne_a2_a1 S_C S_A S_H S_L hz hr0 hr1 hr2 hr3 hc0 hc1 hj) (hw _ (List.mem_of_getElem? (i := 14) rfl)) (hw _ (List.mem_of_getElem? (i := 15) rfl)) (hw _ (List.mem_of_getElem? (i := 10) rfl)) (hw _ (List.mem_of_getElem? (i := 17) rfl)) rfl (by decide) d2_6 pd_16 rfl rfl rfl rfl (by decide) (by decide) (by decide) (by decide) (fun v58 h58 hq58 => ?_)
  obtain ⟨rfl, K4, rest4⟩ := hq58
  have hn := Nat.le_trans hn K4.1
  replace S_C := sta_keep S_C K4 (nsS X_a1.nostat ns0)
  replace S_A := sta_keep S_A K4 (nsS X_a1.nostat ns0)
  replace S_H := sta_keep S_H K4 (nsS X_a1.nostat ns0)
  replace S_L := sta_keep S_L K4 (nsS X_a1.nostat ns0)
  replace X_a1 := X_a1.keep K4
  replace V_a2 := V_a2.keep K4 (ninS ne_a2_a1 nin0)
  have K := K.trans K4 (allS (Or.inl (List.mem_of_getElem? (i := 0) rfl)) all0)
  refine OAt.cast (st' := []) rfl ?_
  refine Own.ret_void rfl d2_9 (by decide) (by decide) ?_
  exact ⟨rfl, K, rest4⟩
def Q_rm5u3 (Z : State) (a3 : Addr) (h0 : Heap) (n0 : Nat) (v : Option Value) (h : Heap) : Prop := v = some (.int (3 : Int32)) ∧ Keep h0 h [a3]
theorem ef_rm5u3 (m : MethodId) (a1 : Addr) (a3 : Addr)  : entryFrame m #[(.ref a1), (.int (0 : Int32)), (.ref a3), (.int (0 : Int32)), (.int (4 : Int32))] 7 = mkF m 0 #[.val (.ref a1), .val (.int (0 : Int32)), .val (.ref a3), .val (.int (0 : Int32)), .val (.int (4 : Int32)), .unset, .unset] [] := by first | (simp [entryFrame, mkF, argsToLocals, Value.category]; done) | rfl
set_option maxRecDepth 65536 in
set_option maxHeartbeats 40000000 in
theorem rm5u3 (l : Launch) (Z : State) (a0 : Array Value) (hw : ∀ d ∈ tables_1, d.before a0 Z = true) (ws : List Jvm.Cond) (a1 : Addr) (ka : ClassId) (a3 : Addr) (kb : ClassId) (c0 : Int32) (c1 : Int32) (c2 : Int32) (c3 : Int32) (h0 : Heap) (n0 : Nat) (hn : n0 ≤ h0.size) (V_a1 : Arl Z h0 a1 ka .char [(.int c0), (.int c1), (.int c2), (.int c3)]) (V_a3 : Arl Z h0 a3 kb .byte [(.int (0 : Int32)), (.int (0 : Int32)), (.int (0 : Int32)), (.int (0 : Int32))]) (ne_a1_a3 : a1 ≠ a3) (g_a3 : n0 ≤ a3) (hc0 : ¬ (255 : Int32) < c0) (hc1 : ¬ (255 : Int32) < c1) (hc2 : ¬ (255 : Int32) < c2) (hj : (255 : Int32) < c3) :
    Met false l Z (⟨"java/lang/StringUTF16", "compress", "([CI[BII)I"⟩ : MethodName) jdk_52_method_21_code 7 (some .int) ({ frames := 0, cells := 0, slots := 0, locals := 0 } : Room) ws #[(.ref a1), (.int (0 : Int32)), (.ref a3), (.int (0 : Int32)), (.int (4 : Int32))] h0 n0 (Q_rm5u3 Z a3 h0 n0) := by
  refine Met.of pn_6 (fun m => ef_rm5u3 m a1 a3) ?_
  have K := Keep.refl h0 [a3]
  refine Own.iconst (0 : Int32) d6_0 rfl ?_
  refine Own.istore #[.val (.ref a1), .val (.int (0 : Int32)), .val (.ref a3), .val (.int (0 : Int32)), .val (.int (4 : Int32)), .val (.int (0 : Int32)), .unset] d6_1 rfl ?_
  refine Own.iload d6_3 rfl ?_
  refine Own.iload d6_5 rfl ?_
  refine Own.icmp_ge 44 d6_7 (by decide) rfl (fun q => absurd (by decide) q) (fun _ => ?_)
  refine Own.aloadN d6_10 rfl rfl ?_
  refine Own.iloadN d6_11 rfl ?_
  refine Own.caload_ V_a1 (i := 0) rfl rfl d6_12 ?_
  refine Own.istore #[.val (.ref a1), .val (.int (0 : Int32)), .val (.ref a3), .val (.int (0 : Int32)), .val (.int (4 : Int32)), .val (.int (0 : Int32)), .val (.int c0)] d6_13 rfl ?_
  refine Own.iload d6_15 rfl ?_
  refine Own.sipush (255 : Int32) d6_17 rfl ?_
  refine Own.icmp_le 26 d6_20 (by decide) rfl (fun _ => ?_) (fun q => absurd q hc0)
  refine Own.aloadN d6_26 rfl rfl ?_
  refine Own.iloadN d6_27 rfl ?_
  refine Own.iload d6_28 rfl ?_
  refine Own.i2b d6_30 ?_
  refine Own.bastore_ V_a3 (i := 0) rfl (Nat.le_of_ble_eq_true rfl) g_a3 d6_31 (fun h59 W59 V59 => ?_)
  have hn : n0 ≤ h59.size := by rw [W59.size]; exact hn
  replace V_a1 := V_a1.other W59 ne_a1_a3
  clear V_a3
  replace V59 : Arl Z h59 a3 kb .byte [(.int (nar .byte (c0.toInt8.toInt32))), (.int (0 : Int32)), (.int (0 : Int32)), (.int (0 : Int32))] := V59
  have K := K.wr W59 (Or.inl (List.mem_of_getElem? (i := 0) rfl))
  refine Own.iinc (1 : Int32) #[.val (.ref a1), .val (.int ((0 : Int32) + (1 : Int32))), .val (.ref a3), .val (.int (0 : Int32)), .val (.int (4 : Int32)), .val (.int (0 : Int32)), .val (.int c0)] d6_32 rfl rfl rfl ?_
  refine OAt.castL (Ls' := #[.val (.ref a1), .val (.int (1 : Int32)), .val (.ref a3), .val (.int (0 : Int32)), .val (.int (4 : Int32)), .val (.int (0 : Int32)), .val (.int c0)]) rfl rfl ?_
  refine Own.iinc (1 : Int32) #[.val (.ref a1), .val (.int (1 : Int32)), .val (.ref a3), .val (.int ((0 : Int32) + (1 : Int32))), .val (.int (4 : Int32)), .val (.int (0 : Int32)), .val (.int c0)] d6_35 rfl rfl rfl ?_
  refine OAt.castL (Ls' := #[.val (.ref a1), .val (.int (1 : Int32)), .val (.ref a3), .val (.int (1 : Int32)), .val (.int (4 : Int32)), .val (.int (0 : Int32)), .val (.int c0)]) rfl rfl ?_
  refine Own.iinc (1 : Int32) #[.val (.ref a1), .val (.int (1 : Int32)), .val (.ref a3), .val (.int (1 : Int32)), .val (.int (4 : Int32)), .val (.int ((0 : Int32) + (1 : Int32))), .val (.int c0)] d6_38 rfl rfl rfl ?_
  refine OAt.castL (Ls' := #[.val (.ref a1), .val (.int (1 : Int32)), .val (.ref a3), .val (.int (1 : Int32)), .val (.int (4 : Int32)), .val (.int (1 : Int32)), .val (.int c0)]) rfl rfl ?_
  refine Own.goto_ 3 d6_41 (by decide) rfl ?_
  refine Own.iload d6_3 rfl ?_
  refine Own.iload d6_5 rfl ?_
  refine Own.icmp_ge 44 d6_7 (by decide) rfl (fun q => absurd (by decide) q) (fun _ => ?_)
  refine Own.aloadN d6_10 rfl rfl ?_
  refine Own.iloadN d6_11 rfl ?_
  refine Own.caload_ V_a1 (i := 1) rfl rfl d6_12 ?_
  refine Own.istore #[.val (.ref a1), .val (.int (1 : Int32)), .val (.ref a3), .val (.int (1 : Int32)), .val (.int (4 : Int32)), .val (.int (1 : Int32)), .val (.int c1)] d6_13 rfl ?_
  refine Own.iload d6_15 rfl ?_
  refine Own.sipush (255 : Int32) d6_17 rfl ?_
  refine Own.icmp_le 26 d6_20 (by decide) rfl (fun _ => ?_) (fun q => absurd q hc1)
  refine Own.aloadN d6_26 rfl rfl ?_
  refine Own.iloadN d6_27 rfl ?_
  refine Own.iload d6_28 rfl ?_
  refine Own.i2b d6_30 ?_
  refine Own.bastore_ V59 (i := 1) rfl (Nat.le_of_ble_eq_true rfl) g_a3 d6_31 (fun h60 W60 V60 => ?_)
  have hn : n0 ≤ h60.size := by rw [W60.size]; exact hn
  replace V_a1 := V_a1.other W60 ne_a1_a3
  clear V59
  replace V60 : Arl Z h60 a3 kb .byte [(.int (nar .byte (c0.toInt8.toInt32))), (.int (nar .byte (c1.toInt8.toInt32))), (.int (0 : Int32)), (.int (0 : Int32))] := V60
  have K := K.wr W60 (Or.inl (List.mem_of_getElem? (i := 0) rfl))
  refine Own.iinc (1 : Int32) #[.val (.ref a1), .val (.int ((1 : Int32) + (1 : Int32))), .val (.ref a3), .val (.int (1 : Int32)), .val (.int (4 : Int32)), .val (.int (1 : Int32)), .val (.int c1)] d6_32 rfl rfl rfl ?_
  refine OAt.castL (Ls' := #[.val (.ref a1), .val (.int (2 : Int32)), .val (.ref a3), .val (.int (1 : Int32)), .val (.int (4 : Int32)), .val (.int (1 : Int32)), .val (.int c1)]) rfl rfl ?_
  refine Own.iinc (1 : Int32) #[.val (.ref a1), .val (.int (2 : Int32)), .val (.ref a3), .val (.int ((1 : Int32) + (1 : Int32))), .val (.int (4 : Int32)), .val (.int (1 : Int32)), .val (.int c1)] d6_35 rfl rfl rfl ?_
  refine OAt.castL (Ls' := #[.val (.ref a1), .val (.int (2 : Int32)), .val (.ref a3), .val (.int (2 : Int32)), .val (.int (4 : Int32)), .val (.int (1 : Int32)), .val (.int c1)]) rfl rfl ?_
  refine Own.iinc (1 : Int32) #[.val (.ref a1), .val (.int (2 : Int32)), .val (.ref a3), .val (.int (2 : Int32)), .val (.int (4 : Int32)), .val (.int ((1 : Int32) + (1 : Int32))), .val (.int c1)] d6_38 rfl rfl rfl ?_
  refine OAt.castL (Ls' := #[.val (.ref a1), .val (.int (2 : Int32)), .val (.ref a3), .val (.int (2 : Int32)), .val (.int (4 : Int32)), .val (.int (2 : Int32)), .val (.int c1)]) rfl rfl ?_
  refine Own.goto_ 3 d6_41 (by decide) rfl ?_
  refine Own.iload d6_3 rfl ?_
  refine Own.iload d6_5 rfl ?_
  refine Own.icmp_ge 44 d6_7 (by decide) rfl (fun q => absurd (by decide) q) (fun _ => ?_)
  refine Own.aloadN d6_10 rfl rfl ?_
  refine Own.iloadN d6_11 rfl ?_
  refine Own.caload_ V_a1 (i := 2) rfl rfl d6_12 ?_
  refine Own.istore #[.val (.ref a1), .val (.int (2 : Int32)), .val (.ref a3), .val (.int (2 : Int32)), .val (.int (4 : Int32)), .val (.int (2 : Int32)), .val (.int c2)] d6_13 rfl ?_
  refine Own.iload d6_15 rfl ?_
  refine Own.sipush (255 : Int32) d6_17 rfl ?_
  refine Own.icmp_le 26 d6_20 (by decide) rfl (fun _ => ?_) (fun q => absurd q hc2)
  refine Own.aloadN d6_26 rfl rfl ?_
  refine Own.iloadN d6_27 rfl ?_
  refine Own.iload d6_28 rfl ?_
  refine Own.i2b d6_30 ?_
  refine Own.bastore_ V60 (i := 2) rfl (Nat.le_of_ble_eq_true rfl) g_a3 d6_31 (fun h61 W61 V61 => ?_)
  have hn : n0 ≤ h61.size := by rw [W61.size]; exact hn
  replace V_a1 := V_a1.other W61 ne_a1_a3
  clear V60
  replace V61 : Arl Z h61 a3 kb .byte [(.int (nar .byte (c0.toInt8.toInt32))), (.int (nar .byte (c1.toInt8.toInt32))), (.int (nar .byte (c2.toInt8.toInt32))), (.int (0 : Int32))] := V61
  have K := K.wr W61 (Or.inl (List.mem_of_getElem? (i := 0) rfl))
  refine Own.iinc (1 : Int32) #[.val (.ref a1), .val (.int ((2 : Int32) + (1 : Int32))), .val (.ref a3), .val (.int (2 : Int32)), .val (.int (4 : Int32)), .val (.int (2 : Int32)), .val (.int c2)] d6_32 rfl rfl rfl ?_
  refine OAt.castL (Ls' := #[.val (.ref a1), .val (.int (3 : Int32)), .val (.ref a3), .val (.int (2 : Int32)), .val (.int (4 : Int32)), .val (.int (2 : Int32)), .val (.int c2)]) rfl rfl ?_
  refine Own.iinc (1 : Int32) #[.val (.ref a1), .val (.int (3 : Int32)), .val (.ref a3), .val (.int ((2 : Int32) + (1 : Int32))), .val (.int (4 : Int32)), .val (.int (2 : Int32)), .val (.int c2)] d6_35 rfl rfl rfl ?_
  refine OAt.castL (Ls' := #[.val (.ref a1), .val (.int (3 : Int32)), .val (.ref a3), .val (.int (3 : Int32)), .val (.int (4 : Int32)), .val (.int (2 : Int32)), .val (.int c2)]) rfl rfl ?_
  refine Own.iinc (1 : Int32) #[.val (.ref a1), .val (.int (3 : Int32)), .val (.ref a3), .val (.int (3 : Int32)), .val (.int (4 : Int32)), .val (.int ((2 : Int32) + (1 : Int32))), .val (.int c2)] d6_38 rfl rfl rfl ?_
  refine OAt.castL (Ls' := #[.val (.ref a1), .val (.int (3 : Int32)), .val (.ref a3), .val (.int (3 : Int32)), .val (.int (4 : Int32)), .val (.int (3 : Int32)), .val (.int c2)]) rfl rfl ?_
  refine Own.goto_ 3 d6_41 (by decide) rfl ?_
  refine Own.iload d6_3 rfl ?_
  refine Own.iload d6_5 rfl ?_
  refine Own.icmp_ge 44 d6_7 (by decide) rfl (fun q => absurd (by decide) q) (fun _ => ?_)
  refine Own.aloadN d6_10 rfl rfl ?_
  refine Own.iloadN d6_11 rfl ?_
  refine Own.caload_ V_a1 (i := 3) rfl rfl d6_12 ?_
  refine Own.istore #[.val (.ref a1), .val (.int (3 : Int32)), .val (.ref a3), .val (.int (3 : Int32)), .val (.int (4 : Int32)), .val (.int (3 : Int32)), .val (.int c3)] d6_13 rfl ?_
  refine Own.iload d6_15 rfl ?_
  refine Own.sipush (255 : Int32) d6_17 rfl ?_
  refine Own.icmp_le 26 d6_20 (by decide) rfl (fun q => absurd hj q) (fun _ => ?_)
  refine Own.iload d6_23 rfl ?_
  refine Own.ret_int rfl d6_25 (by decide) (by decide) ?_
  exact ⟨rfl, K⟩
def Q_rm3u3 (Z : State) (c0 : Int32) (c1 : Int32) (c2 : Int32) (c3 : Int32) (h0 : Heap) (n0 : Nat) (v : Option Value) (h : Heap) : Prop := ∃ (a : Addr) (ka : ClassId), v = some (.ref a) ∧ h0.size ≤ a ∧ Keep h0 h [] ∧ Arl Z h a ka .byte [(.int (own_b0 c0)), (.int (own_b1 c0)), (.int (own_b0 c1)), (.int (own_b1 c1)), (.int (own_b0 c2)), (.int (own_b1 c2)), (.int (own_b0 c3)), (.int (own_b1 c3))]
theorem ef_rm3u3 (m : MethodId) (a1 : Addr)  : entryFrame m #[(.ref a1), (.int (0 : Int32)), (.int (4 : Int32))] 6 = mkF m 0 #[.val (.ref a1), .val (.int (0 : Int32)), .val (.int (4 : Int32)), .unset, .unset, .unset] [] := by first | (simp [entryFrame, mkF, argsToLocals, Value.category]; done) | rfl
set_option maxRecDepth 65536 in
set_option maxHeartbeats 40000000 in
theorem rm3u3 (l : Launch) (Z : State) (a0 : Array Value) (hw : ∀ d ∈ tables_1, d.before a0 Z = true) (ws : List Jvm.Cond) (a1 : Addr) (ka : ClassId) (c0 : Int32) (c1 : Int32) (c2 : Int32) (c3 : Int32) (h0 : Heap) (n0 : Nat) (hn : n0 ≤ h0.size) (V_a1 : Arl Z h0 a1 ka .char [(.int c0), (.int c1), (.int c2), (.int c3)]) (S_A : Sta Z h0 "java/lang/StringUTF16" "$assertionsDisabled" "Z" (.int (1 : Int32))) (S_H : Sta Z h0 "java/lang/StringUTF16" "HI_BYTE_SHIFT" "I" (.int (0 : Int32))) (S_L : Sta Z h0 "java/lang/StringUTF16" "LO_BYTE_SHIFT" "I" (.int (8 : Int32))) (hr3 : 0 ≤ c3.toInt ∧ c3.toInt < 65536) (hc0 : ¬ (255 : Int32) < c0) (hc1 : ¬ (255 : Int32) < c1) (hc2 : ¬ (255 : Int32) < c2) (hj : (255 : Int32) < c3) :
    Met false l Z (⟨"java/lang/StringUTF16", "compress", "([CII)[B"⟩ : MethodName) jdk_52_method_16_code 6 (some (.array .byte)) ({ frames := 3, cells := 2, slots := 12, locals := 40 } : Room) ws #[(.ref a1), (.int (0 : Int32)), (.int (4 : Int32))] h0 n0 (Q_rm3u3 Z c0 c1 c2 c3 h0 n0) := by
  refine Met.of pn_5 (fun m => ef_rm3u3 m a1) ?_
  have K := Keep.refl h0 []
  refine Own.iloadN d5_0 rfl ?_
  refine Own.newarray_ 4 .byte rfl (hw _ (List.mem_of_getElem? (i := 26) rfl)) d5_1 (N := 4) rfl (by decide) (by decide) (by decide) (by decide) rfl (fun h62 b62 k62 gb62 E62 V62 => ?_)
  have g_b62 : n0 ≤ b62 := by rw [gb62]; exact hn
  have ne_a1_b62 : a1 ≠ b62 := fun q => Nat.ne_of_lt V_a1.lt (q.trans gb62)
  have ne_b62_a1 := Ne.symm ne_a1_b62
  have hn := Nat.le_trans hn E62.1
  replace S_A := S_A.ext E62
  replace S_H := S_H.ext E62
  replace S_L := S_L.ext E62
  replace V_a1 := V_a1.ext E62
  replace V62 : Arl Z h62 b62 k62 .byte [(.int (0 : Int32)), (.int (0 : Int32)), (.int (0 : Int32)), (.int (0 : Int32))] := V62
  have sz_b62 : h0.size ≤ b62 := by rw [gb62]; exact K.1
  have K := K.ext E62
  refine Own.astoreN #[.val (.ref a1), .val (.int (0 : Int32)), .val (.int (4 : Int32)), .val (.ref b62), .unset, .unset] d5_3 rfl rfl ?_
  refine Own.aloadN d5_4 rfl rfl ?_
  refine Own.iloadN d5_5 rfl ?_
  refine Own.aloadN d5_6 rfl rfl ?_
  refine Own.iconst (0 : Int32) d5_7 rfl ?_
  refine Own.iloadN d5_8 rfl ?_
  refine Own.callS_ [(.ref a1), (.int (0 : Int32)), (.ref b62), (.int (0 : Int32)), (.int (4 : Int32))] [] 0 (rm5u3 l Z a0 hw [] a1 ka b62 k62 c0 c1 c2 c3 h62 n0 hn V_a1 V62 ne_a1_b62 g_b62 hc0 hc1 hc2 hj) (hw _ (List.mem_of_getElem? (i := 27) rfl)) (hw _ (List.mem_of_getElem? (i := 28) rfl)) (hw _ (List.mem_of_getElem? (i := 24) rfl)) (hw _ (List.mem_of_getElem? (i := 29) rfl)) (by decide) d5_9 pd_17 rfl rfl rfl rfl (by decide) (by decide) (by decide) (by decide) (fun v63 h63 hq63 => ?_)
  obtain ⟨rfl, K64⟩ := hq63
  have hn := Nat.le_trans hn K64.1
  replace S_A := sta_keep S_A K64 (nsS V62.nostat ns0)
  replace S_H := sta_keep S_H K64 (nsS V62.nostat ns0)
  replace S_L := sta_keep S_L K64 (nsS V62.nostat ns0)
  replace V_a1 := V_a1.keep K64 (ninS ne_a1_b62 nin0)
  have K := K.trans K64 (allS (Or.inr sz_b62) all0)
  refine OAt.cast (st' := [(.int (3 : Int32))]) rfl ?_
  refine Own.istore #[.val (.ref a1), .val (.int (0 : Int32)), .val (.int (4 : Int32)), .val (.ref b62), .val (.int (3 : Int32)), .unset] d5_12 rfl ?_
  refine Own.iload d5_14 rfl ?_
  refine Own.iloadN d5_16 rfl ?_
  refine Own.icmp_eq 57 d5_17 (by decide) rfl (fun q => absurd q (by decide)) (fun _ => ?_)
  refine Own.aloadN d5_20 rfl rfl ?_
  refine Own.iloadN d5_21 rfl ?_
  refine Own.iloadN d5_22 rfl ?_
  refine Own.callS_ [(.ref a1), (.int (0 : Int32)), (.int (4 : Int32))] [] 0 (rmTo l Z a0 hw [] a1 ka c0 c1 c2 c3 h63 n0 hn V_a1 S_A S_H S_L) (hw _ (List.mem_of_getElem? (i := 63) rfl)) (hw _ (List.mem_of_getElem? (i := 64) rfl)) (hw _ (List.mem_of_getElem? (i := 24) rfl)) (hw _ (List.mem_of_getElem? (i := 65) rfl)) (by decide) d5_23 pd_15 rfl rfl rfl rfl (by decide) (by decide) (by decide) (by decide) (fun v65 h65 hq65 => ?_)
  obtain ⟨b66, k66, rfl, z66, K66, V66⟩ := hq65
  have g_b66 : n0 ≤ b66 := Nat.le_trans hn z66
  have ne_a1_b66 : a1 ≠ b66 := Nat.ne_of_lt (Nat.lt_of_lt_of_le V_a1.lt z66)
  have ne_b66_a1 := Ne.symm ne_a1_b66
  have sz_b66 : h0.size ≤ b66 := Nat.le_trans K.1 z66
  have hn := Nat.le_trans hn K66.1
  replace S_A := sta_keep S_A K66 ns0
  replace S_H := sta_keep S_H K66 ns0
  replace S_L := sta_keep S_L K66 ns0
  replace V_a1 := V_a1.keep K66 nin0
  have K := K.trans K66 all0
  refine OAt.cast (st' := [(.ref b66)]) rfl ?_
  refine Own.astore #[.val (.ref a1), .val (.int (0 : Int32)), .val (.int (4 : Int32)), .val (.ref b62), .val (.int (3 : Int32)), .val (.ref b66)] d5_26 rfl rfl ?_
  refine Own.aload d5_28 rfl rfl ?_
  refine Own.iload d5_30 rfl ?_
  refine Own.callSP [(.ref b66), (.int (3 : Int32))] [] 0 (rmGet3 l Z a0 hw [] b66 k66 _ (own_b0 c3) (own_b1 c3) h65 n0 hn V66 rfl rfl S_A S_H S_L) (hw _ (List.mem_of_getElem? (i := 79) rfl)) (hw _ (List.mem_of_getElem? (i := 80) rfl)) (hw _ (List.mem_of_getElem? (i := 24) rfl)) (hw _ (List.mem_of_getElem? (i := 81) rfl)) (by decide) d5_32 pd_12 rfl rfl rfl rfl (by decide) (by decide) (by decide) (by decide) ?_
  refine Own.sipush (255 : Int32) d5_35 rfl ?_
  refine Own.icmp_gt 54 d5_38 (by decide) rfl (fun _ => ?_) (fun q => absurd (by rw [own_gcv hr3.1 hr3.2]; exact hj) q)
  refine Own.aload d5_54 rfl rfl ?_
  refine Own.ret_ref (t := (.array .byte)) rfl rfl rfl d5_56 (by decide) (by decide) ?_
  exact ⟨b66, k66, rfl, sz_b66, K, V66⟩
def Q_rm4u3 (Z : State) (a1 : Addr) (c0 : Int32) (c1 : Int32) (c2 : Int32) (c3 : Int32) (h0 : Heap) (n0 : Nat) (v : Option Value) (h : Heap) : Prop := v = none ∧ Keep h0 h [a1] ∧ ∃ (b : Addr) (kb : ClassId) (cod : Int32) (bs : List Value), h0.size ≤ b ∧ Fld Z h a1 "java/lang/String" "value" "[B" (.ref b) ∧ Fld Z h a1 "java/lang/String" "coder" "B" (.int cod) ∧ Arl Z h b kb .byte bs ∧ own_spell cod bs c0 c1 c2 c3
theorem ef_rm4u3 (m : MethodId) (a1 : Addr) (a2 : Addr)  : entryFrame m #[(.ref a1), (.ref a2), (.int (0 : Int32)), (.int (4 : Int32)), .null] 6 = mkF m 0 #[.val (.ref a1), .val (.ref a2), .val (.int (0 : Int32)), .val (.int (4 : Int32)), .val .null, .unset] [] := by first | (simp [entryFrame, mkF, argsToLocals, Value.category]; done) | rfl
set_option maxRecDepth 65536 in
set_option maxHeartbeats 40000000 in
theorem rm4u3 (l : Launch) (Z : State) (a0 : Array Value) (hw : ∀ d ∈ tables_1, d.before a0 Z = true) (ws : List Jvm.Cond) (a1 : Addr) (a2 : Addr) (ka : ClassId) (zc : Int32) (c0 : Int32) (c1 : Int32) (c2 : Int32) (c3 : Int32) (h0 : Heap) (n0 : Nat) (hn : n0 ≤ h0.size) (X_a1 : Exa Z h0 a1 "java/lang/String") (g_a1 : n0 ≤ a1) (F_value_a1 : Fld Z h0 a1 "java/lang/String" "value" "[B" .null) (F_coder_a1 : Fld Z h0 a1 "java/lang/String" "coder" "B" (.int (0 : Int32))) (V_a2 : Arl Z h0 a2 ka .char [(.int c0), (.int c1), (.int c2), (.int c3)]) (ne_a2_a1 : a2 ≠ a1) (S_C : Sta Z h0 "java/lang/String" "COMPACT_STRINGS" "Z" (.int zc)) (S_A : Sta Z h0 "java/lang/StringUTF16" "$assertionsDisabled" "Z" (.int (1 : Int32))) (S_H : Sta Z h0 "java/lang/StringUTF16" "HI_BYTE_SHIFT" "I" (.int (0 : Int32))) (S_L : Sta Z h0 "java/lang/StringUTF16" "LO_BYTE_SHIFT" "I" (.int (8 : Int32))) (hz : ¬ zc = 0) (hr0 : 0 ≤ c0.toInt ∧ c0.toInt < 65536) (hr1 : 0 ≤ c1.toInt ∧ c1.toInt < 65536) (hr2 : 0 ≤ c2.toInt ∧ c2.toInt < 65536) (hr3 : 0 ≤ c3.toInt ∧ c3.toInt < 65536) (hc0 : ¬ (255 : Int32) < c0) (hc1 : ¬ (255 : Int32) < c1) (hc2 : ¬ (255 : Int32) < c2) (hj : (255 : Int32) < c3) :
    Met false l Z (⟨"java/lang/String", "<init>", "([CIILjava/lang/Void;)V"⟩ : MethodName) jdk_42_method_149_code 6 none ({ frames := 4, cells := 2, slots := 12, locals := 57 } : Room) ws #[(.ref a1), (.ref a2), (.int (0 : Int32)), (.int (4 : Int32)), .null] h0 n0 (Q_rm4u3 Z a1 c0 c1 c2 c3 h0 n0) := by
  refine Met.of pn_3 (fun m => ef_rm4u3 m a1 a2) ?_
  have ne_a1_a2 := Ne.symm ne_a2_a1
  have K := Keep.refl h0 [a1]
  refine Own.aloadN d3_0 rfl rfl ?_
  refine Own.initO_ (hw _ (List.mem_of_getElem? (i := 18) rfl)) (hw _ (List.mem_of_getElem? (i := 19) rfl)) (hw _ (List.mem_of_getElem? (i := 20) rfl)) d3_1 rfl (by decide) 0 rfl (by decide) ?_
  refine Own.iloadN d3_4 rfl ?_
  refine Own.if_ne 27 d3_5 (by decide) rfl (fun _ => ?_) (fun q => absurd q (by decide))
  refine Own.getS_ (host := "") (Or.inl (hw _ (List.mem_of_getElem? (i := 21) rfl))) Via.refl S_C d3_27 ?_
  refine Own.if_eq 58 d3_30 (by decide) rfl (fun q => absurd q hz) (fun _ => ?_)
  refine Own.aloadN d3_33 rfl rfl ?_
  refine Own.iloadN d3_34 rfl ?_
  refine Own.iloadN d3_35 rfl ?_
  refine Own.callS_ [(.ref a2), (.int (0 : Int32)), (.int (4 : Int32))] [] 0 (rm3u3 l Z a0 hw [] a2 ka c0 c1 c2 c3 h0 n0 hn V_a2 S_A S_H S_L hr3 hc0 hc1 hc2 hj) (hw _ (List.mem_of_getElem? (i := 22) rfl)) (hw _ (List.mem_of_getElem? (i := 23) rfl)) (hw _ (List.mem_of_getElem? (i := 24) rfl)) (hw _ (List.mem_of_getElem? (i := 25) rfl)) (by decide) d3_36 pd_15 rfl rfl rfl rfl (by decide) (by decide) (by decide) (by decide) (fun v67 h67 hq67 => ?_)
  obtain ⟨b68, k68, rfl, z68, K68, V68⟩ := hq67
  have g_b68 : n0 ≤ b68 := Nat.le_trans hn z68
  have ne_a1_b68 : a1 ≠ b68 := Nat.ne_of_lt (Nat.lt_of_lt_of_le X_a1.lt z68)
  have ne_b68_a1 := Ne.symm ne_a1_b68
  have ne_a2_b68 : a2 ≠ b68 := Nat.ne_of_lt (Nat.lt_of_lt_of_le V_a2.lt z68)
  have ne_b68_a2 := Ne.symm ne_a2_b68
  have sz_b68 : h0.size ≤ b68 := Nat.le_trans K.1 z68
  have hn := Nat.le_trans hn K68.1
  replace S_C := sta_keep S_C K68 ns0
  replace S_A := sta_keep S_A K68 ns0
  replace S_H := sta_keep S_H K68 ns0
  replace S_L := sta_keep S_L K68 ns0
  replace X_a1 := X_a1.keep K68
  replace F_value_a1 := F_value_a1.keep K68 nin0
  replace F_coder_a1 := F_coder_a1.keep K68 nin0
  replace V_a2 := V_a2.keep K68 nin0
  have K := K.trans K68 all0
  refine OAt.cast (st' := [(.ref b68)]) rfl ?_
  refine Own.astore #[.val (.ref a1), .val (.ref a2), .val (.int (0 : Int32)), .val (.int (4 : Int32)), .val .null, .val (.ref b68)] d3_39 rfl rfl ?_
  refine Own.aloadN d3_41 rfl rfl ?_
  refine Own.aload d3_42 rfl rfl ?_
  refine Own.iloadN d3_44 rfl ?_
  refine Own.callSP [(.ref b68), (.int (4 : Int32))] [(.ref a1)] 1 (rmlU l Z a0 hw [] b68 k68 _ h67 n0 hn V68 rfl) (hw _ (List.mem_of_getElem? (i := 30) rfl)) (hw _ (List.mem_of_getElem? (i := 31) rfl)) (hw _ (List.mem_of_getElem? (i := 24) rfl)) (hw _ (List.mem_of_getElem? (i := 32) rfl)) (by decide) d3_45 pd_11 rfl rfl rfl rfl (by decide) (by decide) (by decide) (by decide) ?_
  refine Own.putFN_ (hw _ (List.mem_of_getElem? (i := 33) rfl)) Via.refl F_coder_a1 X_a1 (Or.inr ⟨(hw _ (List.mem_of_getElem? (i := 34) rfl)), rfl, rfl⟩) (hw _ (List.mem_of_getElem? (i := 9) rfl)) (ty := .byte) (v' := (.int (nar .byte (1 : Int32)))) (by decide) rfl (fits_nar_byte _) g_a1 d3_48 (fun h69 W70 => ?_)
  replace F_coder_a1 := F_coder_a1.same W70
  have hn : n0 ≤ h69.size := by rw [W70.size]; exact hn
  replace X_a1 := X_a1.wr W70
  replace F_value_a1 := F_value_a1.other W70 (Or.inr (slot_ne (Or.inr (hw _ (List.mem_of_getElem? (i := 36) rfl))) (Or.inr (hw _ (List.mem_of_getElem? (i := 34) rfl))) (by decide) (t := (.array .byte)) (t' := .byte) (by decide) (by decide)))
  replace V_a2 := V_a2.other W70 ne_a2_a1
  replace S_C := S_C.wr W70
  replace S_A := S_A.wr W70
  replace S_H := S_H.wr W70
  replace S_L := S_L.wr W70
  replace V68 := V68.other W70 ne_b68_a1
  rw [show nar .byte (1 : Int32) = 1 from rfl] at F_coder_a1
  have K := K.wr W70 (Or.inl (List.mem_of_getElem? (i := 0) rfl))
  refine Own.aloadN d3_51 rfl rfl ?_
  refine Own.aload d3_52 rfl rfl ?_
  refine Own.putF_ (host := "") (Or.inl (hw _ (List.mem_of_getElem? (i := 35) rfl))) Via.refl F_value_a1 X_a1 (Or.inr ⟨(hw _ (List.mem_of_getElem? (i := 36) rfl)), rfl, rfl⟩) (hw _ (List.mem_of_getElem? (i := 9) rfl)) (ty := (.array .byte)) (by decide) rfl rfl g_a1 d3_54 (fun h71 W72 => ?_)
  replace F_value_a1 := F_value_a1.same W72
  have hn : n0 ≤ h71.size := by rw [W72.size]; exact hn
  replace X_a1 := X_a1.wr W72
  replace F_coder_a1 := F_coder_a1.other W72 (Or.inr (slot_ne (Or.inr (hw _ (List.mem_of_getElem? (i := 34) rfl))) (Or.inr (hw _ (List.mem_of_getElem? (i := 36) rfl))) (by decide) (t := .byte) (t' := (.array .byte)) (by decide) (by decide)))
  replace V_a2 := V_a2.other W72 ne_a2_a1
  replace S_C := S_C.wr W72
  replace S_A := S_A.wr W72
  replace S_H := S_H.wr W72
  replace S_L := S_L.wr W72
  replace V68 := V68.other W72 ne_b68_a1
  have K := K.wr W72 (Or.inl (List.mem_of_getElem? (i := 0) rfl))
  refine Own.ret_void rfl d3_57 (by decide) (by decide) ?_
  exact ⟨rfl, K, b68, k68, _, _, sz_b68, F_value_a1, F_coder_a1, V68, Or.inr ⟨rfl, rfl⟩⟩
def Q_rm1u3 (Z : State) (a1 : Addr) (c0 : Int32) (c1 : Int32) (c2 : Int32) (c3 : Int32) (h0 : Heap) (n0 : Nat) (v : Option Value) (h : Heap) : Prop := v = none ∧ Keep h0 h [a1] ∧ ∃ (b : Addr) (kb : ClassId) (cod : Int32) (bs : List Value), h0.size ≤ b ∧ Fld Z h a1 "java/lang/String" "value" "[B" (.ref b) ∧ Fld Z h a1 "java/lang/String" "coder" "B" (.int cod) ∧ Arl Z h b kb .byte bs ∧ own_spell cod bs c0 c1 c2 c3
theorem ef_rm1u3 (m : MethodId) (a1 : Addr) (a2 : Addr)  : entryFrame m #[(.ref a1), (.ref a2)] 2 = mkF m 0 #[.val (.ref a1), .val (.ref a2)] [] := by first | (simp [entryFrame, mkF, argsToLocals, Value.category]; done) | rfl
set_option maxRecDepth 65536 in
set_option maxHeartbeats 40000000 in
theorem rm1u3 (l : Launch) (Z : State) (a0 : Array Value) (hw : ∀ d ∈ tables_1, d.before a0 Z = true) (ws : List Jvm.Cond) (a1 : Addr) (a2 : Addr) (ka : ClassId) (zc : Int32) (c0 : Int32) (c1 : Int32) (c2 : Int32) (c3 : Int32) (h0 : Heap) (n0 : Nat) (hn : n0 ≤ h0.size) (X_a1 : Exa Z h0 a1 "java/lang/String") (g_a1 : n0 ≤ a1) (F_value_a1 : Fld Z h0 a1 "java/lang/String" "value" "[B" .null) (F_coder_a1 : Fld Z h0 a1 "java/lang/String" "coder" "B" (.int (0 : Int32))) (V_a2 : Arl Z h0 a2 ka .char [(.int c0), (.int c1), (.int c2), (.int c3)]) (ne_a2_a1 : a2 ≠ a1) (S_C : Sta Z h0 "java/lang/String" "COMPACT_STRINGS" "Z" (.int zc)) (S_A : Sta Z h0 "java/lang/StringUTF16" "$assertionsDisabled" "Z" (.int (1 : Int32))) (S_H : Sta Z h0 "java/lang/StringUTF16" "HI_BYTE_SHIFT" "I" (.int (0 : Int32))) (S_L : Sta Z h0 "java/lang/StringUTF16" "LO_BYTE_SHIFT" "I" (.int (8 : Int32))) (hz : ¬ zc = 0) (hr0 : 0 ≤ c0.toInt ∧ c0.toInt < 65536) (hr1 : 0 ≤ c1.toInt ∧ c1.toInt < 65536) (hr2 : 0 ≤ c2.toInt ∧ c2.toInt < 65536) (hr3 : 0 ≤ c3.toInt ∧ c3.toInt < 65536) (hc0 : ¬ (255 : Int32) < c0) (hc1 : ¬ (255 : Int32) < c1) (hc2 : ¬ (255 : Int32) < c2) (hj : (255 : Int32) < c3) :
    Met false l Z (⟨"java/lang/String", "<init>", "([C)V"⟩ : MethodName) jdk_42_method_3_code 2 none ({ frames := 5, cells := 2, slots := 12, locals := 74 } : Room) ws #[(.ref a1), (.ref a2)] h0 n0 (Q_rm1u3 Z a1 c0 c1 c2 c3 h0 n0) := by
  refine Met.of pn_2 (fun m => ef_rm1u3 m a1 a2) ?_
  have ne_a1_a2 := Ne.symm ne_a2_a1
  have K := Keep.refl h0 [a1]
  refine Own.aloadN d2_0 rfl rfl ?_
  refine Own.aloadN d2_1 rfl rfl ?_
  refine Own.iconst (0 : Int32) d2_2 rfl ?_
  refine Own.aloadN d2_3 rfl rfl ?_
  refine Own.arraylength_ (4 : Int32) V_a2 rfl d2_4 ?_
  refine Own.aconstNull d2_5 ?_
  refine Own.callI_ a1 [(.ref a2), (.int (0 : Int32)), (.int (4 : Int32)), .null] [] 0 (rm4u3 l Z a0 hw [] a1 a2 ka zc c0 c1 c2 c3 h0 n0 hn X_a1 g_a1 F_value_a1 F_coder_a1 V_a2 ne_a2_a1 S_C S_A S_H S_L hz hr0 hr1 hr2 hr3 hc0 hc1 hc2 hj) (hw _ (List.mem_of_getElem? (i := 14) rfl)) (hw _ (List.mem_of_getElem? (i := 15) rfl)) (hw _ (List.mem_of_getElem? (i := 10) rfl)) (hw _ (List.mem_of_getElem? (i := 17) rfl)) rfl (by decide) d2_6 pd_16 rfl rfl rfl rfl (by decide) (by decide) (by decide) (by decide) (fun v73 h73 hq73 => ?_)
  obtain ⟨rfl, K4, rest4⟩ := hq73
  have hn := Nat.le_trans hn K4.1
  replace S_C := sta_keep S_C K4 (nsS X_a1.nostat ns0)
  replace S_A := sta_keep S_A K4 (nsS X_a1.nostat ns0)
  replace S_H := sta_keep S_H K4 (nsS X_a1.nostat ns0)
  replace S_L := sta_keep S_L K4 (nsS X_a1.nostat ns0)
  replace X_a1 := X_a1.keep K4
  replace V_a2 := V_a2.keep K4 (ninS ne_a2_a1 nin0)
  have K := K.trans K4 (allS (Or.inl (List.mem_of_getElem? (i := 0) rfl)) all0)
  refine OAt.cast (st' := []) rfl ?_
  refine Own.ret_void rfl d2_9 (by decide) (by decide) ?_
  exact ⟨rfl, K, rest4⟩
theorem d6_44 : decode jdk_52_method_21_code 44 = .ok (.iload 4, 2) := by decide +kernel
theorem d6_46 : decode jdk_52_method_21_code 46 = .ok (.ireturn, 1) := by decide +kernel
def Q_rm5k4 (Z : State) (a3 : Addr) (kb : ClassId) (c0 : Int32) (c1 : Int32) (c2 : Int32) (c3 : Int32) (h0 : Heap) (n0 : Nat) (v : Option Value) (h : Heap) : Prop := v = some (.int (4 : Int32)) ∧ Keep h0 h [a3] ∧ Arl Z h a3 kb .byte [(.int (nar .byte (c0.toInt8.toInt32))), (.int (nar .byte (c1.toInt8.toInt32))), (.int (nar .byte (c2.toInt8.toInt32))), (.int (nar .byte (c3.toInt8.toInt32)))]
theorem ef_rm5k4 (m : MethodId) (a1 : Addr) (a3 : Addr)  : entryFrame m #[(.ref a1), (.int (0 : Int32)), (.ref a3), (.int (0 : Int32)), (.int (4 : Int32))] 7 = mkF m 0 #[.val (.ref a1), .val (.int (0 : Int32)), .val (.ref a3), .val (.int (0 : Int32)), .val (.int (4 : Int32)), .unset, .unset] [] := by first | (simp [entryFrame, mkF, argsToLocals, Value.category]; done) | rfl
set_option maxRecDepth 65536 in
set_option maxHeartbeats 40000000 in
theorem rm5k4 (l : Launch) (Z : State) (a0 : Array Value) (hw : ∀ d ∈ tables_1, d.before a0 Z = true) (ws : List Jvm.Cond) (a1 : Addr) (ka : ClassId) (a3 : Addr) (kb : ClassId) (c0 : Int32) (c1 : Int32) (c2 : Int32) (c3 : Int32) (h0 : Heap) (n0 : Nat) (hn : n0 ≤ h0.size) (V_a1 : Arl Z h0 a1 ka .char [(.int c0), (.int c1), (.int c2), (.int c3)]) (V_a3 : Arl Z h0 a3 kb .byte [(.int (0 : Int32)), (.int (0 : Int32)), (.int (0 : Int32)), (.int (0 : Int32))]) (ne_a1_a3 : a1 ≠ a3) (g_a3 : n0 ≤ a3) (hc0 : ¬ (255 : Int32) < c0) (hc1 : ¬ (255 : Int32) < c1) (hc2 : ¬ (255 : Int32) < c2) (hc3 : ¬ (255 : Int32) < c3) :
    Met false l Z (⟨"java/lang/StringUTF16", "compress", "([CI[BII)I"⟩ : MethodName) jdk_52_method_21_code 7 (some .int) ({ frames := 0, cells := 0, slots := 0, locals := 0 } : Room) ws #[(.ref a1), (.int (0 : Int32)), (.ref a3), (.int (0 : Int32)), (.int (4 : Int32))] h0 n0 (Q_rm5k4 Z a3 kb c0 c1 c2 c3 h0 n0) := by
  refine Met.of pn_6 (fun m => ef_rm5k4 m a1 a3) ?_
  have K := Keep.refl h0 [a3]
  refine Own.iconst (0 : Int32) d6_0 rfl ?_
  refine Own.istore #[.val (.ref a1), .val (.int (0 : Int32)), .val (.ref a3), .val (.int (0 : Int32)), .val (.int (4 : Int32)), .val (.int (0 : Int32)), .unset] d6_1 rfl ?_
  refine Own.iload d6_3 rfl ?_
  refine Own.iload d6_5 rfl ?_
  refine Own.icmp_ge 44 d6_7 (by decide) rfl (fun q => absurd (by decide) q) (fun _ => ?_)
  refine Own.aloadN d6_10 rfl rfl ?_
  refine Own.iloadN d6_11 rfl ?_
  refine Own.caload_ V_a1 (i := 0) rfl rfl d6_12 ?_
  refine Own.istore #[.val (.ref a1), .val (.int (0 : Int32)), .val (.ref a3), .val (.int (0 : Int32)), .val (.int (4 : Int32)), .val (.int (0 : Int32)), .val (.int c0)] d6_13 rfl ?_
  refine Own.iload d6_15 rfl ?_
  refine Own.sipush (255 : Int32) d6_17 rfl ?_
  refine Own.icmp_le 26 d6_20 (by decide) rfl (fun _ => ?_) (fun q => absurd q hc0)
  refine Own.aloadN d6_26 rfl rfl ?_
  refine Own.iloadN d6_27 rfl ?_
  refine Own.iload d6_28 rfl ?_
  refine Own.i2b d6_30 ?_
  refine Own.bastore_ V_a3 (i := 0) rfl (Nat.le_of_ble_eq_true rfl) g_a3 d6_31 (fun h74 W74 V74 => ?_)
  have hn : n0 ≤ h74.size := by rw [W74.size]; exact hn
  replace V_a1 := V_a1.other W74 ne_a1_a3
  clear V_a3
  replace V74 : Arl Z h74 a3 kb .byte [(.int (nar .byte (c0.toInt8.toInt32))), (.int (0 : Int32)), (.int (0 : Int32)), (.int (0 : Int32))] := V74
  have K := K.wr W74 (Or.inl (List.mem_of_getElem? (i := 0) rfl))
  refine Own.iinc (1 : Int32) #[.val (.ref a1), .val (.int ((0 : Int32) + (1 : Int32))), .val (.ref a3), .val (.int (0 : Int32)), .val (.int (4 : Int32)), .val (.int (0 : Int32)), .val (.int c0)] d6_32 rfl rfl rfl ?_
  refine OAt.castL (Ls' := #[.val (.ref a1), .val (.int (1 : Int32)), .val (.ref a3), .val (.int (0 : Int32)), .val (.int (4 : Int32)), .val (.int (0 : Int32)), .val (.int c0)]) rfl rfl ?_
  refine Own.iinc (1 : Int32) #[.val (.ref a1), .val (.int (1 : Int32)), .val (.ref a3), .val (.int ((0 : Int32) + (1 : Int32))), .val (.int (4 : Int32)), .val (.int (0 : Int32)), .val (.int c0)] d6_35 rfl rfl rfl ?_
  refine OAt.castL (Ls' := #[.val (.ref a1), .val (.int (1 : Int32)), .val (.ref a3), .val (.int (1 : Int32)), .val (.int (4 : Int32)), .val (.int (0 : Int32)), .val (.int c0)]) rfl rfl ?_
  refine Own.iinc (1 : Int32) #[.val (.ref a1), .val (.int (1 : Int32)), .val (.ref a3), .val (.int (1 : Int32)), .val (.int (4 : Int32)), .val (.int ((0 : Int32) + (1 : Int32))), .val (.int c0)] d6_38 rfl rfl rfl ?_
  refine OAt.castL (Ls' := #[.val (.ref a1), .val (.int (1 : Int32)), .val (.ref a3), .val (.int (1 : Int32)), .val (.int (4 : Int32)), .val (.int (1 : Int32)), .val (.int c0)]) rfl rfl ?_
  refine Own.goto_ 3 d6_41 (by decide) rfl ?_
  refine Own.iload d6_3 rfl ?_
  refine Own.iload d6_5 rfl ?_
  refine Own.icmp_ge 44 d6_7 (by decide) rfl (fun q => absurd (by decide) q) (fun _ => ?_)
  refine Own.aloadN d6_10 rfl rfl ?_
  refine Own.iloadN d6_11 rfl ?_
  refine Own.caload_ V_a1 (i := 1) rfl rfl d6_12 ?_
  refine Own.istore #[.val (.ref a1), .val (.int (1 : Int32)), .val (.ref a3), .val (.int (1 : Int32)), .val (.int (4 : Int32)), .val (.int (1 : Int32)), .val (.int c1)] d6_13 rfl ?_
  refine Own.iload d6_15 rfl ?_
  refine Own.sipush (255 : Int32) d6_17 rfl ?_
  refine Own.icmp_le 26 d6_20 (by decide) rfl (fun _ => ?_) (fun q => absurd q hc1)
  refine Own.aloadN d6_26 rfl rfl ?_
  refine Own.iloadN d6_27 rfl ?_
  refine Own.iload d6_28 rfl ?_
  refine Own.i2b d6_30 ?_
  refine Own.bastore_ V74 (i := 1) rfl (Nat.le_of_ble_eq_true rfl) g_a3 d6_31 (fun h75 W75 V75 => ?_)
  have hn : n0 ≤ h75.size := by rw [W75.size]; exact hn
  replace V_a1 := V_a1.other W75 ne_a1_a3
  clear V74
  replace V75 : Arl Z h75 a3 kb .byte [(.int (nar .byte (c0.toInt8.toInt32))), (.int (nar .byte (c1.toInt8.toInt32))), (.int (0 : Int32)), (.int (0 : Int32))] := V75
  have K := K.wr W75 (Or.inl (List.mem_of_getElem? (i := 0) rfl))
  refine Own.iinc (1 : Int32) #[.val (.ref a1), .val (.int ((1 : Int32) + (1 : Int32))), .val (.ref a3), .val (.int (1 : Int32)), .val (.int (4 : Int32)), .val (.int (1 : Int32)), .val (.int c1)] d6_32 rfl rfl rfl ?_
  refine OAt.castL (Ls' := #[.val (.ref a1), .val (.int (2 : Int32)), .val (.ref a3), .val (.int (1 : Int32)), .val (.int (4 : Int32)), .val (.int (1 : Int32)), .val (.int c1)]) rfl rfl ?_
  refine Own.iinc (1 : Int32) #[.val (.ref a1), .val (.int (2 : Int32)), .val (.ref a3), .val (.int ((1 : Int32) + (1 : Int32))), .val (.int (4 : Int32)), .val (.int (1 : Int32)), .val (.int c1)] d6_35 rfl rfl rfl ?_
  refine OAt.castL (Ls' := #[.val (.ref a1), .val (.int (2 : Int32)), .val (.ref a3), .val (.int (2 : Int32)), .val (.int (4 : Int32)), .val (.int (1 : Int32)), .val (.int c1)]) rfl rfl ?_
  refine Own.iinc (1 : Int32) #[.val (.ref a1), .val (.int (2 : Int32)), .val (.ref a3), .val (.int (2 : Int32)), .val (.int (4 : Int32)), .val (.int ((1 : Int32) + (1 : Int32))), .val (.int c1)] d6_38 rfl rfl rfl ?_
  refine OAt.castL (Ls' := #[.val (.ref a1), .val (.int (2 : Int32)), .val (.ref a3), .val (.int (2 : Int32)), .val (.int (4 : Int32)), .val (.int (2 : Int32)), .val (.int c1)]) rfl rfl ?_
  refine Own.goto_ 3 d6_41 (by decide) rfl ?_
  refine Own.iload d6_3 rfl ?_
  refine Own.iload d6_5 rfl ?_
  refine Own.icmp_ge 44 d6_7 (by decide) rfl (fun q => absurd (by decide) q) (fun _ => ?_)
  refine Own.aloadN d6_10 rfl rfl ?_
  refine Own.iloadN d6_11 rfl ?_
  refine Own.caload_ V_a1 (i := 2) rfl rfl d6_12 ?_
  refine Own.istore #[.val (.ref a1), .val (.int (2 : Int32)), .val (.ref a3), .val (.int (2 : Int32)), .val (.int (4 : Int32)), .val (.int (2 : Int32)), .val (.int c2)] d6_13 rfl ?_
  refine Own.iload d6_15 rfl ?_
  refine Own.sipush (255 : Int32) d6_17 rfl ?_
  refine Own.icmp_le 26 d6_20 (by decide) rfl (fun _ => ?_) (fun q => absurd q hc2)
  refine Own.aloadN d6_26 rfl rfl ?_
  refine Own.iloadN d6_27 rfl ?_
  refine Own.iload d6_28 rfl ?_
  refine Own.i2b d6_30 ?_
  refine Own.bastore_ V75 (i := 2) rfl (Nat.le_of_ble_eq_true rfl) g_a3 d6_31 (fun h76 W76 V76 => ?_)
  have hn : n0 ≤ h76.size := by rw [W76.size]; exact hn
  replace V_a1 := V_a1.other W76 ne_a1_a3
  clear V75
  replace V76 : Arl Z h76 a3 kb .byte [(.int (nar .byte (c0.toInt8.toInt32))), (.int (nar .byte (c1.toInt8.toInt32))), (.int (nar .byte (c2.toInt8.toInt32))), (.int (0 : Int32))] := V76
  have K := K.wr W76 (Or.inl (List.mem_of_getElem? (i := 0) rfl))
  refine Own.iinc (1 : Int32) #[.val (.ref a1), .val (.int ((2 : Int32) + (1 : Int32))), .val (.ref a3), .val (.int (2 : Int32)), .val (.int (4 : Int32)), .val (.int (2 : Int32)), .val (.int c2)] d6_32 rfl rfl rfl ?_
  refine OAt.castL (Ls' := #[.val (.ref a1), .val (.int (3 : Int32)), .val (.ref a3), .val (.int (2 : Int32)), .val (.int (4 : Int32)), .val (.int (2 : Int32)), .val (.int c2)]) rfl rfl ?_
  refine Own.iinc (1 : Int32) #[.val (.ref a1), .val (.int (3 : Int32)), .val (.ref a3), .val (.int ((2 : Int32) + (1 : Int32))), .val (.int (4 : Int32)), .val (.int (2 : Int32)), .val (.int c2)] d6_35 rfl rfl rfl ?_
  refine OAt.castL (Ls' := #[.val (.ref a1), .val (.int (3 : Int32)), .val (.ref a3), .val (.int (3 : Int32)), .val (.int (4 : Int32)), .val (.int (2 : Int32)), .val (.int c2)]) rfl rfl ?_
  refine Own.iinc (1 : Int32) #[.val (.ref a1), .val (.int (3 : Int32)), .val (.ref a3), .val (.int (3 : Int32)), .val (.int (4 : Int32)), .val (.int ((2 : Int32) + (1 : Int32))), .val (.int c2)] d6_38 rfl rfl rfl ?_
  refine OAt.castL (Ls' := #[.val (.ref a1), .val (.int (3 : Int32)), .val (.ref a3), .val (.int (3 : Int32)), .val (.int (4 : Int32)), .val (.int (3 : Int32)), .val (.int c2)]) rfl rfl ?_
  refine Own.goto_ 3 d6_41 (by decide) rfl ?_
  refine Own.iload d6_3 rfl ?_
  refine Own.iload d6_5 rfl ?_
  refine Own.icmp_ge 44 d6_7 (by decide) rfl (fun q => absurd (by decide) q) (fun _ => ?_)
  refine Own.aloadN d6_10 rfl rfl ?_
  refine Own.iloadN d6_11 rfl ?_
  refine Own.caload_ V_a1 (i := 3) rfl rfl d6_12 ?_
  refine Own.istore #[.val (.ref a1), .val (.int (3 : Int32)), .val (.ref a3), .val (.int (3 : Int32)), .val (.int (4 : Int32)), .val (.int (3 : Int32)), .val (.int c3)] d6_13 rfl ?_
  refine Own.iload d6_15 rfl ?_
  refine Own.sipush (255 : Int32) d6_17 rfl ?_
  refine Own.icmp_le 26 d6_20 (by decide) rfl (fun _ => ?_) (fun q => absurd q hc3)
  refine Own.aloadN d6_26 rfl rfl ?_
  refine Own.iloadN d6_27 rfl ?_
  refine Own.iload d6_28 rfl ?_
  refine Own.i2b d6_30 ?_
  refine Own.bastore_ V76 (i := 3) rfl (Nat.le_of_ble_eq_true rfl) g_a3 d6_31 (fun h77 W77 V77 => ?_)
  have hn : n0 ≤ h77.size := by rw [W77.size]; exact hn
  replace V_a1 := V_a1.other W77 ne_a1_a3
  clear V76
  replace V77 : Arl Z h77 a3 kb .byte [(.int (nar .byte (c0.toInt8.toInt32))), (.int (nar .byte (c1.toInt8.toInt32))), (.int (nar .byte (c2.toInt8.toInt32))), (.int (nar .byte (c3.toInt8.toInt32)))] := V77
  have K := K.wr W77 (Or.inl (List.mem_of_getElem? (i := 0) rfl))
  refine Own.iinc (1 : Int32) #[.val (.ref a1), .val (.int ((3 : Int32) + (1 : Int32))), .val (.ref a3), .val (.int (3 : Int32)), .val (.int (4 : Int32)), .val (.int (3 : Int32)), .val (.int c3)] d6_32 rfl rfl rfl ?_
  refine OAt.castL (Ls' := #[.val (.ref a1), .val (.int (4 : Int32)), .val (.ref a3), .val (.int (3 : Int32)), .val (.int (4 : Int32)), .val (.int (3 : Int32)), .val (.int c3)]) rfl rfl ?_
  refine Own.iinc (1 : Int32) #[.val (.ref a1), .val (.int (4 : Int32)), .val (.ref a3), .val (.int ((3 : Int32) + (1 : Int32))), .val (.int (4 : Int32)), .val (.int (3 : Int32)), .val (.int c3)] d6_35 rfl rfl rfl ?_
  refine OAt.castL (Ls' := #[.val (.ref a1), .val (.int (4 : Int32)), .val (.ref a3), .val (.int (4 : Int32)), .val (.int (4 : Int32)), .val (.int (3 : Int32)), .val (.int c3)]) rfl rfl ?_
  refine Own.iinc (1 : Int32) #[.val (.ref a1), .val (.int (4 : Int32)), .val (.ref a3), .val (.int (4 : Int32)), .val (.int (4 : Int32)), .val (.int ((3 : Int32) + (1 : Int32))), .val (.int c3)] d6_38 rfl rfl rfl ?_
  refine OAt.castL (Ls' := #[.val (.ref a1), .val (.int (4 : Int32)), .val (.ref a3), .val (.int (4 : Int32)), .val (.int (4 : Int32)), .val (.int (4 : Int32)), .val (.int c3)]) rfl rfl ?_
  refine Own.goto_ 3 d6_41 (by decide) rfl ?_
  refine Own.iload d6_3 rfl ?_
  refine Own.iload d6_5 rfl ?_
  refine Own.icmp_ge 44 d6_7 (by decide) rfl (fun _ => ?_) (fun q => absurd q (by decide))
  refine Own.iload d6_44 rfl ?_
  refine Own.ret_int rfl d6_46 (by decide) (by decide) ?_
  exact ⟨rfl, K, V77⟩
theorem d5_57 : decode jdk_52_method_16_code 57 = .ok (.aload_n 3, 1) := by decide +kernel
theorem d5_58 : decode jdk_52_method_16_code 58 = .ok (.areturn, 1) := by decide +kernel
def Q_rm3k4 (Z : State) (c0 : Int32) (c1 : Int32) (c2 : Int32) (c3 : Int32) (h0 : Heap) (n0 : Nat) (v : Option Value) (h : Heap) : Prop := ∃ (a : Addr) (ka : ClassId), v = some (.ref a) ∧ h0.size ≤ a ∧ Keep h0 h [] ∧ Arl Z h a ka .byte [(.int (nar .byte (c0.toInt8.toInt32))), (.int (nar .byte (c1.toInt8.toInt32))), (.int (nar .byte (c2.toInt8.toInt32))), (.int (nar .byte (c3.toInt8.toInt32)))]
theorem ef_rm3k4 (m : MethodId) (a1 : Addr)  : entryFrame m #[(.ref a1), (.int (0 : Int32)), (.int (4 : Int32))] 6 = mkF m 0 #[.val (.ref a1), .val (.int (0 : Int32)), .val (.int (4 : Int32)), .unset, .unset, .unset] [] := by first | (simp [entryFrame, mkF, argsToLocals, Value.category]; done) | rfl
set_option maxRecDepth 65536 in
set_option maxHeartbeats 40000000 in
theorem rm3k4 (l : Launch) (Z : State) (a0 : Array Value) (hw : ∀ d ∈ tables_1, d.before a0 Z = true) (ws : List Jvm.Cond) (a1 : Addr) (ka : ClassId) (c0 : Int32) (c1 : Int32) (c2 : Int32) (c3 : Int32) (h0 : Heap) (n0 : Nat) (hn : n0 ≤ h0.size) (V_a1 : Arl Z h0 a1 ka .char [(.int c0), (.int c1), (.int c2), (.int c3)]) (hc0 : ¬ (255 : Int32) < c0) (hc1 : ¬ (255 : Int32) < c1) (hc2 : ¬ (255 : Int32) < c2) (hc3 : ¬ (255 : Int32) < c3) :
    Met false l Z (⟨"java/lang/StringUTF16", "compress", "([CII)[B"⟩ : MethodName) jdk_52_method_16_code 6 (some (.array .byte)) ({ frames := 1, cells := 1, slots := 4, locals := 18 } : Room) ws #[(.ref a1), (.int (0 : Int32)), (.int (4 : Int32))] h0 n0 (Q_rm3k4 Z c0 c1 c2 c3 h0 n0) := by
  refine Met.of pn_5 (fun m => ef_rm3k4 m a1) ?_
  have K := Keep.refl h0 []
  refine Own.iloadN d5_0 rfl ?_
  refine Own.newarray_ 4 .byte rfl (hw _ (List.mem_of_getElem? (i := 26) rfl)) d5_1 (N := 4) rfl (by decide) (by decide) (by decide) (by decide) rfl (fun h78 b78 k78 gb78 E78 V78 => ?_)
  have g_b78 : n0 ≤ b78 := by rw [gb78]; exact hn
  have ne_a1_b78 : a1 ≠ b78 := fun q => Nat.ne_of_lt V_a1.lt (q.trans gb78)
  have ne_b78_a1 := Ne.symm ne_a1_b78
  have hn := Nat.le_trans hn E78.1
  replace V_a1 := V_a1.ext E78
  replace V78 : Arl Z h78 b78 k78 .byte [(.int (0 : Int32)), (.int (0 : Int32)), (.int (0 : Int32)), (.int (0 : Int32))] := V78
  have sz_b78 : h0.size ≤ b78 := by rw [gb78]; exact K.1
  have K := K.ext E78
  refine Own.astoreN #[.val (.ref a1), .val (.int (0 : Int32)), .val (.int (4 : Int32)), .val (.ref b78), .unset, .unset] d5_3 rfl rfl ?_
  refine Own.aloadN d5_4 rfl rfl ?_
  refine Own.iloadN d5_5 rfl ?_
  refine Own.aloadN d5_6 rfl rfl ?_
  refine Own.iconst (0 : Int32) d5_7 rfl ?_
  refine Own.iloadN d5_8 rfl ?_
  refine Own.callS_ [(.ref a1), (.int (0 : Int32)), (.ref b78), (.int (0 : Int32)), (.int (4 : Int32))] [] 0 (rm5k4 l Z a0 hw [] a1 ka b78 k78 c0 c1 c2 c3 h78 n0 hn V_a1 V78 ne_a1_b78 g_b78 hc0 hc1 hc2 hc3) (hw _ (List.mem_of_getElem? (i := 27) rfl)) (hw _ (List.mem_of_getElem? (i := 28) rfl)) (hw _ (List.mem_of_getElem? (i := 24) rfl)) (hw _ (List.mem_of_getElem? (i := 29) rfl)) (by decide) d5_9 pd_17 rfl rfl rfl rfl (by decide) (by decide) (by decide) (by decide) (fun v79 h79 hq79 => ?_)
  obtain ⟨rfl, K80, V80⟩ := hq79
  have hn := Nat.le_trans hn K80.1
  replace V_a1 := V_a1.keep K80 (ninS ne_a1_b78 nin0)
  have K := K.trans K80 (allS (Or.inr sz_b78) all0)
  refine OAt.cast (st' := [(.int (4 : Int32))]) rfl ?_
  refine Own.istore #[.val (.ref a1), .val (.int (0 : Int32)), .val (.int (4 : Int32)), .val (.ref b78), .val (.int (4 : Int32)), .unset] d5_12 rfl ?_
  refine Own.iload d5_14 rfl ?_
  refine Own.iloadN d5_16 rfl ?_
  refine Own.icmp_eq 57 d5_17 (by decide) rfl (fun _ => ?_) (fun q => absurd (by decide) q)
  refine Own.aloadN d5_57 rfl rfl ?_
  refine Own.ret_ref (t := (.array .byte)) rfl rfl rfl d5_58 (by decide) (by decide) ?_
  exact ⟨b78, k78, rfl, sz_b78, K, V80⟩
theorem ef_rmlk4 (m : MethodId) (a1 : Addr)  : entryFrame m #[(.ref a1), (.int (4 : Int32))] 2 = mkF m 0 #[.val (.ref a1), .val (.int (4 : Int32))] [] := by first | (simp [entryFrame, mkF, argsToLocals, Value.category]; done) | rfl
set_option maxRecDepth 65536 in
set_option maxHeartbeats 40000000 in
theorem rmlk4 (l : Launch) (Z : State) (a0 : Array Value) (hw : ∀ d ∈ tables_1, d.before a0 Z = true) (ws : List Jvm.Cond) (a1 : Addr) (ka : ClassId) (vs : List Value) (h0 : Heap) (n0 : Nat) (hn : n0 ≤ h0.size) (V_a1 : Arl Z h0 a1 ka .byte vs) (hl : vs.length = 4) :
    Met false l Z (⟨"java/lang/StringUTF16", "coderFromArrayLen", "([BI)B"⟩ : MethodName) jdk_52_method_15_code 2 (some .byte) ({ frames := 0, cells := 0, slots := 0, locals := 0 } : Room) ws #[(.ref a1), (.int (4 : Int32))] h0 n0 (Pur (.int (0 : Int32)) h0) := by
  refine Met.of pn_7 (fun m => ef_rmlk4 m a1) ?_
  refine Own.iloadN d7_0 rfl ?_
  refine Own.aloadN d7_1 rfl rfl ?_
  refine Own.arraylength_ (4 : Int32) V_a1 (by rw [hl]; rfl) d7_2 ?_
  refine Own.isub d7_3 ?_
  refine OAt.cast (st' := [(.int (0 : Int32))]) rfl ?_
  refine Own.bipush (31 : Int32) d7_4 rfl ?_
  refine Own.iushr d7_6 ?_
  refine OAt.cast (st' := [(.int (0 : Int32))]) rfl ?_
  refine Own.i2b d7_7 ?_
  refine OAt.cast (st' := [(.int (0 : Int32))]) rfl ?_
  refine Own.ret_nar (t := .byte) (by simp) rfl d7_8 (by decide) (by decide) ?_
  exact ⟨rfl, rfl⟩
def Q_rm4k4 (Z : State) (a1 : Addr) (c0 : Int32) (c1 : Int32) (c2 : Int32) (c3 : Int32) (h0 : Heap) (n0 : Nat) (v : Option Value) (h : Heap) : Prop := v = none ∧ Keep h0 h [a1] ∧ ∃ (b : Addr) (kb : ClassId), h0.size ≤ b ∧ Fld Z h a1 "java/lang/String" "value" "[B" (.ref b) ∧ Fld Z h a1 "java/lang/String" "coder" "B" (.int (0 : Int32)) ∧ Arl Z h b kb .byte [(.int (nar .byte (c0.toInt8.toInt32))), (.int (nar .byte (c1.toInt8.toInt32))), (.int (nar .byte (c2.toInt8.toInt32))), (.int (nar .byte (c3.toInt8.toInt32)))]
theorem ef_rm4k4 (m : MethodId) (a1 : Addr) (a2 : Addr)  : entryFrame m #[(.ref a1), (.ref a2), (.int (0 : Int32)), (.int (4 : Int32)), .null] 6 = mkF m 0 #[.val (.ref a1), .val (.ref a2), .val (.int (0 : Int32)), .val (.int (4 : Int32)), .val .null, .unset] [] := by first | (simp [entryFrame, mkF, argsToLocals, Value.category]; done) | rfl
set_option maxRecDepth 65536 in
set_option maxHeartbeats 40000000 in
theorem rm4k4 (l : Launch) (Z : State) (a0 : Array Value) (hw : ∀ d ∈ tables_1, d.before a0 Z = true) (ws : List Jvm.Cond) (a1 : Addr) (a2 : Addr) (ka : ClassId) (zc : Int32) (c0 : Int32) (c1 : Int32) (c2 : Int32) (c3 : Int32) (h0 : Heap) (n0 : Nat) (hn : n0 ≤ h0.size) (X_a1 : Exa Z h0 a1 "java/lang/String") (g_a1 : n0 ≤ a1) (F_value_a1 : Fld Z h0 a1 "java/lang/String" "value" "[B" .null) (F_coder_a1 : Fld Z h0 a1 "java/lang/String" "coder" "B" (.int (0 : Int32))) (V_a2 : Arl Z h0 a2 ka .char [(.int c0), (.int c1), (.int c2), (.int c3)]) (ne_a2_a1 : a2 ≠ a1) (S_C : Sta Z h0 "java/lang/String" "COMPACT_STRINGS" "Z" (.int zc)) (hz : ¬ zc = 0) (hc0 : ¬ (255 : Int32) < c0) (hc1 : ¬ (255 : Int32) < c1) (hc2 : ¬ (255 : Int32) < c2) (hc3 : ¬ (255 : Int32) < c3) :
    Met false l Z (⟨"java/lang/String", "<init>", "([CIILjava/lang/Void;)V"⟩ : MethodName) jdk_42_method_149_code 6 none ({ frames := 2, cells := 1, slots := 4, locals := 35 } : Room) ws #[(.ref a1), (.ref a2), (.int (0 : Int32)), (.int (4 : Int32)), .null] h0 n0 (Q_rm4k4 Z a1 c0 c1 c2 c3 h0 n0) := by
  refine Met.of pn_3 (fun m => ef_rm4k4 m a1 a2) ?_
  have ne_a1_a2 := Ne.symm ne_a2_a1
  have K := Keep.refl h0 [a1]
  refine Own.aloadN d3_0 rfl rfl ?_
  refine Own.initO_ (hw _ (List.mem_of_getElem? (i := 18) rfl)) (hw _ (List.mem_of_getElem? (i := 19) rfl)) (hw _ (List.mem_of_getElem? (i := 20) rfl)) d3_1 rfl (by decide) 0 rfl (by decide) ?_
  refine Own.iloadN d3_4 rfl ?_
  refine Own.if_ne 27 d3_5 (by decide) rfl (fun _ => ?_) (fun q => absurd q (by decide))
  refine Own.getS_ (host := "") (Or.inl (hw _ (List.mem_of_getElem? (i := 21) rfl))) Via.refl S_C d3_27 ?_
  refine Own.if_eq 58 d3_30 (by decide) rfl (fun q => absurd q hz) (fun _ => ?_)
  refine Own.aloadN d3_33 rfl rfl ?_
  refine Own.iloadN d3_34 rfl ?_
  refine Own.iloadN d3_35 rfl ?_
  refine Own.callS_ [(.ref a2), (.int (0 : Int32)), (.int (4 : Int32))] [] 0 (rm3k4 l Z a0 hw [] a2 ka c0 c1 c2 c3 h0 n0 hn V_a2 hc0 hc1 hc2 hc3) (hw _ (List.mem_of_getElem? (i := 22) rfl)) (hw _ (List.mem_of_getElem? (i := 23) rfl)) (hw _ (List.mem_of_getElem? (i := 24) rfl)) (hw _ (List.mem_of_getElem? (i := 25) rfl)) (by decide) d3_36 pd_15 rfl rfl rfl rfl (by decide) (by decide) (by decide) (by decide) (fun v81 h81 hq81 => ?_)
  obtain ⟨b82, k82, rfl, z82, K82, V82⟩ := hq81
  have g_b82 : n0 ≤ b82 := Nat.le_trans hn z82
  have ne_a1_b82 : a1 ≠ b82 := Nat.ne_of_lt (Nat.lt_of_lt_of_le X_a1.lt z82)
  have ne_b82_a1 := Ne.symm ne_a1_b82
  have ne_a2_b82 : a2 ≠ b82 := Nat.ne_of_lt (Nat.lt_of_lt_of_le V_a2.lt z82)
  have ne_b82_a2 := Ne.symm ne_a2_b82
  have sz_b82 : h0.size ≤ b82 := Nat.le_trans K.1 z82
  have hn := Nat.le_trans hn K82.1
  replace S_C := sta_keep S_C K82 ns0
  replace X_a1 := X_a1.keep K82
  replace F_value_a1 := F_value_a1.keep K82 nin0
  replace F_coder_a1 := F_coder_a1.keep K82 nin0
  replace V_a2 := V_a2.keep K82 nin0
  have K := K.trans K82 all0
  refine OAt.cast (st' := [(.ref b82)]) rfl ?_
  refine Own.astore #[.val (.ref a1), .val (.ref a2), .val (.int (0 : Int32)), .val (.int (4 : Int32)), .val .null, .val (.ref b82)] d3_39 rfl rfl ?_
  refine Own.aloadN d3_41 rfl rfl ?_
  refine Own.aload d3_42 rfl rfl ?_
  refine Own.iloadN d3_44 rfl ?_
  refine Own.callSP [(.ref b82), (.int (4 : Int32))] [(.ref a1)] 1 (rmlk4 l Z a0 hw [] b82 k82 _ h81 n0 hn V82 rfl) (hw _ (List.mem_of_getElem? (i := 30) rfl)) (hw _ (List.mem_of_getElem? (i := 31) rfl)) (hw _ (List.mem_of_getElem? (i := 24) rfl)) (hw _ (List.mem_of_getElem? (i := 32) rfl)) (by decide) d3_45 pd_11 rfl rfl rfl rfl (by decide) (by decide) (by decide) (by decide) ?_
  refine Own.putFN_ (hw _ (List.mem_of_getElem? (i := 33) rfl)) Via.refl F_coder_a1 X_a1 (Or.inr ⟨(hw _ (List.mem_of_getElem? (i := 34) rfl)), rfl, rfl⟩) (hw _ (List.mem_of_getElem? (i := 9) rfl)) (ty := .byte) (v' := (.int (nar .byte (0 : Int32)))) (by decide) rfl (fits_nar_byte _) g_a1 d3_48 (fun h83 W84 => ?_)
  replace F_coder_a1 := F_coder_a1.same W84
  have hn : n0 ≤ h83.size := by rw [W84.size]; exact hn
  replace X_a1 := X_a1.wr W84
  replace F_value_a1 := F_value_a1.other W84 (Or.inr (slot_ne (Or.inr (hw _ (List.mem_of_getElem? (i := 36) rfl))) (Or.inr (hw _ (List.mem_of_getElem? (i := 34) rfl))) (by decide) (t := (.array .byte)) (t' := .byte) (by decide) (by decide)))
  replace V_a2 := V_a2.other W84 ne_a2_a1
  replace S_C := S_C.wr W84
  replace V82 := V82.other W84 ne_b82_a1
  rw [show nar .byte (0 : Int32) = 0 from rfl] at F_coder_a1
  have K := K.wr W84 (Or.inl (List.mem_of_getElem? (i := 0) rfl))
  refine Own.aloadN d3_51 rfl rfl ?_
  refine Own.aload d3_52 rfl rfl ?_
  refine Own.putF_ (host := "") (Or.inl (hw _ (List.mem_of_getElem? (i := 35) rfl))) Via.refl F_value_a1 X_a1 (Or.inr ⟨(hw _ (List.mem_of_getElem? (i := 36) rfl)), rfl, rfl⟩) (hw _ (List.mem_of_getElem? (i := 9) rfl)) (ty := (.array .byte)) (by decide) rfl rfl g_a1 d3_54 (fun h85 W86 => ?_)
  replace F_value_a1 := F_value_a1.same W86
  have hn : n0 ≤ h85.size := by rw [W86.size]; exact hn
  replace X_a1 := X_a1.wr W86
  replace F_coder_a1 := F_coder_a1.other W86 (Or.inr (slot_ne (Or.inr (hw _ (List.mem_of_getElem? (i := 34) rfl))) (Or.inr (hw _ (List.mem_of_getElem? (i := 36) rfl))) (by decide) (t := .byte) (t' := (.array .byte)) (by decide) (by decide)))
  replace V_a2 := V_a2.other W86 ne_a2_a1
  replace S_C := S_C.wr W86
  replace V82 := V82.other W86 ne_b82_a1
  have K := K.wr W86 (Or.inl (List.mem_of_getElem? (i := 0) rfl))
  refine Own.ret_void rfl d3_57 (by decide) (by decide) ?_
  exact ⟨rfl, K, b82, k82, sz_b82, F_value_a1, F_coder_a1, V82⟩
def Q_rm1k4 (Z : State) (a1 : Addr) (c0 : Int32) (c1 : Int32) (c2 : Int32) (c3 : Int32) (h0 : Heap) (n0 : Nat) (v : Option Value) (h : Heap) : Prop := v = none ∧ Keep h0 h [a1] ∧ ∃ (b : Addr) (kb : ClassId), h0.size ≤ b ∧ Fld Z h a1 "java/lang/String" "value" "[B" (.ref b) ∧ Fld Z h a1 "java/lang/String" "coder" "B" (.int (0 : Int32)) ∧ Arl Z h b kb .byte [(.int (nar .byte (c0.toInt8.toInt32))), (.int (nar .byte (c1.toInt8.toInt32))), (.int (nar .byte (c2.toInt8.toInt32))), (.int (nar .byte (c3.toInt8.toInt32)))]
theorem ef_rm1k4 (m : MethodId) (a1 : Addr) (a2 : Addr)  : entryFrame m #[(.ref a1), (.ref a2)] 2 = mkF m 0 #[.val (.ref a1), .val (.ref a2)] [] := by first | (simp [entryFrame, mkF, argsToLocals, Value.category]; done) | rfl
set_option maxRecDepth 65536 in
set_option maxHeartbeats 40000000 in
theorem rm1k4 (l : Launch) (Z : State) (a0 : Array Value) (hw : ∀ d ∈ tables_1, d.before a0 Z = true) (ws : List Jvm.Cond) (a1 : Addr) (a2 : Addr) (ka : ClassId) (zc : Int32) (c0 : Int32) (c1 : Int32) (c2 : Int32) (c3 : Int32) (h0 : Heap) (n0 : Nat) (hn : n0 ≤ h0.size) (X_a1 : Exa Z h0 a1 "java/lang/String") (g_a1 : n0 ≤ a1) (F_value_a1 : Fld Z h0 a1 "java/lang/String" "value" "[B" .null) (F_coder_a1 : Fld Z h0 a1 "java/lang/String" "coder" "B" (.int (0 : Int32))) (V_a2 : Arl Z h0 a2 ka .char [(.int c0), (.int c1), (.int c2), (.int c3)]) (ne_a2_a1 : a2 ≠ a1) (S_C : Sta Z h0 "java/lang/String" "COMPACT_STRINGS" "Z" (.int zc)) (hz : ¬ zc = 0) (hc0 : ¬ (255 : Int32) < c0) (hc1 : ¬ (255 : Int32) < c1) (hc2 : ¬ (255 : Int32) < c2) (hc3 : ¬ (255 : Int32) < c3) :
    Met false l Z (⟨"java/lang/String", "<init>", "([C)V"⟩ : MethodName) jdk_42_method_3_code 2 none ({ frames := 5, cells := 2, slots := 12, locals := 74 } : Room) ws #[(.ref a1), (.ref a2)] h0 n0 (Q_rm1k4 Z a1 c0 c1 c2 c3 h0 n0) := by
  refine Met.of pn_2 (fun m => ef_rm1k4 m a1 a2) ?_
  have ne_a1_a2 := Ne.symm ne_a2_a1
  have K := Keep.refl h0 [a1]
  refine Own.aloadN d2_0 rfl rfl ?_
  refine Own.aloadN d2_1 rfl rfl ?_
  refine Own.iconst (0 : Int32) d2_2 rfl ?_
  refine Own.aloadN d2_3 rfl rfl ?_
  refine Own.arraylength_ (4 : Int32) V_a2 rfl d2_4 ?_
  refine Own.aconstNull d2_5 ?_
  refine Own.callI_ a1 [(.ref a2), (.int (0 : Int32)), (.int (4 : Int32)), .null] [] 0 (rm4k4 l Z a0 hw [] a1 a2 ka zc c0 c1 c2 c3 h0 n0 hn X_a1 g_a1 F_value_a1 F_coder_a1 V_a2 ne_a2_a1 S_C hz hc0 hc1 hc2 hc3) (hw _ (List.mem_of_getElem? (i := 14) rfl)) (hw _ (List.mem_of_getElem? (i := 15) rfl)) (hw _ (List.mem_of_getElem? (i := 10) rfl)) (hw _ (List.mem_of_getElem? (i := 17) rfl)) rfl (by decide) d2_6 pd_16 rfl rfl rfl rfl (by decide) (by decide) (by decide) (by decide) (fun v87 h87 hq87 => ?_)
  obtain ⟨rfl, K4, rest4⟩ := hq87
  have hn := Nat.le_trans hn K4.1
  replace S_C := sta_keep S_C K4 (nsS X_a1.nostat ns0)
  replace X_a1 := X_a1.keep K4
  replace V_a2 := V_a2.keep K4 (ninS ne_a2_a1 nin0)
  have K := K.trans K4 (allS (Or.inl (List.mem_of_getElem? (i := 0) rfl)) all0)
  refine OAt.cast (st' := []) rfl ?_
  refine Own.ret_void rfl d2_9 (by decide) (by decide) ?_
  exact ⟨rfl, K, rest4⟩
theorem rmInit (l : Launch) (Z : State) (a0 : Array Value) (hw : ∀ d ∈ tables_1, d.before a0 Z = true) (ws : List Jvm.Cond) (a1 : Addr) (a2 : Addr) (ka : ClassId) (zc : Int32) (c0 : Int32) (c1 : Int32) (c2 : Int32) (c3 : Int32) (h0 : Heap) (n0 : Nat) (hn : n0 ≤ h0.size) (X_a1 : Exa Z h0 a1 "java/lang/String") (g_a1 : n0 ≤ a1) (F_value_a1 : Fld Z h0 a1 "java/lang/String" "value" "[B" .null) (F_coder_a1 : Fld Z h0 a1 "java/lang/String" "coder" "B" (.int (0 : Int32))) (V_a2 : Arl Z h0 a2 ka .char [(.int c0), (.int c1), (.int c2), (.int c3)]) (ne_a2_a1 : a2 ≠ a1) (S_C : Sta Z h0 "java/lang/String" "COMPACT_STRINGS" "Z" (.int zc)) (S_A : Sta Z h0 "java/lang/StringUTF16" "$assertionsDisabled" "Z" (.int (1 : Int32))) (S_H : Sta Z h0 "java/lang/StringUTF16" "HI_BYTE_SHIFT" "I" (.int (0 : Int32))) (S_L : Sta Z h0 "java/lang/StringUTF16" "LO_BYTE_SHIFT" "I" (.int (8 : Int32))) (hz : ¬ zc = 0) (hr0 : 0 ≤ c0.toInt ∧ c0.toInt < 65536) (hr1 : 0 ≤ c1.toInt ∧ c1.toInt < 65536) (hr2 : 0 ≤ c2.toInt ∧ c2.toInt < 65536) (hr3 : 0 ≤ c3.toInt ∧ c3.toInt < 65536) :
    Met false l Z (⟨"java/lang/String", "<init>", "([C)V"⟩ : MethodName) jdk_42_method_3_code 2 none ({ frames := 5, cells := 2, slots := 12, locals := 74 } : Room) ws #[(.ref a1), (.ref a2)] h0 n0 (Q_rm1u0 Z a1 c0 c1 c2 c3 h0 n0) := by
  by_cases hj0 : (255 : Int32) < c0
  · exact rm1u0 l Z a0 hw ws a1 a2 ka zc c0 c1 c2 c3 h0 n0 hn X_a1 g_a1 F_value_a1 F_coder_a1 V_a2 ne_a2_a1 S_C S_A S_H S_L hz hr0 hr1 hr2 hr3 hj0
  by_cases hj1 : (255 : Int32) < c1
  · exact rm1u1 l Z a0 hw ws a1 a2 ka zc c0 c1 c2 c3 h0 n0 hn X_a1 g_a1 F_value_a1 F_coder_a1 V_a2 ne_a2_a1 S_C S_A S_H S_L hz hr0 hr1 hr2 hr3 hj0 hj1
  by_cases hj2 : (255 : Int32) < c2
  · exact rm1u2 l Z a0 hw ws a1 a2 ka zc c0 c1 c2 c3 h0 n0 hn X_a1 g_a1 F_value_a1 F_coder_a1 V_a2 ne_a2_a1 S_C S_A S_H S_L hz hr0 hr1 hr2 hr3 hj0 hj1 hj2
  by_cases hj3 : (255 : Int32) < c3
  · exact rm1u3 l Z a0 hw ws a1 a2 ka zc c0 c1 c2 c3 h0 n0 hn X_a1 g_a1 F_value_a1 F_coder_a1 V_a2 ne_a2_a1 S_C S_A S_H S_L hz hr0 hr1 hr2 hr3 hj0 hj1 hj2 hj3
  exact (rm1k4 l Z a0 hw ws a1 a2 ka zc c0 c1 c2 c3 h0 n0 hn X_a1 g_a1 F_value_a1 F_coder_a1 V_a2 ne_a2_a1 S_C hz hj0 hj1 hj2 hj3).imp fun v h q => by
    obtain ⟨q1, q2, b, kb, q3, q4, q5, q6⟩ := q
    exact ⟨q1, q2, b, kb, _, _, q3, q4, q5, q6, Or.inl ⟨rfl, rfl, hj0, hj1, hj2, hj3⟩⟩
theorem own_ncv {c : Int32} (h0 : 0 ≤ c.toInt) (h1 : c.toInt < 65536) : nar .char c = c := by
  have i1 := c_i2c c
  apply Int32.toInt_inj.mp
  show (c.toUInt32.toUInt16.toUInt32.toInt32).toInt = _
  omega
theorem d10_0 : decode jdk_42_method_154_code 0 = .ok (.getstatic 38, 3) := by decide +kernel
theorem d10_3 : decode jdk_42_method_154_code 3 = .ok (.ifCond .eq 14, 3) := by decide +kernel
theorem d10_6 : decode jdk_42_method_154_code 6 = .ok (.aload_n 0, 1) := by decide +kernel
theorem d10_7 : decode jdk_42_method_154_code 7 = .ok (.getfield 15, 3) := by decide +kernel
theorem d10_10 : decode jdk_42_method_154_code 10 = .ok (.ifCond .ne 7, 3) := by decide +kernel
theorem d10_13 : decode jdk_42_method_154_code 13 = .ok (.iconst 1, 1) := by decide +kernel
theorem d10_14 : decode jdk_42_method_154_code 14 = .ok (.goto 4, 3) := by decide +kernel
theorem d10_18 : decode jdk_42_method_154_code 18 = .ok (.ireturn, 1) := by decide +kernel
theorem ef_rmIL0 (m : MethodId) (a1 : Addr)  : entryFrame m #[(.ref a1)] 1 = mkF m 0 #[.val (.ref a1)] [] := by first | (simp [entryFrame, mkF, argsToLocals, Value.category]; done) | rfl
theorem pn_10 : plainFor (⟨"java/lang/String", "isLatin1", "()Z"⟩ : MethodName) = true := plainFor_of_name (show plainName "java/lang/String" = true by first | (simp [plainName, overriddenIn]; done) | decide +kernel)
set_option maxRecDepth 65536 in
set_option maxHeartbeats 40000000 in
theorem rmIL0 (l : Launch) (Z : State) (a0 : Array Value) (hw : ∀ d ∈ tables_1, d.before a0 Z = true) (ws : List Jvm.Cond) (a1 : Addr) (zc : Int32) (h0 : Heap) (n0 : Nat) (hn : n0 ≤ h0.size) (F_c : Fld Z h0 a1 "java/lang/String" "coder" "B" (.int (0 : Int32))) (S_C : Sta Z h0 "java/lang/String" "COMPACT_STRINGS" "Z" (.int zc)) (hz : ¬ zc = 0) :
    Met false l Z (⟨"java/lang/String", "isLatin1", "()Z"⟩ : MethodName) jdk_42_method_154_code 1 (some .boolean) ({ frames := 0, cells := 0, slots := 0, locals := 0 } : Room) ws #[(.ref a1)] h0 n0 (Pur (.int (1 : Int32)) h0) := by
  refine Met.of pn_10 (fun m => ef_rmIL0 m a1) ?_
  refine Own.getS_ (host := "") (Or.inl (hw _ (List.mem_of_getElem? (i := 21) rfl))) Via.refl S_C d10_0 ?_
  refine Own.if_eq 17 d10_3 (by decide) rfl (fun q => absurd q hz) (fun _ => ?_)
  refine Own.aloadN d10_6 rfl rfl ?_
  refine Own.getF_ (host := "") (Or.inl (hw _ (List.mem_of_getElem? (i := 33) rfl))) Via.refl F_c d10_7 ?_
  refine Own.if_ne 17 d10_10 (by decide) rfl (fun q => absurd (by decide) q) (fun _ => ?_)
  refine Own.iconst (1 : Int32) d10_13 rfl ?_
  refine Own.goto_ 18 d10_14 (by decide) rfl ?_
  refine Own.ret_nar (t := .boolean) (by simp) rfl d10_18 (by decide) (by decide) ?_
  exact ⟨rfl, rfl⟩
theorem d10_17 : decode jdk_42_method_154_code 17 = .ok (.iconst 0, 1) := by decide +kernel
theorem ef_rmIL1 (m : MethodId) (a1 : Addr)  : entryFrame m #[(.ref a1)] 1 = mkF m 0 #[.val (.ref a1)] [] := by first | (simp [entryFrame, mkF, argsToLocals, Value.category]; done) | rfl
set_option maxRecDepth 65536 in
set_option maxHeartbeats 40000000 in
theorem rmIL1 (l : Launch) (Z : State) (a0 : Array Value) (hw : ∀ d ∈ tables_1, d.before a0 Z = true) (ws : List Jvm.Cond) (a1 : Addr) (zc : Int32) (h0 : Heap) (n0 : Nat) (hn : n0 ≤ h0.size) (F_c : Fld Z h0 a1 "java/lang/String" "coder" "B" (.int (1 : Int32))) (S_C : Sta Z h0 "java/lang/String" "COMPACT_STRINGS" "Z" (.int zc)) (hz : ¬ zc = 0) :
    Met false l Z (⟨"java/lang/String", "isLatin1", "()Z"⟩ : MethodName) jdk_42_method_154_code 1 (some .boolean) ({ frames := 0, cells := 0, slots := 0, locals := 0 } : Room) ws #[(.ref a1)] h0 n0 (Pur (.int (0 : Int32)) h0) := by
  refine Met.of pn_10 (fun m => ef_rmIL1 m a1) ?_
  refine Own.getS_ (host := "") (Or.inl (hw _ (List.mem_of_getElem? (i := 21) rfl))) Via.refl S_C d10_0 ?_
  refine Own.if_eq 17 d10_3 (by decide) rfl (fun q => absurd q hz) (fun _ => ?_)
  refine Own.aloadN d10_6 rfl rfl ?_
  refine Own.getF_ (host := "") (Or.inl (hw _ (List.mem_of_getElem? (i := 33) rfl))) Via.refl F_c d10_7 ?_
  refine Own.if_ne 17 d10_10 (by decide) rfl (fun _ => ?_) (fun q => absurd q (by decide))
  refine Own.iconst (0 : Int32) d10_17 rfl ?_
  refine Own.ret_nar (t := .boolean) (by simp) rfl d10_18 (by decide) (by decide) ?_
  exact ⟨rfl, rfl⟩
theorem d13_0 : decode jdk_41_method_11_code 0 = .ok (.iload_n 0, 1) := by decide +kernel
theorem d13_1 : decode jdk_41_method_11_code 1 = .ok (.ifCond .lt 8, 3) := by decide +kernel
theorem d13_4 : decode jdk_41_method_11_code 4 = .ok (.iload_n 0, 1) := by decide +kernel
theorem d13_5 : decode jdk_41_method_11_code 5 = .ok (.iload_n 1, 1) := by decide +kernel
theorem d13_6 : decode jdk_41_method_11_code 6 = .ok (.if_icmp .lt 10, 3) := by decide +kernel
theorem d13_16 : decode jdk_41_method_11_code 16 = .ok (.iload_n 0, 1) := by decide +kernel
theorem d13_17 : decode jdk_41_method_11_code 17 = .ok (.ireturn, 1) := by decide +kernel
theorem ef_rmPIc_0_4 (m : MethodId) (vf : Value) (hr_2 : (vf).isRef = true) : entryFrame m #[(.int (0 : Int32)), (.int (4 : Int32)), vf] 3 = mkF m 0 #[.val (.int (0 : Int32)), .val (.int (4 : Int32)), .val vf] [] := by rcases ref_cases hr_2 with rfl | ⟨z2, rfl⟩ <;> first | (simp [entryFrame, mkF, argsToLocals, Value.category]; done) | rfl
theorem pn_13 : plainFor (⟨"jdk/internal/util/Preconditions", "checkIndex", "(IILjava/util/function/BiFunction;)I"⟩ : MethodName) = true := plainFor_of_name (show plainName "jdk/internal/util/Preconditions" = true by first | (simp [plainName, overriddenIn]; done) | decide +kernel)
set_option maxRecDepth 65536 in
set_option maxHeartbeats 40000000 in
theorem rmPIc_0_4 (l : Launch) (Z : State) (a0 : Array Value) (hw : ∀ d ∈ tables_1, d.before a0 Z = true) (ws : List Jvm.Cond) (vf : Value) (h0 : Heap) (n0 : Nat) (hn : n0 ≤ h0.size) (hvf : vf.isRef = true) :
    Met false l Z (⟨"jdk/internal/util/Preconditions", "checkIndex", "(IILjava/util/function/BiFunction;)I"⟩ : MethodName) jdk_41_method_11_code 3 (some .int) ({ frames := 0, cells := 0, slots := 0, locals := 0 } : Room) ws #[(.int (0 : Int32)), (.int (4 : Int32)), vf] h0 n0 (Pur (.int (0 : Int32)) h0) := by
  refine Met.of pn_13 (fun m => ef_rmPIc_0_4 m vf hvf) ?_
  refine Own.iloadN d13_0 rfl ?_
  refine Own.if_lt 9 d13_1 (by decide) rfl (fun q => absurd q (by decide)) (fun _ => ?_)
  refine Own.iloadN d13_4 rfl ?_
  refine Own.iloadN d13_5 rfl ?_
  refine Own.icmp_lt 16 d13_6 (by decide) rfl (fun _ => ?_) (fun q => absurd (by decide) q)
  refine Own.iloadN d13_16 rfl ?_
  refine Own.ret_int rfl d13_17 (by decide) (by decide) ?_
  exact ⟨rfl, rfl⟩
theorem d12_0 : decode jdk_42_method_155_code 0 = .ok (.iload_n 0, 1) := by decide +kernel
theorem d12_1 : decode jdk_42_method_155_code 1 = .ok (.iload_n 1, 1) := by decide +kernel
theorem d12_2 : decode jdk_42_method_155_code 2 = .ok (.getstatic 1053, 3) := by decide +kernel
theorem d12_5 : decode jdk_42_method_155_code 5 = .ok (.invokestatic 1059, 3) := by decide +kernel
theorem pd_6 : parseMethodDescriptor "(IILjava/util/function/BiFunction;)I" = some ⟨[.int, .int, (.object "java/util/function/BiFunction")], some .int⟩ := by decide +kernel
theorem d12_8 : decode jdk_42_method_155_code 8 = .ok (.pop, 1) := by decide +kernel
theorem d12_9 : decode jdk_42_method_155_code 9 = .ok (.return_, 1) := by decide +kernel
theorem ef_rmSIc_0_4 (m : MethodId)   : entryFrame m #[(.int (0 : Int32)), (.int (4 : Int32))] 2 = mkF m 0 #[.val (.int (0 : Int32)), .val (.int (4 : Int32))] [] := by first | (simp [entryFrame, mkF, argsToLocals, Value.category]; done) | rfl
theorem pn_12 : plainFor (⟨"java/lang/String", "checkIndex", "(II)V"⟩ : MethodName) = true := plainFor_of_name (show plainName "java/lang/String" = true by first | (simp [plainName, overriddenIn]; done) | decide +kernel)
set_option maxRecDepth 65536 in
set_option maxHeartbeats 40000000 in
theorem rmSIc_0_4 (l : Launch) (Z : State) (a0 : Array Value) (hw : ∀ d ∈ tables_1, d.before a0 Z = true) (ws : List Jvm.Cond) (vf : Value) (h0 : Heap) (n0 : Nat) (hn : n0 ≤ h0.size) (S_F : Sta Z h0 "jdk/internal/util/Preconditions" "SIOOBE_FORMATTER" "Ljava/util/function/BiFunction;" vf) (hvf : vf.isRef = true) :
    Met false l Z (⟨"java/lang/String", "checkIndex", "(II)V"⟩ : MethodName) jdk_42_method_155_code 2 none ({ frames := 1, cells := 0, slots := 0, locals := 14 } : Room) ws #[(.int (0 : Int32)), (.int (4 : Int32))] h0 n0 (Pur0 h0) := by
  refine Met.of pn_12 (fun m => ef_rmSIc_0_4 m ) ?_
  refine Own.iloadN d12_0 rfl ?_
  refine Own.iloadN d12_1 rfl ?_
  refine Own.getS_ (host := "") (Or.inl (hw _ (List.mem_of_getElem? (i := 58) rfl))) Via.refl S_F d12_2 ?_
  refine Own.callSP [(.int (0 : Int32)), (.int (4 : Int32)), vf] [] 0 (rmPIc_0_4 l Z a0 hw [] vf h0 n0 hn hvf) (hw _ (List.mem_of_getElem? (i := 60) rfl)) (hw _ (List.mem_of_getElem? (i := 61) rfl)) (hw _ (List.mem_of_getElem? (i := 59) rfl)) (hw _ (List.mem_of_getElem? (i := 62) rfl)) (by decide) d12_5 pd_6 rfl rfl rfl rfl (by decide) (by decide) (by decide) (by decide) ?_
  refine Own.pop d12_8 rfl ?_
  refine Own.ret_void rfl d12_9 (by decide) (by decide) ?_
  exact ⟨rfl, rfl⟩
theorem d11_0 : decode jdk_43_method_2_code 0 = .ok (.iload_n 1, 1) := by decide +kernel
theorem d11_1 : decode jdk_43_method_2_code 1 = .ok (.aload_n 0, 1) := by decide +kernel
theorem d11_2 : decode jdk_43_method_2_code 2 = .ok (.arraylength, 1) := by decide +kernel
theorem d11_3 : decode jdk_43_method_2_code 3 = .ok (.invokestatic 9, 3) := by decide +kernel
theorem pd_5 : parseMethodDescriptor "(II)V" = some ⟨[.int, .int], none⟩ := by decide +kernel
theorem d11_6 : decode jdk_43_method_2_code 6 = .ok (.aload_n 0, 1) := by decide +kernel
theorem d11_7 : decode jdk_43_method_2_code 7 = .ok (.iload_n 1, 1) := by decide +kernel
theorem d11_8 : decode jdk_43_method_2_code 8 = .ok (.baload, 1) := by decide +kernel
theorem d11_9 : decode jdk_43_method_2_code 9 = .ok (.sipush 255, 3) := by decide +kernel
theorem d11_12 : decode jdk_43_method_2_code 12 = .ok (.iand, 1) := by decide +kernel
theorem d11_13 : decode jdk_43_method_2_code 13 = .ok (.i2c, 1) := by decide +kernel
theorem d11_14 : decode jdk_43_method_2_code 14 = .ok (.ireturn, 1) := by decide +kernel
theorem ef_rmLC0 (m : MethodId) (a1 : Addr)  : entryFrame m #[(.ref a1), (.int (0 : Int32))] 2 = mkF m 0 #[.val (.ref a1), .val (.int (0 : Int32))] [] := by first | (simp [entryFrame, mkF, argsToLocals, Value.category]; done) | rfl
theorem pn_11 : plainFor (⟨"java/lang/StringLatin1", "charAt", "([BI)C"⟩ : MethodName) = true := plainFor_of_name (show plainName "java/lang/StringLatin1" = true by first | (simp [plainName, overriddenIn]; done) | decide +kernel)
set_option maxRecDepth 65536 in
set_option maxHeartbeats 40000000 in
theorem rmLC0 (l : Launch) (Z : State) (a0 : Array Value) (hw : ∀ d ∈ tables_1, d.before a0 Z = true) (ws : List Jvm.Cond) (a1 : Addr) (ka : ClassId) (vs : List Value) (x : Int32) (vf : Value) (h0 : Heap) (n0 : Nat) (hn : n0 ≤ h0.size) (V_a1 : Arl Z h0 a1 ka .byte vs) (hl : vs.length = 4) (hx : vs[0]? = some (.int x)) (S_F : Sta Z h0 "jdk/internal/util/Preconditions" "SIOOBE_FORMATTER" "Ljava/util/function/BiFunction;" vf) (hvf : vf.isRef = true) :
    Met false l Z (⟨"java/lang/StringLatin1", "charAt", "([BI)C"⟩ : MethodName) jdk_43_method_2_code 2 (some .char) ({ frames := 2, cells := 0, slots := 0, locals := 27 } : Room) ws #[(.ref a1), (.int (0 : Int32))] h0 n0 (Pur (.int (own_lc x)) h0) := by
  refine Met.of pn_11 (fun m => ef_rmLC0 m a1) ?_
  refine Own.iloadN d11_0 rfl ?_
  refine Own.aloadN d11_1 rfl rfl ?_
  refine Own.arraylength_ (4 : Int32) V_a1 (by rw [hl]; rfl) d11_2 ?_
  refine Own.callS0 [(.int (0 : Int32)), (.int (4 : Int32))] [] 0 (rmSIc_0_4 l Z a0 hw [] vf h0 n0 hn S_F hvf) (hw _ (List.mem_of_getElem? (i := 55) rfl)) (hw _ (List.mem_of_getElem? (i := 56) rfl)) (hw _ (List.mem_of_getElem? (i := 10) rfl)) (hw _ (List.mem_of_getElem? (i := 57) rfl)) (by decide) d11_3 pd_5 rfl rfl rfl rfl (by decide) (by decide) (by decide) (by decide) ?_
  refine Own.aloadN d11_6 rfl rfl ?_
  refine Own.iloadN d11_7 rfl ?_
  refine Own.baload_ V_a1 (i := 0) rfl (v := (.int x)) hx d11_8 ?_
  refine Own.sipush (255 : Int32) d11_9 rfl ?_
  refine Own.iand d11_12 ?_
  refine Own.i2c d11_13 ?_
  refine Own.ret_nar (t := .char) (by simp) rfl d11_14 (by decide) (by decide) ?_
  exact ⟨rfl, rfl⟩
theorem d20_0 : decode jdk_52_method_91_code 0 = .ok (.iload_n 0, 1) := by decide +kernel
theorem d20_1 : decode jdk_52_method_91_code 1 = .ok (.aload_n 1, 1) := by decide +kernel
theorem d20_2 : decode jdk_52_method_91_code 2 = .ok (.invokestatic 48, 3) := by decide +kernel
theorem pd_10 : parseMethodDescriptor "([B)I" = some ⟨[(.array .byte)], some .int⟩ := by decide +kernel
theorem d20_5 : decode jdk_52_method_91_code 5 = .ok (.invokestatic 414, 3) := by decide +kernel
theorem d20_8 : decode jdk_52_method_91_code 8 = .ok (.return_, 1) := by decide +kernel
theorem ef_rmUI0 (m : MethodId) (a2 : Addr)  : entryFrame m #[(.int (0 : Int32)), (.ref a2)] 2 = mkF m 0 #[.val (.int (0 : Int32)), .val (.ref a2)] [] := by first | (simp [entryFrame, mkF, argsToLocals, Value.category]; done) | rfl
theorem pn_20 : plainFor (⟨"java/lang/StringUTF16", "checkIndex", "(I[B)V"⟩ : MethodName) = true := plainFor_of_name (show plainName "java/lang/StringUTF16" = true by first | (simp [plainName, overriddenIn]; done) | decide +kernel)
set_option maxRecDepth 65536 in
set_option maxHeartbeats 40000000 in
theorem rmUI0 (l : Launch) (Z : State) (a0 : Array Value) (hw : ∀ d ∈ tables_1, d.before a0 Z = true) (ws : List Jvm.Cond) (a2 : Addr) (ka : ClassId) (vs : List Value) (vf : Value) (h0 : Heap) (n0 : Nat) (hn : n0 ≤ h0.size) (V_a2 : Arl Z h0 a2 ka .byte vs) (hl : vs.length = 8) (S_F : Sta Z h0 "jdk/internal/util/Preconditions" "SIOOBE_FORMATTER" "Ljava/util/function/BiFunction;" vf) (hvf : vf.isRef = true) :
    Met false l Z (⟨"java/lang/StringUTF16", "checkIndex", "(I[B)V"⟩ : MethodName) jdk_52_method_91_code 2 none ({ frames := 2, cells := 0, slots := 0, locals := 27 } : Room) ws #[(.int (0 : Int32)), (.ref a2)] h0 n0 (Pur0 h0) := by
  refine Met.of pn_20 (fun m => ef_rmUI0 m a2) ?_
  refine Own.iloadN d20_0 rfl ?_
  refine Own.aloadN d20_1 rfl rfl ?_
  refine Own.callSP [(.ref a2)] [(.int (0 : Int32))] 1 (rmULen l Z a0 hw [] a2 ka vs h0 n0 hn V_a2 hl) (hw _ (List.mem_of_getElem? (i := 88) rfl)) (hw _ (List.mem_of_getElem? (i := 89) rfl)) (hw _ (List.mem_of_getElem? (i := 24) rfl)) (hw _ (List.mem_of_getElem? (i := 90) rfl)) (by decide) d20_2 pd_10 rfl rfl rfl rfl (by decide) (by decide) (by decide) (by decide) ?_
  refine Own.callS0 [(.int (0 : Int32)), (.int (4 : Int32))] [] 0 (rmSIc_0_4 l Z a0 hw [] vf h0 n0 hn S_F hvf) (hw _ (List.mem_of_getElem? (i := 91) rfl)) (hw _ (List.mem_of_getElem? (i := 56) rfl)) (hw _ (List.mem_of_getElem? (i := 10) rfl)) (hw _ (List.mem_of_getElem? (i := 57) rfl)) (by decide) d20_5 pd_5 rfl rfl rfl rfl (by decide) (by decide) (by decide) (by decide) ?_
  refine Own.ret_void rfl d20_8 (by decide) (by decide) ?_
  exact ⟨rfl, rfl⟩
theorem d19_0 : decode jdk_52_method_83_code 0 = .ok (.iload_n 1, 1) := by decide +kernel
theorem d19_1 : decode jdk_52_method_83_code 1 = .ok (.aload_n 0, 1) := by decide +kernel
theorem d19_2 : decode jdk_52_method_83_code 2 = .ok (.invokestatic 67, 3) := by decide +kernel
theorem pd_7 : parseMethodDescriptor "(I[B)V" = some ⟨[.int, (.array .byte)], none⟩ := by decide +kernel
theorem d19_5 : decode jdk_52_method_83_code 5 = .ok (.aload_n 0, 1) := by decide +kernel
theorem d19_6 : decode jdk_52_method_83_code 6 = .ok (.iload_n 1, 1) := by decide +kernel
theorem d19_7 : decode jdk_52_method_83_code 7 = .ok (.invokestatic 71, 3) := by decide +kernel
theorem d19_10 : decode jdk_52_method_83_code 10 = .ok (.ireturn, 1) := by decide +kernel
theorem ef_rmUC0 (m : MethodId) (a1 : Addr)  : entryFrame m #[(.ref a1), (.int (0 : Int32))] 2 = mkF m 0 #[.val (.ref a1), .val (.int (0 : Int32))] [] := by first | (simp [entryFrame, mkF, argsToLocals, Value.category]; done) | rfl
theorem pn_19 : plainFor (⟨"java/lang/StringUTF16", "charAt", "([BI)C"⟩ : MethodName) = true := plainFor_of_name (show plainName "java/lang/StringUTF16" = true by first | (simp [plainName, overriddenIn]; done) | decide +kernel)
set_option maxRecDepth 65536 in
set_option maxHeartbeats 40000000 in
theorem rmUC0 (l : Launch) (Z : State) (a0 : Array Value) (hw : ∀ d ∈ tables_1, d.before a0 Z = true) (ws : List Jvm.Cond) (a1 : Addr) (ka : ClassId) (vs : List Value) (x : Int32) (y : Int32) (vf : Value) (h0 : Heap) (n0 : Nat) (hn : n0 ≤ h0.size) (V_a1 : Arl Z h0 a1 ka .byte vs) (hl : vs.length = 8) (hx : vs[0]? = some (.int x)) (hy : vs[1]? = some (.int y)) (S_F : Sta Z h0 "jdk/internal/util/Preconditions" "SIOOBE_FORMATTER" "Ljava/util/function/BiFunction;" vf) (S_A : Sta Z h0 "java/lang/StringUTF16" "$assertionsDisabled" "Z" (.int (1 : Int32))) (S_H : Sta Z h0 "java/lang/StringUTF16" "HI_BYTE_SHIFT" "I" (.int (0 : Int32))) (S_L : Sta Z h0 "java/lang/StringUTF16" "LO_BYTE_SHIFT" "I" (.int (8 : Int32))) (hvf : vf.isRef = true) :
    Met false l Z (⟨"java/lang/StringUTF16", "charAt", "([BI)C"⟩ : MethodName) jdk_52_method_83_code 2 (some .char) ({ frames := 3, cells := 0, slots := 0, locals := 40 } : Room) ws #[(.ref a1), (.int (0 : Int32))] h0 n0 (Pur (.int (nar .char (own_gc x y))) h0) := by
  refine Met.of pn_19 (fun m => ef_rmUC0 m a1) ?_
  refine Own.iloadN d19_0 rfl ?_
  refine Own.aloadN d19_1 rfl rfl ?_
  refine Own.callS0 [(.int (0 : Int32)), (.ref a1)] [] 0 (rmUI0 l Z a0 hw [] a1 ka vs vf h0 n0 hn V_a1 hl S_F hvf) (hw _ (List.mem_of_getElem? (i := 85) rfl)) (hw _ (List.mem_of_getElem? (i := 86) rfl)) (hw _ (List.mem_of_getElem? (i := 24) rfl)) (hw _ (List.mem_of_getElem? (i := 87) rfl)) (by decide) d19_2 pd_7 rfl rfl rfl rfl (by decide) (by decide) (by decide) (by decide) ?_
  refine Own.aloadN d19_5 rfl rfl ?_
  refine Own.iloadN d19_6 rfl ?_
  refine Own.callSP [(.ref a1), (.int (0 : Int32))] [] 0 (rmGet0 l Z a0 hw [] a1 ka vs x y h0 n0 hn V_a1 hx hy S_A S_H S_L) (hw _ (List.mem_of_getElem? (i := 79) rfl)) (hw _ (List.mem_of_getElem? (i := 80) rfl)) (hw _ (List.mem_of_getElem? (i := 24) rfl)) (hw _ (List.mem_of_getElem? (i := 81) rfl)) (by decide) d19_7 pd_12 rfl rfl rfl rfl (by decide) (by decide) (by decide) (by decide) ?_
  refine Own.ret_nar (t := .char) (by simp) rfl d19_10 (by decide) (by decide) ?_
  exact ⟨rfl, rfl⟩
theorem d9_0 : decode jdk_42_method_56_code 0 = .ok (.aload_n 0, 1) := by decide +kernel
theorem d9_1 : decode jdk_42_method_56_code 1 = .ok (.invokevirtual 492, 3) := by decide +kernel
theorem pd_1 : parseMethodDescriptor "()Z" = some ⟨[], some .boolean⟩ := by decide +kernel
theorem d9_4 : decode jdk_42_method_56_code 4 = .ok (.ifCond .eq 12, 3) := by decide +kernel
theorem d9_7 : decode jdk_42_method_56_code 7 = .ok (.aload_n 0, 1) := by decide +kernel
theorem d9_8 : decode jdk_42_method_56_code 8 = .ok (.getfield 9, 3) := by decide +kernel
theorem d9_11 : decode jdk_42_method_56_code 11 = .ok (.iload_n 1, 1) := by decide +kernel
theorem d9_12 : decode jdk_42_method_56_code 12 = .ok (.invokestatic 495, 3) := by decide +kernel
theorem d9_15 : decode jdk_42_method_56_code 15 = .ok (.ireturn, 1) := by decide +kernel
theorem ef_rmCA0_0 (m : MethodId) (a1 : Addr)  : entryFrame m #[(.ref a1), (.int (0 : Int32))] 2 = mkF m 0 #[.val (.ref a1), .val (.int (0 : Int32))] [] := by first | (simp [entryFrame, mkF, argsToLocals, Value.category]; done) | rfl
theorem pn_9 : plainFor (⟨"java/lang/String", "charAt", "(I)C"⟩ : MethodName) = true := plainFor_of_name (show plainName "java/lang/String" = true by first | (simp [plainName, overriddenIn]; done) | decide +kernel)
set_option maxRecDepth 65536 in
set_option maxHeartbeats 40000000 in
theorem rmCA0_0 (l : Launch) (Z : State) (a0 : Array Value) (hw : ∀ d ∈ tables_1, d.before a0 Z = true) (ws : List Jvm.Cond) (a1 : Addr) (b : Addr) (kb : ClassId) (zc : Int32) (vf : Value) (c0 : Int32) (c1 : Int32) (c2 : Int32) (c3 : Int32) (h0 : Heap) (n0 : Nat) (hn : n0 ≤ h0.size) (X_a1 : Exa Z h0 a1 "java/lang/String") (F_v : Fld Z h0 a1 "java/lang/String" "value" "[B" (.ref b)) (F_c : Fld Z h0 a1 "java/lang/String" "coder" "B" (.int (0 : Int32))) (V_b : Arl Z h0 b kb .byte [(.int (nar .byte (c0.toInt8.toInt32))), (.int (nar .byte (c1.toInt8.toInt32))), (.int (nar .byte (c2.toInt8.toInt32))), (.int (nar .byte (c3.toInt8.toInt32)))]) (S_C : Sta Z h0 "java/lang/String" "COMPACT_STRINGS" "Z" (.int zc)) (S_F : Sta Z h0 "jdk/internal/util/Preconditions" "SIOOBE_FORMATTER" "Ljava/util/function/BiFunction;" vf) (S_A : Sta Z h0 "java/lang/StringUTF16" "$assertionsDisabled" "Z" (.int (1 : Int32))) (S_H : Sta Z h0 "java/lang/StringUTF16" "HI_BYTE_SHIFT" "I" (.int (0 : Int32))) (S_L : Sta Z h0 "java/lang/StringUTF16" "LO_BYTE_SHIFT" "I" (.int (8 : Int32))) (hz : ¬ zc = 0) (hvf : vf.isRef = true) (hr0 : 0 ≤ c0.toInt ∧ c0.toInt < 65536) (hlat : ¬ (255 : Int32) < c0) :
    Met false l Z (⟨"java/lang/String", "charAt", "(I)C"⟩ : MethodName) jdk_42_method_56_code 2 (some .char) ({ frames := 4, cells := 0, slots := 0, locals := 60 } : Room) ws #[(.ref a1), (.int (0 : Int32))] h0 n0 (Pur (.int c0) h0) := by
  refine Met.of pn_9 (fun m => ef_rmCA0_0 m a1) ?_
  refine Own.aloadN d9_0 rfl rfl ?_
  refine Own.callVP a1 [] [] 0 (rmIL0 l Z a0 hw [] a1 zc h0 n0 hn F_c S_C hz) (hw _ (List.mem_of_getElem? (i := 46) rfl)) (hw _ (List.mem_of_getElem? (i := 47) rfl)) (fun s hZ => notFace_of_selects (args := #[]) (mvT hZ (hw _ (List.mem_of_getElem? (i := 49) rfl)))) (hw _ (List.mem_of_getElem? (i := 49) rfl)) (hw _ (List.mem_of_getElem? (i := 48) rfl)) (hw _ (List.mem_of_getElem? (i := 10) rfl)) (hw _ (List.mem_of_getElem? (i := 50) rfl)) (by decide) X_a1 d9_1 pd_1 rfl rfl rfl rfl (by decide) (by decide) (by decide) (by decide) ?_
  refine Own.if_eq 16 d9_4 (by decide) rfl (fun q => absurd q (by decide)) (fun _ => ?_)
  refine Own.aloadN d9_7 rfl rfl ?_
  refine Own.getF_ (host := "") (Or.inl (hw _ (List.mem_of_getElem? (i := 35) rfl))) Via.refl F_v d9_8 ?_
  refine Own.iloadN d9_11 rfl ?_
  refine Own.callSP [(.ref b), (.int (0 : Int32))] [] 0 (rmLC0 l Z a0 hw [] b kb _ (nar .byte (c0.toInt8.toInt32)) vf h0 n0 hn V_b rfl rfl S_F hvf) (hw _ (List.mem_of_getElem? (i := 51) rfl)) (hw _ (List.mem_of_getElem? (i := 52) rfl)) (hw _ (List.mem_of_getElem? (i := 53) rfl)) (hw _ (List.mem_of_getElem? (i := 54) rfl)) (by decide) d9_12 pd_12 rfl rfl rfl rfl (by decide) (by decide) (by decide) (by decide) ?_
  refine Own.ret_nar (t := .char) (by simp) rfl d9_15 (by decide) (by decide) ?_
  exact ⟨congrArg (fun z => some (Value.int z)) (by rw [own_lcv hr0.1 hlat, own_ncv hr0.1 hr0.2]), rfl⟩
theorem d9_16 : decode jdk_42_method_56_code 16 = .ok (.aload_n 0, 1) := by decide +kernel
theorem d9_17 : decode jdk_42_method_56_code 17 = .ok (.getfield 9, 3) := by decide +kernel
theorem d9_20 : decode jdk_42_method_56_code 20 = .ok (.iload_n 1, 1) := by decide +kernel
theorem d9_21 : decode jdk_42_method_56_code 21 = .ok (.invokestatic 498, 3) := by decide +kernel
theorem d9_24 : decode jdk_42_method_56_code 24 = .ok (.ireturn, 1) := by decide +kernel
theorem ef_rmCA0_1 (m : MethodId) (a1 : Addr)  : entryFrame m #[(.ref a1), (.int (0 : Int32))] 2 = mkF m 0 #[.val (.ref a1), .val (.int (0 : Int32))] [] := by first | (simp [entryFrame, mkF, argsToLocals, Value.category]; done) | rfl
set_option maxRecDepth 65536 in
set_option maxHeartbeats 40000000 in
theorem rmCA0_1 (l : Launch) (Z : State) (a0 : Array Value) (hw : ∀ d ∈ tables_1, d.before a0 Z = true) (ws : List Jvm.Cond) (a1 : Addr) (b : Addr) (kb : ClassId) (zc : Int32) (vf : Value) (c0 : Int32) (c1 : Int32) (c2 : Int32) (c3 : Int32) (h0 : Heap) (n0 : Nat) (hn : n0 ≤ h0.size) (X_a1 : Exa Z h0 a1 "java/lang/String") (F_v : Fld Z h0 a1 "java/lang/String" "value" "[B" (.ref b)) (F_c : Fld Z h0 a1 "java/lang/String" "coder" "B" (.int (1 : Int32))) (V_b : Arl Z h0 b kb .byte [(.int (own_b0 c0)), (.int (own_b1 c0)), (.int (own_b0 c1)), (.int (own_b1 c1)), (.int (own_b0 c2)), (.int (own_b1 c2)), (.int (own_b0 c3)), (.int (own_b1 c3))]) (S_C : Sta Z h0 "java/lang/String" "COMPACT_STRINGS" "Z" (.int zc)) (S_F : Sta Z h0 "jdk/internal/util/Preconditions" "SIOOBE_FORMATTER" "Ljava/util/function/BiFunction;" vf) (S_A : Sta Z h0 "java/lang/StringUTF16" "$assertionsDisabled" "Z" (.int (1 : Int32))) (S_H : Sta Z h0 "java/lang/StringUTF16" "HI_BYTE_SHIFT" "I" (.int (0 : Int32))) (S_L : Sta Z h0 "java/lang/StringUTF16" "LO_BYTE_SHIFT" "I" (.int (8 : Int32))) (hz : ¬ zc = 0) (hvf : vf.isRef = true) (hr0 : 0 ≤ c0.toInt ∧ c0.toInt < 65536) :
    Met false l Z (⟨"java/lang/String", "charAt", "(I)C"⟩ : MethodName) jdk_42_method_56_code 2 (some .char) ({ frames := 4, cells := 0, slots := 0, locals := 60 } : Room) ws #[(.ref a1), (.int (0 : Int32))] h0 n0 (Pur (.int c0) h0) := by
  refine Met.of pn_9 (fun m => ef_rmCA0_1 m a1) ?_
  refine Own.aloadN d9_0 rfl rfl ?_
  refine Own.callVP a1 [] [] 0 (rmIL1 l Z a0 hw [] a1 zc h0 n0 hn F_c S_C hz) (hw _ (List.mem_of_getElem? (i := 46) rfl)) (hw _ (List.mem_of_getElem? (i := 47) rfl)) (fun s hZ => notFace_of_selects (args := #[]) (mvT hZ (hw _ (List.mem_of_getElem? (i := 49) rfl)))) (hw _ (List.mem_of_getElem? (i := 49) rfl)) (hw _ (List.mem_of_getElem? (i := 48) rfl)) (hw _ (List.mem_of_getElem? (i := 10) rfl)) (hw _ (List.mem_of_getElem? (i := 50) rfl)) (by decide) X_a1 d9_1 pd_1 rfl rfl rfl rfl (by decide) (by decide) (by decide) (by decide) ?_
  refine Own.if_eq 16 d9_4 (by decide) rfl (fun _ => ?_) (fun q => absurd (by decide) q)
  refine Own.aloadN d9_16 rfl rfl ?_
  refine Own.getF_ (host := "") (Or.inl (hw _ (List.mem_of_getElem? (i := 35) rfl))) Via.refl F_v d9_17 ?_
  refine Own.iloadN d9_20 rfl ?_
  refine Own.callSP [(.ref b), (.int (0 : Int32))] [] 0 (rmUC0 l Z a0 hw [] b kb _ (own_b0 c0) (own_b1 c0) vf h0 n0 hn V_b rfl rfl rfl S_F S_A S_H S_L hvf) (hw _ (List.mem_of_getElem? (i := 82) rfl)) (hw _ (List.mem_of_getElem? (i := 83) rfl)) (hw _ (List.mem_of_getElem? (i := 24) rfl)) (hw _ (List.mem_of_getElem? (i := 84) rfl)) (by decide) d9_21 pd_12 rfl rfl rfl rfl (by decide) (by decide) (by decide) (by decide) ?_
  refine Own.ret_nar (t := .char) (by simp) rfl d9_24 (by decide) (by decide) ?_
  exact ⟨congrArg (fun z => some (Value.int z)) (by rw [own_gcv hr0.1 hr0.2, own_ncv hr0.1 hr0.2, own_ncv hr0.1 hr0.2]), rfl⟩
theorem rmCA0 (l : Launch) (Z : State) (a0 : Array Value) (hw : ∀ d ∈ tables_1, d.before a0 Z = true) (ws : List Jvm.Cond) (a1 b : Addr) (kb : ClassId) (cod : Int32) (bs : List Value) (zc : Int32) (vf : Value) (c0 : Int32) (c1 : Int32) (c2 : Int32) (c3 : Int32) (h0 : Heap) (n0 : Nat) (hn : n0 ≤ h0.size) (X_a1 : Exa Z h0 a1 "java/lang/String") (F_v : Fld Z h0 a1 "java/lang/String" "value" "[B" (.ref b)) (F_c : Fld Z h0 a1 "java/lang/String" "coder" "B" (.int cod)) (V_b : Arl Z h0 b kb .byte bs) (S_C : Sta Z h0 "java/lang/String" "COMPACT_STRINGS" "Z" (.int zc)) (S_F : Sta Z h0 "jdk/internal/util/Preconditions" "SIOOBE_FORMATTER" "Ljava/util/function/BiFunction;" vf) (S_A : Sta Z h0 "java/lang/StringUTF16" "$assertionsDisabled" "Z" (.int (1 : Int32))) (S_H : Sta Z h0 "java/lang/StringUTF16" "HI_BYTE_SHIFT" "I" (.int (0 : Int32))) (S_L : Sta Z h0 "java/lang/StringUTF16" "LO_BYTE_SHIFT" "I" (.int (8 : Int32))) (hz : ¬ zc = 0) (hvf : vf.isRef = true) (hr0 : 0 ≤ c0.toInt ∧ c0.toInt < 65536) (hr1 : 0 ≤ c1.toInt ∧ c1.toInt < 65536) (hr2 : 0 ≤ c2.toInt ∧ c2.toInt < 65536) (hr3 : 0 ≤ c3.toInt ∧ c3.toInt < 65536) (hsp : own_spell cod bs c0 c1 c2 c3) :
    Met false l Z (⟨"java/lang/String", "charAt", "(I)C"⟩ : MethodName) jdk_42_method_56_code 2 (some .char) ({ frames := 4, cells := 0, slots := 0, locals := 60 } : Room) ws #[(.ref a1), (.int (0 : Int32))] h0 n0 (Pur (.int c0) h0) := by
  rcases hsp with ⟨rfl, rfl, q0, q1, q2, q3⟩ | ⟨rfl, rfl⟩
  · exact rmCA0_0 l Z a0 hw ws a1 b kb zc vf c0 c1 c2 c3 h0 n0 hn X_a1 F_v F_c V_b S_C S_F S_A S_H S_L hz hvf hr0 q0
  · exact rmCA0_1 l Z a0 hw ws a1 b kb zc vf c0 c1 c2 c3 h0 n0 hn X_a1 F_v F_c V_b S_C S_F S_A S_H S_L hz hvf hr0
theorem ef_rmPIc_1_4 (m : MethodId) (vf : Value) (hr_2 : (vf).isRef = true) : entryFrame m #[(.int (1 : Int32)), (.int (4 : Int32)), vf] 3 = mkF m 0 #[.val (.int (1 : Int32)), .val (.int (4 : Int32)), .val vf] [] := by rcases ref_cases hr_2 with rfl | ⟨z2, rfl⟩ <;> first | (simp [entryFrame, mkF, argsToLocals, Value.category]; done) | rfl
set_option maxRecDepth 65536 in
set_option maxHeartbeats 40000000 in
theorem rmPIc_1_4 (l : Launch) (Z : State) (a0 : Array Value) (hw : ∀ d ∈ tables_1, d.before a0 Z = true) (ws : List Jvm.Cond) (vf : Value) (h0 : Heap) (n0 : Nat) (hn : n0 ≤ h0.size) (hvf : vf.isRef = true) :
    Met false l Z (⟨"jdk/internal/util/Preconditions", "checkIndex", "(IILjava/util/function/BiFunction;)I"⟩ : MethodName) jdk_41_method_11_code 3 (some .int) ({ frames := 0, cells := 0, slots := 0, locals := 0 } : Room) ws #[(.int (1 : Int32)), (.int (4 : Int32)), vf] h0 n0 (Pur (.int (1 : Int32)) h0) := by
  refine Met.of pn_13 (fun m => ef_rmPIc_1_4 m vf hvf) ?_
  refine Own.iloadN d13_0 rfl ?_
  refine Own.if_lt 9 d13_1 (by decide) rfl (fun q => absurd q (by decide)) (fun _ => ?_)
  refine Own.iloadN d13_4 rfl ?_
  refine Own.iloadN d13_5 rfl ?_
  refine Own.icmp_lt 16 d13_6 (by decide) rfl (fun _ => ?_) (fun q => absurd (by decide) q)
  refine Own.iloadN d13_16 rfl ?_
  refine Own.ret_int rfl d13_17 (by decide) (by decide) ?_
  exact ⟨rfl, rfl⟩
theorem ef_rmSIc_1_4 (m : MethodId)   : entryFrame m #[(.int (1 : Int32)), (.int (4 : Int32))] 2 = mkF m 0 #[.val (.int (1 : Int32)), .val (.int (4 : Int32))] [] := by first | (simp [entryFrame, mkF, argsToLocals, Value.category]; done) | rfl
set_option maxRecDepth 65536 in
set_option maxHeartbeats 40000000 in
theorem rmSIc_1_4 (l : Launch) (Z : State) (a0 : Array Value) (hw : ∀ d ∈ tables_1, d.before a0 Z = true) (ws : List Jvm.Cond) (vf : Value) (h0 : Heap) (n0 : Nat) (hn : n0 ≤ h0.size) (S_F : Sta Z h0 "jdk/internal/util/Preconditions" "SIOOBE_FORMATTER" "Ljava/util/function/BiFunction;" vf) (hvf : vf.isRef = true) :
    Met false l Z (⟨"java/lang/String", "checkIndex", "(II)V"⟩ : MethodName) jdk_42_method_155_code 2 none ({ frames := 1, cells := 0, slots := 0, locals := 14 } : Room) ws #[(.int (1 : Int32)), (.int (4 : Int32))] h0 n0 (Pur0 h0) := by
  refine Met.of pn_12 (fun m => ef_rmSIc_1_4 m ) ?_
  refine Own.iloadN d12_0 rfl ?_
  refine Own.iloadN d12_1 rfl ?_
  refine Own.getS_ (host := "") (Or.inl (hw _ (List.mem_of_getElem? (i := 58) rfl))) Via.refl S_F d12_2 ?_
  refine Own.callSP [(.int (1 : Int32)), (.int (4 : Int32)), vf] [] 0 (rmPIc_1_4 l Z a0 hw [] vf h0 n0 hn hvf) (hw _ (List.mem_of_getElem? (i := 60) rfl)) (hw _ (List.mem_of_getElem? (i := 61) rfl)) (hw _ (List.mem_of_getElem? (i := 59) rfl)) (hw _ (List.mem_of_getElem? (i := 62) rfl)) (by decide) d12_5 pd_6 rfl rfl rfl rfl (by decide) (by decide) (by decide) (by decide) ?_
  refine Own.pop d12_8 rfl ?_
  refine Own.ret_void rfl d12_9 (by decide) (by decide) ?_
  exact ⟨rfl, rfl⟩
theorem ef_rmLC1 (m : MethodId) (a1 : Addr)  : entryFrame m #[(.ref a1), (.int (1 : Int32))] 2 = mkF m 0 #[.val (.ref a1), .val (.int (1 : Int32))] [] := by first | (simp [entryFrame, mkF, argsToLocals, Value.category]; done) | rfl
set_option maxRecDepth 65536 in
set_option maxHeartbeats 40000000 in
theorem rmLC1 (l : Launch) (Z : State) (a0 : Array Value) (hw : ∀ d ∈ tables_1, d.before a0 Z = true) (ws : List Jvm.Cond) (a1 : Addr) (ka : ClassId) (vs : List Value) (x : Int32) (vf : Value) (h0 : Heap) (n0 : Nat) (hn : n0 ≤ h0.size) (V_a1 : Arl Z h0 a1 ka .byte vs) (hl : vs.length = 4) (hx : vs[1]? = some (.int x)) (S_F : Sta Z h0 "jdk/internal/util/Preconditions" "SIOOBE_FORMATTER" "Ljava/util/function/BiFunction;" vf) (hvf : vf.isRef = true) :
    Met false l Z (⟨"java/lang/StringLatin1", "charAt", "([BI)C"⟩ : MethodName) jdk_43_method_2_code 2 (some .char) ({ frames := 2, cells := 0, slots := 0, locals := 27 } : Room) ws #[(.ref a1), (.int (1 : Int32))] h0 n0 (Pur (.int (own_lc x)) h0) := by
  refine Met.of pn_11 (fun m => ef_rmLC1 m a1) ?_
  refine Own.iloadN d11_0 rfl ?_
  refine Own.aloadN d11_1 rfl rfl ?_
  refine Own.arraylength_ (4 : Int32) V_a1 (by rw [hl]; rfl) d11_2 ?_
  refine Own.callS0 [(.int (1 : Int32)), (.int (4 : Int32))] [] 0 (rmSIc_1_4 l Z a0 hw [] vf h0 n0 hn S_F hvf) (hw _ (List.mem_of_getElem? (i := 55) rfl)) (hw _ (List.mem_of_getElem? (i := 56) rfl)) (hw _ (List.mem_of_getElem? (i := 10) rfl)) (hw _ (List.mem_of_getElem? (i := 57) rfl)) (by decide) d11_3 pd_5 rfl rfl rfl rfl (by decide) (by decide) (by decide) (by decide) ?_
  refine Own.aloadN d11_6 rfl rfl ?_
  refine Own.iloadN d11_7 rfl ?_
  refine Own.baload_ V_a1 (i := 1) rfl (v := (.int x)) hx d11_8 ?_
  refine Own.sipush (255 : Int32) d11_9 rfl ?_
  refine Own.iand d11_12 ?_
  refine Own.i2c d11_13 ?_
  refine Own.ret_nar (t := .char) (by simp) rfl d11_14 (by decide) (by decide) ?_
  exact ⟨rfl, rfl⟩
theorem ef_rmUI1 (m : MethodId) (a2 : Addr)  : entryFrame m #[(.int (1 : Int32)), (.ref a2)] 2 = mkF m 0 #[.val (.int (1 : Int32)), .val (.ref a2)] [] := by first | (simp [entryFrame, mkF, argsToLocals, Value.category]; done) | rfl
set_option maxRecDepth 65536 in
set_option maxHeartbeats 40000000 in
theorem rmUI1 (l : Launch) (Z : State) (a0 : Array Value) (hw : ∀ d ∈ tables_1, d.before a0 Z = true) (ws : List Jvm.Cond) (a2 : Addr) (ka : ClassId) (vs : List Value) (vf : Value) (h0 : Heap) (n0 : Nat) (hn : n0 ≤ h0.size) (V_a2 : Arl Z h0 a2 ka .byte vs) (hl : vs.length = 8) (S_F : Sta Z h0 "jdk/internal/util/Preconditions" "SIOOBE_FORMATTER" "Ljava/util/function/BiFunction;" vf) (hvf : vf.isRef = true) :
    Met false l Z (⟨"java/lang/StringUTF16", "checkIndex", "(I[B)V"⟩ : MethodName) jdk_52_method_91_code 2 none ({ frames := 2, cells := 0, slots := 0, locals := 27 } : Room) ws #[(.int (1 : Int32)), (.ref a2)] h0 n0 (Pur0 h0) := by
  refine Met.of pn_20 (fun m => ef_rmUI1 m a2) ?_
  refine Own.iloadN d20_0 rfl ?_
  refine Own.aloadN d20_1 rfl rfl ?_
  refine Own.callSP [(.ref a2)] [(.int (1 : Int32))] 1 (rmULen l Z a0 hw [] a2 ka vs h0 n0 hn V_a2 hl) (hw _ (List.mem_of_getElem? (i := 88) rfl)) (hw _ (List.mem_of_getElem? (i := 89) rfl)) (hw _ (List.mem_of_getElem? (i := 24) rfl)) (hw _ (List.mem_of_getElem? (i := 90) rfl)) (by decide) d20_2 pd_10 rfl rfl rfl rfl (by decide) (by decide) (by decide) (by decide) ?_
  refine Own.callS0 [(.int (1 : Int32)), (.int (4 : Int32))] [] 0 (rmSIc_1_4 l Z a0 hw [] vf h0 n0 hn S_F hvf) (hw _ (List.mem_of_getElem? (i := 91) rfl)) (hw _ (List.mem_of_getElem? (i := 56) rfl)) (hw _ (List.mem_of_getElem? (i := 10) rfl)) (hw _ (List.mem_of_getElem? (i := 57) rfl)) (by decide) d20_5 pd_5 rfl rfl rfl rfl (by decide) (by decide) (by decide) (by decide) ?_
  refine Own.ret_void rfl d20_8 (by decide) (by decide) ?_
  exact ⟨rfl, rfl⟩
theorem ef_rmUC1 (m : MethodId) (a1 : Addr)  : entryFrame m #[(.ref a1), (.int (1 : Int32))] 2 = mkF m 0 #[.val (.ref a1), .val (.int (1 : Int32))] [] := by first | (simp [entryFrame, mkF, argsToLocals, Value.category]; done) | rfl
set_option maxRecDepth 65536 in
set_option maxHeartbeats 40000000 in
theorem rmUC1 (l : Launch) (Z : State) (a0 : Array Value) (hw : ∀ d ∈ tables_1, d.before a0 Z = true) (ws : List Jvm.Cond) (a1 : Addr) (ka : ClassId) (vs : List Value) (x : Int32) (y : Int32) (vf : Value) (h0 : Heap) (n0 : Nat) (hn : n0 ≤ h0.size) (V_a1 : Arl Z h0 a1 ka .byte vs) (hl : vs.length = 8) (hx : vs[2]? = some (.int x)) (hy : vs[3]? = some (.int y)) (S_F : Sta Z h0 "jdk/internal/util/Preconditions" "SIOOBE_FORMATTER" "Ljava/util/function/BiFunction;" vf) (S_A : Sta Z h0 "java/lang/StringUTF16" "$assertionsDisabled" "Z" (.int (1 : Int32))) (S_H : Sta Z h0 "java/lang/StringUTF16" "HI_BYTE_SHIFT" "I" (.int (0 : Int32))) (S_L : Sta Z h0 "java/lang/StringUTF16" "LO_BYTE_SHIFT" "I" (.int (8 : Int32))) (hvf : vf.isRef = true) :
    Met false l Z (⟨"java/lang/StringUTF16", "charAt", "([BI)C"⟩ : MethodName) jdk_52_method_83_code 2 (some .char) ({ frames := 3, cells := 0, slots := 0, locals := 40 } : Room) ws #[(.ref a1), (.int (1 : Int32))] h0 n0 (Pur (.int (nar .char (own_gc x y))) h0) := by
  refine Met.of pn_19 (fun m => ef_rmUC1 m a1) ?_
  refine Own.iloadN d19_0 rfl ?_
  refine Own.aloadN d19_1 rfl rfl ?_
  refine Own.callS0 [(.int (1 : Int32)), (.ref a1)] [] 0 (rmUI1 l Z a0 hw [] a1 ka vs vf h0 n0 hn V_a1 hl S_F hvf) (hw _ (List.mem_of_getElem? (i := 85) rfl)) (hw _ (List.mem_of_getElem? (i := 86) rfl)) (hw _ (List.mem_of_getElem? (i := 24) rfl)) (hw _ (List.mem_of_getElem? (i := 87) rfl)) (by decide) d19_2 pd_7 rfl rfl rfl rfl (by decide) (by decide) (by decide) (by decide) ?_
  refine Own.aloadN d19_5 rfl rfl ?_
  refine Own.iloadN d19_6 rfl ?_
  refine Own.callSP [(.ref a1), (.int (1 : Int32))] [] 0 (rmGet1 l Z a0 hw [] a1 ka vs x y h0 n0 hn V_a1 hx hy S_A S_H S_L) (hw _ (List.mem_of_getElem? (i := 79) rfl)) (hw _ (List.mem_of_getElem? (i := 80) rfl)) (hw _ (List.mem_of_getElem? (i := 24) rfl)) (hw _ (List.mem_of_getElem? (i := 81) rfl)) (by decide) d19_7 pd_12 rfl rfl rfl rfl (by decide) (by decide) (by decide) (by decide) ?_
  refine Own.ret_nar (t := .char) (by simp) rfl d19_10 (by decide) (by decide) ?_
  exact ⟨rfl, rfl⟩
theorem ef_rmCA1_0 (m : MethodId) (a1 : Addr)  : entryFrame m #[(.ref a1), (.int (1 : Int32))] 2 = mkF m 0 #[.val (.ref a1), .val (.int (1 : Int32))] [] := by first | (simp [entryFrame, mkF, argsToLocals, Value.category]; done) | rfl
set_option maxRecDepth 65536 in
set_option maxHeartbeats 40000000 in
theorem rmCA1_0 (l : Launch) (Z : State) (a0 : Array Value) (hw : ∀ d ∈ tables_1, d.before a0 Z = true) (ws : List Jvm.Cond) (a1 : Addr) (b : Addr) (kb : ClassId) (zc : Int32) (vf : Value) (c0 : Int32) (c1 : Int32) (c2 : Int32) (c3 : Int32) (h0 : Heap) (n0 : Nat) (hn : n0 ≤ h0.size) (X_a1 : Exa Z h0 a1 "java/lang/String") (F_v : Fld Z h0 a1 "java/lang/String" "value" "[B" (.ref b)) (F_c : Fld Z h0 a1 "java/lang/String" "coder" "B" (.int (0 : Int32))) (V_b : Arl Z h0 b kb .byte [(.int (nar .byte (c0.toInt8.toInt32))), (.int (nar .byte (c1.toInt8.toInt32))), (.int (nar .byte (c2.toInt8.toInt32))), (.int (nar .byte (c3.toInt8.toInt32)))]) (S_C : Sta Z h0 "java/lang/String" "COMPACT_STRINGS" "Z" (.int zc)) (S_F : Sta Z h0 "jdk/internal/util/Preconditions" "SIOOBE_FORMATTER" "Ljava/util/function/BiFunction;" vf) (S_A : Sta Z h0 "java/lang/StringUTF16" "$assertionsDisabled" "Z" (.int (1 : Int32))) (S_H : Sta Z h0 "java/lang/StringUTF16" "HI_BYTE_SHIFT" "I" (.int (0 : Int32))) (S_L : Sta Z h0 "java/lang/StringUTF16" "LO_BYTE_SHIFT" "I" (.int (8 : Int32))) (hz : ¬ zc = 0) (hvf : vf.isRef = true) (hr1 : 0 ≤ c1.toInt ∧ c1.toInt < 65536) (hlat : ¬ (255 : Int32) < c1) :
    Met false l Z (⟨"java/lang/String", "charAt", "(I)C"⟩ : MethodName) jdk_42_method_56_code 2 (some .char) ({ frames := 4, cells := 0, slots := 0, locals := 60 } : Room) ws #[(.ref a1), (.int (1 : Int32))] h0 n0 (Pur (.int c1) h0) := by
  refine Met.of pn_9 (fun m => ef_rmCA1_0 m a1) ?_
  refine Own.aloadN d9_0 rfl rfl ?_
  refine Own.callVP a1 [] [] 0 (rmIL0 l Z a0 hw [] a1 zc h0 n0 hn F_c S_C hz) (hw _ (List.mem_of_getElem? (i := 46) rfl)) (hw _ (List.mem_of_getElem? (i := 47) rfl)) (fun s hZ => notFace_of_selects (args := #[]) (mvT hZ (hw _ (List.mem_of_getElem? (i := 49) rfl)))) (hw _ (List.mem_of_getElem? (i := 49) rfl)) (hw _ (List.mem_of_getElem? (i := 48) rfl)) (hw _ (List.mem_of_getElem? (i := 10) rfl)) (hw _ (List.mem_of_getElem? (i := 50) rfl)) (by decide) X_a1 d9_1 pd_1 rfl rfl rfl rfl (by decide) (by decide) (by decide) (by decide) ?_
  refine Own.if_eq 16 d9_4 (by decide) rfl (fun q => absurd q (by decide)) (fun _ => ?_)
  refine Own.aloadN d9_7 rfl rfl ?_
  refine Own.getF_ (host := "") (Or.inl (hw _ (List.mem_of_getElem? (i := 35) rfl))) Via.refl F_v d9_8 ?_
  refine Own.iloadN d9_11 rfl ?_
  refine Own.callSP [(.ref b), (.int (1 : Int32))] [] 0 (rmLC1 l Z a0 hw [] b kb _ (nar .byte (c1.toInt8.toInt32)) vf h0 n0 hn V_b rfl rfl S_F hvf) (hw _ (List.mem_of_getElem? (i := 51) rfl)) (hw _ (List.mem_of_getElem? (i := 52) rfl)) (hw _ (List.mem_of_getElem? (i := 53) rfl)) (hw _ (List.mem_of_getElem? (i := 54) rfl)) (by decide) d9_12 pd_12 rfl rfl rfl rfl (by decide) (by decide) (by decide) (by decide) ?_
  refine Own.ret_nar (t := .char) (by simp) rfl d9_15 (by decide) (by decide) ?_
  exact ⟨congrArg (fun z => some (Value.int z)) (by rw [own_lcv hr1.1 hlat, own_ncv hr1.1 hr1.2]), rfl⟩
theorem ef_rmCA1_1 (m : MethodId) (a1 : Addr)  : entryFrame m #[(.ref a1), (.int (1 : Int32))] 2 = mkF m 0 #[.val (.ref a1), .val (.int (1 : Int32))] [] := by first | (simp [entryFrame, mkF, argsToLocals, Value.category]; done) | rfl
set_option maxRecDepth 65536 in
set_option maxHeartbeats 40000000 in
theorem rmCA1_1 (l : Launch) (Z : State) (a0 : Array Value) (hw : ∀ d ∈ tables_1, d.before a0 Z = true) (ws : List Jvm.Cond) (a1 : Addr) (b : Addr) (kb : ClassId) (zc : Int32) (vf : Value) (c0 : Int32) (c1 : Int32) (c2 : Int32) (c3 : Int32) (h0 : Heap) (n0 : Nat) (hn : n0 ≤ h0.size) (X_a1 : Exa Z h0 a1 "java/lang/String") (F_v : Fld Z h0 a1 "java/lang/String" "value" "[B" (.ref b)) (F_c : Fld Z h0 a1 "java/lang/String" "coder" "B" (.int (1 : Int32))) (V_b : Arl Z h0 b kb .byte [(.int (own_b0 c0)), (.int (own_b1 c0)), (.int (own_b0 c1)), (.int (own_b1 c1)), (.int (own_b0 c2)), (.int (own_b1 c2)), (.int (own_b0 c3)), (.int (own_b1 c3))]) (S_C : Sta Z h0 "java/lang/String" "COMPACT_STRINGS" "Z" (.int zc)) (S_F : Sta Z h0 "jdk/internal/util/Preconditions" "SIOOBE_FORMATTER" "Ljava/util/function/BiFunction;" vf) (S_A : Sta Z h0 "java/lang/StringUTF16" "$assertionsDisabled" "Z" (.int (1 : Int32))) (S_H : Sta Z h0 "java/lang/StringUTF16" "HI_BYTE_SHIFT" "I" (.int (0 : Int32))) (S_L : Sta Z h0 "java/lang/StringUTF16" "LO_BYTE_SHIFT" "I" (.int (8 : Int32))) (hz : ¬ zc = 0) (hvf : vf.isRef = true) (hr1 : 0 ≤ c1.toInt ∧ c1.toInt < 65536) :
    Met false l Z (⟨"java/lang/String", "charAt", "(I)C"⟩ : MethodName) jdk_42_method_56_code 2 (some .char) ({ frames := 4, cells := 0, slots := 0, locals := 60 } : Room) ws #[(.ref a1), (.int (1 : Int32))] h0 n0 (Pur (.int c1) h0) := by
  refine Met.of pn_9 (fun m => ef_rmCA1_1 m a1) ?_
  refine Own.aloadN d9_0 rfl rfl ?_
  refine Own.callVP a1 [] [] 0 (rmIL1 l Z a0 hw [] a1 zc h0 n0 hn F_c S_C hz) (hw _ (List.mem_of_getElem? (i := 46) rfl)) (hw _ (List.mem_of_getElem? (i := 47) rfl)) (fun s hZ => notFace_of_selects (args := #[]) (mvT hZ (hw _ (List.mem_of_getElem? (i := 49) rfl)))) (hw _ (List.mem_of_getElem? (i := 49) rfl)) (hw _ (List.mem_of_getElem? (i := 48) rfl)) (hw _ (List.mem_of_getElem? (i := 10) rfl)) (hw _ (List.mem_of_getElem? (i := 50) rfl)) (by decide) X_a1 d9_1 pd_1 rfl rfl rfl rfl (by decide) (by decide) (by decide) (by decide) ?_
  refine Own.if_eq 16 d9_4 (by decide) rfl (fun _ => ?_) (fun q => absurd (by decide) q)
  refine Own.aloadN d9_16 rfl rfl ?_
  refine Own.getF_ (host := "") (Or.inl (hw _ (List.mem_of_getElem? (i := 35) rfl))) Via.refl F_v d9_17 ?_
  refine Own.iloadN d9_20 rfl ?_
  refine Own.callSP [(.ref b), (.int (1 : Int32))] [] 0 (rmUC1 l Z a0 hw [] b kb _ (own_b0 c1) (own_b1 c1) vf h0 n0 hn V_b rfl rfl rfl S_F S_A S_H S_L hvf) (hw _ (List.mem_of_getElem? (i := 82) rfl)) (hw _ (List.mem_of_getElem? (i := 83) rfl)) (hw _ (List.mem_of_getElem? (i := 24) rfl)) (hw _ (List.mem_of_getElem? (i := 84) rfl)) (by decide) d9_21 pd_12 rfl rfl rfl rfl (by decide) (by decide) (by decide) (by decide) ?_
  refine Own.ret_nar (t := .char) (by simp) rfl d9_24 (by decide) (by decide) ?_
  exact ⟨congrArg (fun z => some (Value.int z)) (by rw [own_gcv hr1.1 hr1.2, own_ncv hr1.1 hr1.2, own_ncv hr1.1 hr1.2]), rfl⟩
theorem rmCA1 (l : Launch) (Z : State) (a0 : Array Value) (hw : ∀ d ∈ tables_1, d.before a0 Z = true) (ws : List Jvm.Cond) (a1 b : Addr) (kb : ClassId) (cod : Int32) (bs : List Value) (zc : Int32) (vf : Value) (c0 : Int32) (c1 : Int32) (c2 : Int32) (c3 : Int32) (h0 : Heap) (n0 : Nat) (hn : n0 ≤ h0.size) (X_a1 : Exa Z h0 a1 "java/lang/String") (F_v : Fld Z h0 a1 "java/lang/String" "value" "[B" (.ref b)) (F_c : Fld Z h0 a1 "java/lang/String" "coder" "B" (.int cod)) (V_b : Arl Z h0 b kb .byte bs) (S_C : Sta Z h0 "java/lang/String" "COMPACT_STRINGS" "Z" (.int zc)) (S_F : Sta Z h0 "jdk/internal/util/Preconditions" "SIOOBE_FORMATTER" "Ljava/util/function/BiFunction;" vf) (S_A : Sta Z h0 "java/lang/StringUTF16" "$assertionsDisabled" "Z" (.int (1 : Int32))) (S_H : Sta Z h0 "java/lang/StringUTF16" "HI_BYTE_SHIFT" "I" (.int (0 : Int32))) (S_L : Sta Z h0 "java/lang/StringUTF16" "LO_BYTE_SHIFT" "I" (.int (8 : Int32))) (hz : ¬ zc = 0) (hvf : vf.isRef = true) (hr0 : 0 ≤ c0.toInt ∧ c0.toInt < 65536) (hr1 : 0 ≤ c1.toInt ∧ c1.toInt < 65536) (hr2 : 0 ≤ c2.toInt ∧ c2.toInt < 65536) (hr3 : 0 ≤ c3.toInt ∧ c3.toInt < 65536) (hsp : own_spell cod bs c0 c1 c2 c3) :
    Met false l Z (⟨"java/lang/String", "charAt", "(I)C"⟩ : MethodName) jdk_42_method_56_code 2 (some .char) ({ frames := 4, cells := 0, slots := 0, locals := 60 } : Room) ws #[(.ref a1), (.int (1 : Int32))] h0 n0 (Pur (.int c1) h0) := by
  rcases hsp with ⟨rfl, rfl, q0, q1, q2, q3⟩ | ⟨rfl, rfl⟩
  · exact rmCA1_0 l Z a0 hw ws a1 b kb zc vf c0 c1 c2 c3 h0 n0 hn X_a1 F_v F_c V_b S_C S_F S_A S_H S_L hz hvf hr1 q1
  · exact rmCA1_1 l Z a0 hw ws a1 b kb zc vf c0 c1 c2 c3 h0 n0 hn X_a1 F_v F_c V_b S_C S_F S_A S_H S_L hz hvf hr1
theorem ef_rmPIc_2_4 (m : MethodId) (vf : Value) (hr_2 : (vf).isRef = true) : entryFrame m #[(.int (2 : Int32)), (.int (4 : Int32)), vf] 3 = mkF m 0 #[.val (.int (2 : Int32)), .val (.int (4 : Int32)), .val vf] [] := by rcases ref_cases hr_2 with rfl | ⟨z2, rfl⟩ <;> first | (simp [entryFrame, mkF, argsToLocals, Value.category]; done) | rfl
set_option maxRecDepth 65536 in
set_option maxHeartbeats 40000000 in
theorem rmPIc_2_4 (l : Launch) (Z : State) (a0 : Array Value) (hw : ∀ d ∈ tables_1, d.before a0 Z = true) (ws : List Jvm.Cond) (vf : Value) (h0 : Heap) (n0 : Nat) (hn : n0 ≤ h0.size) (hvf : vf.isRef = true) :
    Met false l Z (⟨"jdk/internal/util/Preconditions", "checkIndex", "(IILjava/util/function/BiFunction;)I"⟩ : MethodName) jdk_41_method_11_code 3 (some .int) ({ frames := 0, cells := 0, slots := 0, locals := 0 } : Room) ws #[(.int (2 : Int32)), (.int (4 : Int32)), vf] h0 n0 (Pur (.int (2 : Int32)) h0) := by
  refine Met.of pn_13 (fun m => ef_rmPIc_2_4 m vf hvf) ?_
  refine Own.iloadN d13_0 rfl ?_
  refine Own.if_lt 9 d13_1 (by decide) rfl (fun q => absurd q (by decide)) (fun _ => ?_)
  refine Own.iloadN d13_4 rfl ?_
  refine Own.iloadN d13_5 rfl ?_
  refine Own.icmp_lt 16 d13_6 (by decide) rfl (fun _ => ?_) (fun q => absurd (by decide) q)
  refine Own.iloadN d13_16 rfl ?_
  refine Own.ret_int rfl d13_17 (by decide) (by decide) ?_
  exact ⟨rfl, rfl⟩
theorem ef_rmSIc_2_4 (m : MethodId)   : entryFrame m #[(.int (2 : Int32)), (.int (4 : Int32))] 2 = mkF m 0 #[.val (.int (2 : Int32)), .val (.int (4 : Int32))] [] := by first | (simp [entryFrame, mkF, argsToLocals, Value.category]; done) | rfl
set_option maxRecDepth 65536 in
set_option maxHeartbeats 40000000 in
theorem rmSIc_2_4 (l : Launch) (Z : State) (a0 : Array Value) (hw : ∀ d ∈ tables_1, d.before a0 Z = true) (ws : List Jvm.Cond) (vf : Value) (h0 : Heap) (n0 : Nat) (hn : n0 ≤ h0.size) (S_F : Sta Z h0 "jdk/internal/util/Preconditions" "SIOOBE_FORMATTER" "Ljava/util/function/BiFunction;" vf) (hvf : vf.isRef = true) :
    Met false l Z (⟨"java/lang/String", "checkIndex", "(II)V"⟩ : MethodName) jdk_42_method_155_code 2 none ({ frames := 1, cells := 0, slots := 0, locals := 14 } : Room) ws #[(.int (2 : Int32)), (.int (4 : Int32))] h0 n0 (Pur0 h0) := by
  refine Met.of pn_12 (fun m => ef_rmSIc_2_4 m ) ?_
  refine Own.iloadN d12_0 rfl ?_
  refine Own.iloadN d12_1 rfl ?_
  refine Own.getS_ (host := "") (Or.inl (hw _ (List.mem_of_getElem? (i := 58) rfl))) Via.refl S_F d12_2 ?_
  refine Own.callSP [(.int (2 : Int32)), (.int (4 : Int32)), vf] [] 0 (rmPIc_2_4 l Z a0 hw [] vf h0 n0 hn hvf) (hw _ (List.mem_of_getElem? (i := 60) rfl)) (hw _ (List.mem_of_getElem? (i := 61) rfl)) (hw _ (List.mem_of_getElem? (i := 59) rfl)) (hw _ (List.mem_of_getElem? (i := 62) rfl)) (by decide) d12_5 pd_6 rfl rfl rfl rfl (by decide) (by decide) (by decide) (by decide) ?_
  refine Own.pop d12_8 rfl ?_
  refine Own.ret_void rfl d12_9 (by decide) (by decide) ?_
  exact ⟨rfl, rfl⟩
theorem ef_rmLC2 (m : MethodId) (a1 : Addr)  : entryFrame m #[(.ref a1), (.int (2 : Int32))] 2 = mkF m 0 #[.val (.ref a1), .val (.int (2 : Int32))] [] := by first | (simp [entryFrame, mkF, argsToLocals, Value.category]; done) | rfl
set_option maxRecDepth 65536 in
set_option maxHeartbeats 40000000 in
theorem rmLC2 (l : Launch) (Z : State) (a0 : Array Value) (hw : ∀ d ∈ tables_1, d.before a0 Z = true) (ws : List Jvm.Cond) (a1 : Addr) (ka : ClassId) (vs : List Value) (x : Int32) (vf : Value) (h0 : Heap) (n0 : Nat) (hn : n0 ≤ h0.size) (V_a1 : Arl Z h0 a1 ka .byte vs) (hl : vs.length = 4) (hx : vs[2]? = some (.int x)) (S_F : Sta Z h0 "jdk/internal/util/Preconditions" "SIOOBE_FORMATTER" "Ljava/util/function/BiFunction;" vf) (hvf : vf.isRef = true) :
    Met false l Z (⟨"java/lang/StringLatin1", "charAt", "([BI)C"⟩ : MethodName) jdk_43_method_2_code 2 (some .char) ({ frames := 2, cells := 0, slots := 0, locals := 27 } : Room) ws #[(.ref a1), (.int (2 : Int32))] h0 n0 (Pur (.int (own_lc x)) h0) := by
  refine Met.of pn_11 (fun m => ef_rmLC2 m a1) ?_
  refine Own.iloadN d11_0 rfl ?_
  refine Own.aloadN d11_1 rfl rfl ?_
  refine Own.arraylength_ (4 : Int32) V_a1 (by rw [hl]; rfl) d11_2 ?_
  refine Own.callS0 [(.int (2 : Int32)), (.int (4 : Int32))] [] 0 (rmSIc_2_4 l Z a0 hw [] vf h0 n0 hn S_F hvf) (hw _ (List.mem_of_getElem? (i := 55) rfl)) (hw _ (List.mem_of_getElem? (i := 56) rfl)) (hw _ (List.mem_of_getElem? (i := 10) rfl)) (hw _ (List.mem_of_getElem? (i := 57) rfl)) (by decide) d11_3 pd_5 rfl rfl rfl rfl (by decide) (by decide) (by decide) (by decide) ?_
  refine Own.aloadN d11_6 rfl rfl ?_
  refine Own.iloadN d11_7 rfl ?_
  refine Own.baload_ V_a1 (i := 2) rfl (v := (.int x)) hx d11_8 ?_
  refine Own.sipush (255 : Int32) d11_9 rfl ?_
  refine Own.iand d11_12 ?_
  refine Own.i2c d11_13 ?_
  refine Own.ret_nar (t := .char) (by simp) rfl d11_14 (by decide) (by decide) ?_
  exact ⟨rfl, rfl⟩
theorem ef_rmUI2 (m : MethodId) (a2 : Addr)  : entryFrame m #[(.int (2 : Int32)), (.ref a2)] 2 = mkF m 0 #[.val (.int (2 : Int32)), .val (.ref a2)] [] := by first | (simp [entryFrame, mkF, argsToLocals, Value.category]; done) | rfl
set_option maxRecDepth 65536 in
set_option maxHeartbeats 40000000 in
theorem rmUI2 (l : Launch) (Z : State) (a0 : Array Value) (hw : ∀ d ∈ tables_1, d.before a0 Z = true) (ws : List Jvm.Cond) (a2 : Addr) (ka : ClassId) (vs : List Value) (vf : Value) (h0 : Heap) (n0 : Nat) (hn : n0 ≤ h0.size) (V_a2 : Arl Z h0 a2 ka .byte vs) (hl : vs.length = 8) (S_F : Sta Z h0 "jdk/internal/util/Preconditions" "SIOOBE_FORMATTER" "Ljava/util/function/BiFunction;" vf) (hvf : vf.isRef = true) :
    Met false l Z (⟨"java/lang/StringUTF16", "checkIndex", "(I[B)V"⟩ : MethodName) jdk_52_method_91_code 2 none ({ frames := 2, cells := 0, slots := 0, locals := 27 } : Room) ws #[(.int (2 : Int32)), (.ref a2)] h0 n0 (Pur0 h0) := by
  refine Met.of pn_20 (fun m => ef_rmUI2 m a2) ?_
  refine Own.iloadN d20_0 rfl ?_
  refine Own.aloadN d20_1 rfl rfl ?_
  refine Own.callSP [(.ref a2)] [(.int (2 : Int32))] 1 (rmULen l Z a0 hw [] a2 ka vs h0 n0 hn V_a2 hl) (hw _ (List.mem_of_getElem? (i := 88) rfl)) (hw _ (List.mem_of_getElem? (i := 89) rfl)) (hw _ (List.mem_of_getElem? (i := 24) rfl)) (hw _ (List.mem_of_getElem? (i := 90) rfl)) (by decide) d20_2 pd_10 rfl rfl rfl rfl (by decide) (by decide) (by decide) (by decide) ?_
  refine Own.callS0 [(.int (2 : Int32)), (.int (4 : Int32))] [] 0 (rmSIc_2_4 l Z a0 hw [] vf h0 n0 hn S_F hvf) (hw _ (List.mem_of_getElem? (i := 91) rfl)) (hw _ (List.mem_of_getElem? (i := 56) rfl)) (hw _ (List.mem_of_getElem? (i := 10) rfl)) (hw _ (List.mem_of_getElem? (i := 57) rfl)) (by decide) d20_5 pd_5 rfl rfl rfl rfl (by decide) (by decide) (by decide) (by decide) ?_
  refine Own.ret_void rfl d20_8 (by decide) (by decide) ?_
  exact ⟨rfl, rfl⟩
theorem ef_rmUC2 (m : MethodId) (a1 : Addr)  : entryFrame m #[(.ref a1), (.int (2 : Int32))] 2 = mkF m 0 #[.val (.ref a1), .val (.int (2 : Int32))] [] := by first | (simp [entryFrame, mkF, argsToLocals, Value.category]; done) | rfl
set_option maxRecDepth 65536 in
set_option maxHeartbeats 40000000 in
theorem rmUC2 (l : Launch) (Z : State) (a0 : Array Value) (hw : ∀ d ∈ tables_1, d.before a0 Z = true) (ws : List Jvm.Cond) (a1 : Addr) (ka : ClassId) (vs : List Value) (x : Int32) (y : Int32) (vf : Value) (h0 : Heap) (n0 : Nat) (hn : n0 ≤ h0.size) (V_a1 : Arl Z h0 a1 ka .byte vs) (hl : vs.length = 8) (hx : vs[4]? = some (.int x)) (hy : vs[5]? = some (.int y)) (S_F : Sta Z h0 "jdk/internal/util/Preconditions" "SIOOBE_FORMATTER" "Ljava/util/function/BiFunction;" vf) (S_A : Sta Z h0 "java/lang/StringUTF16" "$assertionsDisabled" "Z" (.int (1 : Int32))) (S_H : Sta Z h0 "java/lang/StringUTF16" "HI_BYTE_SHIFT" "I" (.int (0 : Int32))) (S_L : Sta Z h0 "java/lang/StringUTF16" "LO_BYTE_SHIFT" "I" (.int (8 : Int32))) (hvf : vf.isRef = true) :
    Met false l Z (⟨"java/lang/StringUTF16", "charAt", "([BI)C"⟩ : MethodName) jdk_52_method_83_code 2 (some .char) ({ frames := 3, cells := 0, slots := 0, locals := 40 } : Room) ws #[(.ref a1), (.int (2 : Int32))] h0 n0 (Pur (.int (nar .char (own_gc x y))) h0) := by
  refine Met.of pn_19 (fun m => ef_rmUC2 m a1) ?_
  refine Own.iloadN d19_0 rfl ?_
  refine Own.aloadN d19_1 rfl rfl ?_
  refine Own.callS0 [(.int (2 : Int32)), (.ref a1)] [] 0 (rmUI2 l Z a0 hw [] a1 ka vs vf h0 n0 hn V_a1 hl S_F hvf) (hw _ (List.mem_of_getElem? (i := 85) rfl)) (hw _ (List.mem_of_getElem? (i := 86) rfl)) (hw _ (List.mem_of_getElem? (i := 24) rfl)) (hw _ (List.mem_of_getElem? (i := 87) rfl)) (by decide) d19_2 pd_7 rfl rfl rfl rfl (by decide) (by decide) (by decide) (by decide) ?_
  refine Own.aloadN d19_5 rfl rfl ?_
  refine Own.iloadN d19_6 rfl ?_
  refine Own.callSP [(.ref a1), (.int (2 : Int32))] [] 0 (rmGet2 l Z a0 hw [] a1 ka vs x y h0 n0 hn V_a1 hx hy S_A S_H S_L) (hw _ (List.mem_of_getElem? (i := 79) rfl)) (hw _ (List.mem_of_getElem? (i := 80) rfl)) (hw _ (List.mem_of_getElem? (i := 24) rfl)) (hw _ (List.mem_of_getElem? (i := 81) rfl)) (by decide) d19_7 pd_12 rfl rfl rfl rfl (by decide) (by decide) (by decide) (by decide) ?_
  refine Own.ret_nar (t := .char) (by simp) rfl d19_10 (by decide) (by decide) ?_
  exact ⟨rfl, rfl⟩
theorem ef_rmCA2_0 (m : MethodId) (a1 : Addr)  : entryFrame m #[(.ref a1), (.int (2 : Int32))] 2 = mkF m 0 #[.val (.ref a1), .val (.int (2 : Int32))] [] := by first | (simp [entryFrame, mkF, argsToLocals, Value.category]; done) | rfl
set_option maxRecDepth 65536 in
set_option maxHeartbeats 40000000 in
theorem rmCA2_0 (l : Launch) (Z : State) (a0 : Array Value) (hw : ∀ d ∈ tables_1, d.before a0 Z = true) (ws : List Jvm.Cond) (a1 : Addr) (b : Addr) (kb : ClassId) (zc : Int32) (vf : Value) (c0 : Int32) (c1 : Int32) (c2 : Int32) (c3 : Int32) (h0 : Heap) (n0 : Nat) (hn : n0 ≤ h0.size) (X_a1 : Exa Z h0 a1 "java/lang/String") (F_v : Fld Z h0 a1 "java/lang/String" "value" "[B" (.ref b)) (F_c : Fld Z h0 a1 "java/lang/String" "coder" "B" (.int (0 : Int32))) (V_b : Arl Z h0 b kb .byte [(.int (nar .byte (c0.toInt8.toInt32))), (.int (nar .byte (c1.toInt8.toInt32))), (.int (nar .byte (c2.toInt8.toInt32))), (.int (nar .byte (c3.toInt8.toInt32)))]) (S_C : Sta Z h0 "java/lang/String" "COMPACT_STRINGS" "Z" (.int zc)) (S_F : Sta Z h0 "jdk/internal/util/Preconditions" "SIOOBE_FORMATTER" "Ljava/util/function/BiFunction;" vf) (S_A : Sta Z h0 "java/lang/StringUTF16" "$assertionsDisabled" "Z" (.int (1 : Int32))) (S_H : Sta Z h0 "java/lang/StringUTF16" "HI_BYTE_SHIFT" "I" (.int (0 : Int32))) (S_L : Sta Z h0 "java/lang/StringUTF16" "LO_BYTE_SHIFT" "I" (.int (8 : Int32))) (hz : ¬ zc = 0) (hvf : vf.isRef = true) (hr2 : 0 ≤ c2.toInt ∧ c2.toInt < 65536) (hlat : ¬ (255 : Int32) < c2) :
    Met false l Z (⟨"java/lang/String", "charAt", "(I)C"⟩ : MethodName) jdk_42_method_56_code 2 (some .char) ({ frames := 4, cells := 0, slots := 0, locals := 60 } : Room) ws #[(.ref a1), (.int (2 : Int32))] h0 n0 (Pur (.int c2) h0) := by
  refine Met.of pn_9 (fun m => ef_rmCA2_0 m a1) ?_
  refine Own.aloadN d9_0 rfl rfl ?_
  refine Own.callVP a1 [] [] 0 (rmIL0 l Z a0 hw [] a1 zc h0 n0 hn F_c S_C hz) (hw _ (List.mem_of_getElem? (i := 46) rfl)) (hw _ (List.mem_of_getElem? (i := 47) rfl)) (fun s hZ => notFace_of_selects (args := #[]) (mvT hZ (hw _ (List.mem_of_getElem? (i := 49) rfl)))) (hw _ (List.mem_of_getElem? (i := 49) rfl)) (hw _ (List.mem_of_getElem? (i := 48) rfl)) (hw _ (List.mem_of_getElem? (i := 10) rfl)) (hw _ (List.mem_of_getElem? (i := 50) rfl)) (by decide) X_a1 d9_1 pd_1 rfl rfl rfl rfl (by decide) (by decide) (by decide) (by decide) ?_
  refine Own.if_eq 16 d9_4 (by decide) rfl (fun q => absurd q (by decide)) (fun _ => ?_)
  refine Own.aloadN d9_7 rfl rfl ?_
  refine Own.getF_ (host := "") (Or.inl (hw _ (List.mem_of_getElem? (i := 35) rfl))) Via.refl F_v d9_8 ?_
  refine Own.iloadN d9_11 rfl ?_
  refine Own.callSP [(.ref b), (.int (2 : Int32))] [] 0 (rmLC2 l Z a0 hw [] b kb _ (nar .byte (c2.toInt8.toInt32)) vf h0 n0 hn V_b rfl rfl S_F hvf) (hw _ (List.mem_of_getElem? (i := 51) rfl)) (hw _ (List.mem_of_getElem? (i := 52) rfl)) (hw _ (List.mem_of_getElem? (i := 53) rfl)) (hw _ (List.mem_of_getElem? (i := 54) rfl)) (by decide) d9_12 pd_12 rfl rfl rfl rfl (by decide) (by decide) (by decide) (by decide) ?_
  refine Own.ret_nar (t := .char) (by simp) rfl d9_15 (by decide) (by decide) ?_
  exact ⟨congrArg (fun z => some (Value.int z)) (by rw [own_lcv hr2.1 hlat, own_ncv hr2.1 hr2.2]), rfl⟩
theorem ef_rmCA2_1 (m : MethodId) (a1 : Addr)  : entryFrame m #[(.ref a1), (.int (2 : Int32))] 2 = mkF m 0 #[.val (.ref a1), .val (.int (2 : Int32))] [] := by first | (simp [entryFrame, mkF, argsToLocals, Value.category]; done) | rfl
set_option maxRecDepth 65536 in
set_option maxHeartbeats 40000000 in
theorem rmCA2_1 (l : Launch) (Z : State) (a0 : Array Value) (hw : ∀ d ∈ tables_1, d.before a0 Z = true) (ws : List Jvm.Cond) (a1 : Addr) (b : Addr) (kb : ClassId) (zc : Int32) (vf : Value) (c0 : Int32) (c1 : Int32) (c2 : Int32) (c3 : Int32) (h0 : Heap) (n0 : Nat) (hn : n0 ≤ h0.size) (X_a1 : Exa Z h0 a1 "java/lang/String") (F_v : Fld Z h0 a1 "java/lang/String" "value" "[B" (.ref b)) (F_c : Fld Z h0 a1 "java/lang/String" "coder" "B" (.int (1 : Int32))) (V_b : Arl Z h0 b kb .byte [(.int (own_b0 c0)), (.int (own_b1 c0)), (.int (own_b0 c1)), (.int (own_b1 c1)), (.int (own_b0 c2)), (.int (own_b1 c2)), (.int (own_b0 c3)), (.int (own_b1 c3))]) (S_C : Sta Z h0 "java/lang/String" "COMPACT_STRINGS" "Z" (.int zc)) (S_F : Sta Z h0 "jdk/internal/util/Preconditions" "SIOOBE_FORMATTER" "Ljava/util/function/BiFunction;" vf) (S_A : Sta Z h0 "java/lang/StringUTF16" "$assertionsDisabled" "Z" (.int (1 : Int32))) (S_H : Sta Z h0 "java/lang/StringUTF16" "HI_BYTE_SHIFT" "I" (.int (0 : Int32))) (S_L : Sta Z h0 "java/lang/StringUTF16" "LO_BYTE_SHIFT" "I" (.int (8 : Int32))) (hz : ¬ zc = 0) (hvf : vf.isRef = true) (hr2 : 0 ≤ c2.toInt ∧ c2.toInt < 65536) :
    Met false l Z (⟨"java/lang/String", "charAt", "(I)C"⟩ : MethodName) jdk_42_method_56_code 2 (some .char) ({ frames := 4, cells := 0, slots := 0, locals := 60 } : Room) ws #[(.ref a1), (.int (2 : Int32))] h0 n0 (Pur (.int c2) h0) := by
  refine Met.of pn_9 (fun m => ef_rmCA2_1 m a1) ?_
  refine Own.aloadN d9_0 rfl rfl ?_
  refine Own.callVP a1 [] [] 0 (rmIL1 l Z a0 hw [] a1 zc h0 n0 hn F_c S_C hz) (hw _ (List.mem_of_getElem? (i := 46) rfl)) (hw _ (List.mem_of_getElem? (i := 47) rfl)) (fun s hZ => notFace_of_selects (args := #[]) (mvT hZ (hw _ (List.mem_of_getElem? (i := 49) rfl)))) (hw _ (List.mem_of_getElem? (i := 49) rfl)) (hw _ (List.mem_of_getElem? (i := 48) rfl)) (hw _ (List.mem_of_getElem? (i := 10) rfl)) (hw _ (List.mem_of_getElem? (i := 50) rfl)) (by decide) X_a1 d9_1 pd_1 rfl rfl rfl rfl (by decide) (by decide) (by decide) (by decide) ?_
  refine Own.if_eq 16 d9_4 (by decide) rfl (fun _ => ?_) (fun q => absurd (by decide) q)
  refine Own.aloadN d9_16 rfl rfl ?_
  refine Own.getF_ (host := "") (Or.inl (hw _ (List.mem_of_getElem? (i := 35) rfl))) Via.refl F_v d9_17 ?_
  refine Own.iloadN d9_20 rfl ?_
  refine Own.callSP [(.ref b), (.int (2 : Int32))] [] 0 (rmUC2 l Z a0 hw [] b kb _ (own_b0 c2) (own_b1 c2) vf h0 n0 hn V_b rfl rfl rfl S_F S_A S_H S_L hvf) (hw _ (List.mem_of_getElem? (i := 82) rfl)) (hw _ (List.mem_of_getElem? (i := 83) rfl)) (hw _ (List.mem_of_getElem? (i := 24) rfl)) (hw _ (List.mem_of_getElem? (i := 84) rfl)) (by decide) d9_21 pd_12 rfl rfl rfl rfl (by decide) (by decide) (by decide) (by decide) ?_
  refine Own.ret_nar (t := .char) (by simp) rfl d9_24 (by decide) (by decide) ?_
  exact ⟨congrArg (fun z => some (Value.int z)) (by rw [own_gcv hr2.1 hr2.2, own_ncv hr2.1 hr2.2, own_ncv hr2.1 hr2.2]), rfl⟩
theorem rmCA2 (l : Launch) (Z : State) (a0 : Array Value) (hw : ∀ d ∈ tables_1, d.before a0 Z = true) (ws : List Jvm.Cond) (a1 b : Addr) (kb : ClassId) (cod : Int32) (bs : List Value) (zc : Int32) (vf : Value) (c0 : Int32) (c1 : Int32) (c2 : Int32) (c3 : Int32) (h0 : Heap) (n0 : Nat) (hn : n0 ≤ h0.size) (X_a1 : Exa Z h0 a1 "java/lang/String") (F_v : Fld Z h0 a1 "java/lang/String" "value" "[B" (.ref b)) (F_c : Fld Z h0 a1 "java/lang/String" "coder" "B" (.int cod)) (V_b : Arl Z h0 b kb .byte bs) (S_C : Sta Z h0 "java/lang/String" "COMPACT_STRINGS" "Z" (.int zc)) (S_F : Sta Z h0 "jdk/internal/util/Preconditions" "SIOOBE_FORMATTER" "Ljava/util/function/BiFunction;" vf) (S_A : Sta Z h0 "java/lang/StringUTF16" "$assertionsDisabled" "Z" (.int (1 : Int32))) (S_H : Sta Z h0 "java/lang/StringUTF16" "HI_BYTE_SHIFT" "I" (.int (0 : Int32))) (S_L : Sta Z h0 "java/lang/StringUTF16" "LO_BYTE_SHIFT" "I" (.int (8 : Int32))) (hz : ¬ zc = 0) (hvf : vf.isRef = true) (hr0 : 0 ≤ c0.toInt ∧ c0.toInt < 65536) (hr1 : 0 ≤ c1.toInt ∧ c1.toInt < 65536) (hr2 : 0 ≤ c2.toInt ∧ c2.toInt < 65536) (hr3 : 0 ≤ c3.toInt ∧ c3.toInt < 65536) (hsp : own_spell cod bs c0 c1 c2 c3) :
    Met false l Z (⟨"java/lang/String", "charAt", "(I)C"⟩ : MethodName) jdk_42_method_56_code 2 (some .char) ({ frames := 4, cells := 0, slots := 0, locals := 60 } : Room) ws #[(.ref a1), (.int (2 : Int32))] h0 n0 (Pur (.int c2) h0) := by
  rcases hsp with ⟨rfl, rfl, q0, q1, q2, q3⟩ | ⟨rfl, rfl⟩
  · exact rmCA2_0 l Z a0 hw ws a1 b kb zc vf c0 c1 c2 c3 h0 n0 hn X_a1 F_v F_c V_b S_C S_F S_A S_H S_L hz hvf hr2 q2
  · exact rmCA2_1 l Z a0 hw ws a1 b kb zc vf c0 c1 c2 c3 h0 n0 hn X_a1 F_v F_c V_b S_C S_F S_A S_H S_L hz hvf hr2
theorem ef_rmPIc_3_4 (m : MethodId) (vf : Value) (hr_2 : (vf).isRef = true) : entryFrame m #[(.int (3 : Int32)), (.int (4 : Int32)), vf] 3 = mkF m 0 #[.val (.int (3 : Int32)), .val (.int (4 : Int32)), .val vf] [] := by rcases ref_cases hr_2 with rfl | ⟨z2, rfl⟩ <;> first | (simp [entryFrame, mkF, argsToLocals, Value.category]; done) | rfl
set_option maxRecDepth 65536 in
set_option maxHeartbeats 40000000 in
theorem rmPIc_3_4 (l : Launch) (Z : State) (a0 : Array Value) (hw : ∀ d ∈ tables_1, d.before a0 Z = true) (ws : List Jvm.Cond) (vf : Value) (h0 : Heap) (n0 : Nat) (hn : n0 ≤ h0.size) (hvf : vf.isRef = true) :
    Met false l Z (⟨"jdk/internal/util/Preconditions", "checkIndex", "(IILjava/util/function/BiFunction;)I"⟩ : MethodName) jdk_41_method_11_code 3 (some .int) ({ frames := 0, cells := 0, slots := 0, locals := 0 } : Room) ws #[(.int (3 : Int32)), (.int (4 : Int32)), vf] h0 n0 (Pur (.int (3 : Int32)) h0) := by
  refine Met.of pn_13 (fun m => ef_rmPIc_3_4 m vf hvf) ?_
  refine Own.iloadN d13_0 rfl ?_
  refine Own.if_lt 9 d13_1 (by decide) rfl (fun q => absurd q (by decide)) (fun _ => ?_)
  refine Own.iloadN d13_4 rfl ?_
  refine Own.iloadN d13_5 rfl ?_
  refine Own.icmp_lt 16 d13_6 (by decide) rfl (fun _ => ?_) (fun q => absurd (by decide) q)
  refine Own.iloadN d13_16 rfl ?_
  refine Own.ret_int rfl d13_17 (by decide) (by decide) ?_
  exact ⟨rfl, rfl⟩
theorem ef_rmSIc_3_4 (m : MethodId)   : entryFrame m #[(.int (3 : Int32)), (.int (4 : Int32))] 2 = mkF m 0 #[.val (.int (3 : Int32)), .val (.int (4 : Int32))] [] := by first | (simp [entryFrame, mkF, argsToLocals, Value.category]; done) | rfl
set_option maxRecDepth 65536 in
set_option maxHeartbeats 40000000 in
theorem rmSIc_3_4 (l : Launch) (Z : State) (a0 : Array Value) (hw : ∀ d ∈ tables_1, d.before a0 Z = true) (ws : List Jvm.Cond) (vf : Value) (h0 : Heap) (n0 : Nat) (hn : n0 ≤ h0.size) (S_F : Sta Z h0 "jdk/internal/util/Preconditions" "SIOOBE_FORMATTER" "Ljava/util/function/BiFunction;" vf) (hvf : vf.isRef = true) :
    Met false l Z (⟨"java/lang/String", "checkIndex", "(II)V"⟩ : MethodName) jdk_42_method_155_code 2 none ({ frames := 1, cells := 0, slots := 0, locals := 14 } : Room) ws #[(.int (3 : Int32)), (.int (4 : Int32))] h0 n0 (Pur0 h0) := by
  refine Met.of pn_12 (fun m => ef_rmSIc_3_4 m ) ?_
  refine Own.iloadN d12_0 rfl ?_
  refine Own.iloadN d12_1 rfl ?_
  refine Own.getS_ (host := "") (Or.inl (hw _ (List.mem_of_getElem? (i := 58) rfl))) Via.refl S_F d12_2 ?_
  refine Own.callSP [(.int (3 : Int32)), (.int (4 : Int32)), vf] [] 0 (rmPIc_3_4 l Z a0 hw [] vf h0 n0 hn hvf) (hw _ (List.mem_of_getElem? (i := 60) rfl)) (hw _ (List.mem_of_getElem? (i := 61) rfl)) (hw _ (List.mem_of_getElem? (i := 59) rfl)) (hw _ (List.mem_of_getElem? (i := 62) rfl)) (by decide) d12_5 pd_6 rfl rfl rfl rfl (by decide) (by decide) (by decide) (by decide) ?_
  refine Own.pop d12_8 rfl ?_
  refine Own.ret_void rfl d12_9 (by decide) (by decide) ?_
  exact ⟨rfl, rfl⟩
theorem ef_rmLC3 (m : MethodId) (a1 : Addr)  : entryFrame m #[(.ref a1), (.int (3 : Int32))] 2 = mkF m 0 #[.val (.ref a1), .val (.int (3 : Int32))] [] := by first | (simp [entryFrame, mkF, argsToLocals, Value.category]; done) | rfl
set_option maxRecDepth 65536 in
set_option maxHeartbeats 40000000 in
theorem rmLC3 (l : Launch) (Z : State) (a0 : Array Value) (hw : ∀ d ∈ tables_1, d.before a0 Z = true) (ws : List Jvm.Cond) (a1 : Addr) (ka : ClassId) (vs : List Value) (x : Int32) (vf : Value) (h0 : Heap) (n0 : Nat) (hn : n0 ≤ h0.size) (V_a1 : Arl Z h0 a1 ka .byte vs) (hl : vs.length = 4) (hx : vs[3]? = some (.int x)) (S_F : Sta Z h0 "jdk/internal/util/Preconditions" "SIOOBE_FORMATTER" "Ljava/util/function/BiFunction;" vf) (hvf : vf.isRef = true) :
    Met false l Z (⟨"java/lang/StringLatin1", "charAt", "([BI)C"⟩ : MethodName) jdk_43_method_2_code 2 (some .char) ({ frames := 2, cells := 0, slots := 0, locals := 27 } : Room) ws #[(.ref a1), (.int (3 : Int32))] h0 n0 (Pur (.int (own_lc x)) h0) := by
  refine Met.of pn_11 (fun m => ef_rmLC3 m a1) ?_
  refine Own.iloadN d11_0 rfl ?_
  refine Own.aloadN d11_1 rfl rfl ?_
  refine Own.arraylength_ (4 : Int32) V_a1 (by rw [hl]; rfl) d11_2 ?_
  refine Own.callS0 [(.int (3 : Int32)), (.int (4 : Int32))] [] 0 (rmSIc_3_4 l Z a0 hw [] vf h0 n0 hn S_F hvf) (hw _ (List.mem_of_getElem? (i := 55) rfl)) (hw _ (List.mem_of_getElem? (i := 56) rfl)) (hw _ (List.mem_of_getElem? (i := 10) rfl)) (hw _ (List.mem_of_getElem? (i := 57) rfl)) (by decide) d11_3 pd_5 rfl rfl rfl rfl (by decide) (by decide) (by decide) (by decide) ?_
  refine Own.aloadN d11_6 rfl rfl ?_
  refine Own.iloadN d11_7 rfl ?_
  refine Own.baload_ V_a1 (i := 3) rfl (v := (.int x)) hx d11_8 ?_
  refine Own.sipush (255 : Int32) d11_9 rfl ?_
  refine Own.iand d11_12 ?_
  refine Own.i2c d11_13 ?_
  refine Own.ret_nar (t := .char) (by simp) rfl d11_14 (by decide) (by decide) ?_
  exact ⟨rfl, rfl⟩
theorem ef_rmUI3 (m : MethodId) (a2 : Addr)  : entryFrame m #[(.int (3 : Int32)), (.ref a2)] 2 = mkF m 0 #[.val (.int (3 : Int32)), .val (.ref a2)] [] := by first | (simp [entryFrame, mkF, argsToLocals, Value.category]; done) | rfl
set_option maxRecDepth 65536 in
set_option maxHeartbeats 40000000 in
theorem rmUI3 (l : Launch) (Z : State) (a0 : Array Value) (hw : ∀ d ∈ tables_1, d.before a0 Z = true) (ws : List Jvm.Cond) (a2 : Addr) (ka : ClassId) (vs : List Value) (vf : Value) (h0 : Heap) (n0 : Nat) (hn : n0 ≤ h0.size) (V_a2 : Arl Z h0 a2 ka .byte vs) (hl : vs.length = 8) (S_F : Sta Z h0 "jdk/internal/util/Preconditions" "SIOOBE_FORMATTER" "Ljava/util/function/BiFunction;" vf) (hvf : vf.isRef = true) :
    Met false l Z (⟨"java/lang/StringUTF16", "checkIndex", "(I[B)V"⟩ : MethodName) jdk_52_method_91_code 2 none ({ frames := 2, cells := 0, slots := 0, locals := 27 } : Room) ws #[(.int (3 : Int32)), (.ref a2)] h0 n0 (Pur0 h0) := by
  refine Met.of pn_20 (fun m => ef_rmUI3 m a2) ?_
  refine Own.iloadN d20_0 rfl ?_
  refine Own.aloadN d20_1 rfl rfl ?_
  refine Own.callSP [(.ref a2)] [(.int (3 : Int32))] 1 (rmULen l Z a0 hw [] a2 ka vs h0 n0 hn V_a2 hl) (hw _ (List.mem_of_getElem? (i := 88) rfl)) (hw _ (List.mem_of_getElem? (i := 89) rfl)) (hw _ (List.mem_of_getElem? (i := 24) rfl)) (hw _ (List.mem_of_getElem? (i := 90) rfl)) (by decide) d20_2 pd_10 rfl rfl rfl rfl (by decide) (by decide) (by decide) (by decide) ?_
  refine Own.callS0 [(.int (3 : Int32)), (.int (4 : Int32))] [] 0 (rmSIc_3_4 l Z a0 hw [] vf h0 n0 hn S_F hvf) (hw _ (List.mem_of_getElem? (i := 91) rfl)) (hw _ (List.mem_of_getElem? (i := 56) rfl)) (hw _ (List.mem_of_getElem? (i := 10) rfl)) (hw _ (List.mem_of_getElem? (i := 57) rfl)) (by decide) d20_5 pd_5 rfl rfl rfl rfl (by decide) (by decide) (by decide) (by decide) ?_
  refine Own.ret_void rfl d20_8 (by decide) (by decide) ?_
  exact ⟨rfl, rfl⟩
theorem ef_rmUC3 (m : MethodId) (a1 : Addr)  : entryFrame m #[(.ref a1), (.int (3 : Int32))] 2 = mkF m 0 #[.val (.ref a1), .val (.int (3 : Int32))] [] := by first | (simp [entryFrame, mkF, argsToLocals, Value.category]; done) | rfl
set_option maxRecDepth 65536 in
set_option maxHeartbeats 40000000 in
theorem rmUC3 (l : Launch) (Z : State) (a0 : Array Value) (hw : ∀ d ∈ tables_1, d.before a0 Z = true) (ws : List Jvm.Cond) (a1 : Addr) (ka : ClassId) (vs : List Value) (x : Int32) (y : Int32) (vf : Value) (h0 : Heap) (n0 : Nat) (hn : n0 ≤ h0.size) (V_a1 : Arl Z h0 a1 ka .byte vs) (hl : vs.length = 8) (hx : vs[6]? = some (.int x)) (hy : vs[7]? = some (.int y)) (S_F : Sta Z h0 "jdk/internal/util/Preconditions" "SIOOBE_FORMATTER" "Ljava/util/function/BiFunction;" vf) (S_A : Sta Z h0 "java/lang/StringUTF16" "$assertionsDisabled" "Z" (.int (1 : Int32))) (S_H : Sta Z h0 "java/lang/StringUTF16" "HI_BYTE_SHIFT" "I" (.int (0 : Int32))) (S_L : Sta Z h0 "java/lang/StringUTF16" "LO_BYTE_SHIFT" "I" (.int (8 : Int32))) (hvf : vf.isRef = true) :
    Met false l Z (⟨"java/lang/StringUTF16", "charAt", "([BI)C"⟩ : MethodName) jdk_52_method_83_code 2 (some .char) ({ frames := 3, cells := 0, slots := 0, locals := 40 } : Room) ws #[(.ref a1), (.int (3 : Int32))] h0 n0 (Pur (.int (nar .char (own_gc x y))) h0) := by
  refine Met.of pn_19 (fun m => ef_rmUC3 m a1) ?_
  refine Own.iloadN d19_0 rfl ?_
  refine Own.aloadN d19_1 rfl rfl ?_
  refine Own.callS0 [(.int (3 : Int32)), (.ref a1)] [] 0 (rmUI3 l Z a0 hw [] a1 ka vs vf h0 n0 hn V_a1 hl S_F hvf) (hw _ (List.mem_of_getElem? (i := 85) rfl)) (hw _ (List.mem_of_getElem? (i := 86) rfl)) (hw _ (List.mem_of_getElem? (i := 24) rfl)) (hw _ (List.mem_of_getElem? (i := 87) rfl)) (by decide) d19_2 pd_7 rfl rfl rfl rfl (by decide) (by decide) (by decide) (by decide) ?_
  refine Own.aloadN d19_5 rfl rfl ?_
  refine Own.iloadN d19_6 rfl ?_
  refine Own.callSP [(.ref a1), (.int (3 : Int32))] [] 0 (rmGet3 l Z a0 hw [] a1 ka vs x y h0 n0 hn V_a1 hx hy S_A S_H S_L) (hw _ (List.mem_of_getElem? (i := 79) rfl)) (hw _ (List.mem_of_getElem? (i := 80) rfl)) (hw _ (List.mem_of_getElem? (i := 24) rfl)) (hw _ (List.mem_of_getElem? (i := 81) rfl)) (by decide) d19_7 pd_12 rfl rfl rfl rfl (by decide) (by decide) (by decide) (by decide) ?_
  refine Own.ret_nar (t := .char) (by simp) rfl d19_10 (by decide) (by decide) ?_
  exact ⟨rfl, rfl⟩
theorem ef_rmCA3_0 (m : MethodId) (a1 : Addr)  : entryFrame m #[(.ref a1), (.int (3 : Int32))] 2 = mkF m 0 #[.val (.ref a1), .val (.int (3 : Int32))] [] := by first | (simp [entryFrame, mkF, argsToLocals, Value.category]; done) | rfl
set_option maxRecDepth 65536 in
set_option maxHeartbeats 40000000 in
theorem rmCA3_0 (l : Launch) (Z : State) (a0 : Array Value) (hw : ∀ d ∈ tables_1, d.before a0 Z = true) (ws : List Jvm.Cond) (a1 : Addr) (b : Addr) (kb : ClassId) (zc : Int32) (vf : Value) (c0 : Int32) (c1 : Int32) (c2 : Int32) (c3 : Int32) (h0 : Heap) (n0 : Nat) (hn : n0 ≤ h0.size) (X_a1 : Exa Z h0 a1 "java/lang/String") (F_v : Fld Z h0 a1 "java/lang/String" "value" "[B" (.ref b)) (F_c : Fld Z h0 a1 "java/lang/String" "coder" "B" (.int (0 : Int32))) (V_b : Arl Z h0 b kb .byte [(.int (nar .byte (c0.toInt8.toInt32))), (.int (nar .byte (c1.toInt8.toInt32))), (.int (nar .byte (c2.toInt8.toInt32))), (.int (nar .byte (c3.toInt8.toInt32)))]) (S_C : Sta Z h0 "java/lang/String" "COMPACT_STRINGS" "Z" (.int zc)) (S_F : Sta Z h0 "jdk/internal/util/Preconditions" "SIOOBE_FORMATTER" "Ljava/util/function/BiFunction;" vf) (S_A : Sta Z h0 "java/lang/StringUTF16" "$assertionsDisabled" "Z" (.int (1 : Int32))) (S_H : Sta Z h0 "java/lang/StringUTF16" "HI_BYTE_SHIFT" "I" (.int (0 : Int32))) (S_L : Sta Z h0 "java/lang/StringUTF16" "LO_BYTE_SHIFT" "I" (.int (8 : Int32))) (hz : ¬ zc = 0) (hvf : vf.isRef = true) (hr3 : 0 ≤ c3.toInt ∧ c3.toInt < 65536) (hlat : ¬ (255 : Int32) < c3) :
    Met false l Z (⟨"java/lang/String", "charAt", "(I)C"⟩ : MethodName) jdk_42_method_56_code 2 (some .char) ({ frames := 4, cells := 0, slots := 0, locals := 60 } : Room) ws #[(.ref a1), (.int (3 : Int32))] h0 n0 (Pur (.int c3) h0) := by
  refine Met.of pn_9 (fun m => ef_rmCA3_0 m a1) ?_
  refine Own.aloadN d9_0 rfl rfl ?_
  refine Own.callVP a1 [] [] 0 (rmIL0 l Z a0 hw [] a1 zc h0 n0 hn F_c S_C hz) (hw _ (List.mem_of_getElem? (i := 46) rfl)) (hw _ (List.mem_of_getElem? (i := 47) rfl)) (fun s hZ => notFace_of_selects (args := #[]) (mvT hZ (hw _ (List.mem_of_getElem? (i := 49) rfl)))) (hw _ (List.mem_of_getElem? (i := 49) rfl)) (hw _ (List.mem_of_getElem? (i := 48) rfl)) (hw _ (List.mem_of_getElem? (i := 10) rfl)) (hw _ (List.mem_of_getElem? (i := 50) rfl)) (by decide) X_a1 d9_1 pd_1 rfl rfl rfl rfl (by decide) (by decide) (by decide) (by decide) ?_
  refine Own.if_eq 16 d9_4 (by decide) rfl (fun q => absurd q (by decide)) (fun _ => ?_)
  refine Own.aloadN d9_7 rfl rfl ?_
  refine Own.getF_ (host := "") (Or.inl (hw _ (List.mem_of_getElem? (i := 35) rfl))) Via.refl F_v d9_8 ?_
  refine Own.iloadN d9_11 rfl ?_
  refine Own.callSP [(.ref b), (.int (3 : Int32))] [] 0 (rmLC3 l Z a0 hw [] b kb _ (nar .byte (c3.toInt8.toInt32)) vf h0 n0 hn V_b rfl rfl S_F hvf) (hw _ (List.mem_of_getElem? (i := 51) rfl)) (hw _ (List.mem_of_getElem? (i := 52) rfl)) (hw _ (List.mem_of_getElem? (i := 53) rfl)) (hw _ (List.mem_of_getElem? (i := 54) rfl)) (by decide) d9_12 pd_12 rfl rfl rfl rfl (by decide) (by decide) (by decide) (by decide) ?_
  refine Own.ret_nar (t := .char) (by simp) rfl d9_15 (by decide) (by decide) ?_
  exact ⟨congrArg (fun z => some (Value.int z)) (by rw [own_lcv hr3.1 hlat, own_ncv hr3.1 hr3.2]), rfl⟩
theorem ef_rmCA3_1 (m : MethodId) (a1 : Addr)  : entryFrame m #[(.ref a1), (.int (3 : Int32))] 2 = mkF m 0 #[.val (.ref a1), .val (.int (3 : Int32))] [] := by first | (simp [entryFrame, mkF, argsToLocals, Value.category]; done) | rfl
set_option maxRecDepth 65536 in
set_option maxHeartbeats 40000000 in
theorem rmCA3_1 (l : Launch) (Z : State) (a0 : Array Value) (hw : ∀ d ∈ tables_1, d.before a0 Z = true) (ws : List Jvm.Cond) (a1 : Addr) (b : Addr) (kb : ClassId) (zc : Int32) (vf : Value) (c0 : Int32) (c1 : Int32) (c2 : Int32) (c3 : Int32) (h0 : Heap) (n0 : Nat) (hn : n0 ≤ h0.size) (X_a1 : Exa Z h0 a1 "java/lang/String") (F_v : Fld Z h0 a1 "java/lang/String" "value" "[B" (.ref b)) (F_c : Fld Z h0 a1 "java/lang/String" "coder" "B" (.int (1 : Int32))) (V_b : Arl Z h0 b kb .byte [(.int (own_b0 c0)), (.int (own_b1 c0)), (.int (own_b0 c1)), (.int (own_b1 c1)), (.int (own_b0 c2)), (.int (own_b1 c2)), (.int (own_b0 c3)), (.int (own_b1 c3))]) (S_C : Sta Z h0 "java/lang/String" "COMPACT_STRINGS" "Z" (.int zc)) (S_F : Sta Z h0 "jdk/internal/util/Preconditions" "SIOOBE_FORMATTER" "Ljava/util/function/BiFunction;" vf) (S_A : Sta Z h0 "java/lang/StringUTF16" "$assertionsDisabled" "Z" (.int (1 : Int32))) (S_H : Sta Z h0 "java/lang/StringUTF16" "HI_BYTE_SHIFT" "I" (.int (0 : Int32))) (S_L : Sta Z h0 "java/lang/StringUTF16" "LO_BYTE_SHIFT" "I" (.int (8 : Int32))) (hz : ¬ zc = 0) (hvf : vf.isRef = true) (hr3 : 0 ≤ c3.toInt ∧ c3.toInt < 65536) :
    Met false l Z (⟨"java/lang/String", "charAt", "(I)C"⟩ : MethodName) jdk_42_method_56_code 2 (some .char) ({ frames := 4, cells := 0, slots := 0, locals := 60 } : Room) ws #[(.ref a1), (.int (3 : Int32))] h0 n0 (Pur (.int c3) h0) := by
  refine Met.of pn_9 (fun m => ef_rmCA3_1 m a1) ?_
  refine Own.aloadN d9_0 rfl rfl ?_
  refine Own.callVP a1 [] [] 0 (rmIL1 l Z a0 hw [] a1 zc h0 n0 hn F_c S_C hz) (hw _ (List.mem_of_getElem? (i := 46) rfl)) (hw _ (List.mem_of_getElem? (i := 47) rfl)) (fun s hZ => notFace_of_selects (args := #[]) (mvT hZ (hw _ (List.mem_of_getElem? (i := 49) rfl)))) (hw _ (List.mem_of_getElem? (i := 49) rfl)) (hw _ (List.mem_of_getElem? (i := 48) rfl)) (hw _ (List.mem_of_getElem? (i := 10) rfl)) (hw _ (List.mem_of_getElem? (i := 50) rfl)) (by decide) X_a1 d9_1 pd_1 rfl rfl rfl rfl (by decide) (by decide) (by decide) (by decide) ?_
  refine Own.if_eq 16 d9_4 (by decide) rfl (fun _ => ?_) (fun q => absurd (by decide) q)
  refine Own.aloadN d9_16 rfl rfl ?_
  refine Own.getF_ (host := "") (Or.inl (hw _ (List.mem_of_getElem? (i := 35) rfl))) Via.refl F_v d9_17 ?_
  refine Own.iloadN d9_20 rfl ?_
  refine Own.callSP [(.ref b), (.int (3 : Int32))] [] 0 (rmUC3 l Z a0 hw [] b kb _ (own_b0 c3) (own_b1 c3) vf h0 n0 hn V_b rfl rfl rfl S_F S_A S_H S_L hvf) (hw _ (List.mem_of_getElem? (i := 82) rfl)) (hw _ (List.mem_of_getElem? (i := 83) rfl)) (hw _ (List.mem_of_getElem? (i := 24) rfl)) (hw _ (List.mem_of_getElem? (i := 84) rfl)) (by decide) d9_21 pd_12 rfl rfl rfl rfl (by decide) (by decide) (by decide) (by decide) ?_
  refine Own.ret_nar (t := .char) (by simp) rfl d9_24 (by decide) (by decide) ?_
  exact ⟨congrArg (fun z => some (Value.int z)) (by rw [own_gcv hr3.1 hr3.2, own_ncv hr3.1 hr3.2, own_ncv hr3.1 hr3.2]), rfl⟩
theorem rmCA3 (l : Launch) (Z : State) (a0 : Array Value) (hw : ∀ d ∈ tables_1, d.before a0 Z = true) (ws : List Jvm.Cond) (a1 b : Addr) (kb : ClassId) (cod : Int32) (bs : List Value) (zc : Int32) (vf : Value) (c0 : Int32) (c1 : Int32) (c2 : Int32) (c3 : Int32) (h0 : Heap) (n0 : Nat) (hn : n0 ≤ h0.size) (X_a1 : Exa Z h0 a1 "java/lang/String") (F_v : Fld Z h0 a1 "java/lang/String" "value" "[B" (.ref b)) (F_c : Fld Z h0 a1 "java/lang/String" "coder" "B" (.int cod)) (V_b : Arl Z h0 b kb .byte bs) (S_C : Sta Z h0 "java/lang/String" "COMPACT_STRINGS" "Z" (.int zc)) (S_F : Sta Z h0 "jdk/internal/util/Preconditions" "SIOOBE_FORMATTER" "Ljava/util/function/BiFunction;" vf) (S_A : Sta Z h0 "java/lang/StringUTF16" "$assertionsDisabled" "Z" (.int (1 : Int32))) (S_H : Sta Z h0 "java/lang/StringUTF16" "HI_BYTE_SHIFT" "I" (.int (0 : Int32))) (S_L : Sta Z h0 "java/lang/StringUTF16" "LO_BYTE_SHIFT" "I" (.int (8 : Int32))) (hz : ¬ zc = 0) (hvf : vf.isRef = true) (hr0 : 0 ≤ c0.toInt ∧ c0.toInt < 65536) (hr1 : 0 ≤ c1.toInt ∧ c1.toInt < 65536) (hr2 : 0 ≤ c2.toInt ∧ c2.toInt < 65536) (hr3 : 0 ≤ c3.toInt ∧ c3.toInt < 65536) (hsp : own_spell cod bs c0 c1 c2 c3) :
    Met false l Z (⟨"java/lang/String", "charAt", "(I)C"⟩ : MethodName) jdk_42_method_56_code 2 (some .char) ({ frames := 4, cells := 0, slots := 0, locals := 60 } : Room) ws #[(.ref a1), (.int (3 : Int32))] h0 n0 (Pur (.int c3) h0) := by
  rcases hsp with ⟨rfl, rfl, q0, q1, q2, q3⟩ | ⟨rfl, rfl⟩
  · exact rmCA3_0 l Z a0 hw ws a1 b kb zc vf c0 c1 c2 c3 h0 n0 hn X_a1 F_v F_c V_b S_C S_F S_A S_H S_L hz hvf hr3 q3
  · exact rmCA3_1 l Z a0 hw ws a1 b kb zc vf c0 c1 c2 c3 h0 n0 hn X_a1 F_v F_c V_b S_C S_F S_A S_H S_L hz hvf hr3
def own_pk (q0 : Int64) (xi : Int32) (xf : Int32) (xs : Int32) : Int32 := (if (((xf.toUInt32 >>> (xi &&& 31).toUInt32).toInt32) &&& (1 : Int32)) = (0 : Int32) then (nar .char (((((q0.toUInt64 >>> (((16 : Int32) * xi) &&& 0x3f).toInt64.toUInt64).toInt64) &&& (65535 : Int64)).toInt32).toUInt32.toUInt16.toUInt32.toInt32)) else (nar .char xs))
theorem d1_0 : decode method_3_code 0 = .ok (.iload_n 3, 1) := by decide +kernel
theorem d1_1 : decode method_3_code 1 = .ok (.iload_n 2, 1) := by decide +kernel
theorem d1_2 : decode method_3_code 2 = .ok (.iushr, 1) := by decide +kernel
theorem d1_3 : decode method_3_code 3 = .ok (.iconst 1, 1) := by decide +kernel
theorem d1_4 : decode method_3_code 4 = .ok (.iand, 1) := by decide +kernel
theorem d1_5 : decode method_3_code 5 = .ok (.ifCond .eq 6, 3) := by decide +kernel
theorem d1_11 : decode method_3_code 11 = .ok (.lload_n 0, 1) := by decide +kernel
theorem d1_12 : decode method_3_code 12 = .ok (.bipush 16, 2) := by decide +kernel
theorem d1_14 : decode method_3_code 14 = .ok (.iload_n 2, 1) := by decide +kernel
theorem d1_15 : decode method_3_code 15 = .ok (.imul, 1) := by decide +kernel
theorem d1_16 : decode method_3_code 16 = .ok (.lushr, 1) := by decide +kernel
theorem d1_17 : decode method_3_code 17 = .ok (.ldc2_w 26, 3) := by decide +kernel
theorem d1_20 : decode method_3_code 20 = .ok (.land, 1) := by decide +kernel
theorem d1_21 : decode method_3_code 21 = .ok (.l2i, 1) := by decide +kernel
theorem d1_22 : decode method_3_code 22 = .ok (.i2c, 1) := by decide +kernel
theorem d1_23 : decode method_3_code 23 = .ok (.ireturn, 1) := by decide +kernel
theorem d1_8 : decode method_3_code 8 = .ok (.iload 4, 2) := by decide +kernel
theorem d1_10 : decode method_3_code 10 = .ok (.ireturn, 1) := by decide +kernel
theorem ef_rmK (m : MethodId) (q0 : Int64) (xi : Int32) (xf : Int32) (xs : Int32)  : entryFrame m #[(.long q0), (.int xi), (.int xf), (.int xs)] 5 = mkF m 0 #[.val (.long q0), .second, .val (.int xi), .val (.int xf), .val (.int xs)] [] := by first | (simp [entryFrame, mkF, argsToLocals, Value.category]; done) | rfl
theorem pn_1 : plainFor (⟨"com/example/cytorelay/cytorelay/core/Hl7SyntaxIndexOfPinLaw", "pick", "(JIIC)C"⟩ : MethodName) = true := plainFor_of_name (show plainName "com/example/cytorelay/cytorelay/core/Hl7SyntaxIndexOfPinLaw" = true by first | (simp [plainName, overriddenIn]; done) | decide +kernel)
set_option maxRecDepth 65536 in
set_option maxHeartbeats 40000000 in
theorem rmK (l : Launch) (Z : State) (a0 : Array Value) (hw : ∀ d ∈ tables_1, d.before a0 Z = true) (ws : List Jvm.Cond) (q0 : Int64) (xi : Int32) (xf : Int32) (xs : Int32) (h0 : Heap) (n0 : Nat) (hn : n0 ≤ h0.size) :
    Met false l Z (⟨"com/example/cytorelay/cytorelay/core/Hl7SyntaxIndexOfPinLaw", "pick", "(JIIC)C"⟩ : MethodName) method_3_code 5 (some .char) ({ frames := 0, cells := 0, slots := 0, locals := 0 } : Room) ws #[(.long q0), (.int xi), (.int xf), (.int xs)] h0 n0 (Pur (.int (own_pk q0 xi xf xs)) h0) := by
  refine Met.of pn_1 (fun m => ef_rmK m q0 xi xf xs) ?_
  refine Own.iloadN d1_0 rfl ?_
  refine Own.iloadN d1_1 rfl ?_
  refine Own.iushr d1_2 ?_
  refine Own.iconst (1 : Int32) d1_3 rfl ?_
  refine Own.iand d1_4 ?_
  refine Own.if_eq 11 d1_5 (by decide) rfl (fun c5 => ?_) (fun c5 => ?_)
  · refine Own.lloadN d1_11 rfl ?_
    refine Own.bipush (16 : Int32) d1_12 rfl ?_
    refine Own.iloadN d1_14 rfl ?_
    refine Own.imul d1_15 ?_
    refine Own.lushr d1_16 ?_
    refine Own.ldc2Long (hw _ (List.mem_of_getElem? (i := 6) rfl)) d1_17 ?_
    refine Own.land d1_20 ?_
    refine Own.l2i d1_21 ?_
    refine Own.i2c d1_22 ?_
    refine Own.ret_nar (t := .char) (by simp) rfl d1_23 (by decide) (by decide) ?_
    refine ⟨congrArg (fun z => some (Value.int z)) ?_, rfl⟩
    rw [own_pk, if_pos c5]
  · refine Own.iload d1_8 rfl ?_
    refine Own.ret_nar (t := .char) (by simp) rfl d1_10 (by decide) (by decide) ?_
    refine ⟨congrArg (fun z => some (Value.int z)) ?_, rfl⟩
    rw [own_pk, if_neg c5]
theorem own_pkr (q0 : Int64) (xi xf xs : Int32) : 0 ≤ (nar .char (own_pk q0 xi xf xs)).toInt ∧ (nar .char (own_pk q0 xi xf xs)).toInt < 65536 := (c_i2c _).2
theorem own_pos (x : Int32) : 0 ≤ (x &&& (2147483647 : Int32)).toInt := by
  have := c_mask x 2147483647 31 (by decide) (by decide); omega
theorem own_f5 (x : Int32) : ((x &&& (2147483647 : Int32)) % (5 : Int32)) = 0 ∨ ((x &&& (2147483647 : Int32)) % (5 : Int32)) = 1 ∨ ((x &&& (2147483647 : Int32)) % (5 : Int32)) = 2 ∨ ((x &&& (2147483647 : Int32)) % (5 : Int32)) = 3 ∨ ((x &&& (2147483647 : Int32)) % (5 : Int32)) = 4 := by
  have h := own_pos x
  have e := (c_irem (x &&& (2147483647 : Int32)) 5 5 rfl).1 h
  simp only [← Int32.toInt_inj, Int32.reduceToInt]
  omega
theorem own_t0 (y : Int32) : (0 : Int32) + ((y &&& (2147483647 : Int32)) % ((5 : Int32) - 0)) = 0 ∨ (0 : Int32) + ((y &&& (2147483647 : Int32)) % ((5 : Int32) - 0)) = 1 ∨ (0 : Int32) + ((y &&& (2147483647 : Int32)) % ((5 : Int32) - 0)) = 2 ∨ (0 : Int32) + ((y &&& (2147483647 : Int32)) % ((5 : Int32) - 0)) = 3 ∨ (0 : Int32) + ((y &&& (2147483647 : Int32)) % ((5 : Int32) - 0)) = 4 := by
  have h := own_pos y
  have e := (c_irem (y &&& (2147483647 : Int32)) ((5 : Int32) - 0) 5 rfl).1 h
  have a := c_iadd (0 : Int32) ((y &&& (2147483647 : Int32)) % ((5 : Int32) - 0))
  have l1 := ((0 : Int32) + ((y &&& (2147483647 : Int32)) % ((5 : Int32) - 0))).le_toInt
  have l2 := ((0 : Int32) + ((y &&& (2147483647 : Int32)) % ((5 : Int32) - 0))).toInt_lt
  have k : (0 : Int32).toInt = 0 := rfl
  simp only [← Int32.toInt_inj, Int32.reduceToInt]
  omega
theorem own_t1 (y : Int32) : (1 : Int32) + ((y &&& (2147483647 : Int32)) % ((5 : Int32) - 1)) = 1 ∨ (1 : Int32) + ((y &&& (2147483647 : Int32)) % ((5 : Int32) - 1)) = 2 ∨ (1 : Int32) + ((y &&& (2147483647 : Int32)) % ((5 : Int32) - 1)) = 3 ∨ (1 : Int32) + ((y &&& (2147483647 : Int32)) % ((5 : Int32) - 1)) = 4 := by
  have h := own_pos y
  have e := (c_irem (y &&& (2147483647 : Int32)) ((5 : Int32) - 1) 4 rfl).1 h
  have a := c_iadd (1 : Int32) ((y &&& (2147483647 : Int32)) % ((5 : Int32) - 1))
  have l1 := ((1 : Int32) + ((y &&& (2147483647 : Int32)) % ((5 : Int32) - 1))).le_toInt
  have l2 := ((1 : Int32) + ((y &&& (2147483647 : Int32)) % ((5 : Int32) - 1))).toInt_lt
  have k : (1 : Int32).toInt = 1 := rfl
  simp only [← Int32.toInt_inj, Int32.reduceToInt]
  omega
theorem own_t2 (y : Int32) : (2 : Int32) + ((y &&& (2147483647 : Int32)) % ((5 : Int32) - 2)) = 2 ∨ (2 : Int32) + ((y &&& (2147483647 : Int32)) % ((5 : Int32) - 2)) = 3 ∨ (2 : Int32) + ((y &&& (2147483647 : Int32)) % ((5 : Int32) - 2)) = 4 := by
  have h := own_pos y
  have e := (c_irem (y &&& (2147483647 : Int32)) ((5 : Int32) - 2) 3 rfl).1 h
  have a := c_iadd (2 : Int32) ((y &&& (2147483647 : Int32)) % ((5 : Int32) - 2))
  have l1 := ((2 : Int32) + ((y &&& (2147483647 : Int32)) % ((5 : Int32) - 2))).le_toInt
  have l2 := ((2 : Int32) + ((y &&& (2147483647 : Int32)) % ((5 : Int32) - 2))).toInt_lt
  have k : (2 : Int32).toInt = 2 := rfl
  simp only [← Int32.toInt_inj, Int32.reduceToInt]
  omega
theorem own_t3 (y : Int32) : (3 : Int32) + ((y &&& (2147483647 : Int32)) % ((5 : Int32) - 3)) = 3 ∨ (3 : Int32) + ((y &&& (2147483647 : Int32)) % ((5 : Int32) - 3)) = 4 := by
  have h := own_pos y
  have e := (c_irem (y &&& (2147483647 : Int32)) ((5 : Int32) - 3) 2 rfl).1 h
  have a := c_iadd (3 : Int32) ((y &&& (2147483647 : Int32)) % ((5 : Int32) - 3))
  have l1 := ((3 : Int32) + ((y &&& (2147483647 : Int32)) % ((5 : Int32) - 3))).le_toInt
  have l2 := ((3 : Int32) + ((y &&& (2147483647 : Int32)) % ((5 : Int32) - 3))).toInt_lt
  have k : (3 : Int32).toInt = 3 := rfl
  simp only [← Int32.toInt_inj, Int32.reduceToInt]
  omega
theorem own_t4 (y : Int32) : (4 : Int32) + ((y &&& (2147483647 : Int32)) % ((5 : Int32) - 4)) = 4 := by
  have h := own_pos y
  have e := (c_irem (y &&& (2147483647 : Int32)) ((5 : Int32) - 4) 1 rfl).1 h
  have a := c_iadd (4 : Int32) ((y &&& (2147483647 : Int32)) % ((5 : Int32) - 4))
  have l1 := ((4 : Int32) + ((y &&& (2147483647 : Int32)) % ((5 : Int32) - 4))).le_toInt
  have l2 := ((4 : Int32) + ((y &&& (2147483647 : Int32)) % ((5 : Int32) - 4))).toInt_lt
  have k : (4 : Int32).toInt = 4 := rfl
  simp only [← Int32.toInt_inj, Int32.reduceToInt]
  omega
def own_ix_0_0 (s c0 c1 c2 c3 : Int32) : Int32 := (0 : Int32)
theorem d8_0 : decode prog_31_method_2_code 0 = .ok (.iload_n 2, 1) := by decide +kernel
theorem d8_1 : decode prog_31_method_2_code 1 = .ok (.istore 4, 2) := by decide +kernel
theorem d8_3 : decode prog_31_method_2_code 3 = .ok (.iload 4, 2) := by decide +kernel
theorem d8_5 : decode prog_31_method_2_code 5 = .ok (.iload_n 3, 1) := by decide +kernel
theorem d8_6 : decode prog_31_method_2_code 6 = .ok (.if_icmp .ge 19, 3) := by decide +kernel
theorem d8_25 : decode prog_31_method_2_code 25 = .ok (.iload 4, 2) := by decide +kernel
theorem d8_27 : decode prog_31_method_2_code 27 = .ok (.ireturn, 1) := by decide +kernel
theorem ef_rmX_0_0 (m : MethodId) (a1 : Addr) (s : Int32)  : entryFrame m #[(.ref a1), (.int s), (.int (0 : Int32)), (.int (0 : Int32))] 5 = mkF m 0 #[.val (.ref a1), .val (.int s), .val (.int (0 : Int32)), .val (.int (0 : Int32)), .unset] [] := by first | (simp [entryFrame, mkF, argsToLocals, Value.category]; done) | rfl
theorem pn_8 : plainFor (⟨"com/example/cytorelay/cytorelay/core/Hl7Syntax", "indexOf", "(Ljava/lang/String;CII)I"⟩ : MethodName) = true := plainFor_of_name (show plainName "com/example/cytorelay/cytorelay/core/Hl7Syntax" = true by first | (simp [plainName, overriddenIn]; done) | decide +kernel)
set_option maxRecDepth 65536 in
set_option maxHeartbeats 40000000 in
theorem rmX_0_0 (l : Launch) (Z : State) (a0 : Array Value) (hw : ∀ d ∈ tables_1, d.before a0 Z = true) (ws : List Jvm.Cond) (a1 : Addr) (s : Int32) (b : Addr) (kb : ClassId) (cod : Int32) (bs : List Value) (zc : Int32) (vf : Value) (c0 : Int32) (c1 : Int32) (c2 : Int32) (c3 : Int32) (h0 : Heap) (n0 : Nat) (hn : n0 ≤ h0.size) (X_a1 : Exa Z h0 a1 "java/lang/String") (F_v : Fld Z h0 a1 "java/lang/String" "value" "[B" (.ref b)) (F_c : Fld Z h0 a1 "java/lang/String" "coder" "B" (.int cod)) (V_b : Arl Z h0 b kb .byte bs) (S_C : Sta Z h0 "java/lang/String" "COMPACT_STRINGS" "Z" (.int zc)) (S_F : Sta Z h0 "jdk/internal/util/Preconditions" "SIOOBE_FORMATTER" "Ljava/util/function/BiFunction;" vf) (S_A : Sta Z h0 "java/lang/StringUTF16" "$assertionsDisabled" "Z" (.int (1 : Int32))) (S_H : Sta Z h0 "java/lang/StringUTF16" "HI_BYTE_SHIFT" "I" (.int (0 : Int32))) (S_L : Sta Z h0 "java/lang/StringUTF16" "LO_BYTE_SHIFT" "I" (.int (8 : Int32))) (hz : ¬ zc = 0) (hvf : vf.isRef = true) (hr0 : 0 ≤ c0.toInt ∧ c0.toInt < 65536) (hr1 : 0 ≤ c1.toInt ∧ c1.toInt < 65536) (hr2 : 0 ≤ c2.toInt ∧ c2.toInt < 65536) (hr3 : 0 ≤ c3.toInt ∧ c3.toInt < 65536) (hsp : own_spell cod bs c0 c1 c2 c3) :
    Met false l Z (⟨"com/example/cytorelay/cytorelay/core/Hl7Syntax", "indexOf", "(Ljava/lang/String;CII)I"⟩ : MethodName) prog_31_method_2_code 5 (some .int) ({ frames := 0, cells := 0, slots := 0, locals := 0 } : Room) ws #[(.ref a1), (.int s), (.int (0 : Int32)), (.int (0 : Int32))] h0 n0 (Pur (.int (own_ix_0_0 s c0 c1 c2 c3)) h0) := by
  refine Met.of pn_8 (fun m => ef_rmX_0_0 m a1 s) ?_
  refine Own.iloadN d8_0 rfl ?_
  refine Own.istore #[.val (.ref a1), .val (.int s), .val (.int (0 : Int32)), .val (.int (0 : Int32)), .val (.int (0 : Int32))] d8_1 rfl ?_
  refine Own.iload d8_3 rfl ?_
  refine Own.iloadN d8_5 rfl ?_
  refine Own.icmp_ge 25 d8_6 (by decide) rfl (fun _ => ?_) (fun q => absurd q (by decide))
  refine Own.iload d8_25 rfl ?_
  refine Own.ret_int rfl d8_27 (by decide) (by decide) ?_
  exact ⟨congrArg (fun z => some (Value.int z)) (by rw [own_ix_0_0]), rfl⟩
def own_ix_0_1 (s c0 c1 c2 c3 : Int32) : Int32 := (if c0 = s then (0 : Int32) else (1 : Int32))
theorem d8_9 : decode prog_31_method_2_code 9 = .ok (.aload_n 0, 1) := by decide +kernel
theorem d8_10 : decode prog_31_method_2_code 10 = .ok (.iload 4, 2) := by decide +kernel
theorem d8_12 : decode prog_31_method_2_code 12 = .ok (.invokevirtual 9, 3) := by decide +kernel
theorem pd_2 : parseMethodDescriptor "(I)C" = some ⟨[.int], some .char⟩ := by decide +kernel
theorem d8_15 : decode prog_31_method_2_code 15 = .ok (.iload_n 1, 1) := by decide +kernel
theorem d8_16 : decode prog_31_method_2_code 16 = .ok (.if_icmp .eq 9, 3) := by decide +kernel
theorem d8_19 : decode prog_31_method_2_code 19 = .ok (.iinc 4 1, 3) := by decide +kernel
theorem d8_22 : decode prog_31_method_2_code 22 = .ok (.goto (-19), 3) := by decide +kernel
theorem ef_rmX_0_1 (m : MethodId) (a1 : Addr) (s : Int32)  : entryFrame m #[(.ref a1), (.int s), (.int (0 : Int32)), (.int (1 : Int32))] 5 = mkF m 0 #[.val (.ref a1), .val (.int s), .val (.int (0 : Int32)), .val (.int (1 : Int32)), .unset] [] := by first | (simp [entryFrame, mkF, argsToLocals, Value.category]; done) | rfl
set_option maxRecDepth 65536 in
set_option maxHeartbeats 40000000 in
theorem rmX_0_1 (l : Launch) (Z : State) (a0 : Array Value) (hw : ∀ d ∈ tables_1, d.before a0 Z = true) (ws : List Jvm.Cond) (a1 : Addr) (s : Int32) (b : Addr) (kb : ClassId) (cod : Int32) (bs : List Value) (zc : Int32) (vf : Value) (c0 : Int32) (c1 : Int32) (c2 : Int32) (c3 : Int32) (h0 : Heap) (n0 : Nat) (hn : n0 ≤ h0.size) (X_a1 : Exa Z h0 a1 "java/lang/String") (F_v : Fld Z h0 a1 "java/lang/String" "value" "[B" (.ref b)) (F_c : Fld Z h0 a1 "java/lang/String" "coder" "B" (.int cod)) (V_b : Arl Z h0 b kb .byte bs) (S_C : Sta Z h0 "java/lang/String" "COMPACT_STRINGS" "Z" (.int zc)) (S_F : Sta Z h0 "jdk/internal/util/Preconditions" "SIOOBE_FORMATTER" "Ljava/util/function/BiFunction;" vf) (S_A : Sta Z h0 "java/lang/StringUTF16" "$assertionsDisabled" "Z" (.int (1 : Int32))) (S_H : Sta Z h0 "java/lang/StringUTF16" "HI_BYTE_SHIFT" "I" (.int (0 : Int32))) (S_L : Sta Z h0 "java/lang/StringUTF16" "LO_BYTE_SHIFT" "I" (.int (8 : Int32))) (hz : ¬ zc = 0) (hvf : vf.isRef = true) (hr0 : 0 ≤ c0.toInt ∧ c0.toInt < 65536) (hr1 : 0 ≤ c1.toInt ∧ c1.toInt < 65536) (hr2 : 0 ≤ c2.toInt ∧ c2.toInt < 65536) (hr3 : 0 ≤ c3.toInt ∧ c3.toInt < 65536) (hsp : own_spell cod bs c0 c1 c2 c3) :
    Met false l Z (⟨"com/example/cytorelay/cytorelay/core/Hl7Syntax", "indexOf", "(Ljava/lang/String;CII)I"⟩ : MethodName) prog_31_method_2_code 5 (some .int) ({ frames := 5, cells := 0, slots := 0, locals := 73 } : Room) ws #[(.ref a1), (.int s), (.int (0 : Int32)), (.int (1 : Int32))] h0 n0 (Pur (.int (own_ix_0_1 s c0 c1 c2 c3)) h0) := by
  refine Met.of pn_8 (fun m => ef_rmX_0_1 m a1 s) ?_
  refine Own.iloadN d8_0 rfl ?_
  refine Own.istore #[.val (.ref a1), .val (.int s), .val (.int (0 : Int32)), .val (.int (1 : Int32)), .val (.int (0 : Int32))] d8_1 rfl ?_
  refine Own.iload d8_3 rfl ?_
  refine Own.iloadN d8_5 rfl ?_
  refine Own.icmp_ge 25 d8_6 (by decide) rfl (fun q => absurd (by decide) q) (fun _ => ?_)
  refine Own.aloadN d8_9 rfl rfl ?_
  refine Own.iload d8_10 rfl ?_
  refine Own.callVP a1 [(.int (0 : Int32))] [] 0 (rmCA0 l Z a0 hw [] a1 b kb cod bs zc vf c0 c1 c2 c3 h0 n0 hn X_a1 F_v F_c V_b S_C S_F S_A S_H S_L hz hvf hr0 hr1 hr2 hr3 hsp) (hw _ (List.mem_of_getElem? (i := 41) rfl)) (hw _ (List.mem_of_getElem? (i := 42) rfl)) (fun s hZ => notFace_of_selects (args := #[]) (mvT hZ (hw _ (List.mem_of_getElem? (i := 44) rfl)))) (hw _ (List.mem_of_getElem? (i := 44) rfl)) (hw _ (List.mem_of_getElem? (i := 43) rfl)) (hw _ (List.mem_of_getElem? (i := 10) rfl)) (hw _ (List.mem_of_getElem? (i := 45) rfl)) (by decide) X_a1 d8_12 pd_2 rfl rfl rfl rfl (by decide) (by decide) (by decide) (by decide) ?_
  refine Own.iloadN d8_15 rfl ?_
  refine Own.icmp_eq 25 d8_16 (by decide) rfl (fun e0 => ?_) (fun e0 => ?_)
  · refine Own.iload d8_25 rfl ?_
    refine Own.ret_int rfl d8_27 (by decide) (by decide) ?_
    exact ⟨congrArg (fun z => some (Value.int z)) (by rw [own_ix_0_1, if_pos e0]), rfl⟩
  · refine Own.iinc (1 : Int32) #[.val (.ref a1), .val (.int s), .val (.int (0 : Int32)), .val (.int (1 : Int32)), .val (.int ((0 : Int32) + (1 : Int32)))] d8_19 rfl rfl rfl ?_
    refine OAt.castL (Ls' := #[.val (.ref a1), .val (.int s), .val (.int (0 : Int32)), .val (.int (1 : Int32)), .val (.int (1 : Int32))]) rfl rfl ?_
    refine Own.goto_ 3 d8_22 (by decide) rfl ?_
    refine Own.iload d8_3 rfl ?_
    refine Own.iloadN d8_5 rfl ?_
    refine Own.icmp_ge 25 d8_6 (by decide) rfl (fun _ => ?_) (fun q => absurd q (by decide))
    refine Own.iload d8_25 rfl ?_
    refine Own.ret_int rfl d8_27 (by decide) (by decide) ?_
    exact ⟨congrArg (fun z => some (Value.int z)) (by rw [own_ix_0_1, if_neg e0]), rfl⟩
def own_ix_0_2 (s c0 c1 c2 c3 : Int32) : Int32 := (if c0 = s then (0 : Int32) else (if c1 = s then (1 : Int32) else (2 : Int32)))
theorem ef_rmX_0_2 (m : MethodId) (a1 : Addr) (s : Int32)  : entryFrame m #[(.ref a1), (.int s), (.int (0 : Int32)), (.int (2 : Int32))] 5 = mkF m 0 #[.val (.ref a1), .val (.int s), .val (.int (0 : Int32)), .val (.int (2 : Int32)), .unset] [] := by first | (simp [entryFrame, mkF, argsToLocals, Value.category]; done) | rfl
set_option maxRecDepth 65536 in
set_option maxHeartbeats 40000000 in
theorem rmX_0_2 (l : Launch) (Z : State) (a0 : Array Value) (hw : ∀ d ∈ tables_1, d.before a0 Z = true) (ws : List Jvm.Cond) (a1 : Addr) (s : Int32) (b : Addr) (kb : ClassId) (cod : Int32) (bs : List Value) (zc : Int32) (vf : Value) (c0 : Int32) (c1 : Int32) (c2 : Int32) (c3 : Int32) (h0 : Heap) (n0 : Nat) (hn : n0 ≤ h0.size) (X_a1 : Exa Z h0 a1 "java/lang/String") (F_v : Fld Z h0 a1 "java/lang/String" "value" "[B" (.ref b)) (F_c : Fld Z h0 a1 "java/lang/String" "coder" "B" (.int cod)) (V_b : Arl Z h0 b kb .byte bs) (S_C : Sta Z h0 "java/lang/String" "COMPACT_STRINGS" "Z" (.int zc)) (S_F : Sta Z h0 "jdk/internal/util/Preconditions" "SIOOBE_FORMATTER" "Ljava/util/function/BiFunction;" vf) (S_A : Sta Z h0 "java/lang/StringUTF16" "$assertionsDisabled" "Z" (.int (1 : Int32))) (S_H : Sta Z h0 "java/lang/StringUTF16" "HI_BYTE_SHIFT" "I" (.int (0 : Int32))) (S_L : Sta Z h0 "java/lang/StringUTF16" "LO_BYTE_SHIFT" "I" (.int (8 : Int32))) (hz : ¬ zc = 0) (hvf : vf.isRef = true) (hr0 : 0 ≤ c0.toInt ∧ c0.toInt < 65536) (hr1 : 0 ≤ c1.toInt ∧ c1.toInt < 65536) (hr2 : 0 ≤ c2.toInt ∧ c2.toInt < 65536) (hr3 : 0 ≤ c3.toInt ∧ c3.toInt < 65536) (hsp : own_spell cod bs c0 c1 c2 c3) :
    Met false l Z (⟨"com/example/cytorelay/cytorelay/core/Hl7Syntax", "indexOf", "(Ljava/lang/String;CII)I"⟩ : MethodName) prog_31_method_2_code 5 (some .int) ({ frames := 5, cells := 0, slots := 0, locals := 73 } : Room) ws #[(.ref a1), (.int s), (.int (0 : Int32)), (.int (2 : Int32))] h0 n0 (Pur (.int (own_ix_0_2 s c0 c1 c2 c3)) h0) := by
  refine Met.of pn_8 (fun m => ef_rmX_0_2 m a1 s) ?_
  refine Own.iloadN d8_0 rfl ?_
  refine Own.istore #[.val (.ref a1), .val (.int s), .val (.int (0 : Int32)), .val (.int (2 : Int32)), .val (.int (0 : Int32))] d8_1 rfl ?_
  refine Own.iload d8_3 rfl ?_
  refine Own.iloadN d8_5 rfl ?_
  refine Own.icmp_ge 25 d8_6 (by decide) rfl (fun q => absurd (by decide) q) (fun _ => ?_)
  refine Own.aloadN d8_9 rfl rfl ?_
  refine Own.iload d8_10 rfl ?_
  refine Own.callVP a1 [(.int (0 : Int32))] [] 0 (rmCA0 l Z a0 hw [] a1 b kb cod bs zc vf c0 c1 c2 c3 h0 n0 hn X_a1 F_v F_c V_b S_C S_F S_A S_H S_L hz hvf hr0 hr1 hr2 hr3 hsp) (hw _ (List.mem_of_getElem? (i := 41) rfl)) (hw _ (List.mem_of_getElem? (i := 42) rfl)) (fun s hZ => notFace_of_selects (args := #[]) (mvT hZ (hw _ (List.mem_of_getElem? (i := 44) rfl)))) (hw _ (List.mem_of_getElem? (i := 44) rfl)) (hw _ (List.mem_of_getElem? (i := 43) rfl)) (hw _ (List.mem_of_getElem? (i := 10) rfl)) (hw _ (List.mem_of_getElem? (i := 45) rfl)) (by decide) X_a1 d8_12 pd_2 rfl rfl rfl rfl (by decide) (by decide) (by decide) (by decide) ?_
  refine Own.iloadN d8_15 rfl ?_
  refine Own.icmp_eq 25 d8_16 (by decide) rfl (fun e0 => ?_) (fun e0 => ?_)
  · refine Own.iload d8_25 rfl ?_
    refine Own.ret_int rfl d8_27 (by decide) (by decide) ?_
    exact ⟨congrArg (fun z => some (Value.int z)) (by rw [own_ix_0_2, if_pos e0]), rfl⟩
  · refine Own.iinc (1 : Int32) #[.val (.ref a1), .val (.int s), .val (.int (0 : Int32)), .val (.int (2 : Int32)), .val (.int ((0 : Int32) + (1 : Int32)))] d8_19 rfl rfl rfl ?_
    refine OAt.castL (Ls' := #[.val (.ref a1), .val (.int s), .val (.int (0 : Int32)), .val (.int (2 : Int32)), .val (.int (1 : Int32))]) rfl rfl ?_
    refine Own.goto_ 3 d8_22 (by decide) rfl ?_
    refine Own.iload d8_3 rfl ?_
    refine Own.iloadN d8_5 rfl ?_
    refine Own.icmp_ge 25 d8_6 (by decide) rfl (fun q => absurd (by decide) q) (fun _ => ?_)
    refine Own.aloadN d8_9 rfl rfl ?_
    refine Own.iload d8_10 rfl ?_
    refine Own.callVP a1 [(.int (1 : Int32))] [] 0 (rmCA1 l Z a0 hw [] a1 b kb cod bs zc vf c0 c1 c2 c3 h0 n0 hn X_a1 F_v F_c V_b S_C S_F S_A S_H S_L hz hvf hr0 hr1 hr2 hr3 hsp) (hw _ (List.mem_of_getElem? (i := 41) rfl)) (hw _ (List.mem_of_getElem? (i := 42) rfl)) (fun s hZ => notFace_of_selects (args := #[]) (mvT hZ (hw _ (List.mem_of_getElem? (i := 44) rfl)))) (hw _ (List.mem_of_getElem? (i := 44) rfl)) (hw _ (List.mem_of_getElem? (i := 43) rfl)) (hw _ (List.mem_of_getElem? (i := 10) rfl)) (hw _ (List.mem_of_getElem? (i := 45) rfl)) (by decide) X_a1 d8_12 pd_2 rfl rfl rfl rfl (by decide) (by decide) (by decide) (by decide) ?_
    refine Own.iloadN d8_15 rfl ?_
    refine Own.icmp_eq 25 d8_16 (by decide) rfl (fun e1 => ?_) (fun e1 => ?_)
    · refine Own.iload d8_25 rfl ?_
      refine Own.ret_int rfl d8_27 (by decide) (by decide) ?_
      exact ⟨congrArg (fun z => some (Value.int z)) (by rw [own_ix_0_2, if_neg e0, if_pos e1]), rfl⟩
    · refine Own.iinc (1 : Int32) #[.val (.ref a1), .val (.int s), .val (.int (0 : Int32)), .val (.int (2 : Int32)), .val (.int ((1 : Int32) + (1 : Int32)))] d8_19 rfl rfl rfl ?_
      refine OAt.castL (Ls' := #[.val (.ref a1), .val (.int s), .val (.int (0 : Int32)), .val (.int (2 : Int32)), .val (.int (2 : Int32))]) rfl rfl ?_
      refine Own.goto_ 3 d8_22 (by decide) rfl ?_
      refine Own.iload d8_3 rfl ?_
      refine Own.iloadN d8_5 rfl ?_
      refine Own.icmp_ge 25 d8_6 (by decide) rfl (fun _ => ?_) (fun q => absurd q (by decide))
      refine Own.iload d8_25 rfl ?_
      refine Own.ret_int rfl d8_27 (by decide) (by decide) ?_
      exact ⟨congrArg (fun z => some (Value.int z)) (by rw [own_ix_0_2, if_neg e0, if_neg e1]), rfl⟩
def own_ix_0_3 (s c0 c1 c2 c3 : Int32) : Int32 := (if c0 = s then (0 : Int32) else (if c1 = s then (1 : Int32) else (if c2 = s then (2 : Int32) else (3 : Int32))))
theorem ef_rmX_0_3 (m : MethodId) (a1 : Addr) (s : Int32)  : entryFrame m #[(.ref a1), (.int s), (.int (0 : Int32)), (.int (3 : Int32))] 5 = mkF m 0 #[.val (.ref a1), .val (.int s), .val (.int (0 : Int32)), .val (.int (3 : Int32)), .unset] [] := by first | (simp [entryFrame, mkF, argsToLocals, Value.category]; done) | rfl
set_option maxRecDepth 65536 in
set_option maxHeartbeats 40000000 in
theorem rmX_0_3 (l : Launch) (Z : State) (a0 : Array Value) (hw : ∀ d ∈ tables_1, d.before a0 Z = true) (ws : List Jvm.Cond) (a1 : Addr) (s : Int32) (b : Addr) (kb : ClassId) (cod : Int32) (bs : List Value) (zc : Int32) (vf : Value) (c0 : Int32) (c1 : Int32) (c2 : Int32) (c3 : Int32) (h0 : Heap) (n0 : Nat) (hn : n0 ≤ h0.size) (X_a1 : Exa Z h0 a1 "java/lang/String") (F_v : Fld Z h0 a1 "java/lang/String" "value" "[B" (.ref b)) (F_c : Fld Z h0 a1 "java/lang/String" "coder" "B" (.int cod)) (V_b : Arl Z h0 b kb .byte bs) (S_C : Sta Z h0 "java/lang/String" "COMPACT_STRINGS" "Z" (.int zc)) (S_F : Sta Z h0 "jdk/internal/util/Preconditions" "SIOOBE_FORMATTER" "Ljava/util/function/BiFunction;" vf) (S_A : Sta Z h0 "java/lang/StringUTF16" "$assertionsDisabled" "Z" (.int (1 : Int32))) (S_H : Sta Z h0 "java/lang/StringUTF16" "HI_BYTE_SHIFT" "I" (.int (0 : Int32))) (S_L : Sta Z h0 "java/lang/StringUTF16" "LO_BYTE_SHIFT" "I" (.int (8 : Int32))) (hz : ¬ zc = 0) (hvf : vf.isRef = true) (hr0 : 0 ≤ c0.toInt ∧ c0.toInt < 65536) (hr1 : 0 ≤ c1.toInt ∧ c1.toInt < 65536) (hr2 : 0 ≤ c2.toInt ∧ c2.toInt < 65536) (hr3 : 0 ≤ c3.toInt ∧ c3.toInt < 65536) (hsp : own_spell cod bs c0 c1 c2 c3) :
    Met false l Z (⟨"com/example/cytorelay/cytorelay/core/Hl7Syntax", "indexOf", "(Ljava/lang/String;CII)I"⟩ : MethodName) prog_31_method_2_code 5 (some .int) ({ frames := 5, cells := 0, slots := 0, locals := 73 } : Room) ws #[(.ref a1), (.int s), (.int (0 : Int32)), (.int (3 : Int32))] h0 n0 (Pur (.int (own_ix_0_3 s c0 c1 c2 c3)) h0) := by
  refine Met.of pn_8 (fun m => ef_rmX_0_3 m a1 s) ?_
  refine Own.iloadN d8_0 rfl ?_
  refine Own.istore #[.val (.ref a1), .val (.int s), .val (.int (0 : Int32)), .val (.int (3 : Int32)), .val (.int (0 : Int32))] d8_1 rfl ?_
  refine Own.iload d8_3 rfl ?_
  refine Own.iloadN d8_5 rfl ?_
  refine Own.icmp_ge 25 d8_6 (by decide) rfl (fun q => absurd (by decide) q) (fun _ => ?_)
  refine Own.aloadN d8_9 rfl rfl ?_
  refine Own.iload d8_10 rfl ?_
  refine Own.callVP a1 [(.int (0 : Int32))] [] 0 (rmCA0 l Z a0 hw [] a1 b kb cod bs zc vf c0 c1 c2 c3 h0 n0 hn X_a1 F_v F_c V_b S_C S_F S_A S_H S_L hz hvf hr0 hr1 hr2 hr3 hsp) (hw _ (List.mem_of_getElem? (i := 41) rfl)) (hw _ (List.mem_of_getElem? (i := 42) rfl)) (fun s hZ => notFace_of_selects (args := #[]) (mvT hZ (hw _ (List.mem_of_getElem? (i := 44) rfl)))) (hw _ (List.mem_of_getElem? (i := 44) rfl)) (hw _ (List.mem_of_getElem? (i := 43) rfl)) (hw _ (List.mem_of_getElem? (i := 10) rfl)) (hw _ (List.mem_of_getElem? (i := 45) rfl)) (by decide) X_a1 d8_12 pd_2 rfl rfl rfl rfl (by decide) (by decide) (by decide) (by decide) ?_
  refine Own.iloadN d8_15 rfl ?_
  refine Own.icmp_eq 25 d8_16 (by decide) rfl (fun e0 => ?_) (fun e0 => ?_)
  · refine Own.iload d8_25 rfl ?_
    refine Own.ret_int rfl d8_27 (by decide) (by decide) ?_
    exact ⟨congrArg (fun z => some (Value.int z)) (by rw [own_ix_0_3, if_pos e0]), rfl⟩
  · refine Own.iinc (1 : Int32) #[.val (.ref a1), .val (.int s), .val (.int (0 : Int32)), .val (.int (3 : Int32)), .val (.int ((0 : Int32) + (1 : Int32)))] d8_19 rfl rfl rfl ?_
    refine OAt.castL (Ls' := #[.val (.ref a1), .val (.int s), .val (.int (0 : Int32)), .val (.int (3 : Int32)), .val (.int (1 : Int32))]) rfl rfl ?_
    refine Own.goto_ 3 d8_22 (by decide) rfl ?_
    refine Own.iload d8_3 rfl ?_
    refine Own.iloadN d8_5 rfl ?_
    refine Own.icmp_ge 25 d8_6 (by decide) rfl (fun q => absurd (by decide) q) (fun _ => ?_)
    refine Own.aloadN d8_9 rfl rfl ?_
    refine Own.iload d8_10 rfl ?_
    refine Own.callVP a1 [(.int (1 : Int32))] [] 0 (rmCA1 l Z a0 hw [] a1 b kb cod bs zc vf c0 c1 c2 c3 h0 n0 hn X_a1 F_v F_c V_b S_C S_F S_A S_H S_L hz hvf hr0 hr1 hr2 hr3 hsp) (hw _ (List.mem_of_getElem? (i := 41) rfl)) (hw _ (List.mem_of_getElem? (i := 42) rfl)) (fun s hZ => notFace_of_selects (args := #[]) (mvT hZ (hw _ (List.mem_of_getElem? (i := 44) rfl)))) (hw _ (List.mem_of_getElem? (i := 44) rfl)) (hw _ (List.mem_of_getElem? (i := 43) rfl)) (hw _ (List.mem_of_getElem? (i := 10) rfl)) (hw _ (List.mem_of_getElem? (i := 45) rfl)) (by decide) X_a1 d8_12 pd_2 rfl rfl rfl rfl (by decide) (by decide) (by decide) (by decide) ?_
    refine Own.iloadN d8_15 rfl ?_
    refine Own.icmp_eq 25 d8_16 (by decide) rfl (fun e1 => ?_) (fun e1 => ?_)
    · refine Own.iload d8_25 rfl ?_
      refine Own.ret_int rfl d8_27 (by decide) (by decide) ?_
      exact ⟨congrArg (fun z => some (Value.int z)) (by rw [own_ix_0_3, if_neg e0, if_pos e1]), rfl⟩
    · refine Own.iinc (1 : Int32) #[.val (.ref a1), .val (.int s), .val (.int (0 : Int32)), .val (.int (3 : Int32)), .val (.int ((1 : Int32) + (1 : Int32)))] d8_19 rfl rfl rfl ?_
      refine OAt.castL (Ls' := #[.val (.ref a1), .val (.int s), .val (.int (0 : Int32)), .val (.int (3 : Int32)), .val (.int (2 : Int32))]) rfl rfl ?_
      refine Own.goto_ 3 d8_22 (by decide) rfl ?_
      refine Own.iload d8_3 rfl ?_
      refine Own.iloadN d8_5 rfl ?_
      refine Own.icmp_ge 25 d8_6 (by decide) rfl (fun q => absurd (by decide) q) (fun _ => ?_)
      refine Own.aloadN d8_9 rfl rfl ?_
      refine Own.iload d8_10 rfl ?_
      refine Own.callVP a1 [(.int (2 : Int32))] [] 0 (rmCA2 l Z a0 hw [] a1 b kb cod bs zc vf c0 c1 c2 c3 h0 n0 hn X_a1 F_v F_c V_b S_C S_F S_A S_H S_L hz hvf hr0 hr1 hr2 hr3 hsp) (hw _ (List.mem_of_getElem? (i := 41) rfl)) (hw _ (List.mem_of_getElem? (i := 42) rfl)) (fun s hZ => notFace_of_selects (args := #[]) (mvT hZ (hw _ (List.mem_of_getElem? (i := 44) rfl)))) (hw _ (List.mem_of_getElem? (i := 44) rfl)) (hw _ (List.mem_of_getElem? (i := 43) rfl)) (hw _ (List.mem_of_getElem? (i := 10) rfl)) (hw _ (List.mem_of_getElem? (i := 45) rfl)) (by decide) X_a1 d8_12 pd_2 rfl rfl rfl rfl (by decide) (by decide) (by decide) (by decide) ?_
      refine Own.iloadN d8_15 rfl ?_
      refine Own.icmp_eq 25 d8_16 (by decide) rfl (fun e2 => ?_) (fun e2 => ?_)
      · refine Own.iload d8_25 rfl ?_
        refine Own.ret_int rfl d8_27 (by decide) (by decide) ?_
        exact ⟨congrArg (fun z => some (Value.int z)) (by rw [own_ix_0_3, if_neg e0, if_neg e1, if_pos e2]), rfl⟩
      · refine Own.iinc (1 : Int32) #[.val (.ref a1), .val (.int s), .val (.int (0 : Int32)), .val (.int (3 : Int32)), .val (.int ((2 : Int32) + (1 : Int32)))] d8_19 rfl rfl rfl ?_
        refine OAt.castL (Ls' := #[.val (.ref a1), .val (.int s), .val (.int (0 : Int32)), .val (.int (3 : Int32)), .val (.int (3 : Int32))]) rfl rfl ?_
        refine Own.goto_ 3 d8_22 (by decide) rfl ?_
        refine Own.iload d8_3 rfl ?_
        refine Own.iloadN d8_5 rfl ?_
        refine Own.icmp_ge 25 d8_6 (by decide) rfl (fun _ => ?_) (fun q => absurd q (by decide))
        refine Own.iload d8_25 rfl ?_
        refine Own.ret_int rfl d8_27 (by decide) (by decide) ?_
        exact ⟨congrArg (fun z => some (Value.int z)) (by rw [own_ix_0_3, if_neg e0, if_neg e1, if_neg e2]), rfl⟩
def own_ix_0_4 (s c0 c1 c2 c3 : Int32) : Int32 := (if c0 = s then (0 : Int32) else (if c1 = s then (1 : Int32) else (if c2 = s then (2 : Int32) else (if c3 = s then (3 : Int32) else (4 : Int32)))))
theorem ef_rmX_0_4 (m : MethodId) (a1 : Addr) (s : Int32)  : entryFrame m #[(.ref a1), (.int s), (.int (0 : Int32)), (.int (4 : Int32))] 5 = mkF m 0 #[.val (.ref a1), .val (.int s), .val (.int (0 : Int32)), .val (.int (4 : Int32)), .unset] [] := by first | (simp [entryFrame, mkF, argsToLocals, Value.category]; done) | rfl
set_option maxRecDepth 65536 in
set_option maxHeartbeats 40000000 in
theorem rmX_0_4 (l : Launch) (Z : State) (a0 : Array Value) (hw : ∀ d ∈ tables_1, d.before a0 Z = true) (ws : List Jvm.Cond) (a1 : Addr) (s : Int32) (b : Addr) (kb : ClassId) (cod : Int32) (bs : List Value) (zc : Int32) (vf : Value) (c0 : Int32) (c1 : Int32) (c2 : Int32) (c3 : Int32) (h0 : Heap) (n0 : Nat) (hn : n0 ≤ h0.size) (X_a1 : Exa Z h0 a1 "java/lang/String") (F_v : Fld Z h0 a1 "java/lang/String" "value" "[B" (.ref b)) (F_c : Fld Z h0 a1 "java/lang/String" "coder" "B" (.int cod)) (V_b : Arl Z h0 b kb .byte bs) (S_C : Sta Z h0 "java/lang/String" "COMPACT_STRINGS" "Z" (.int zc)) (S_F : Sta Z h0 "jdk/internal/util/Preconditions" "SIOOBE_FORMATTER" "Ljava/util/function/BiFunction;" vf) (S_A : Sta Z h0 "java/lang/StringUTF16" "$assertionsDisabled" "Z" (.int (1 : Int32))) (S_H : Sta Z h0 "java/lang/StringUTF16" "HI_BYTE_SHIFT" "I" (.int (0 : Int32))) (S_L : Sta Z h0 "java/lang/StringUTF16" "LO_BYTE_SHIFT" "I" (.int (8 : Int32))) (hz : ¬ zc = 0) (hvf : vf.isRef = true) (hr0 : 0 ≤ c0.toInt ∧ c0.toInt < 65536) (hr1 : 0 ≤ c1.toInt ∧ c1.toInt < 65536) (hr2 : 0 ≤ c2.toInt ∧ c2.toInt < 65536) (hr3 : 0 ≤ c3.toInt ∧ c3.toInt < 65536) (hsp : own_spell cod bs c0 c1 c2 c3) :
    Met false l Z (⟨"com/example/cytorelay/cytorelay/core/Hl7Syntax", "indexOf", "(Ljava/lang/String;CII)I"⟩ : MethodName) prog_31_method_2_code 5 (some .int) ({ frames := 5, cells := 0, slots := 0, locals := 73 } : Room) ws #[(.ref a1), (.int s), (.int (0 : Int32)), (.int (4 : Int32))] h0 n0 (Pur (.int (own_ix_0_4 s c0 c1 c2 c3)) h0) := by
  refine Met.of pn_8 (fun m => ef_rmX_0_4 m a1 s) ?_
  refine Own.iloadN d8_0 rfl ?_
  refine Own.istore #[.val (.ref a1), .val (.int s), .val (.int (0 : Int32)), .val (.int (4 : Int32)), .val (.int (0 : Int32))] d8_1 rfl ?_
  refine Own.iload d8_3 rfl ?_
  refine Own.iloadN d8_5 rfl ?_
  refine Own.icmp_ge 25 d8_6 (by decide) rfl (fun q => absurd (by decide) q) (fun _ => ?_)
  refine Own.aloadN d8_9 rfl rfl ?_
  refine Own.iload d8_10 rfl ?_
  refine Own.callVP a1 [(.int (0 : Int32))] [] 0 (rmCA0 l Z a0 hw [] a1 b kb cod bs zc vf c0 c1 c2 c3 h0 n0 hn X_a1 F_v F_c V_b S_C S_F S_A S_H S_L hz hvf hr0 hr1 hr2 hr3 hsp) (hw _ (List.mem_of_getElem? (i := 41) rfl)) (hw _ (List.mem_of_getElem? (i := 42) rfl)) (fun s hZ => notFace_of_selects (args := #[]) (mvT hZ (hw _ (List.mem_of_getElem? (i := 44) rfl)))) (hw _ (List.mem_of_getElem? (i := 44) rfl)) (hw _ (List.mem_of_getElem? (i := 43) rfl)) (hw _ (List.mem_of_getElem? (i := 10) rfl)) (hw _ (List.mem_of_getElem? (i := 45) rfl)) (by decide) X_a1 d8_12 pd_2 rfl rfl rfl rfl (by decide) (by decide) (by decide) (by decide) ?_
  refine Own.iloadN d8_15 rfl ?_
  refine Own.icmp_eq 25 d8_16 (by decide) rfl (fun e0 => ?_) (fun e0 => ?_)
  · refine Own.iload d8_25 rfl ?_
    refine Own.ret_int rfl d8_27 (by decide) (by decide) ?_
    exact ⟨congrArg (fun z => some (Value.int z)) (by rw [own_ix_0_4, if_pos e0]), rfl⟩
  · refine Own.iinc (1 : Int32) #[.val (.ref a1), .val (.int s), .val (.int (0 : Int32)), .val (.int (4 : Int32)), .val (.int ((0 : Int32) + (1 : Int32)))] d8_19 rfl rfl rfl ?_
    refine OAt.castL (Ls' := #[.val (.ref a1), .val (.int s), .val (.int (0 : Int32)), .val (.int (4 : Int32)), .val (.int (1 : Int32))]) rfl rfl ?_
    refine Own.goto_ 3 d8_22 (by decide) rfl ?_
    refine Own.iload d8_3 rfl ?_
    refine Own.iloadN d8_5 rfl ?_
    refine Own.icmp_ge 25 d8_6 (by decide) rfl (fun q => absurd (by decide) q) (fun _ => ?_)
    refine Own.aloadN d8_9 rfl rfl ?_
    refine Own.iload d8_10 rfl ?_
    refine Own.callVP a1 [(.int (1 : Int32))] [] 0 (rmCA1 l Z a0 hw [] a1 b kb cod bs zc vf c0 c1 c2 c3 h0 n0 hn X_a1 F_v F_c V_b S_C S_F S_A S_H S_L hz hvf hr0 hr1 hr2 hr3 hsp) (hw _ (List.mem_of_getElem? (i := 41) rfl)) (hw _ (List.mem_of_getElem? (i := 42) rfl)) (fun s hZ => notFace_of_selects (args := #[]) (mvT hZ (hw _ (List.mem_of_getElem? (i := 44) rfl)))) (hw _ (List.mem_of_getElem? (i := 44) rfl)) (hw _ (List.mem_of_getElem? (i := 43) rfl)) (hw _ (List.mem_of_getElem? (i := 10) rfl)) (hw _ (List.mem_of_getElem? (i := 45) rfl)) (by decide) X_a1 d8_12 pd_2 rfl rfl rfl rfl (by decide) (by decide) (by decide) (by decide) ?_
    refine Own.iloadN d8_15 rfl ?_
    refine Own.icmp_eq 25 d8_16 (by decide) rfl (fun e1 => ?_) (fun e1 => ?_)
    · refine Own.iload d8_25 rfl ?_
      refine Own.ret_int rfl d8_27 (by decide) (by decide) ?_
      exact ⟨congrArg (fun z => some (Value.int z)) (by rw [own_ix_0_4, if_neg e0, if_pos e1]), rfl⟩
    · refine Own.iinc (1 : Int32) #[.val (.ref a1), .val (.int s), .val (.int (0 : Int32)), .val (.int (4 : Int32)), .val (.int ((1 : Int32) + (1 : Int32)))] d8_19 rfl rfl rfl ?_
      refine OAt.castL (Ls' := #[.val (.ref a1), .val (.int s), .val (.int (0 : Int32)), .val (.int (4 : Int32)), .val (.int (2 : Int32))]) rfl rfl ?_
      refine Own.goto_ 3 d8_22 (by decide) rfl ?_
      refine Own.iload d8_3 rfl ?_
      refine Own.iloadN d8_5 rfl ?_
      refine Own.icmp_ge 25 d8_6 (by decide) rfl (fun q => absurd (by decide) q) (fun _ => ?_)
      refine Own.aloadN d8_9 rfl rfl ?_
      refine Own.iload d8_10 rfl ?_
      refine Own.callVP a1 [(.int (2 : Int32))] [] 0 (rmCA2 l Z a0 hw [] a1 b kb cod bs zc vf c0 c1 c2 c3 h0 n0 hn X_a1 F_v F_c V_b S_C S_F S_A S_H S_L hz hvf hr0 hr1 hr2 hr3 hsp) (hw _ (List.mem_of_getElem? (i := 41) rfl)) (hw _ (List.mem_of_getElem? (i := 42) rfl)) (fun s hZ => notFace_of_selects (args := #[]) (mvT hZ (hw _ (List.mem_of_getElem? (i := 44) rfl)))) (hw _ (List.mem_of_getElem? (i := 44) rfl)) (hw _ (List.mem_of_getElem? (i := 43) rfl)) (hw _ (List.mem_of_getElem? (i := 10) rfl)) (hw _ (List.mem_of_getElem? (i := 45) rfl)) (by decide) X_a1 d8_12 pd_2 rfl rfl rfl rfl (by decide) (by decide) (by decide) (by decide) ?_
      refine Own.iloadN d8_15 rfl ?_
      refine Own.icmp_eq 25 d8_16 (by decide) rfl (fun e2 => ?_) (fun e2 => ?_)
      · refine Own.iload d8_25 rfl ?_
        refine Own.ret_int rfl d8_27 (by decide) (by decide) ?_
        exact ⟨congrArg (fun z => some (Value.int z)) (by rw [own_ix_0_4, if_neg e0, if_neg e1, if_pos e2]), rfl⟩
      · refine Own.iinc (1 : Int32) #[.val (.ref a1), .val (.int s), .val (.int (0 : Int32)), .val (.int (4 : Int32)), .val (.int ((2 : Int32) + (1 : Int32)))] d8_19 rfl rfl rfl ?_
        refine OAt.castL (Ls' := #[.val (.ref a1), .val (.int s), .val (.int (0 : Int32)), .val (.int (4 : Int32)), .val (.int (3 : Int32))]) rfl rfl ?_
        refine Own.goto_ 3 d8_22 (by decide) rfl ?_
        refine Own.iload d8_3 rfl ?_
        refine Own.iloadN d8_5 rfl ?_
        refine Own.icmp_ge 25 d8_6 (by decide) rfl (fun q => absurd (by decide) q) (fun _ => ?_)
        refine Own.aloadN d8_9 rfl rfl ?_
        refine Own.iload d8_10 rfl ?_
        refine Own.callVP a1 [(.int (3 : Int32))] [] 0 (rmCA3 l Z a0 hw [] a1 b kb cod bs zc vf c0 c1 c2 c3 h0 n0 hn X_a1 F_v F_c V_b S_C S_F S_A S_H S_L hz hvf hr0 hr1 hr2 hr3 hsp) (hw _ (List.mem_of_getElem? (i := 41) rfl)) (hw _ (List.mem_of_getElem? (i := 42) rfl)) (fun s hZ => notFace_of_selects (args := #[]) (mvT hZ (hw _ (List.mem_of_getElem? (i := 44) rfl)))) (hw _ (List.mem_of_getElem? (i := 44) rfl)) (hw _ (List.mem_of_getElem? (i := 43) rfl)) (hw _ (List.mem_of_getElem? (i := 10) rfl)) (hw _ (List.mem_of_getElem? (i := 45) rfl)) (by decide) X_a1 d8_12 pd_2 rfl rfl rfl rfl (by decide) (by decide) (by decide) (by decide) ?_
        refine Own.iloadN d8_15 rfl ?_
        refine Own.icmp_eq 25 d8_16 (by decide) rfl (fun e3 => ?_) (fun e3 => ?_)
        · refine Own.iload d8_25 rfl ?_
          refine Own.ret_int rfl d8_27 (by decide) (by decide) ?_
          exact ⟨congrArg (fun z => some (Value.int z)) (by rw [own_ix_0_4, if_neg e0, if_neg e1, if_neg e2, if_pos e3]), rfl⟩
        · refine Own.iinc (1 : Int32) #[.val (.ref a1), .val (.int s), .val (.int (0 : Int32)), .val (.int (4 : Int32)), .val (.int ((3 : Int32) + (1 : Int32)))] d8_19 rfl rfl rfl ?_
          refine OAt.castL (Ls' := #[.val (.ref a1), .val (.int s), .val (.int (0 : Int32)), .val (.int (4 : Int32)), .val (.int (4 : Int32))]) rfl rfl ?_
          refine Own.goto_ 3 d8_22 (by decide) rfl ?_
          refine Own.iload d8_3 rfl ?_
          refine Own.iloadN d8_5 rfl ?_
          refine Own.icmp_ge 25 d8_6 (by decide) rfl (fun _ => ?_) (fun q => absurd q (by decide))
          refine Own.iload d8_25 rfl ?_
          refine Own.ret_int rfl d8_27 (by decide) (by decide) ?_
          exact ⟨congrArg (fun z => some (Value.int z)) (by rw [own_ix_0_4, if_neg e0, if_neg e1, if_neg e2, if_neg e3]), rfl⟩
def own_ix_1_1 (s c0 c1 c2 c3 : Int32) : Int32 := (1 : Int32)
theorem ef_rmX_1_1 (m : MethodId) (a1 : Addr) (s : Int32)  : entryFrame m #[(.ref a1), (.int s), (.int (1 : Int32)), (.int (1 : Int32))] 5 = mkF m 0 #[.val (.ref a1), .val (.int s), .val (.int (1 : Int32)), .val (.int (1 : Int32)), .unset] [] := by first | (simp [entryFrame, mkF, argsToLocals, Value.category]; done) | rfl
set_option maxRecDepth 65536 in
set_option maxHeartbeats 40000000 in
theorem rmX_1_1 (l : Launch) (Z : State) (a0 : Array Value) (hw : ∀ d ∈ tables_1, d.before a0 Z = true) (ws : List Jvm.Cond) (a1 : Addr) (s : Int32) (b : Addr) (kb : ClassId) (cod : Int32) (bs : List Value) (zc : Int32) (vf : Value) (c0 : Int32) (c1 : Int32) (c2 : Int32) (c3 : Int32) (h0 : Heap) (n0 : Nat) (hn : n0 ≤ h0.size) (X_a1 : Exa Z h0 a1 "java/lang/String") (F_v : Fld Z h0 a1 "java/lang/String" "value" "[B" (.ref b)) (F_c : Fld Z h0 a1 "java/lang/String" "coder" "B" (.int cod)) (V_b : Arl Z h0 b kb .byte bs) (S_C : Sta Z h0 "java/lang/String" "COMPACT_STRINGS" "Z" (.int zc)) (S_F : Sta Z h0 "jdk/internal/util/Preconditions" "SIOOBE_FORMATTER" "Ljava/util/function/BiFunction;" vf) (S_A : Sta Z h0 "java/lang/StringUTF16" "$assertionsDisabled" "Z" (.int (1 : Int32))) (S_H : Sta Z h0 "java/lang/StringUTF16" "HI_BYTE_SHIFT" "I" (.int (0 : Int32))) (S_L : Sta Z h0 "java/lang/StringUTF16" "LO_BYTE_SHIFT" "I" (.int (8 : Int32))) (hz : ¬ zc = 0) (hvf : vf.isRef = true) (hr0 : 0 ≤ c0.toInt ∧ c0.toInt < 65536) (hr1 : 0 ≤ c1.toInt ∧ c1.toInt < 65536) (hr2 : 0 ≤ c2.toInt ∧ c2.toInt < 65536) (hr3 : 0 ≤ c3.toInt ∧ c3.toInt < 65536) (hsp : own_spell cod bs c0 c1 c2 c3) :
    Met false l Z (⟨"com/example/cytorelay/cytorelay/core/Hl7Syntax", "indexOf", "(Ljava/lang/String;CII)I"⟩ : MethodName) prog_31_method_2_code 5 (some .int) ({ frames := 0, cells := 0, slots := 0, locals := 0 } : Room) ws #[(.ref a1), (.int s), (.int (1 : Int32)), (.int (1 : Int32))] h0 n0 (Pur (.int (own_ix_1_1 s c0 c1 c2 c3)) h0) := by
  refine Met.of pn_8 (fun m => ef_rmX_1_1 m a1 s) ?_
  refine Own.iloadN d8_0 rfl ?_
  refine Own.istore #[.val (.ref a1), .val (.int s), .val (.int (1 : Int32)), .val (.int (1 : Int32)), .val (.int (1 : Int32))] d8_1 rfl ?_
  refine Own.iload d8_3 rfl ?_
  refine Own.iloadN d8_5 rfl ?_
  refine Own.icmp_ge 25 d8_6 (by decide) rfl (fun _ => ?_) (fun q => absurd q (by decide))
  refine Own.iload d8_25 rfl ?_
  refine Own.ret_int rfl d8_27 (by decide) (by decide) ?_
  exact ⟨congrArg (fun z => some (Value.int z)) (by rw [own_ix_1_1]), rfl⟩
def own_ix_1_2 (s c0 c1 c2 c3 : Int32) : Int32 := (if c1 = s then (1 : Int32) else (2 : Int32))
theorem ef_rmX_1_2 (m : MethodId) (a1 : Addr) (s : Int32)  : entryFrame m #[(.ref a1), (.int s), (.int (1 : Int32)), (.int (2 : Int32))] 5 = mkF m 0 #[.val (.ref a1), .val (.int s), .val (.int (1 : Int32)), .val (.int (2 : Int32)), .unset] [] := by first | (simp [entryFrame, mkF, argsToLocals, Value.category]; done) | rfl
set_option maxRecDepth 65536 in
set_option maxHeartbeats 40000000 in
theorem rmX_1_2 (l : Launch) (Z : State) (a0 : Array Value) (hw : ∀ d ∈ tables_1, d.before a0 Z = true) (ws : List Jvm.Cond) (a1 : Addr) (s : Int32) (b : Addr) (kb : ClassId) (cod : Int32) (bs : List Value) (zc : Int32) (vf : Value) (c0 : Int32) (c1 : Int32) (c2 : Int32) (c3 : Int32) (h0 : Heap) (n0 : Nat) (hn : n0 ≤ h0.size) (X_a1 : Exa Z h0 a1 "java/lang/String") (F_v : Fld Z h0 a1 "java/lang/String" "value" "[B" (.ref b)) (F_c : Fld Z h0 a1 "java/lang/String" "coder" "B" (.int cod)) (V_b : Arl Z h0 b kb .byte bs) (S_C : Sta Z h0 "java/lang/String" "COMPACT_STRINGS" "Z" (.int zc)) (S_F : Sta Z h0 "jdk/internal/util/Preconditions" "SIOOBE_FORMATTER" "Ljava/util/function/BiFunction;" vf) (S_A : Sta Z h0 "java/lang/StringUTF16" "$assertionsDisabled" "Z" (.int (1 : Int32))) (S_H : Sta Z h0 "java/lang/StringUTF16" "HI_BYTE_SHIFT" "I" (.int (0 : Int32))) (S_L : Sta Z h0 "java/lang/StringUTF16" "LO_BYTE_SHIFT" "I" (.int (8 : Int32))) (hz : ¬ zc = 0) (hvf : vf.isRef = true) (hr0 : 0 ≤ c0.toInt ∧ c0.toInt < 65536) (hr1 : 0 ≤ c1.toInt ∧ c1.toInt < 65536) (hr2 : 0 ≤ c2.toInt ∧ c2.toInt < 65536) (hr3 : 0 ≤ c3.toInt ∧ c3.toInt < 65536) (hsp : own_spell cod bs c0 c1 c2 c3) :
    Met false l Z (⟨"com/example/cytorelay/cytorelay/core/Hl7Syntax", "indexOf", "(Ljava/lang/String;CII)I"⟩ : MethodName) prog_31_method_2_code 5 (some .int) ({ frames := 5, cells := 0, slots := 0, locals := 73 } : Room) ws #[(.ref a1), (.int s), (.int (1 : Int32)), (.int (2 : Int32))] h0 n0 (Pur (.int (own_ix_1_2 s c0 c1 c2 c3)) h0) := by
  refine Met.of pn_8 (fun m => ef_rmX_1_2 m a1 s) ?_
  refine Own.iloadN d8_0 rfl ?_
  refine Own.istore #[.val (.ref a1), .val (.int s), .val (.int (1 : Int32)), .val (.int (2 : Int32)), .val (.int (1 : Int32))] d8_1 rfl ?_
  refine Own.iload d8_3 rfl ?_
  refine Own.iloadN d8_5 rfl ?_
  refine Own.icmp_ge 25 d8_6 (by decide) rfl (fun q => absurd (by decide) q) (fun _ => ?_)
  refine Own.aloadN d8_9 rfl rfl ?_
  refine Own.iload d8_10 rfl ?_
  refine Own.callVP a1 [(.int (1 : Int32))] [] 0 (rmCA1 l Z a0 hw [] a1 b kb cod bs zc vf c0 c1 c2 c3 h0 n0 hn X_a1 F_v F_c V_b S_C S_F S_A S_H S_L hz hvf hr0 hr1 hr2 hr3 hsp) (hw _ (List.mem_of_getElem? (i := 41) rfl)) (hw _ (List.mem_of_getElem? (i := 42) rfl)) (fun s hZ => notFace_of_selects (args := #[]) (mvT hZ (hw _ (List.mem_of_getElem? (i := 44) rfl)))) (hw _ (List.mem_of_getElem? (i := 44) rfl)) (hw _ (List.mem_of_getElem? (i := 43) rfl)) (hw _ (List.mem_of_getElem? (i := 10) rfl)) (hw _ (List.mem_of_getElem? (i := 45) rfl)) (by decide) X_a1 d8_12 pd_2 rfl rfl rfl rfl (by decide) (by decide) (by decide) (by decide) ?_
  refine Own.iloadN d8_15 rfl ?_
  refine Own.icmp_eq 25 d8_16 (by decide) rfl (fun e1 => ?_) (fun e1 => ?_)
  · refine Own.iload d8_25 rfl ?_
    refine Own.ret_int rfl d8_27 (by decide) (by decide) ?_
    exact ⟨congrArg (fun z => some (Value.int z)) (by rw [own_ix_1_2, if_pos e1]), rfl⟩
  · refine Own.iinc (1 : Int32) #[.val (.ref a1), .val (.int s), .val (.int (1 : Int32)), .val (.int (2 : Int32)), .val (.int ((1 : Int32) + (1 : Int32)))] d8_19 rfl rfl rfl ?_
    refine OAt.castL (Ls' := #[.val (.ref a1), .val (.int s), .val (.int (1 : Int32)), .val (.int (2 : Int32)), .val (.int (2 : Int32))]) rfl rfl ?_
    refine Own.goto_ 3 d8_22 (by decide) rfl ?_
    refine Own.iload d8_3 rfl ?_
    refine Own.iloadN d8_5 rfl ?_
    refine Own.icmp_ge 25 d8_6 (by decide) rfl (fun _ => ?_) (fun q => absurd q (by decide))
    refine Own.iload d8_25 rfl ?_
    refine Own.ret_int rfl d8_27 (by decide) (by decide) ?_
    exact ⟨congrArg (fun z => some (Value.int z)) (by rw [own_ix_1_2, if_neg e1]), rfl⟩
def own_ix_1_3 (s c0 c1 c2 c3 : Int32) : Int32 := (if c1 = s then (1 : Int32) else (if c2 = s then (2 : Int32) else (3 : Int32)))
theorem ef_rmX_1_3 (m : MethodId) (a1 : Addr) (s : Int32)  : entryFrame m #[(.ref a1), (.int s), (.int (1 : Int32)), (.int (3 : Int32))] 5 = mkF m 0 #[.val (.ref a1), .val (.int s), .val (.int (1 : Int32)), .val (.int (3 : Int32)), .unset] [] := by first | (simp [entryFrame, mkF, argsToLocals, Value.category]; done) | rfl
set_option maxRecDepth 65536 in
set_option maxHeartbeats 40000000 in
theorem rmX_1_3 (l : Launch) (Z : State) (a0 : Array Value) (hw : ∀ d ∈ tables_1, d.before a0 Z = true) (ws : List Jvm.Cond) (a1 : Addr) (s : Int32) (b : Addr) (kb : ClassId) (cod : Int32) (bs : List Value) (zc : Int32) (vf : Value) (c0 : Int32) (c1 : Int32) (c2 : Int32) (c3 : Int32) (h0 : Heap) (n0 : Nat) (hn : n0 ≤ h0.size) (X_a1 : Exa Z h0 a1 "java/lang/String") (F_v : Fld Z h0 a1 "java/lang/String" "value" "[B" (.ref b)) (F_c : Fld Z h0 a1 "java/lang/String" "coder" "B" (.int cod)) (V_b : Arl Z h0 b kb .byte bs) (S_C : Sta Z h0 "java/lang/String" "COMPACT_STRINGS" "Z" (.int zc)) (S_F : Sta Z h0 "jdk/internal/util/Preconditions" "SIOOBE_FORMATTER" "Ljava/util/function/BiFunction;" vf) (S_A : Sta Z h0 "java/lang/StringUTF16" "$assertionsDisabled" "Z" (.int (1 : Int32))) (S_H : Sta Z h0 "java/lang/StringUTF16" "HI_BYTE_SHIFT" "I" (.int (0 : Int32))) (S_L : Sta Z h0 "java/lang/StringUTF16" "LO_BYTE_SHIFT" "I" (.int (8 : Int32))) (hz : ¬ zc = 0) (hvf : vf.isRef = true) (hr0 : 0 ≤ c0.toInt ∧ c0.toInt < 65536) (hr1 : 0 ≤ c1.toInt ∧ c1.toInt < 65536) (hr2 : 0 ≤ c2.toInt ∧ c2.toInt < 65536) (hr3 : 0 ≤ c3.toInt ∧ c3.toInt < 65536) (hsp : own_spell cod bs c0 c1 c2 c3) :
    Met false l Z (⟨"com/example/cytorelay/cytorelay/core/Hl7Syntax", "indexOf", "(Ljava/lang/String;CII)I"⟩ : MethodName) prog_31_method_2_code 5 (some .int) ({ frames := 5, cells := 0, slots := 0, locals := 73 } : Room) ws #[(.ref a1), (.int s), (.int (1 : Int32)), (.int (3 : Int32))] h0 n0 (Pur (.int (own_ix_1_3 s c0 c1 c2 c3)) h0) := by
  refine Met.of pn_8 (fun m => ef_rmX_1_3 m a1 s) ?_
  refine Own.iloadN d8_0 rfl ?_
  refine Own.istore #[.val (.ref a1), .val (.int s), .val (.int (1 : Int32)), .val (.int (3 : Int32)), .val (.int (1 : Int32))] d8_1 rfl ?_
  refine Own.iload d8_3 rfl ?_
  refine Own.iloadN d8_5 rfl ?_
  refine Own.icmp_ge 25 d8_6 (by decide) rfl (fun q => absurd (by decide) q) (fun _ => ?_)
  refine Own.aloadN d8_9 rfl rfl ?_
  refine Own.iload d8_10 rfl ?_
  refine Own.callVP a1 [(.int (1 : Int32))] [] 0 (rmCA1 l Z a0 hw [] a1 b kb cod bs zc vf c0 c1 c2 c3 h0 n0 hn X_a1 F_v F_c V_b S_C S_F S_A S_H S_L hz hvf hr0 hr1 hr2 hr3 hsp) (hw _ (List.mem_of_getElem? (i := 41) rfl)) (hw _ (List.mem_of_getElem? (i := 42) rfl)) (fun s hZ => notFace_of_selects (args := #[]) (mvT hZ (hw _ (List.mem_of_getElem? (i := 44) rfl)))) (hw _ (List.mem_of_getElem? (i := 44) rfl)) (hw _ (List.mem_of_getElem? (i := 43) rfl)) (hw _ (List.mem_of_getElem? (i := 10) rfl)) (hw _ (List.mem_of_getElem? (i := 45) rfl)) (by decide) X_a1 d8_12 pd_2 rfl rfl rfl rfl (by decide) (by decide) (by decide) (by decide) ?_
  refine Own.iloadN d8_15 rfl ?_
  refine Own.icmp_eq 25 d8_16 (by decide) rfl (fun e1 => ?_) (fun e1 => ?_)
  · refine Own.iload d8_25 rfl ?_
    refine Own.ret_int rfl d8_27 (by decide) (by decide) ?_
    exact ⟨congrArg (fun z => some (Value.int z)) (by rw [own_ix_1_3, if_pos e1]), rfl⟩
  · refine Own.iinc (1 : Int32) #[.val (.ref a1), .val (.int s), .val (.int (1 : Int32)), .val (.int (3 : Int32)), .val (.int ((1 : Int32) + (1 : Int32)))] d8_19 rfl rfl rfl ?_
    refine OAt.castL (Ls' := #[.val (.ref a1), .val (.int s), .val (.int (1 : Int32)), .val (.int (3 : Int32)), .val (.int (2 : Int32))]) rfl rfl ?_
    refine Own.goto_ 3 d8_22 (by decide) rfl ?_
    refine Own.iload d8_3 rfl ?_
    refine Own.iloadN d8_5 rfl ?_
    refine Own.icmp_ge 25 d8_6 (by decide) rfl (fun q => absurd (by decide) q) (fun _ => ?_)
    refine Own.aloadN d8_9 rfl rfl ?_
    refine Own.iload d8_10 rfl ?_
    refine Own.callVP a1 [(.int (2 : Int32))] [] 0 (rmCA2 l Z a0 hw [] a1 b kb cod bs zc vf c0 c1 c2 c3 h0 n0 hn X_a1 F_v F_c V_b S_C S_F S_A S_H S_L hz hvf hr0 hr1 hr2 hr3 hsp) (hw _ (List.mem_of_getElem? (i := 41) rfl)) (hw _ (List.mem_of_getElem? (i := 42) rfl)) (fun s hZ => notFace_of_selects (args := #[]) (mvT hZ (hw _ (List.mem_of_getElem? (i := 44) rfl)))) (hw _ (List.mem_of_getElem? (i := 44) rfl)) (hw _ (List.mem_of_getElem? (i := 43) rfl)) (hw _ (List.mem_of_getElem? (i := 10) rfl)) (hw _ (List.mem_of_getElem? (i := 45) rfl)) (by decide) X_a1 d8_12 pd_2 rfl rfl rfl rfl (by decide) (by decide) (by decide) (by decide) ?_
    refine Own.iloadN d8_15 rfl ?_
    refine Own.icmp_eq 25 d8_16 (by decide) rfl (fun e2 => ?_) (fun e2 => ?_)
    · refine Own.iload d8_25 rfl ?_
      refine Own.ret_int rfl d8_27 (by decide) (by decide) ?_
      exact ⟨congrArg (fun z => some (Value.int z)) (by rw [own_ix_1_3, if_neg e1, if_pos e2]), rfl⟩
    · refine Own.iinc (1 : Int32) #[.val (.ref a1), .val (.int s), .val (.int (1 : Int32)), .val (.int (3 : Int32)), .val (.int ((2 : Int32) + (1 : Int32)))] d8_19 rfl rfl rfl ?_
      refine OAt.castL (Ls' := #[.val (.ref a1), .val (.int s), .val (.int (1 : Int32)), .val (.int (3 : Int32)), .val (.int (3 : Int32))]) rfl rfl ?_
      refine Own.goto_ 3 d8_22 (by decide) rfl ?_
      refine Own.iload d8_3 rfl ?_
      refine Own.iloadN d8_5 rfl ?_
      refine Own.icmp_ge 25 d8_6 (by decide) rfl (fun _ => ?_) (fun q => absurd q (by decide))
      refine Own.iload d8_25 rfl ?_
      refine Own.ret_int rfl d8_27 (by decide) (by decide) ?_
      exact ⟨congrArg (fun z => some (Value.int z)) (by rw [own_ix_1_3, if_neg e1, if_neg e2]), rfl⟩
def own_ix_1_4 (s c0 c1 c2 c3 : Int32) : Int32 := (if c1 = s then (1 : Int32) else (if c2 = s then (2 : Int32) else (if c3 = s then (3 : Int32) else (4 : Int32))))
theorem ef_rmX_1_4 (m : MethodId) (a1 : Addr) (s : Int32)  : entryFrame m #[(.ref a1), (.int s), (.int (1 : Int32)), (.int (4 : Int32))] 5 = mkF m 0 #[.val (.ref a1), .val (.int s), .val (.int (1 : Int32)), .val (.int (4 : Int32)), .unset] [] := by first | (simp [entryFrame, mkF, argsToLocals, Value.category]; done) | rfl
set_option maxRecDepth 65536 in
set_option maxHeartbeats 40000000 in
theorem rmX_1_4 (l : Launch) (Z : State) (a0 : Array Value) (hw : ∀ d ∈ tables_1, d.before a0 Z = true) (ws : List Jvm.Cond) (a1 : Addr) (s : Int32) (b : Addr) (kb : ClassId) (cod : Int32) (bs : List Value) (zc : Int32) (vf : Value) (c0 : Int32) (c1 : Int32) (c2 : Int32) (c3 : Int32) (h0 : Heap) (n0 : Nat) (hn : n0 ≤ h0.size) (X_a1 : Exa Z h0 a1 "java/lang/String") (F_v : Fld Z h0 a1 "java/lang/String" "value" "[B" (.ref b)) (F_c : Fld Z h0 a1 "java/lang/String" "coder" "B" (.int cod)) (V_b : Arl Z h0 b kb .byte bs) (S_C : Sta Z h0 "java/lang/String" "COMPACT_STRINGS" "Z" (.int zc)) (S_F : Sta Z h0 "jdk/internal/util/Preconditions" "SIOOBE_FORMATTER" "Ljava/util/function/BiFunction;" vf) (S_A : Sta Z h0 "java/lang/StringUTF16" "$assertionsDisabled" "Z" (.int (1 : Int32))) (S_H : Sta Z h0 "java/lang/StringUTF16" "HI_BYTE_SHIFT" "I" (.int (0 : Int32))) (S_L : Sta Z h0 "java/lang/StringUTF16" "LO_BYTE_SHIFT" "I" (.int (8 : Int32))) (hz : ¬ zc = 0) (hvf : vf.isRef = true) (hr0 : 0 ≤ c0.toInt ∧ c0.toInt < 65536) (hr1 : 0 ≤ c1.toInt ∧ c1.toInt < 65536) (hr2 : 0 ≤ c2.toInt ∧ c2.toInt < 65536) (hr3 : 0 ≤ c3.toInt ∧ c3.toInt < 65536) (hsp : own_spell cod bs c0 c1 c2 c3) :
    Met false l Z (⟨"com/example/cytorelay/cytorelay/core/Hl7Syntax", "indexOf", "(Ljava/lang/String;CII)I"⟩ : MethodName) prog_31_method_2_code 5 (some .int) ({ frames := 5, cells := 0, slots := 0, locals := 73 } : Room) ws #[(.ref a1), (.int s), (.int (1 : Int32)), (.int (4 : Int32))] h0 n0 (Pur (.int (own_ix_1_4 s c0 c1 c2 c3)) h0) := by
  refine Met.of pn_8 (fun m => ef_rmX_1_4 m a1 s) ?_
  refine Own.iloadN d8_0 rfl ?_
  refine Own.istore #[.val (.ref a1), .val (.int s), .val (.int (1 : Int32)), .val (.int (4 : Int32)), .val (.int (1 : Int32))] d8_1 rfl ?_
  refine Own.iload d8_3 rfl ?_
  refine Own.iloadN d8_5 rfl ?_
  refine Own.icmp_ge 25 d8_6 (by decide) rfl (fun q => absurd (by decide) q) (fun _ => ?_)
  refine Own.aloadN d8_9 rfl rfl ?_
  refine Own.iload d8_10 rfl ?_
  refine Own.callVP a1 [(.int (1 : Int32))] [] 0 (rmCA1 l Z a0 hw [] a1 b kb cod bs zc vf c0 c1 c2 c3 h0 n0 hn X_a1 F_v F_c V_b S_C S_F S_A S_H S_L hz hvf hr0 hr1 hr2 hr3 hsp) (hw _ (List.mem_of_getElem? (i := 41) rfl)) (hw _ (List.mem_of_getElem? (i := 42) rfl)) (fun s hZ => notFace_of_selects (args := #[]) (mvT hZ (hw _ (List.mem_of_getElem? (i := 44) rfl)))) (hw _ (List.mem_of_getElem? (i := 44) rfl)) (hw _ (List.mem_of_getElem? (i := 43) rfl)) (hw _ (List.mem_of_getElem? (i := 10) rfl)) (hw _ (List.mem_of_getElem? (i := 45) rfl)) (by decide) X_a1 d8_12 pd_2 rfl rfl rfl rfl (by decide) (by decide) (by decide) (by decide) ?_
  refine Own.iloadN d8_15 rfl ?_
  refine Own.icmp_eq 25 d8_16 (by decide) rfl (fun e1 => ?_) (fun e1 => ?_)
  · refine Own.iload d8_25 rfl ?_
    refine Own.ret_int rfl d8_27 (by decide) (by decide) ?_
    exact ⟨congrArg (fun z => some (Value.int z)) (by rw [own_ix_1_4, if_pos e1]), rfl⟩
  · refine Own.iinc (1 : Int32) #[.val (.ref a1), .val (.int s), .val (.int (1 : Int32)), .val (.int (4 : Int32)), .val (.int ((1 : Int32) + (1 : Int32)))] d8_19 rfl rfl rfl ?_
    refine OAt.castL (Ls' := #[.val (.ref a1), .val (.int s), .val (.int (1 : Int32)), .val (.int (4 : Int32)), .val (.int (2 : Int32))]) rfl rfl ?_
    refine Own.goto_ 3 d8_22 (by decide) rfl ?_
    refine Own.iload d8_3 rfl ?_
    refine Own.iloadN d8_5 rfl ?_
    refine Own.icmp_ge 25 d8_6 (by decide) rfl (fun q => absurd (by decide) q) (fun _ => ?_)
    refine Own.aloadN d8_9 rfl rfl ?_
    refine Own.iload d8_10 rfl ?_
    refine Own.callVP a1 [(.int (2 : Int32))] [] 0 (rmCA2 l Z a0 hw [] a1 b kb cod bs zc vf c0 c1 c2 c3 h0 n0 hn X_a1 F_v F_c V_b S_C S_F S_A S_H S_L hz hvf hr0 hr1 hr2 hr3 hsp) (hw _ (List.mem_of_getElem? (i := 41) rfl)) (hw _ (List.mem_of_getElem? (i := 42) rfl)) (fun s hZ => notFace_of_selects (args := #[]) (mvT hZ (hw _ (List.mem_of_getElem? (i := 44) rfl)))) (hw _ (List.mem_of_getElem? (i := 44) rfl)) (hw _ (List.mem_of_getElem? (i := 43) rfl)) (hw _ (List.mem_of_getElem? (i := 10) rfl)) (hw _ (List.mem_of_getElem? (i := 45) rfl)) (by decide) X_a1 d8_12 pd_2 rfl rfl rfl rfl (by decide) (by decide) (by decide) (by decide) ?_
    refine Own.iloadN d8_15 rfl ?_
    refine Own.icmp_eq 25 d8_16 (by decide) rfl (fun e2 => ?_) (fun e2 => ?_)
    · refine Own.iload d8_25 rfl ?_
      refine Own.ret_int rfl d8_27 (by decide) (by decide) ?_
      exact ⟨congrArg (fun z => some (Value.int z)) (by rw [own_ix_1_4, if_neg e1, if_pos e2]), rfl⟩
    · refine Own.iinc (1 : Int32) #[.val (.ref a1), .val (.int s), .val (.int (1 : Int32)), .val (.int (4 : Int32)), .val (.int ((2 : Int32) + (1 : Int32)))] d8_19 rfl rfl rfl ?_
      refine OAt.castL (Ls' := #[.val (.ref a1), .val (.int s), .val (.int (1 : Int32)), .val (.int (4 : Int32)), .val (.int (3 : Int32))]) rfl rfl ?_
      refine Own.goto_ 3 d8_22 (by decide) rfl ?_
      refine Own.iload d8_3 rfl ?_
      refine Own.iloadN d8_5 rfl ?_
      refine Own.icmp_ge 25 d8_6 (by decide) rfl (fun q => absurd (by decide) q) (fun _ => ?_)
      refine Own.aloadN d8_9 rfl rfl ?_
      refine Own.iload d8_10 rfl ?_
      refine Own.callVP a1 [(.int (3 : Int32))] [] 0 (rmCA3 l Z a0 hw [] a1 b kb cod bs zc vf c0 c1 c2 c3 h0 n0 hn X_a1 F_v F_c V_b S_C S_F S_A S_H S_L hz hvf hr0 hr1 hr2 hr3 hsp) (hw _ (List.mem_of_getElem? (i := 41) rfl)) (hw _ (List.mem_of_getElem? (i := 42) rfl)) (fun s hZ => notFace_of_selects (args := #[]) (mvT hZ (hw _ (List.mem_of_getElem? (i := 44) rfl)))) (hw _ (List.mem_of_getElem? (i := 44) rfl)) (hw _ (List.mem_of_getElem? (i := 43) rfl)) (hw _ (List.mem_of_getElem? (i := 10) rfl)) (hw _ (List.mem_of_getElem? (i := 45) rfl)) (by decide) X_a1 d8_12 pd_2 rfl rfl rfl rfl (by decide) (by decide) (by decide) (by decide) ?_
      refine Own.iloadN d8_15 rfl ?_
      refine Own.icmp_eq 25 d8_16 (by decide) rfl (fun e3 => ?_) (fun e3 => ?_)
      · refine Own.iload d8_25 rfl ?_
        refine Own.ret_int rfl d8_27 (by decide) (by decide) ?_
        exact ⟨congrArg (fun z => some (Value.int z)) (by rw [own_ix_1_4, if_neg e1, if_neg e2, if_pos e3]), rfl⟩
      · refine Own.iinc (1 : Int32) #[.val (.ref a1), .val (.int s), .val (.int (1 : Int32)), .val (.int (4 : Int32)), .val (.int ((3 : Int32) + (1 : Int32)))] d8_19 rfl rfl rfl ?_
        refine OAt.castL (Ls' := #[.val (.ref a1), .val (.int s), .val (.int (1 : Int32)), .val (.int (4 : Int32)), .val (.int (4 : Int32))]) rfl rfl ?_
        refine Own.goto_ 3 d8_22 (by decide) rfl ?_
        refine Own.iload d8_3 rfl ?_
        refine Own.iloadN d8_5 rfl ?_
        refine Own.icmp_ge 25 d8_6 (by decide) rfl (fun _ => ?_) (fun q => absurd q (by decide))
        refine Own.iload d8_25 rfl ?_
        refine Own.ret_int rfl d8_27 (by decide) (by decide) ?_
        exact ⟨congrArg (fun z => some (Value.int z)) (by rw [own_ix_1_4, if_neg e1, if_neg e2, if_neg e3]), rfl⟩
def own_ix_2_2 (s c0 c1 c2 c3 : Int32) : Int32 := (2 : Int32)
theorem ef_rmX_2_2 (m : MethodId) (a1 : Addr) (s : Int32)  : entryFrame m #[(.ref a1), (.int s), (.int (2 : Int32)), (.int (2 : Int32))] 5 = mkF m 0 #[.val (.ref a1), .val (.int s), .val (.int (2 : Int32)), .val (.int (2 : Int32)), .unset] [] := by first | (simp [entryFrame, mkF, argsToLocals, Value.category]; done) | rfl
set_option maxRecDepth 65536 in
set_option maxHeartbeats 40000000 in
theorem rmX_2_2 (l : Launch) (Z : State) (a0 : Array Value) (hw : ∀ d ∈ tables_1, d.before a0 Z = true) (ws : List Jvm.Cond) (a1 : Addr) (s : Int32) (b : Addr) (kb : ClassId) (cod : Int32) (bs : List Value) (zc : Int32) (vf : Value) (c0 : Int32) (c1 : Int32) (c2 : Int32) (c3 : Int32) (h0 : Heap) (n0 : Nat) (hn : n0 ≤ h0.size) (X_a1 : Exa Z h0 a1 "java/lang/String") (F_v : Fld Z h0 a1 "java/lang/String" "value" "[B" (.ref b)) (F_c : Fld Z h0 a1 "java/lang/String" "coder" "B" (.int cod)) (V_b : Arl Z h0 b kb .byte bs) (S_C : Sta Z h0 "java/lang/String" "COMPACT_STRINGS" "Z" (.int zc)) (S_F : Sta Z h0 "jdk/internal/util/Preconditions" "SIOOBE_FORMATTER" "Ljava/util/function/BiFunction;" vf) (S_A : Sta Z h0 "java/lang/StringUTF16" "$assertionsDisabled" "Z" (.int (1 : Int32))) (S_H : Sta Z h0 "java/lang/StringUTF16" "HI_BYTE_SHIFT" "I" (.int (0 : Int32))) (S_L : Sta Z h0 "java/lang/StringUTF16" "LO_BYTE_SHIFT" "I" (.int (8 : Int32))) (hz : ¬ zc = 0) (hvf : vf.isRef = true) (hr0 : 0 ≤ c0.toInt ∧ c0.toInt < 65536) (hr1 : 0 ≤ c1.toInt ∧ c1.toInt < 65536) (hr2 : 0 ≤ c2.toInt ∧ c2.toInt < 65536) (hr3 : 0 ≤ c3.toInt ∧ c3.toInt < 65536) (hsp : own_spell cod bs c0 c1 c2 c3) :
    Met false l Z (⟨"com/example/cytorelay/cytorelay/core/Hl7Syntax", "indexOf", "(Ljava/lang/String;CII)I"⟩ : MethodName) prog_31_method_2_code 5 (some .int) ({ frames := 0, cells := 0, slots := 0, locals := 0 } : Room) ws #[(.ref a1), (.int s), (.int (2 : Int32)), (.int (2 : Int32))] h0 n0 (Pur (.int (own_ix_2_2 s c0 c1 c2 c3)) h0) := by
  refine Met.of pn_8 (fun m => ef_rmX_2_2 m a1 s) ?_
  refine Own.iloadN d8_0 rfl ?_
  refine Own.istore #[.val (.ref a1), .val (.int s), .val (.int (2 : Int32)), .val (.int (2 : Int32)), .val (.int (2 : Int32))] d8_1 rfl ?_
  refine Own.iload d8_3 rfl ?_
  refine Own.iloadN d8_5 rfl ?_
  refine Own.icmp_ge 25 d8_6 (by decide) rfl (fun _ => ?_) (fun q => absurd q (by decide))
  refine Own.iload d8_25 rfl ?_
  refine Own.ret_int rfl d8_27 (by decide) (by decide) ?_
  exact ⟨congrArg (fun z => some (Value.int z)) (by rw [own_ix_2_2]), rfl⟩
def own_ix_2_3 (s c0 c1 c2 c3 : Int32) : Int32 := (if c2 = s then (2 : Int32) else (3 : Int32))
theorem ef_rmX_2_3 (m : MethodId) (a1 : Addr) (s : Int32)  : entryFrame m #[(.ref a1), (.int s), (.int (2 : Int32)), (.int (3 : Int32))] 5 = mkF m 0 #[.val (.ref a1), .val (.int s), .val (.int (2 : Int32)), .val (.int (3 : Int32)), .unset] [] := by first | (simp [entryFrame, mkF, argsToLocals, Value.category]; done) | rfl
set_option maxRecDepth 65536 in
set_option maxHeartbeats 40000000 in
theorem rmX_2_3 (l : Launch) (Z : State) (a0 : Array Value) (hw : ∀ d ∈ tables_1, d.before a0 Z = true) (ws : List Jvm.Cond) (a1 : Addr) (s : Int32) (b : Addr) (kb : ClassId) (cod : Int32) (bs : List Value) (zc : Int32) (vf : Value) (c0 : Int32) (c1 : Int32) (c2 : Int32) (c3 : Int32) (h0 : Heap) (n0 : Nat) (hn : n0 ≤ h0.size) (X_a1 : Exa Z h0 a1 "java/lang/String") (F_v : Fld Z h0 a1 "java/lang/String" "value" "[B" (.ref b)) (F_c : Fld Z h0 a1 "java/lang/String" "coder" "B" (.int cod)) (V_b : Arl Z h0 b kb .byte bs) (S_C : Sta Z h0 "java/lang/String" "COMPACT_STRINGS" "Z" (.int zc)) (S_F : Sta Z h0 "jdk/internal/util/Preconditions" "SIOOBE_FORMATTER" "Ljava/util/function/BiFunction;" vf) (S_A : Sta Z h0 "java/lang/StringUTF16" "$assertionsDisabled" "Z" (.int (1 : Int32))) (S_H : Sta Z h0 "java/lang/StringUTF16" "HI_BYTE_SHIFT" "I" (.int (0 : Int32))) (S_L : Sta Z h0 "java/lang/StringUTF16" "LO_BYTE_SHIFT" "I" (.int (8 : Int32))) (hz : ¬ zc = 0) (hvf : vf.isRef = true) (hr0 : 0 ≤ c0.toInt ∧ c0.toInt < 65536) (hr1 : 0 ≤ c1.toInt ∧ c1.toInt < 65536) (hr2 : 0 ≤ c2.toInt ∧ c2.toInt < 65536) (hr3 : 0 ≤ c3.toInt ∧ c3.toInt < 65536) (hsp : own_spell cod bs c0 c1 c2 c3) :
    Met false l Z (⟨"com/example/cytorelay/cytorelay/core/Hl7Syntax", "indexOf", "(Ljava/lang/String;CII)I"⟩ : MethodName) prog_31_method_2_code 5 (some .int) ({ frames := 5, cells := 0, slots := 0, locals := 73 } : Room) ws #[(.ref a1), (.int s), (.int (2 : Int32)), (.int (3 : Int32))] h0 n0 (Pur (.int (own_ix_2_3 s c0 c1 c2 c3)) h0) := by
  refine Met.of pn_8 (fun m => ef_rmX_2_3 m a1 s) ?_
  refine Own.iloadN d8_0 rfl ?_
  refine Own.istore #[.val (.ref a1), .val (.int s), .val (.int (2 : Int32)), .val (.int (3 : Int32)), .val (.int (2 : Int32))] d8_1 rfl ?_
  refine Own.iload d8_3 rfl ?_
  refine Own.iloadN d8_5 rfl ?_
  refine Own.icmp_ge 25 d8_6 (by decide) rfl (fun q => absurd (by decide) q) (fun _ => ?_)
  refine Own.aloadN d8_9 rfl rfl ?_
  refine Own.iload d8_10 rfl ?_
  refine Own.callVP a1 [(.int (2 : Int32))] [] 0 (rmCA2 l Z a0 hw [] a1 b kb cod bs zc vf c0 c1 c2 c3 h0 n0 hn X_a1 F_v F_c V_b S_C S_F S_A S_H S_L hz hvf hr0 hr1 hr2 hr3 hsp) (hw _ (List.mem_of_getElem? (i := 41) rfl)) (hw _ (List.mem_of_getElem? (i := 42) rfl)) (fun s hZ => notFace_of_selects (args := #[]) (mvT hZ (hw _ (List.mem_of_getElem? (i := 44) rfl)))) (hw _ (List.mem_of_getElem? (i := 44) rfl)) (hw _ (List.mem_of_getElem? (i := 43) rfl)) (hw _ (List.mem_of_getElem? (i := 10) rfl)) (hw _ (List.mem_of_getElem? (i := 45) rfl)) (by decide) X_a1 d8_12 pd_2 rfl rfl rfl rfl (by decide) (by decide) (by decide) (by decide) ?_
  refine Own.iloadN d8_15 rfl ?_
  refine Own.icmp_eq 25 d8_16 (by decide) rfl (fun e2 => ?_) (fun e2 => ?_)
  · refine Own.iload d8_25 rfl ?_
    refine Own.ret_int rfl d8_27 (by decide) (by decide) ?_
    exact ⟨congrArg (fun z => some (Value.int z)) (by rw [own_ix_2_3, if_pos e2]), rfl⟩
  · refine Own.iinc (1 : Int32) #[.val (.ref a1), .val (.int s), .val (.int (2 : Int32)), .val (.int (3 : Int32)), .val (.int ((2 : Int32) + (1 : Int32)))] d8_19 rfl rfl rfl ?_
    refine OAt.castL (Ls' := #[.val (.ref a1), .val (.int s), .val (.int (2 : Int32)), .val (.int (3 : Int32)), .val (.int (3 : Int32))]) rfl rfl ?_
    refine Own.goto_ 3 d8_22 (by decide) rfl ?_
    refine Own.iload d8_3 rfl ?_
    refine Own.iloadN d8_5 rfl ?_
    refine Own.icmp_ge 25 d8_6 (by decide) rfl (fun _ => ?_) (fun q => absurd q (by decide))
    refine Own.iload d8_25 rfl ?_
    refine Own.ret_int rfl d8_27 (by decide) (by decide) ?_
    exact ⟨congrArg (fun z => some (Value.int z)) (by rw [own_ix_2_3, if_neg e2]), rfl⟩
def own_ix_2_4 (s c0 c1 c2 c3 : Int32) : Int32 := (if c2 = s then (2 : Int32) else (if c3 = s then (3 : Int32) else (4 : Int32)))
theorem ef_rmX_2_4 (m : MethodId) (a1 : Addr) (s : Int32)  : entryFrame m #[(.ref a1), (.int s), (.int (2 : Int32)), (.int (4 : Int32))] 5 = mkF m 0 #[.val (.ref a1), .val (.int s), .val (.int (2 : Int32)), .val (.int (4 : Int32)), .unset] [] := by first | (simp [entryFrame, mkF, argsToLocals, Value.category]; done) | rfl
set_option maxRecDepth 65536 in
set_option maxHeartbeats 40000000 in
theorem rmX_2_4 (l : Launch) (Z : State) (a0 : Array Value) (hw : ∀ d ∈ tables_1, d.before a0 Z = true) (ws : List Jvm.Cond) (a1 : Addr) (s : Int32) (b : Addr) (kb : ClassId) (cod : Int32) (bs : List Value) (zc : Int32) (vf : Value) (c0 : Int32) (c1 : Int32) (c2 : Int32) (c3 : Int32) (h0 : Heap) (n0 : Nat) (hn : n0 ≤ h0.size) (X_a1 : Exa Z h0 a1 "java/lang/String") (F_v : Fld Z h0 a1 "java/lang/String" "value" "[B" (.ref b)) (F_c : Fld Z h0 a1 "java/lang/String" "coder" "B" (.int cod)) (V_b : Arl Z h0 b kb .byte bs) (S_C : Sta Z h0 "java/lang/String" "COMPACT_STRINGS" "Z" (.int zc)) (S_F : Sta Z h0 "jdk/internal/util/Preconditions" "SIOOBE_FORMATTER" "Ljava/util/function/BiFunction;" vf) (S_A : Sta Z h0 "java/lang/StringUTF16" "$assertionsDisabled" "Z" (.int (1 : Int32))) (S_H : Sta Z h0 "java/lang/StringUTF16" "HI_BYTE_SHIFT" "I" (.int (0 : Int32))) (S_L : Sta Z h0 "java/lang/StringUTF16" "LO_BYTE_SHIFT" "I" (.int (8 : Int32))) (hz : ¬ zc = 0) (hvf : vf.isRef = true) (hr0 : 0 ≤ c0.toInt ∧ c0.toInt < 65536) (hr1 : 0 ≤ c1.toInt ∧ c1.toInt < 65536) (hr2 : 0 ≤ c2.toInt ∧ c2.toInt < 65536) (hr3 : 0 ≤ c3.toInt ∧ c3.toInt < 65536) (hsp : own_spell cod bs c0 c1 c2 c3) :
    Met false l Z (⟨"com/example/cytorelay/cytorelay/core/Hl7Syntax", "indexOf", "(Ljava/lang/String;CII)I"⟩ : MethodName) prog_31_method_2_code 5 (some .int) ({ frames := 5, cells := 0, slots := 0, locals := 73 } : Room) ws #[(.ref a1), (.int s), (.int (2 : Int32)), (.int (4 : Int32))] h0 n0 (Pur (.int (own_ix_2_4 s c0 c1 c2 c3)) h0) := by
  refine Met.of pn_8 (fun m => ef_rmX_2_4 m a1 s) ?_
  refine Own.iloadN d8_0 rfl ?_
  refine Own.istore #[.val (.ref a1), .val (.int s), .val (.int (2 : Int32)), .val (.int (4 : Int32)), .val (.int (2 : Int32))] d8_1 rfl ?_
  refine Own.iload d8_3 rfl ?_
  refine Own.iloadN d8_5 rfl ?_
  refine Own.icmp_ge 25 d8_6 (by decide) rfl (fun q => absurd (by decide) q) (fun _ => ?_)
  refine Own.aloadN d8_9 rfl rfl ?_
  refine Own.iload d8_10 rfl ?_
  refine Own.callVP a1 [(.int (2 : Int32))] [] 0 (rmCA2 l Z a0 hw [] a1 b kb cod bs zc vf c0 c1 c2 c3 h0 n0 hn X_a1 F_v F_c V_b S_C S_F S_A S_H S_L hz hvf hr0 hr1 hr2 hr3 hsp) (hw _ (List.mem_of_getElem? (i := 41) rfl)) (hw _ (List.mem_of_getElem? (i := 42) rfl)) (fun s hZ => notFace_of_selects (args := #[]) (mvT hZ (hw _ (List.mem_of_getElem? (i := 44) rfl)))) (hw _ (List.mem_of_getElem? (i := 44) rfl)) (hw _ (List.mem_of_getElem? (i := 43) rfl)) (hw _ (List.mem_of_getElem? (i := 10) rfl)) (hw _ (List.mem_of_getElem? (i := 45) rfl)) (by decide) X_a1 d8_12 pd_2 rfl rfl rfl rfl (by decide) (by decide) (by decide) (by decide) ?_
  refine Own.iloadN d8_15 rfl ?_
  refine Own.icmp_eq 25 d8_16 (by decide) rfl (fun e2 => ?_) (fun e2 => ?_)
  · refine Own.iload d8_25 rfl ?_
    refine Own.ret_int rfl d8_27 (by decide) (by decide) ?_
    exact ⟨congrArg (fun z => some (Value.int z)) (by rw [own_ix_2_4, if_pos e2]), rfl⟩
  · refine Own.iinc (1 : Int32) #[.val (.ref a1), .val (.int s), .val (.int (2 : Int32)), .val (.int (4 : Int32)), .val (.int ((2 : Int32) + (1 : Int32)))] d8_19 rfl rfl rfl ?_
    refine OAt.castL (Ls' := #[.val (.ref a1), .val (.int s), .val (.int (2 : Int32)), .val (.int (4 : Int32)), .val (.int (3 : Int32))]) rfl rfl ?_
    refine Own.goto_ 3 d8_22 (by decide) rfl ?_
    refine Own.iload d8_3 rfl ?_
    refine Own.iloadN d8_5 rfl ?_
    refine Own.icmp_ge 25 d8_6 (by decide) rfl (fun q => absurd (by decide) q) (fun _ => ?_)
    refine Own.aloadN d8_9 rfl rfl ?_
    refine Own.iload d8_10 rfl ?_
    refine Own.callVP a1 [(.int (3 : Int32))] [] 0 (rmCA3 l Z a0 hw [] a1 b kb cod bs zc vf c0 c1 c2 c3 h0 n0 hn X_a1 F_v F_c V_b S_C S_F S_A S_H S_L hz hvf hr0 hr1 hr2 hr3 hsp) (hw _ (List.mem_of_getElem? (i := 41) rfl)) (hw _ (List.mem_of_getElem? (i := 42) rfl)) (fun s hZ => notFace_of_selects (args := #[]) (mvT hZ (hw _ (List.mem_of_getElem? (i := 44) rfl)))) (hw _ (List.mem_of_getElem? (i := 44) rfl)) (hw _ (List.mem_of_getElem? (i := 43) rfl)) (hw _ (List.mem_of_getElem? (i := 10) rfl)) (hw _ (List.mem_of_getElem? (i := 45) rfl)) (by decide) X_a1 d8_12 pd_2 rfl rfl rfl rfl (by decide) (by decide) (by decide) (by decide) ?_
    refine Own.iloadN d8_15 rfl ?_
    refine Own.icmp_eq 25 d8_16 (by decide) rfl (fun e3 => ?_) (fun e3 => ?_)
    · refine Own.iload d8_25 rfl ?_
      refine Own.ret_int rfl d8_27 (by decide) (by decide) ?_
      exact ⟨congrArg (fun z => some (Value.int z)) (by rw [own_ix_2_4, if_neg e2, if_pos e3]), rfl⟩
    · refine Own.iinc (1 : Int32) #[.val (.ref a1), .val (.int s), .val (.int (2 : Int32)), .val (.int (4 : Int32)), .val (.int ((3 : Int32) + (1 : Int32)))] d8_19 rfl rfl rfl ?_
      refine OAt.castL (Ls' := #[.val (.ref a1), .val (.int s), .val (.int (2 : Int32)), .val (.int (4 : Int32)), .val (.int (4 : Int32))]) rfl rfl ?_
      refine Own.goto_ 3 d8_22 (by decide) rfl ?_
      refine Own.iload d8_3 rfl ?_
      refine Own.iloadN d8_5 rfl ?_
      refine Own.icmp_ge 25 d8_6 (by decide) rfl (fun _ => ?_) (fun q => absurd q (by decide))
      refine Own.iload d8_25 rfl ?_
      refine Own.ret_int rfl d8_27 (by decide) (by decide) ?_
      exact ⟨congrArg (fun z => some (Value.int z)) (by rw [own_ix_2_4, if_neg e2, if_neg e3]), rfl⟩
def own_ix_3_3 (s c0 c1 c2 c3 : Int32) : Int32 := (3 : Int32)
theorem ef_rmX_3_3 (m : MethodId) (a1 : Addr) (s : Int32)  : entryFrame m #[(.ref a1), (.int s), (.int (3 : Int32)), (.int (3 : Int32))] 5 = mkF m 0 #[.val (.ref a1), .val (.int s), .val (.int (3 : Int32)), .val (.int (3 : Int32)), .unset] [] := by first | (simp [entryFrame, mkF, argsToLocals, Value.category]; done) | rfl
set_option maxRecDepth 65536 in
set_option maxHeartbeats 40000000 in
theorem rmX_3_3 (l : Launch) (Z : State) (a0 : Array Value) (hw : ∀ d ∈ tables_1, d.before a0 Z = true) (ws : List Jvm.Cond) (a1 : Addr) (s : Int32) (b : Addr) (kb : ClassId) (cod : Int32) (bs : List Value) (zc : Int32) (vf : Value) (c0 : Int32) (c1 : Int32) (c2 : Int32) (c3 : Int32) (h0 : Heap) (n0 : Nat) (hn : n0 ≤ h0.size) (X_a1 : Exa Z h0 a1 "java/lang/String") (F_v : Fld Z h0 a1 "java/lang/String" "value" "[B" (.ref b)) (F_c : Fld Z h0 a1 "java/lang/String" "coder" "B" (.int cod)) (V_b : Arl Z h0 b kb .byte bs) (S_C : Sta Z h0 "java/lang/String" "COMPACT_STRINGS" "Z" (.int zc)) (S_F : Sta Z h0 "jdk/internal/util/Preconditions" "SIOOBE_FORMATTER" "Ljava/util/function/BiFunction;" vf) (S_A : Sta Z h0 "java/lang/StringUTF16" "$assertionsDisabled" "Z" (.int (1 : Int32))) (S_H : Sta Z h0 "java/lang/StringUTF16" "HI_BYTE_SHIFT" "I" (.int (0 : Int32))) (S_L : Sta Z h0 "java/lang/StringUTF16" "LO_BYTE_SHIFT" "I" (.int (8 : Int32))) (hz : ¬ zc = 0) (hvf : vf.isRef = true) (hr0 : 0 ≤ c0.toInt ∧ c0.toInt < 65536) (hr1 : 0 ≤ c1.toInt ∧ c1.toInt < 65536) (hr2 : 0 ≤ c2.toInt ∧ c2.toInt < 65536) (hr3 : 0 ≤ c3.toInt ∧ c3.toInt < 65536) (hsp : own_spell cod bs c0 c1 c2 c3) :
    Met false l Z (⟨"com/example/cytorelay/cytorelay/core/Hl7Syntax", "indexOf", "(Ljava/lang/String;CII)I"⟩ : MethodName) prog_31_method_2_code 5 (some .int) ({ frames := 0, cells := 0, slots := 0, locals := 0 } : Room) ws #[(.ref a1), (.int s), (.int (3 : Int32)), (.int (3 : Int32))] h0 n0 (Pur (.int (own_ix_3_3 s c0 c1 c2 c3)) h0) := by
  refine Met.of pn_8 (fun m => ef_rmX_3_3 m a1 s) ?_
  refine Own.iloadN d8_0 rfl ?_
  refine Own.istore #[.val (.ref a1), .val (.int s), .val (.int (3 : Int32)), .val (.int (3 : Int32)), .val (.int (3 : Int32))] d8_1 rfl ?_
  refine Own.iload d8_3 rfl ?_
  refine Own.iloadN d8_5 rfl ?_
  refine Own.icmp_ge 25 d8_6 (by decide) rfl (fun _ => ?_) (fun q => absurd q (by decide))
  refine Own.iload d8_25 rfl ?_
  refine Own.ret_int rfl d8_27 (by decide) (by decide) ?_
  exact ⟨congrArg (fun z => some (Value.int z)) (by rw [own_ix_3_3]), rfl⟩
def own_ix_3_4 (s c0 c1 c2 c3 : Int32) : Int32 := (if c3 = s then (3 : Int32) else (4 : Int32))
theorem ef_rmX_3_4 (m : MethodId) (a1 : Addr) (s : Int32)  : entryFrame m #[(.ref a1), (.int s), (.int (3 : Int32)), (.int (4 : Int32))] 5 = mkF m 0 #[.val (.ref a1), .val (.int s), .val (.int (3 : Int32)), .val (.int (4 : Int32)), .unset] [] := by first | (simp [entryFrame, mkF, argsToLocals, Value.category]; done) | rfl
set_option maxRecDepth 65536 in
set_option maxHeartbeats 40000000 in
theorem rmX_3_4 (l : Launch) (Z : State) (a0 : Array Value) (hw : ∀ d ∈ tables_1, d.before a0 Z = true) (ws : List Jvm.Cond) (a1 : Addr) (s : Int32) (b : Addr) (kb : ClassId) (cod : Int32) (bs : List Value) (zc : Int32) (vf : Value) (c0 : Int32) (c1 : Int32) (c2 : Int32) (c3 : Int32) (h0 : Heap) (n0 : Nat) (hn : n0 ≤ h0.size) (X_a1 : Exa Z h0 a1 "java/lang/String") (F_v : Fld Z h0 a1 "java/lang/String" "value" "[B" (.ref b)) (F_c : Fld Z h0 a1 "java/lang/String" "coder" "B" (.int cod)) (V_b : Arl Z h0 b kb .byte bs) (S_C : Sta Z h0 "java/lang/String" "COMPACT_STRINGS" "Z" (.int zc)) (S_F : Sta Z h0 "jdk/internal/util/Preconditions" "SIOOBE_FORMATTER" "Ljava/util/function/BiFunction;" vf) (S_A : Sta Z h0 "java/lang/StringUTF16" "$assertionsDisabled" "Z" (.int (1 : Int32))) (S_H : Sta Z h0 "java/lang/StringUTF16" "HI_BYTE_SHIFT" "I" (.int (0 : Int32))) (S_L : Sta Z h0 "java/lang/StringUTF16" "LO_BYTE_SHIFT" "I" (.int (8 : Int32))) (hz : ¬ zc = 0) (hvf : vf.isRef = true) (hr0 : 0 ≤ c0.toInt ∧ c0.toInt < 65536) (hr1 : 0 ≤ c1.toInt ∧ c1.toInt < 65536) (hr2 : 0 ≤ c2.toInt ∧ c2.toInt < 65536) (hr3 : 0 ≤ c3.toInt ∧ c3.toInt < 65536) (hsp : own_spell cod bs c0 c1 c2 c3) :
    Met false l Z (⟨"com/example/cytorelay/cytorelay/core/Hl7Syntax", "indexOf", "(Ljava/lang/String;CII)I"⟩ : MethodName) prog_31_method_2_code 5 (some .int) ({ frames := 5, cells := 0, slots := 0, locals := 73 } : Room) ws #[(.ref a1), (.int s), (.int (3 : Int32)), (.int (4 : Int32))] h0 n0 (Pur (.int (own_ix_3_4 s c0 c1 c2 c3)) h0) := by
  refine Met.of pn_8 (fun m => ef_rmX_3_4 m a1 s) ?_
  refine Own.iloadN d8_0 rfl ?_
  refine Own.istore #[.val (.ref a1), .val (.int s), .val (.int (3 : Int32)), .val (.int (4 : Int32)), .val (.int (3 : Int32))] d8_1 rfl ?_
  refine Own.iload d8_3 rfl ?_
  refine Own.iloadN d8_5 rfl ?_
  refine Own.icmp_ge 25 d8_6 (by decide) rfl (fun q => absurd (by decide) q) (fun _ => ?_)
  refine Own.aloadN d8_9 rfl rfl ?_
  refine Own.iload d8_10 rfl ?_
  refine Own.callVP a1 [(.int (3 : Int32))] [] 0 (rmCA3 l Z a0 hw [] a1 b kb cod bs zc vf c0 c1 c2 c3 h0 n0 hn X_a1 F_v F_c V_b S_C S_F S_A S_H S_L hz hvf hr0 hr1 hr2 hr3 hsp) (hw _ (List.mem_of_getElem? (i := 41) rfl)) (hw _ (List.mem_of_getElem? (i := 42) rfl)) (fun s hZ => notFace_of_selects (args := #[]) (mvT hZ (hw _ (List.mem_of_getElem? (i := 44) rfl)))) (hw _ (List.mem_of_getElem? (i := 44) rfl)) (hw _ (List.mem_of_getElem? (i := 43) rfl)) (hw _ (List.mem_of_getElem? (i := 10) rfl)) (hw _ (List.mem_of_getElem? (i := 45) rfl)) (by decide) X_a1 d8_12 pd_2 rfl rfl rfl rfl (by decide) (by decide) (by decide) (by decide) ?_
  refine Own.iloadN d8_15 rfl ?_
  refine Own.icmp_eq 25 d8_16 (by decide) rfl (fun e3 => ?_) (fun e3 => ?_)
  · refine Own.iload d8_25 rfl ?_
    refine Own.ret_int rfl d8_27 (by decide) (by decide) ?_
    exact ⟨congrArg (fun z => some (Value.int z)) (by rw [own_ix_3_4, if_pos e3]), rfl⟩
  · refine Own.iinc (1 : Int32) #[.val (.ref a1), .val (.int s), .val (.int (3 : Int32)), .val (.int (4 : Int32)), .val (.int ((3 : Int32) + (1 : Int32)))] d8_19 rfl rfl rfl ?_
    refine OAt.castL (Ls' := #[.val (.ref a1), .val (.int s), .val (.int (3 : Int32)), .val (.int (4 : Int32)), .val (.int (4 : Int32))]) rfl rfl ?_
    refine Own.goto_ 3 d8_22 (by decide) rfl ?_
    refine Own.iload d8_3 rfl ?_
    refine Own.iloadN d8_5 rfl ?_
    refine Own.icmp_ge 25 d8_6 (by decide) rfl (fun _ => ?_) (fun q => absurd q (by decide))
    refine Own.iload d8_25 rfl ?_
    refine Own.ret_int rfl d8_27 (by decide) (by decide) ?_
    exact ⟨congrArg (fun z => some (Value.int z)) (by rw [own_ix_3_4, if_neg e3]), rfl⟩
def own_ix_4_4 (s c0 c1 c2 c3 : Int32) : Int32 := (4 : Int32)
theorem ef_rmX_4_4 (m : MethodId) (a1 : Addr) (s : Int32)  : entryFrame m #[(.ref a1), (.int s), (.int (4 : Int32)), (.int (4 : Int32))] 5 = mkF m 0 #[.val (.ref a1), .val (.int s), .val (.int (4 : Int32)), .val (.int (4 : Int32)), .unset] [] := by first | (simp [entryFrame, mkF, argsToLocals, Value.category]; done) | rfl
set_option maxRecDepth 65536 in
set_option maxHeartbeats 40000000 in
theorem rmX_4_4 (l : Launch) (Z : State) (a0 : Array Value) (hw : ∀ d ∈ tables_1, d.before a0 Z = true) (ws : List Jvm.Cond) (a1 : Addr) (s : Int32) (b : Addr) (kb : ClassId) (cod : Int32) (bs : List Value) (zc : Int32) (vf : Value) (c0 : Int32) (c1 : Int32) (c2 : Int32) (c3 : Int32) (h0 : Heap) (n0 : Nat) (hn : n0 ≤ h0.size) (X_a1 : Exa Z h0 a1 "java/lang/String") (F_v : Fld Z h0 a1 "java/lang/String" "value" "[B" (.ref b)) (F_c : Fld Z h0 a1 "java/lang/String" "coder" "B" (.int cod)) (V_b : Arl Z h0 b kb .byte bs) (S_C : Sta Z h0 "java/lang/String" "COMPACT_STRINGS" "Z" (.int zc)) (S_F : Sta Z h0 "jdk/internal/util/Preconditions" "SIOOBE_FORMATTER" "Ljava/util/function/BiFunction;" vf) (S_A : Sta Z h0 "java/lang/StringUTF16" "$assertionsDisabled" "Z" (.int (1 : Int32))) (S_H : Sta Z h0 "java/lang/StringUTF16" "HI_BYTE_SHIFT" "I" (.int (0 : Int32))) (S_L : Sta Z h0 "java/lang/StringUTF16" "LO_BYTE_SHIFT" "I" (.int (8 : Int32))) (hz : ¬ zc = 0) (hvf : vf.isRef = true) (hr0 : 0 ≤ c0.toInt ∧ c0.toInt < 65536) (hr1 : 0 ≤ c1.toInt ∧ c1.toInt < 65536) (hr2 : 0 ≤ c2.toInt ∧ c2.toInt < 65536) (hr3 : 0 ≤ c3.toInt ∧ c3.toInt < 65536) (hsp : own_spell cod bs c0 c1 c2 c3) :
    Met false l Z (⟨"com/example/cytorelay/cytorelay/core/Hl7Syntax", "indexOf", "(Ljava/lang/String;CII)I"⟩ : MethodName) prog_31_method_2_code 5 (some .int) ({ frames := 0, cells := 0, slots := 0, locals := 0 } : Room) ws #[(.ref a1), (.int s), (.int (4 : Int32)), (.int (4 : Int32))] h0 n0 (Pur (.int (own_ix_4_4 s c0 c1 c2 c3)) h0) := by
  refine Met.of pn_8 (fun m => ef_rmX_4_4 m a1 s) ?_
  refine Own.iloadN d8_0 rfl ?_
  refine Own.istore #[.val (.ref a1), .val (.int s), .val (.int (4 : Int32)), .val (.int (4 : Int32)), .val (.int (4 : Int32))] d8_1 rfl ?_
  refine Own.iload d8_3 rfl ?_
  refine Own.iloadN d8_5 rfl ?_
  refine Own.icmp_ge 25 d8_6 (by decide) rfl (fun _ => ?_) (fun q => absurd q (by decide))
  refine Own.iload d8_25 rfl ?_
  refine Own.ret_int rfl d8_27 (by decide) (by decide) ?_
  exact ⟨congrArg (fun z => some (Value.int z)) (by rw [own_ix_4_4]), rfl⟩
theorem pd_8 : parseMethodDescriptor "(JIIC)C" = some ⟨[.long, .int, .int, .char], some .char⟩ := by decide +kernel
theorem pd_14 : parseMethodDescriptor "([C)V" = some ⟨[(.array .char)], none⟩ := by decide +kernel
theorem pd_9 : parseMethodDescriptor "(Ljava/lang/String;CII)I" = some ⟨[(.object "java/lang/String"), .char, .int, .int], some .int⟩ := by decide +kernel
def Q_rm0 (Z : State)  (h0 : Heap) (n0 : Nat) (v : Option Value) (h : Heap) : Prop := v = some (.int 1)
theorem ef_rm0 (m : MethodId) (q0 : Int64) (p1 : Int32) (p2 : Int32) (p3 : Int32)  : entryFrame m #[(.long q0), (.int p1), (.int p2), (.int p3)] maxLocals = mkF m 0 #[.val (.long q0), .second, .val (.int p1), .val (.int p2), .val (.int p3), .unset, .unset, .unset, .unset, .unset, .unset, .unset, .unset] [] := by first | (simp [entryFrame, mkF, argsToLocals, Value.category, maxLocals]; done) | rfl
theorem pn_0 : plainFor (⟨"com/example/cytorelay/cytorelay/core/Hl7SyntaxIndexOfPinLaw", "law", "(JIII)Z"⟩ : MethodName) = true := plainFor_of_name (show plainName "com/example/cytorelay/cytorelay/core/Hl7SyntaxIndexOfPinLaw" = true by first | (simp [plainName, overriddenIn]; done) | decide +kernel)
set_option maxRecDepth 65536 in
set_option maxHeartbeats 40000000 in
theorem rm0 (l : Launch) (Z : State) (a0 : Array Value) (hw : ∀ d ∈ tables_1, d.before a0 Z = true) (ws : List Jvm.Cond) (q0 : Int64) (p1 : Int32) (p2 : Int32) (p3 : Int32) (zc : Int32) (vf : Value) (h0 : Heap) (n0 : Nat) (hn : n0 ≤ h0.size) (S_C : Sta Z h0 "java/lang/String" "COMPACT_STRINGS" "Z" (.int zc)) (S_F : Sta Z h0 "jdk/internal/util/Preconditions" "SIOOBE_FORMATTER" "Ljava/util/function/BiFunction;" vf) (S_A : Sta Z h0 "java/lang/StringUTF16" "$assertionsDisabled" "Z" (.int (1 : Int32))) (S_H : Sta Z h0 "java/lang/StringUTF16" "HI_BYTE_SHIFT" "I" (.int (0 : Int32))) (S_L : Sta Z h0 "java/lang/StringUTF16" "LO_BYTE_SHIFT" "I" (.int (8 : Int32))) (hz : ¬ zc = 0) (hvf : vf.isRef = true) :
    Met false l Z x code maxLocals ret room_1 ws #[(.long q0), (.int p1), (.int p2), (.int p3)] h0 n0 (Q_rm0 Z  h0 n0) := by
  refine Met.of pn_0 (fun m => ef_rm0 m q0 p1 p2 p3) ?_
  refine Own.iloadN at_0 rfl ?_
  refine Own.ldcInt (hw _ (List.mem_of_getElem? (i := 0) rfl)) at_1 ?_
  refine Own.iand at_3 ?_
  refine Own.i2c at_4 ?_
  obtain ⟨us, e_us⟩ : ∃ z : Int32, z = ((p1 &&& (65535 : Int32)).toUInt32.toUInt16.toUInt32.toInt32) := ⟨_, rfl⟩
  rw [← e_us]
  refine Own.istore #[.val (.long q0), .second, .val (.int p1), .val (.int p2), .val (.int p3), .val (.int us), .unset, .unset, .unset, .unset, .unset, .unset, .unset] at_5 rfl ?_
  refine Own.iloadN at_7 rfl ?_
  refine Own.bipush (16 : Int32) at_8 rfl ?_
  refine Own.iushr at_10 ?_
  obtain ⟨ug, e_ug⟩ : ∃ z : Int32, z = ((p1.toUInt32 >>> ((16 : Int32) &&& 31).toUInt32).toInt32) := ⟨_, rfl⟩
  rw [← e_ug]
  refine Own.istore #[.val (.long q0), .second, .val (.int p1), .val (.int p2), .val (.int p3), .val (.int us), .val (.int ug), .unset, .unset, .unset, .unset, .unset, .unset] at_11 rfl ?_
  refine Own.iconst (4 : Int32) at_13 rfl ?_
  refine Own.newarray_ 4 .char rfl (hw _ (List.mem_of_getElem? (i := 1) rfl)) at_14 (N := 4) rfl (by decide) (by decide) (by decide) (by decide) rfl (fun h88 b88 k88 gb88 E88 V88 => ?_)
  have g_b88 : n0 ≤ b88 := by rw [gb88]; exact hn
  have hn := Nat.le_trans hn E88.1
  replace S_C := S_C.ext E88
  replace S_F := S_F.ext E88
  replace S_A := S_A.ext E88
  replace S_H := S_H.ext E88
  replace S_L := S_L.ext E88
  replace V88 : Arl Z h88 b88 k88 .char [(.int (0 : Int32)), (.int (0 : Int32)), (.int (0 : Int32)), (.int (0 : Int32))] := V88
  refine Own.astore #[.val (.long q0), .second, .val (.int p1), .val (.int p2), .val (.int p3), .val (.int us), .val (.int ug), .val (.ref b88), .unset, .unset, .unset, .unset, .unset] at_16 rfl rfl ?_
  refine Own.aload at_18 rfl rfl ?_
  refine Own.iconst (0 : Int32) at_20 rfl ?_
  refine Own.lloadN at_21 rfl ?_
  refine Own.iconst (0 : Int32) at_22 rfl ?_
  refine Own.iload at_23 rfl ?_
  refine Own.iload at_25 rfl ?_
  refine Own.callSP [(.long q0), (.int (0 : Int32)), (.int ug), (.int us)] [(.int (0 : Int32)), (.ref b88)] 2 (rmK l Z a0 hw [] q0 (0 : Int32) ug us h88 n0 hn) (hw _ (List.mem_of_getElem? (i := 2) rfl)) (hw _ (List.mem_of_getElem? (i := 3) rfl)) (hw _ (List.mem_of_getElem? (i := 4) rfl)) (hw _ (List.mem_of_getElem? (i := 5) rfl)) (by decide) at_27 pd_8 rfl rfl rfl rfl (by decide) (by decide) (by decide) (by decide) ?_
  refine Own.castore_ V88 (i := 0) rfl (Nat.le_of_ble_eq_true rfl) g_b88 at_30 (fun h89 W89 V89 => ?_)
  have hn : n0 ≤ h89.size := by rw [W89.size]; exact hn
  replace S_C := S_C.wr W89
  replace S_F := S_F.wr W89
  replace S_A := S_A.wr W89
  replace S_H := S_H.wr W89
  replace S_L := S_L.wr W89
  clear V88
  replace V89 : Arl Z h89 b88 k88 .char [(.int (nar .char (own_pk q0 (0 : Int32) ug us))), (.int (0 : Int32)), (.int (0 : Int32)), (.int (0 : Int32))] := V89
  refine Own.aload at_31 rfl rfl ?_
  refine Own.iconst (1 : Int32) at_33 rfl ?_
  refine Own.lloadN at_34 rfl ?_
  refine Own.iconst (1 : Int32) at_35 rfl ?_
  refine Own.iload at_36 rfl ?_
  refine Own.iload at_38 rfl ?_
  refine Own.callSP [(.long q0), (.int (1 : Int32)), (.int ug), (.int us)] [(.int (1 : Int32)), (.ref b88)] 2 (rmK l Z a0 hw [] q0 (1 : Int32) ug us h89 n0 hn) (hw _ (List.mem_of_getElem? (i := 2) rfl)) (hw _ (List.mem_of_getElem? (i := 3) rfl)) (hw _ (List.mem_of_getElem? (i := 4) rfl)) (hw _ (List.mem_of_getElem? (i := 5) rfl)) (by decide) at_40 pd_8 rfl rfl rfl rfl (by decide) (by decide) (by decide) (by decide) ?_
  refine Own.castore_ V89 (i := 1) rfl (Nat.le_of_ble_eq_true rfl) g_b88 at_43 (fun h90 W90 V90 => ?_)
  have hn : n0 ≤ h90.size := by rw [W90.size]; exact hn
  replace S_C := S_C.wr W90
  replace S_F := S_F.wr W90
  replace S_A := S_A.wr W90
  replace S_H := S_H.wr W90
  replace S_L := S_L.wr W90
  clear V89
  replace V90 : Arl Z h90 b88 k88 .char [(.int (nar .char (own_pk q0 (0 : Int32) ug us))), (.int (nar .char (own_pk q0 (1 : Int32) ug us))), (.int (0 : Int32)), (.int (0 : Int32))] := V90
  refine Own.aload at_44 rfl rfl ?_
  refine Own.iconst (2 : Int32) at_46 rfl ?_
  refine Own.lloadN at_47 rfl ?_
  refine Own.iconst (2 : Int32) at_48 rfl ?_
  refine Own.iload at_49 rfl ?_
  refine Own.iload at_51 rfl ?_
  refine Own.callSP [(.long q0), (.int (2 : Int32)), (.int ug), (.int us)] [(.int (2 : Int32)), (.ref b88)] 2 (rmK l Z a0 hw [] q0 (2 : Int32) ug us h90 n0 hn) (hw _ (List.mem_of_getElem? (i := 2) rfl)) (hw _ (List.mem_of_getElem? (i := 3) rfl)) (hw _ (List.mem_of_getElem? (i := 4) rfl)) (hw _ (List.mem_of_getElem? (i := 5) rfl)) (by decide) at_53 pd_8 rfl rfl rfl rfl (by decide) (by decide) (by decide) (by decide) ?_
  refine Own.castore_ V90 (i := 2) rfl (Nat.le_of_ble_eq_true rfl) g_b88 at_56 (fun h91 W91 V91 => ?_)
  have hn : n0 ≤ h91.size := by rw [W91.size]; exact hn
  replace S_C := S_C.wr W91
  replace S_F := S_F.wr W91
  replace S_A := S_A.wr W91
  replace S_H := S_H.wr W91
  replace S_L := S_L.wr W91
  clear V90
  replace V91 : Arl Z h91 b88 k88 .char [(.int (nar .char (own_pk q0 (0 : Int32) ug us))), (.int (nar .char (own_pk q0 (1 : Int32) ug us))), (.int (nar .char (own_pk q0 (2 : Int32) ug us))), (.int (0 : Int32))] := V91
  refine Own.aload at_57 rfl rfl ?_
  refine Own.iconst (3 : Int32) at_59 rfl ?_
  refine Own.lloadN at_60 rfl ?_
  refine Own.iconst (3 : Int32) at_61 rfl ?_
  refine Own.iload at_62 rfl ?_
  refine Own.iload at_64 rfl ?_
  refine Own.callSP [(.long q0), (.int (3 : Int32)), (.int ug), (.int us)] [(.int (3 : Int32)), (.ref b88)] 2 (rmK l Z a0 hw [] q0 (3 : Int32) ug us h91 n0 hn) (hw _ (List.mem_of_getElem? (i := 2) rfl)) (hw _ (List.mem_of_getElem? (i := 3) rfl)) (hw _ (List.mem_of_getElem? (i := 4) rfl)) (hw _ (List.mem_of_getElem? (i := 5) rfl)) (by decide) at_66 pd_8 rfl rfl rfl rfl (by decide) (by decide) (by decide) (by decide) ?_
  refine Own.castore_ V91 (i := 3) rfl (Nat.le_of_ble_eq_true rfl) g_b88 at_69 (fun h92 W92 V92 => ?_)
  have hn : n0 ≤ h92.size := by rw [W92.size]; exact hn
  replace S_C := S_C.wr W92
  replace S_F := S_F.wr W92
  replace S_A := S_A.wr W92
  replace S_H := S_H.wr W92
  replace S_L := S_L.wr W92
  clear V91
  replace V92 : Arl Z h92 b88 k88 .char [(.int (nar .char (own_pk q0 (0 : Int32) ug us))), (.int (nar .char (own_pk q0 (1 : Int32) ug us))), (.int (nar .char (own_pk q0 (2 : Int32) ug us))), (.int (nar .char (own_pk q0 (3 : Int32) ug us)))] := V92
  have hr0 := own_pkr q0 (0 : Int32) ug us
  obtain ⟨c0, ec0⟩ : ∃ z : Int32, (nar .char (own_pk q0 (0 : Int32) ug us)) = z := ⟨_, rfl⟩
  rw [ec0] at hr0 V92
  have hr1 := own_pkr q0 (1 : Int32) ug us
  obtain ⟨c1, ec1⟩ : ∃ z : Int32, (nar .char (own_pk q0 (1 : Int32) ug us)) = z := ⟨_, rfl⟩
  rw [ec1] at hr1 V92
  have hr2 := own_pkr q0 (2 : Int32) ug us
  obtain ⟨c2, ec2⟩ : ∃ z : Int32, (nar .char (own_pk q0 (2 : Int32) ug us)) = z := ⟨_, rfl⟩
  rw [ec2] at hr2 V92
  have hr3 := own_pkr q0 (3 : Int32) ug us
  obtain ⟨c3, ec3⟩ : ∃ z : Int32, (nar .char (own_pk q0 (3 : Int32) ug us)) = z := ⟨_, rfl⟩
  rw [ec3] at hr3 V92
  refine Own.iloadN at_70 rfl ?_
  refine Own.ldcInt (hw _ (List.mem_of_getElem? (i := 7) rfl)) at_71 ?_
  refine Own.iand at_73 ?_
  refine Own.iconst (5 : Int32) at_74 rfl ?_
  refine Own.irem_ at_75 (by decide) ?_
  obtain ⟨uf, e_uf⟩ : ∃ z : Int32, z = ((p2 &&& (2147483647 : Int32)) % (5 : Int32)) := ⟨_, rfl⟩
  rw [← e_uf]
  refine Own.istore #[.val (.long q0), .second, .val (.int p1), .val (.int p2), .val (.int p3), .val (.int us), .val (.int ug), .val (.ref b88), .val (.int uf), .unset, .unset, .unset, .unset] at_76 rfl ?_
  refine Own.iload at_78 rfl ?_
  refine Own.iload at_80 rfl ?_
  refine Own.ldcInt (hw _ (List.mem_of_getElem? (i := 7) rfl)) at_82 ?_
  refine Own.iand at_84 ?_
  refine Own.iconst (5 : Int32) at_85 rfl ?_
  refine Own.iload at_86 rfl ?_
  refine Own.isub at_88 ?_
  refine Own.irem_ at_89 (by intro q; rcases (show uf = 0 ∨ uf = 1 ∨ uf = 2 ∨ uf = 3 ∨ uf = 4 by rw [e_uf]; exact own_f5 p2) with rfl | rfl | rfl | rfl | rfl <;> exact absurd q (by decide)) ?_
  refine Own.iadd at_90 ?_
  obtain ⟨uo, e_uo⟩ : ∃ z : Int32, z = (uf + ((p3 &&& (2147483647 : Int32)) % ((5 : Int32) - uf))) := ⟨_, rfl⟩
  rw [← e_uo]
  refine Own.istore #[.val (.long q0), .second, .val (.int p1), .val (.int p2), .val (.int p3), .val (.int us), .val (.int ug), .val (.ref b88), .val (.int uf), .val (.int uo), .unset, .unset, .unset] at_91 rfl ?_
  refine Own.new_ (hw _ (List.mem_of_getElem? (i := 8) rfl)) (hw _ (List.mem_of_getElem? (i := 9) rfl)) (hw _ (List.mem_of_getElem? (i := 10) rfl)) at_93 (by decide) (by decide) (fun h93 b93 gb93 E93 X93 D93 => ?_)
  have g_b93 : n0 ≤ b93 := by rw [gb93]; exact hn
  have ne_b88_b93 : b88 ≠ b93 := fun q => Nat.ne_of_lt V92.lt (q.trans gb93)
  have ne_b93_b88 := Ne.symm ne_b88_b93
  have hn := Nat.le_trans hn E93.1
  replace S_C := S_C.ext E93
  replace S_F := S_F.ext E93
  replace S_A := S_A.ext E93
  replace S_H := S_H.ext E93
  replace S_L := S_L.ext E93
  replace V92 := V92.ext E93
  have X_b93 := X93
  have F_coder_b93 : Fld Z h93 b93 "java/lang/String" "coder" "B" (.int (0 : Int32)) := D93 (Or.inr (hw _ (List.mem_of_getElem? (i := 34) rfl))) (ty := .byte) (by decide)
  have F_value_b93 : Fld Z h93 b93 "java/lang/String" "value" "[B" .null := D93 (Or.inr (hw _ (List.mem_of_getElem? (i := 36) rfl))) (ty := (.array .byte)) (by decide)
  refine Own.dup at_96 rfl ?_
  refine Own.aload at_97 rfl rfl ?_
  refine Own.callI_ b93 [(.ref b88)] [(.ref b93)] 1 (rmInit l Z a0 hw [] b93 b88 k88 zc c0 c1 c2 c3 h93 n0 hn X_b93 g_b93 F_value_b93 F_coder_b93 V92 ne_b88_b93 S_C S_A S_H S_L hz hr0 hr1 hr2 hr3) (hw _ (List.mem_of_getElem? (i := 11) rfl)) (hw _ (List.mem_of_getElem? (i := 12) rfl)) (hw _ (List.mem_of_getElem? (i := 10) rfl)) (hw _ (List.mem_of_getElem? (i := 13) rfl)) rfl (by decide) at_99 pd_14 rfl rfl rfl rfl (by decide) (by decide) (by decide) (by decide) (fun v94 h94 hq94 => ?_)
  obtain ⟨rfl, KI, bb, kb, cod, bs, zb, F_v, F_c, V_b, hsp⟩ := hq94
  have g_bb : n0 ≤ bb := Nat.le_trans hn zb
  have ne_b88_bb : b88 ≠ bb := Nat.ne_of_lt (Nat.lt_of_lt_of_le V92.lt zb)
  have ne_bb_b88 := Ne.symm ne_b88_bb
  have ne_b93_bb : b93 ≠ bb := Nat.ne_of_lt (Nat.lt_of_lt_of_le X_b93.lt zb)
  have ne_bb_b93 := Ne.symm ne_b93_bb
  have hn := Nat.le_trans hn KI.1
  replace S_C := sta_keep S_C KI (nsS X_b93.nostat ns0)
  replace S_F := sta_keep S_F KI (nsS X_b93.nostat ns0)
  replace S_A := sta_keep S_A KI (nsS X_b93.nostat ns0)
  replace S_H := sta_keep S_H KI (nsS X_b93.nostat ns0)
  replace S_L := sta_keep S_L KI (nsS X_b93.nostat ns0)
  replace V92 := V92.keep KI (ninS ne_b88_b93 nin0)
  replace X_b93 := X_b93.keep KI
  refine OAt.cast (st' := [(.ref b93)]) rfl ?_
  refine Own.astore #[.val (.long q0), .second, .val (.int p1), .val (.int p2), .val (.int p3), .val (.int us), .val (.int ug), .val (.ref b88), .val (.int uf), .val (.int uo), .val (.ref b93), .unset, .unset] at_102 rfl rfl ?_
  refine Own.aload at_104 rfl rfl ?_
  refine Own.iload at_106 rfl ?_
  refine Own.iload at_108 rfl ?_
  refine Own.iload at_110 rfl ?_
  have hf : uf = 0 ∨ uf = 1 ∨ uf = 2 ∨ uf = 3 ∨ uf = 4 := by rw [e_uf]; exact own_f5 p2
  rcases hf with rfl | rfl | rfl | rfl | rfl
  · have ht : uo = 0 ∨ uo = 1 ∨ uo = 2 ∨ uo = 3 ∨ uo = 4 := by rw [e_uo]; exact own_t0 p3
    rcases ht with rfl | rfl | rfl | rfl | rfl
    · refine Own.callSP [(.ref b93), (.int us), (.int (0 : Int32)), (.int (0 : Int32))] [] 0 (rmX_0_0 l Z a0 hw [] b93 us bb kb cod bs zc vf c0 c1 c2 c3 h94 n0 hn X_b93 F_v F_c V_b S_C S_F S_A S_H S_L hz hvf hr0 hr1 hr2 hr3 hsp) (hw _ (List.mem_of_getElem? (i := 37) rfl)) (hw _ (List.mem_of_getElem? (i := 38) rfl)) (hw _ (List.mem_of_getElem? (i := 39) rfl)) (hw _ (List.mem_of_getElem? (i := 40) rfl)) (by decide) at_112 pd_9 rfl rfl rfl rfl (by decide) (by decide) (by decide) (by decide) ?_
      refine Own.istore #[.val (.long q0), .second, .val (.int p1), .val (.int p2), .val (.int p3), .val (.int us), .val (.int ug), .val (.ref b88), .val (.int (0 : Int32)), .val (.int (0 : Int32)), .val (.ref b93), .val (.int (own_ix_0_0 us c0 c1 c2 c3)), .unset] at_115 rfl ?_
      refine Own.iload at_117 rfl ?_
      refine Own.istore #[.val (.long q0), .second, .val (.int p1), .val (.int p2), .val (.int p3), .val (.int us), .val (.int ug), .val (.ref b88), .val (.int (0 : Int32)), .val (.int (0 : Int32)), .val (.ref b93), .val (.int (own_ix_0_0 us c0 c1 c2 c3)), .val (.int (0 : Int32))] at_119 rfl ?_
      refine Own.iload at_121 rfl ?_
      refine Own.iconst (3 : Int32) at_123 rfl ?_
      refine Own.icmp_gt 145 at_124 (by decide) rfl (fun q => absurd q (by decide)) (fun _ => ?_)
      refine Own.iconst (3 : Int32) at_127 rfl ?_
      refine Own.iload at_128 rfl ?_
      refine Own.icmp_ge 145 at_130 (by decide) rfl (fun _ => ?_) (fun q => absurd q (by decide))
      refine Own.iload at_145 rfl ?_
      refine Own.iconst (2 : Int32) at_147 rfl ?_
      refine Own.icmp_gt 169 at_148 (by decide) rfl (fun q => absurd q (by decide)) (fun _ => ?_)
      refine Own.iconst (2 : Int32) at_151 rfl ?_
      refine Own.iload at_152 rfl ?_
      refine Own.icmp_ge 169 at_154 (by decide) rfl (fun _ => ?_) (fun q => absurd q (by decide))
      refine Own.iload at_169 rfl ?_
      refine Own.iconst (1 : Int32) at_171 rfl ?_
      refine Own.icmp_gt 193 at_172 (by decide) rfl (fun q => absurd q (by decide)) (fun _ => ?_)
      refine Own.iconst (1 : Int32) at_175 rfl ?_
      refine Own.iload at_176 rfl ?_
      refine Own.icmp_ge 193 at_178 (by decide) rfl (fun _ => ?_) (fun q => absurd q (by decide))
      refine Own.iload at_193 rfl ?_
      refine Own.if_gt 216 at_195 (by decide) rfl (fun q => absurd q (by decide)) (fun _ => ?_)
      refine Own.iconst (0 : Int32) at_198 rfl ?_
      refine Own.iload at_199 rfl ?_
      refine Own.icmp_ge 216 at_201 (by decide) rfl (fun _ => ?_) (fun q => absurd q (by decide))
      refine Own.iload at_216 rfl ?_
      refine Own.iload at_218 rfl ?_
      refine Own.icmp_ne 227 at_220 (by decide) rfl (fun q => absurd (by rw [own_ix_0_0]) q) (fun _ => ?_)
      refine Own.iconst (1 : Int32) at_223 rfl ?_
      refine Own.goto_ 228 at_224 (by decide) rfl ?_
      refine Own.ret_nar (t := .boolean) (by simp) rfl at_228 (by decide) (by decide) ?_
      exact rfl
    · refine Own.callSP [(.ref b93), (.int us), (.int (0 : Int32)), (.int (1 : Int32))] [] 0 (rmX_0_1 l Z a0 hw [] b93 us bb kb cod bs zc vf c0 c1 c2 c3 h94 n0 hn X_b93 F_v F_c V_b S_C S_F S_A S_H S_L hz hvf hr0 hr1 hr2 hr3 hsp) (hw _ (List.mem_of_getElem? (i := 37) rfl)) (hw _ (List.mem_of_getElem? (i := 38) rfl)) (hw _ (List.mem_of_getElem? (i := 39) rfl)) (hw _ (List.mem_of_getElem? (i := 40) rfl)) (by decide) at_112 pd_9 rfl rfl rfl rfl (by decide) (by decide) (by decide) (by decide) ?_
      refine Own.istore #[.val (.long q0), .second, .val (.int p1), .val (.int p2), .val (.int p3), .val (.int us), .val (.int ug), .val (.ref b88), .val (.int (0 : Int32)), .val (.int (1 : Int32)), .val (.ref b93), .val (.int (own_ix_0_1 us c0 c1 c2 c3)), .unset] at_115 rfl ?_
      refine Own.iload at_117 rfl ?_
      refine Own.istore #[.val (.long q0), .second, .val (.int p1), .val (.int p2), .val (.int p3), .val (.int us), .val (.int ug), .val (.ref b88), .val (.int (0 : Int32)), .val (.int (1 : Int32)), .val (.ref b93), .val (.int (own_ix_0_1 us c0 c1 c2 c3)), .val (.int (1 : Int32))] at_119 rfl ?_
      refine Own.iload at_121 rfl ?_
      refine Own.iconst (3 : Int32) at_123 rfl ?_
      refine Own.icmp_gt 145 at_124 (by decide) rfl (fun q => absurd q (by decide)) (fun _ => ?_)
      refine Own.iconst (3 : Int32) at_127 rfl ?_
      refine Own.iload at_128 rfl ?_
      refine Own.icmp_ge 145 at_130 (by decide) rfl (fun _ => ?_) (fun q => absurd q (by decide))
      refine Own.iload at_145 rfl ?_
      refine Own.iconst (2 : Int32) at_147 rfl ?_
      refine Own.icmp_gt 169 at_148 (by decide) rfl (fun q => absurd q (by decide)) (fun _ => ?_)
      refine Own.iconst (2 : Int32) at_151 rfl ?_
      refine Own.iload at_152 rfl ?_
      refine Own.icmp_ge 169 at_154 (by decide) rfl (fun _ => ?_) (fun q => absurd q (by decide))
      refine Own.iload at_169 rfl ?_
      refine Own.iconst (1 : Int32) at_171 rfl ?_
      refine Own.icmp_gt 193 at_172 (by decide) rfl (fun q => absurd q (by decide)) (fun _ => ?_)
      refine Own.iconst (1 : Int32) at_175 rfl ?_
      refine Own.iload at_176 rfl ?_
      refine Own.icmp_ge 193 at_178 (by decide) rfl (fun _ => ?_) (fun q => absurd q (by decide))
      refine Own.iload at_193 rfl ?_
      refine Own.if_gt 216 at_195 (by decide) rfl (fun q => absurd q (by decide)) (fun _ => ?_)
      refine Own.iconst (0 : Int32) at_198 rfl ?_
      refine Own.iload at_199 rfl ?_
      refine Own.icmp_ge 216 at_201 (by decide) rfl (fun q => absurd (by decide) q) (fun _ => ?_)
      refine Own.aload at_204 rfl rfl ?_
      refine Own.iconst (0 : Int32) at_206 rfl ?_
      refine Own.caload_ V92 (i := 0) rfl rfl at_207 ?_
      refine Own.iload at_208 rfl ?_
      refine Own.icmp_ne 216 at_210 (by decide) rfl (fun c210 => ?_) (fun c210 => ?_)
      · refine Own.iload at_216 rfl ?_
        refine Own.iload at_218 rfl ?_
        refine Own.icmp_ne 227 at_220 (by decide) rfl (fun q => absurd (by rw [own_ix_0_1, if_neg c210]) q) (fun _ => ?_)
        refine Own.iconst (1 : Int32) at_223 rfl ?_
        refine Own.goto_ 228 at_224 (by decide) rfl ?_
        refine Own.ret_nar (t := .boolean) (by simp) rfl at_228 (by decide) (by decide) ?_
        exact rfl
      · refine Own.iconst (0 : Int32) at_213 rfl ?_
        refine Own.istore #[.val (.long q0), .second, .val (.int p1), .val (.int p2), .val (.int p3), .val (.int us), .val (.int ug), .val (.ref b88), .val (.int (0 : Int32)), .val (.int (1 : Int32)), .val (.ref b93), .val (.int (own_ix_0_1 us c0 c1 c2 c3)), .val (.int (0 : Int32))] at_214 rfl ?_
        refine Own.iload at_216 rfl ?_
        refine Own.iload at_218 rfl ?_
        refine Own.icmp_ne 227 at_220 (by decide) rfl (fun q => absurd (by rw [own_ix_0_1, if_pos c210]) q) (fun _ => ?_)
        refine Own.iconst (1 : Int32) at_223 rfl ?_
        refine Own.goto_ 228 at_224 (by decide) rfl ?_
        refine Own.ret_nar (t := .boolean) (by simp) rfl at_228 (by decide) (by decide) ?_
        exact rfl
    · refine Own.callSP [(.ref b93), (.int us), (.int (0 : Int32)), (.int (2 : Int32))] [] 0 (rmX_0_2 l Z a0 hw [] b93 us bb kb cod bs zc vf c0 c1 c2 c3 h94 n0 hn X_b93 F_v F_c V_b S_C S_F S_A S_H S_L hz hvf hr0 hr1 hr2 hr3 hsp) (hw _ (List.mem_of_getElem? (i := 37) rfl)) (hw _ (List.mem_of_getElem? (i := 38) rfl)) (hw _ (List.mem_of_getElem? (i := 39) rfl)) (hw _ (List.mem_of_getElem? (i := 40) rfl)) (by decide) at_112 pd_9 rfl rfl rfl rfl (by decide) (by decide) (by decide) (by decide) ?_
      refine Own.istore #[.val (.long q0), .second, .val (.int p1), .val (.int p2), .val (.int p3), .val (.int us), .val (.int ug), .val (.ref b88), .val (.int (0 : Int32)), .val (.int (2 : Int32)), .val (.ref b93), .val (.int (own_ix_0_2 us c0 c1 c2 c3)), .unset] at_115 rfl ?_
      refine Own.iload at_117 rfl ?_
      refine Own.istore #[.val (.long q0), .second, .val (.int p1), .val (.int p2), .val (.int p3), .val (.int us), .val (.int ug), .val (.ref b88), .val (.int (0 : Int32)), .val (.int (2 : Int32)), .val (.ref b93), .val (.int (own_ix_0_2 us c0 c1 c2 c3)), .val (.int (2 : Int32))] at_119 rfl ?_
      refine Own.iload at_121 rfl ?_
      refine Own.iconst (3 : Int32) at_123 rfl ?_
      refine Own.icmp_gt 145 at_124 (by decide) rfl (fun q => absurd q (by decide)) (fun _ => ?_)
      refine Own.iconst (3 : Int32) at_127 rfl ?_
      refine Own.iload at_128 rfl ?_
      refine Own.icmp_ge 145 at_130 (by decide) rfl (fun _ => ?_) (fun q => absurd q (by decide))
      refine Own.iload at_145 rfl ?_
      refine Own.iconst (2 : Int32) at_147 rfl ?_
      refine Own.icmp_gt 169 at_148 (by decide) rfl (fun q => absurd q (by decide)) (fun _ => ?_)
      refine Own.iconst (2 : Int32) at_151 rfl ?_
      refine Own.iload at_152 rfl ?_
      refine Own.icmp_ge 169 at_154 (by decide) rfl (fun _ => ?_) (fun q => absurd q (by decide))
      refine Own.iload at_169 rfl ?_
      refine Own.iconst (1 : Int32) at_171 rfl ?_
      refine Own.icmp_gt 193 at_172 (by decide) rfl (fun q => absurd q (by decide)) (fun _ => ?_)
      refine Own.iconst (1 : Int32) at_175 rfl ?_
      refine Own.iload at_176 rfl ?_
      refine Own.icmp_ge 193 at_178 (by decide) rfl (fun q => absurd (by decide) q) (fun _ => ?_)
      refine Own.aload at_181 rfl rfl ?_
      refine Own.iconst (1 : Int32) at_183 rfl ?_
      refine Own.caload_ V92 (i := 1) rfl rfl at_184 ?_
      refine Own.iload at_185 rfl ?_
      refine Own.icmp_ne 193 at_187 (by decide) rfl (fun c187 => ?_) (fun c187 => ?_)
      · refine Own.iload at_193 rfl ?_
        refine Own.if_gt 216 at_195 (by decide) rfl (fun q => absurd q (by decide)) (fun _ => ?_)
        refine Own.iconst (0 : Int32) at_198 rfl ?_
        refine Own.iload at_199 rfl ?_
        refine Own.icmp_ge 216 at_201 (by decide) rfl (fun q => absurd (by decide) q) (fun _ => ?_)
        refine Own.aload at_204 rfl rfl ?_
        refine Own.iconst (0 : Int32) at_206 rfl ?_
        refine Own.caload_ V92 (i := 0) rfl rfl at_207 ?_
        refine Own.iload at_208 rfl ?_
        refine Own.icmp_ne 216 at_210 (by decide) rfl (fun c210 => ?_) (fun c210 => ?_)
        · refine Own.iload at_216 rfl ?_
          refine Own.iload at_218 rfl ?_
          refine Own.icmp_ne 227 at_220 (by decide) rfl (fun q => absurd (by rw [own_ix_0_2, if_neg c210, if_neg c187]) q) (fun _ => ?_)
          refine Own.iconst (1 : Int32) at_223 rfl ?_
          refine Own.goto_ 228 at_224 (by decide) rfl ?_
          refine Own.ret_nar (t := .boolean) (by simp) rfl at_228 (by decide) (by decide) ?_
          exact rfl
        · refine Own.iconst (0 : Int32) at_213 rfl ?_
          refine Own.istore #[.val (.long q0), .second, .val (.int p1), .val (.int p2), .val (.int p3), .val (.int us), .val (.int ug), .val (.ref b88), .val (.int (0 : Int32)), .val (.int (2 : Int32)), .val (.ref b93), .val (.int (own_ix_0_2 us c0 c1 c2 c3)), .val (.int (0 : Int32))] at_214 rfl ?_
          refine Own.iload at_216 rfl ?_
          refine Own.iload at_218 rfl ?_
          refine Own.icmp_ne 227 at_220 (by decide) rfl (fun q => absurd (by rw [own_ix_0_2, if_pos c210]) q) (fun _ => ?_)
          refine Own.iconst (1 : Int32) at_223 rfl ?_
          refine Own.goto_ 228 at_224 (by decide) rfl ?_
          refine Own.ret_nar (t := .boolean) (by simp) rfl at_228 (by decide) (by decide) ?_
          exact rfl
      · refine Own.iconst (1 : Int32) at_190 rfl ?_
        refine Own.istore #[.val (.long q0), .second, .val (.int p1), .val (.int p2), .val (.int p3), .val (.int us), .val (.int ug), .val (.ref b88), .val (.int (0 : Int32)), .val (.int (2 : Int32)), .val (.ref b93), .val (.int (own_ix_0_2 us c0 c1 c2 c3)), .val (.int (1 : Int32))] at_191 rfl ?_
        refine Own.iload at_193 rfl ?_
        refine Own.if_gt 216 at_195 (by decide) rfl (fun q => absurd q (by decide)) (fun _ => ?_)
        refine Own.iconst (0 : Int32) at_198 rfl ?_
        refine Own.iload at_199 rfl ?_
        refine Own.icmp_ge 216 at_201 (by decide) rfl (fun q => absurd (by decide) q) (fun _ => ?_)
        refine Own.aload at_204 rfl rfl ?_
        refine Own.iconst (0 : Int32) at_206 rfl ?_
        refine Own.caload_ V92 (i := 0) rfl rfl at_207 ?_
        refine Own.iload at_208 rfl ?_
        refine Own.icmp_ne 216 at_210 (by decide) rfl (fun c210 => ?_) (fun c210 => ?_)
        · refine Own.iload at_216 rfl ?_
          refine Own.iload at_218 rfl ?_
          refine Own.icmp_ne 227 at_220 (by decide) rfl (fun q => absurd (by rw [own_ix_0_2, if_neg c210, if_pos c187]) q) (fun _ => ?_)
          refine Own.iconst (1 : Int32) at_223 rfl ?_
          refine Own.goto_ 228 at_224 (by decide) rfl ?_
          refine Own.ret_nar (t := .boolean) (by simp) rfl at_228 (by decide) (by decide) ?_
          exact rfl
        · refine Own.iconst (0 : Int32) at_213 rfl ?_
          refine Own.istore #[.val (.long q0), .second, .val (.int p1), .val (.int p2), .val (.int p3), .val (.int us), .val (.int ug), .val (.ref b88), .val (.int (0 : Int32)), .val (.int (2 : Int32)), .val (.ref b93), .val (.int (own_ix_0_2 us c0 c1 c2 c3)), .val (.int (0 : Int32))] at_214 rfl ?_
          refine Own.iload at_216 rfl ?_
          refine Own.iload at_218 rfl ?_
          refine Own.icmp_ne 227 at_220 (by decide) rfl (fun q => absurd (by rw [own_ix_0_2, if_pos c210]) q) (fun _ => ?_)
          refine Own.iconst (1 : Int32) at_223 rfl ?_
          refine Own.goto_ 228 at_224 (by decide) rfl ?_
          refine Own.ret_nar (t := .boolean) (by simp) rfl at_228 (by decide) (by decide) ?_
          exact rfl
    · refine Own.callSP [(.ref b93), (.int us), (.int (0 : Int32)), (.int (3 : Int32))] [] 0 (rmX_0_3 l Z a0 hw [] b93 us bb kb cod bs zc vf c0 c1 c2 c3 h94 n0 hn X_b93 F_v F_c V_b S_C S_F S_A S_H S_L hz hvf hr0 hr1 hr2 hr3 hsp) (hw _ (List.mem_of_getElem? (i := 37) rfl)) (hw _ (List.mem_of_getElem? (i := 38) rfl)) (hw _ (List.mem_of_getElem? (i := 39) rfl)) (hw _ (List.mem_of_getElem? (i := 40) rfl)) (by decide) at_112 pd_9 rfl rfl rfl rfl (by decide) (by decide) (by decide) (by decide) ?_
      refine Own.istore #[.val (.long q0), .second, .val (.int p1), .val (.int p2), .val (.int p3), .val (.int us), .val (.int ug), .val (.ref b88), .val (.int (0 : Int32)), .val (.int (3 : Int32)), .val (.ref b93), .val (.int (own_ix_0_3 us c0 c1 c2 c3)), .unset] at_115 rfl ?_
      refine Own.iload at_117 rfl ?_
      refine Own.istore #[.val (.long q0), .second, .val (.int p1), .val (.int p2), .val (.int p3), .val (.int us), .val (.int ug), .val (.ref b88), .val (.int (0 : Int32)), .val (.int (3 : Int32)), .val (.ref b93), .val (.int (own_ix_0_3 us c0 c1 c2 c3)), .val (.int (3 : Int32))] at_119 rfl ?_
      refine Own.iload at_121 rfl ?_
      refine Own.iconst (3 : Int32) at_123 rfl ?_
      refine Own.icmp_gt 145 at_124 (by decide) rfl (fun q => absurd q (by decide)) (fun _ => ?_)
      refine Own.iconst (3 : Int32) at_127 rfl ?_
      refine Own.iload at_128 rfl ?_
      refine Own.icmp_ge 145 at_130 (by decide) rfl (fun _ => ?_) (fun q => absurd q (by decide))
      refine Own.iload at_145 rfl ?_
      refine Own.iconst (2 : Int32) at_147 rfl ?_
      refine Own.icmp_gt 169 at_148 (by decide) rfl (fun q => absurd q (by decide)) (fun _ => ?_)
      refine Own.iconst (2 : Int32) at_151 rfl ?_
      refine Own.iload at_152 rfl ?_
      refine Own.icmp_ge 169 at_154 (by decide) rfl (fun q => absurd (by decide) q) (fun _ => ?_)
      refine Own.aload at_157 rfl rfl ?_
      refine Own.iconst (2 : Int32) at_159 rfl ?_
      refine Own.caload_ V92 (i := 2) rfl rfl at_160 ?_
      refine Own.iload at_161 rfl ?_
      refine Own.icmp_ne 169 at_163 (by decide) rfl (fun c163 => ?_) (fun c163 => ?_)
      · refine Own.iload at_169 rfl ?_
        refine Own.iconst (1 : Int32) at_171 rfl ?_
        refine Own.icmp_gt 193 at_172 (by decide) rfl (fun q => absurd q (by decide)) (fun _ => ?_)
        refine Own.iconst (1 : Int32) at_175 rfl ?_
        refine Own.iload at_176 rfl ?_
        refine Own.icmp_ge 193 at_178 (by decide) rfl (fun q => absurd (by decide) q) (fun _ => ?_)
        refine Own.aload at_181 rfl rfl ?_
        refine Own.iconst (1 : Int32) at_183 rfl ?_
        refine Own.caload_ V92 (i := 1) rfl rfl at_184 ?_
        refine Own.iload at_185 rfl ?_
        refine Own.icmp_ne 193 at_187 (by decide) rfl (fun c187 => ?_) (fun c187 => ?_)
        · refine Own.iload at_193 rfl ?_
          refine Own.if_gt 216 at_195 (by decide) rfl (fun q => absurd q (by decide)) (fun _ => ?_)
          refine Own.iconst (0 : Int32) at_198 rfl ?_
          refine Own.iload at_199 rfl ?_
          refine Own.icmp_ge 216 at_201 (by decide) rfl (fun q => absurd (by decide) q) (fun _ => ?_)
          refine Own.aload at_204 rfl rfl ?_
          refine Own.iconst (0 : Int32) at_206 rfl ?_
          refine Own.caload_ V92 (i := 0) rfl rfl at_207 ?_
          refine Own.iload at_208 rfl ?_
          refine Own.icmp_ne 216 at_210 (by decide) rfl (fun c210 => ?_) (fun c210 => ?_)
          · refine Own.iload at_216 rfl ?_
            refine Own.iload at_218 rfl ?_
            refine Own.icmp_ne 227 at_220 (by decide) rfl (fun q => absurd (by rw [own_ix_0_3, if_neg c210, if_neg c187, if_neg c163]) q) (fun _ => ?_)
            refine Own.iconst (1 : Int32) at_223 rfl ?_
            refine Own.goto_ 228 at_224 (by decide) rfl ?_
            refine Own.ret_nar (t := .boolean) (by simp) rfl at_228 (by decide) (by decide) ?_
            exact rfl
          · refine Own.iconst (0 : Int32) at_213 rfl ?_
            refine Own.istore #[.val (.long q0), .second, .val (.int p1), .val (.int p2), .val (.int p3), .val (.int us), .val (.int ug), .val (.ref b88), .val (.int (0 : Int32)), .val (.int (3 : Int32)), .val (.ref b93), .val (.int (own_ix_0_3 us c0 c1 c2 c3)), .val (.int (0 : Int32))] at_214 rfl ?_
            refine Own.iload at_216 rfl ?_
            refine Own.iload at_218 rfl ?_
            refine Own.icmp_ne 227 at_220 (by decide) rfl (fun q => absurd (by rw [own_ix_0_3, if_pos c210]) q) (fun _ => ?_)
            refine Own.iconst (1 : Int32) at_223 rfl ?_
            refine Own.goto_ 228 at_224 (by decide) rfl ?_
            refine Own.ret_nar (t := .boolean) (by simp) rfl at_228 (by decide) (by decide) ?_
            exact rfl
        · refine Own.iconst (1 : Int32) at_190 rfl ?_
          refine Own.istore #[.val (.long q0), .second, .val (.int p1), .val (.int p2), .val (.int p3), .val (.int us), .val (.int ug), .val (.ref b88), .val (.int (0 : Int32)), .val (.int (3 : Int32)), .val (.ref b93), .val (.int (own_ix_0_3 us c0 c1 c2 c3)), .val (.int (1 : Int32))] at_191 rfl ?_
          refine Own.iload at_193 rfl ?_
          refine Own.if_gt 216 at_195 (by decide) rfl (fun q => absurd q (by decide)) (fun _ => ?_)
          refine Own.iconst (0 : Int32) at_198 rfl ?_
          refine Own.iload at_199 rfl ?_
          refine Own.icmp_ge 216 at_201 (by decide) rfl (fun q => absurd (by decide) q) (fun _ => ?_)
          refine Own.aload at_204 rfl rfl ?_
          refine Own.iconst (0 : Int32) at_206 rfl ?_
          refine Own.caload_ V92 (i := 0) rfl rfl at_207 ?_
          refine Own.iload at_208 rfl ?_
          refine Own.icmp_ne 216 at_210 (by decide) rfl (fun c210 => ?_) (fun c210 => ?_)
          · refine Own.iload at_216 rfl ?_
            refine Own.iload at_218 rfl ?_
            refine Own.icmp_ne 227 at_220 (by decide) rfl (fun q => absurd (by rw [own_ix_0_3, if_neg c210, if_pos c187]) q) (fun _ => ?_)
            refine Own.iconst (1 : Int32) at_223 rfl ?_
            refine Own.goto_ 228 at_224 (by decide) rfl ?_
            refine Own.ret_nar (t := .boolean) (by simp) rfl at_228 (by decide) (by decide) ?_
            exact rfl
          · refine Own.iconst (0 : Int32) at_213 rfl ?_
            refine Own.istore #[.val (.long q0), .second, .val (.int p1), .val (.int p2), .val (.int p3), .val (.int us), .val (.int ug), .val (.ref b88), .val (.int (0 : Int32)), .val (.int (3 : Int32)), .val (.ref b93), .val (.int (own_ix_0_3 us c0 c1 c2 c3)), .val (.int (0 : Int32))] at_214 rfl ?_
            refine Own.iload at_216 rfl ?_
            refine Own.iload at_218 rfl ?_
            refine Own.icmp_ne 227 at_220 (by decide) rfl (fun q => absurd (by rw [own_ix_0_3, if_pos c210]) q) (fun _ => ?_)
            refine Own.iconst (1 : Int32) at_223 rfl ?_
            refine Own.goto_ 228 at_224 (by decide) rfl ?_
            refine Own.ret_nar (t := .boolean) (by simp) rfl at_228 (by decide) (by decide) ?_
            exact rfl
      · refine Own.iconst (2 : Int32) at_166 rfl ?_
        refine Own.istore #[.val (.long q0), .second, .val (.int p1), .val (.int p2), .val (.int p3), .val (.int us), .val (.int ug), .val (.ref b88), .val (.int (0 : Int32)), .val (.int (3 : Int32)), .val (.ref b93), .val (.int (own_ix_0_3 us c0 c1 c2 c3)), .val (.int (2 : Int32))] at_167 rfl ?_
        refine Own.iload at_169 rfl ?_
        refine Own.iconst (1 : Int32) at_171 rfl ?_
        refine Own.icmp_gt 193 at_172 (by decide) rfl (fun q => absurd q (by decide)) (fun _ => ?_)
        refine Own.iconst (1 : Int32) at_175 rfl ?_
        refine Own.iload at_176 rfl ?_
        refine Own.icmp_ge 193 at_178 (by decide) rfl (fun q => absurd (by decide) q) (fun _ => ?_)
        refine Own.aload at_181 rfl rfl ?_
        refine Own.iconst (1 : Int32) at_183 rfl ?_
        refine Own.caload_ V92 (i := 1) rfl rfl at_184 ?_
        refine Own.iload at_185 rfl ?_
        refine Own.icmp_ne 193 at_187 (by decide) rfl (fun c187 => ?_) (fun c187 => ?_)
        · refine Own.iload at_193 rfl ?_
          refine Own.if_gt 216 at_195 (by decide) rfl (fun q => absurd q (by decide)) (fun _ => ?_)
          refine Own.iconst (0 : Int32) at_198 rfl ?_
          refine Own.iload at_199 rfl ?_
          refine Own.icmp_ge 216 at_201 (by decide) rfl (fun q => absurd (by decide) q) (fun _ => ?_)
          refine Own.aload at_204 rfl rfl ?_
          refine Own.iconst (0 : Int32) at_206 rfl ?_
          refine Own.caload_ V92 (i := 0) rfl rfl at_207 ?_
          refine Own.iload at_208 rfl ?_
          refine Own.icmp_ne 216 at_210 (by decide) rfl (fun c210 => ?_) (fun c210 => ?_)
          · refine Own.iload at_216 rfl ?_
            refine Own.iload at_218 rfl ?_
            refine Own.icmp_ne 227 at_220 (by decide) rfl (fun q => absurd (by rw [own_ix_0_3, if_neg c210, if_neg c187, if_pos c163]) q) (fun _ => ?_)
            refine Own.iconst (1 : Int32) at_223 rfl ?_
            refine Own.goto_ 228 at_224 (by decide) rfl ?_
            refine Own.ret_nar (t := .boolean) (by simp) rfl at_228 (by decide) (by decide) ?_
            exact rfl
          · refine Own.iconst (0 : Int32) at_213 rfl ?_
            refine Own.istore #[.val (.long q0), .second, .val (.int p1), .val (.int p2), .val (.int p3), .val (.int us), .val (.int ug), .val (.ref b88), .val (.int (0 : Int32)), .val (.int (3 : Int32)), .val (.ref b93), .val (.int (own_ix_0_3 us c0 c1 c2 c3)), .val (.int (0 : Int32))] at_214 rfl ?_
            refine Own.iload at_216 rfl ?_
            refine Own.iload at_218 rfl ?_
            refine Own.icmp_ne 227 at_220 (by decide) rfl (fun q => absurd (by rw [own_ix_0_3, if_pos c210]) q) (fun _ => ?_)
            refine Own.iconst (1 : Int32) at_223 rfl ?_
            refine Own.goto_ 228 at_224 (by decide) rfl ?_
            refine Own.ret_nar (t := .boolean) (by simp) rfl at_228 (by decide) (by decide) ?_
            exact rfl
        · refine Own.iconst (1 : Int32) at_190 rfl ?_
          refine Own.istore #[.val (.long q0), .second, .val (.int p1), .val (.int p2), .val (.int p3), .val (.int us), .val (.int ug), .val (.ref b88), .val (.int (0 : Int32)), .val (.int (3 : Int32)), .val (.ref b93), .val (.int (own_ix_0_3 us c0 c1 c2 c3)), .val (.int (1 : Int32))] at_191 rfl ?_
          refine Own.iload at_193 rfl ?_
          refine Own.if_gt 216 at_195 (by decide) rfl (fun q => absurd q (by decide)) (fun _ => ?_)
          refine Own.iconst (0 : Int32) at_198 rfl ?_
          refine Own.iload at_199 rfl ?_
          refine Own.icmp_ge 216 at_201 (by decide) rfl (fun q => absurd (by decide) q) (fun _ => ?_)
          refine Own.aload at_204 rfl rfl ?_
          refine Own.iconst (0 : Int32) at_206 rfl ?_
          refine Own.caload_ V92 (i := 0) rfl rfl at_207 ?_
          refine Own.iload at_208 rfl ?_
          refine Own.icmp_ne 216 at_210 (by decide) rfl (fun c210 => ?_) (fun c210 => ?_)
          · refine Own.iload at_216 rfl ?_
            refine Own.iload at_218 rfl ?_
            refine Own.icmp_ne 227 at_220 (by decide) rfl (fun q => absurd (by rw [own_ix_0_3, if_neg c210, if_pos c187]) q) (fun _ => ?_)
            refine Own.iconst (1 : Int32) at_223 rfl ?_
            refine Own.goto_ 228 at_224 (by decide) rfl ?_
            refine Own.ret_nar (t := .boolean) (by simp) rfl at_228 (by decide) (by decide) ?_
            exact rfl
          · refine Own.iconst (0 : Int32) at_213 rfl ?_
            refine Own.istore #[.val (.long q0), .second, .val (.int p1), .val (.int p2), .val (.int p3), .val (.int us), .val (.int ug), .val (.ref b88), .val (.int (0 : Int32)), .val (.int (3 : Int32)), .val (.ref b93), .val (.int (own_ix_0_3 us c0 c1 c2 c3)), .val (.int (0 : Int32))] at_214 rfl ?_
            refine Own.iload at_216 rfl ?_
            refine Own.iload at_218 rfl ?_
            refine Own.icmp_ne 227 at_220 (by decide) rfl (fun q => absurd (by rw [own_ix_0_3, if_pos c210]) q) (fun _ => ?_)
            refine Own.iconst (1 : Int32) at_223 rfl ?_
            refine Own.goto_ 228 at_224 (by decide) rfl ?_
            refine Own.ret_nar (t := .boolean) (by simp) rfl at_228 (by decide) (by decide) ?_
            exact rfl
    · refine Own.callSP [(.ref b93), (.int us), (.int (0 : Int32)), (.int (4 : Int32))] [] 0 (rmX_0_4 l Z a0 hw [] b93 us bb kb cod bs zc vf c0 c1 c2 c3 h94 n0 hn X_b93 F_v F_c V_b S_C S_F S_A S_H S_L hz hvf hr0 hr1 hr2 hr3 hsp) (hw _ (List.mem_of_getElem? (i := 37) rfl)) (hw _ (List.mem_of_getElem? (i := 38) rfl)) (hw _ (List.mem_of_getElem? (i := 39) rfl)) (hw _ (List.mem_of_getElem? (i := 40) rfl)) (by decide) at_112 pd_9 rfl rfl rfl rfl (by decide) (by decide) (by decide) (by decide) ?_
      refine Own.istore #[.val (.long q0), .second, .val (.int p1), .val (.int p2), .val (.int p3), .val (.int us), .val (.int ug), .val (.ref b88), .val (.int (0 : Int32)), .val (.int (4 : Int32)), .val (.ref b93), .val (.int (own_ix_0_4 us c0 c1 c2 c3)), .unset] at_115 rfl ?_
      refine Own.iload at_117 rfl ?_
      refine Own.istore #[.val (.long q0), .second, .val (.int p1), .val (.int p2), .val (.int p3), .val (.int us), .val (.int ug), .val (.ref b88), .val (.int (0 : Int32)), .val (.int (4 : Int32)), .val (.ref b93), .val (.int (own_ix_0_4 us c0 c1 c2 c3)), .val (.int (4 : Int32))] at_119 rfl ?_
      refine Own.iload at_121 rfl ?_
      refine Own.iconst (3 : Int32) at_123 rfl ?_
      refine Own.icmp_gt 145 at_124 (by decide) rfl (fun q => absurd q (by decide)) (fun _ => ?_)
      refine Own.iconst (3 : Int32) at_127 rfl ?_
      refine Own.iload at_128 rfl ?_
      refine Own.icmp_ge 145 at_130 (by decide) rfl (fun q => absurd (by decide) q) (fun _ => ?_)
      refine Own.aload at_133 rfl rfl ?_
      refine Own.iconst (3 : Int32) at_135 rfl ?_
      refine Own.caload_ V92 (i := 3) rfl rfl at_136 ?_
      refine Own.iload at_137 rfl ?_
      refine Own.icmp_ne 145 at_139 (by decide) rfl (fun c139 => ?_) (fun c139 => ?_)
      · refine Own.iload at_145 rfl ?_
        refine Own.iconst (2 : Int32) at_147 rfl ?_
        refine Own.icmp_gt 169 at_148 (by decide) rfl (fun q => absurd q (by decide)) (fun _ => ?_)
        refine Own.iconst (2 : Int32) at_151 rfl ?_
        refine Own.iload at_152 rfl ?_
        refine Own.icmp_ge 169 at_154 (by decide) rfl (fun q => absurd (by decide) q) (fun _ => ?_)
        refine Own.aload at_157 rfl rfl ?_
        refine Own.iconst (2 : Int32) at_159 rfl ?_
        refine Own.caload_ V92 (i := 2) rfl rfl at_160 ?_
        refine Own.iload at_161 rfl ?_
        refine Own.icmp_ne 169 at_163 (by decide) rfl (fun c163 => ?_) (fun c163 => ?_)
        · refine Own.iload at_169 rfl ?_
          refine Own.iconst (1 : Int32) at_171 rfl ?_
          refine Own.icmp_gt 193 at_172 (by decide) rfl (fun q => absurd q (by decide)) (fun _ => ?_)
          refine Own.iconst (1 : Int32) at_175 rfl ?_
          refine Own.iload at_176 rfl ?_
          refine Own.icmp_ge 193 at_178 (by decide) rfl (fun q => absurd (by decide) q) (fun _ => ?_)
          refine Own.aload at_181 rfl rfl ?_
          refine Own.iconst (1 : Int32) at_183 rfl ?_
          refine Own.caload_ V92 (i := 1) rfl rfl at_184 ?_
          refine Own.iload at_185 rfl ?_
          refine Own.icmp_ne 193 at_187 (by decide) rfl (fun c187 => ?_) (fun c187 => ?_)
          · refine Own.iload at_193 rfl ?_
            refine Own.if_gt 216 at_195 (by decide) rfl (fun q => absurd q (by decide)) (fun _ => ?_)
            refine Own.iconst (0 : Int32) at_198 rfl ?_
            refine Own.iload at_199 rfl ?_
            refine Own.icmp_ge 216 at_201 (by decide) rfl (fun q => absurd (by decide) q) (fun _ => ?_)
            refine Own.aload at_204 rfl rfl ?_
            refine Own.iconst (0 : Int32) at_206 rfl ?_
            refine Own.caload_ V92 (i := 0) rfl rfl at_207 ?_
            refine Own.iload at_208 rfl ?_
            refine Own.icmp_ne 216 at_210 (by decide) rfl (fun c210 => ?_) (fun c210 => ?_)
            · refine Own.iload at_216 rfl ?_
              refine Own.iload at_218 rfl ?_
              refine Own.icmp_ne 227 at_220 (by decide) rfl (fun q => absurd (by rw [own_ix_0_4, if_neg c210, if_neg c187, if_neg c163, if_neg c139]) q) (fun _ => ?_)
              refine Own.iconst (1 : Int32) at_223 rfl ?_
              refine Own.goto_ 228 at_224 (by decide) rfl ?_
              refine Own.ret_nar (t := .boolean) (by simp) rfl at_228 (by decide) (by decide) ?_
              exact rfl
            · refine Own.iconst (0 : Int32) at_213 rfl ?_
              refine Own.istore #[.val (.long q0), .second, .val (.int p1), .val (.int p2), .val (.int p3), .val (.int us), .val (.int ug), .val (.ref b88), .val (.int (0 : Int32)), .val (.int (4 : Int32)), .val (.ref b93), .val (.int (own_ix_0_4 us c0 c1 c2 c3)), .val (.int (0 : Int32))] at_214 rfl ?_
              refine Own.iload at_216 rfl ?_
              refine Own.iload at_218 rfl ?_
              refine Own.icmp_ne 227 at_220 (by decide) rfl (fun q => absurd (by rw [own_ix_0_4, if_pos c210]) q) (fun _ => ?_)
              refine Own.iconst (1 : Int32) at_223 rfl ?_
              refine Own.goto_ 228 at_224 (by decide) rfl ?_
              refine Own.ret_nar (t := .boolean) (by simp) rfl at_228 (by decide) (by decide) ?_
              exact rfl
          · refine Own.iconst (1 : Int32) at_190 rfl ?_
            refine Own.istore #[.val (.long q0), .second, .val (.int p1), .val (.int p2), .val (.int p3), .val (.int us), .val (.int ug), .val (.ref b88), .val (.int (0 : Int32)), .val (.int (4 : Int32)), .val (.ref b93), .val (.int (own_ix_0_4 us c0 c1 c2 c3)), .val (.int (1 : Int32))] at_191 rfl ?_
            refine Own.iload at_193 rfl ?_
            refine Own.if_gt 216 at_195 (by decide) rfl (fun q => absurd q (by decide)) (fun _ => ?_)
            refine Own.iconst (0 : Int32) at_198 rfl ?_
            refine Own.iload at_199 rfl ?_
            refine Own.icmp_ge 216 at_201 (by decide) rfl (fun q => absurd (by decide) q) (fun _ => ?_)
            refine Own.aload at_204 rfl rfl ?_
            refine Own.iconst (0 : Int32) at_206 rfl ?_
            refine Own.caload_ V92 (i := 0) rfl rfl at_207 ?_
            refine Own.iload at_208 rfl ?_
            refine Own.icmp_ne 216 at_210 (by decide) rfl (fun c210 => ?_) (fun c210 => ?_)
            · refine Own.iload at_216 rfl ?_
              refine Own.iload at_218 rfl ?_
              refine Own.icmp_ne 227 at_220 (by decide) rfl (fun q => absurd (by rw [own_ix_0_4, if_neg c210, if_pos c187]) q) (fun _ => ?_)
              refine Own.iconst (1 : Int32) at_223 rfl ?_
              refine Own.goto_ 228 at_224 (by decide) rfl ?_
              refine Own.ret_nar (t := .boolean) (by simp) rfl at_228 (by decide) (by decide) ?_
              exact rfl
            · refine Own.iconst (0 : Int32) at_213 rfl ?_
              refine Own.istore #[.val (.long q0), .second, .val (.int p1), .val (.int p2), .val (.int p3), .val (.int us), .val (.int ug), .val (.ref b88), .val (.int (0 : Int32)), .val (.int (4 : Int32)), .val (.ref b93), .val (.int (own_ix_0_4 us c0 c1 c2 c3)), .val (.int (0 : Int32))] at_214 rfl ?_
              refine Own.iload at_216 rfl ?_
              refine Own.iload at_218 rfl ?_
              refine Own.icmp_ne 227 at_220 (by decide) rfl (fun q => absurd (by rw [own_ix_0_4, if_pos c210]) q) (fun _ => ?_)
              refine Own.iconst (1 : Int32) at_223 rfl ?_
              refine Own.goto_ 228 at_224 (by decide) rfl ?_
              refine Own.ret_nar (t := .boolean) (by simp) rfl at_228 (by decide) (by decide) ?_
              exact rfl
        · refine Own.iconst (2 : Int32) at_166 rfl ?_
          refine Own.istore #[.val (.long q0), .second, .val (.int p1), .val (.int p2), .val (.int p3), .val (.int us), .val (.int ug), .val (.ref b88), .val (.int (0 : Int32)), .val (.int (4 : Int32)), .val (.ref b93), .val (.int (own_ix_0_4 us c0 c1 c2 c3)), .val (.int (2 : Int32))] at_167 rfl ?_
          refine Own.iload at_169 rfl ?_
          refine Own.iconst (1 : Int32) at_171 rfl ?_
          refine Own.icmp_gt 193 at_172 (by decide) rfl (fun q => absurd q (by decide)) (fun _ => ?_)
          refine Own.iconst (1 : Int32) at_175 rfl ?_
          refine Own.iload at_176 rfl ?_
          refine Own.icmp_ge 193 at_178 (by decide) rfl (fun q => absurd (by decide) q) (fun _ => ?_)
          refine Own.aload at_181 rfl rfl ?_
          refine Own.iconst (1 : Int32) at_183 rfl ?_
          refine Own.caload_ V92 (i := 1) rfl rfl at_184 ?_
          refine Own.iload at_185 rfl ?_
          refine Own.icmp_ne 193 at_187 (by decide) rfl (fun c187 => ?_) (fun c187 => ?_)
          · refine Own.iload at_193 rfl ?_
            refine Own.if_gt 216 at_195 (by decide) rfl (fun q => absurd q (by decide)) (fun _ => ?_)
            refine Own.iconst (0 : Int32) at_198 rfl ?_
            refine Own.iload at_199 rfl ?_
            refine Own.icmp_ge 216 at_201 (by decide) rfl (fun q => absurd (by decide) q) (fun _ => ?_)
            refine Own.aload at_204 rfl rfl ?_
            refine Own.iconst (0 : Int32) at_206 rfl ?_
            refine Own.caload_ V92 (i := 0) rfl rfl at_207 ?_
            refine Own.iload at_208 rfl ?_
            refine Own.icmp_ne 216 at_210 (by decide) rfl (fun c210 => ?_) (fun c210 => ?_)
            · refine Own.iload at_216 rfl ?_
              refine Own.iload at_218 rfl ?_
              refine Own.icmp_ne 227 at_220 (by decide) rfl (fun q => absurd (by rw [own_ix_0_4, if_neg c210, if_neg c187, if_pos c163]) q) (fun _ => ?_)
              refine Own.iconst (1 : Int32) at_223 rfl ?_
              refine Own.goto_ 228 at_224 (by decide) rfl ?_
              refine Own.ret_nar (t := .boolean) (by simp) rfl at_228 (by decide) (by decide) ?_
              exact rfl
            · refine Own.iconst (0 : Int32) at_213 rfl ?_
              refine Own.istore #[.val (.long q0), .second, .val (.int p1), .val (.int p2), .val (.int p3), .val (.int us), .val (.int ug), .val (.ref b88), .val (.int (0 : Int32)), .val (.int (4 : Int32)), .val (.ref b93), .val (.int (own_ix_0_4 us c0 c1 c2 c3)), .val (.int (0 : Int32))] at_214 rfl ?_
              refine Own.iload at_216 rfl ?_
              refine Own.iload at_218 rfl ?_
              refine Own.icmp_ne 227 at_220 (by decide) rfl (fun q => absurd (by rw [own_ix_0_4, if_pos c210]) q) (fun _ => ?_)
              refine Own.iconst (1 : Int32) at_223 rfl ?_
              refine Own.goto_ 228 at_224 (by decide) rfl ?_
              refine Own.ret_nar (t := .boolean) (by simp) rfl at_228 (by decide) (by decide) ?_
              exact rfl
          · refine Own.iconst (1 : Int32) at_190 rfl ?_
            refine Own.istore #[.val (.long q0), .second, .val (.int p1), .val (.int p2), .val (.int p3), .val (.int us), .val (.int ug), .val (.ref b88), .val (.int (0 : Int32)), .val (.int (4 : Int32)), .val (.ref b93), .val (.int (own_ix_0_4 us c0 c1 c2 c3)), .val (.int (1 : Int32))] at_191 rfl ?_
            refine Own.iload at_193 rfl ?_
            refine Own.if_gt 216 at_195 (by decide) rfl (fun q => absurd q (by decide)) (fun _ => ?_)
            refine Own.iconst (0 : Int32) at_198 rfl ?_
            refine Own.iload at_199 rfl ?_
            refine Own.icmp_ge 216 at_201 (by decide) rfl (fun q => absurd (by decide) q) (fun _ => ?_)
            refine Own.aload at_204 rfl rfl ?_
            refine Own.iconst (0 : Int32) at_206 rfl ?_
            refine Own.caload_ V92 (i := 0) rfl rfl at_207 ?_
            refine Own.iload at_208 rfl ?_
            refine Own.icmp_ne 216 at_210 (by decide) rfl (fun c210 => ?_) (fun c210 => ?_)
            · refine Own.iload at_216 rfl ?_
              refine Own.iload at_218 rfl ?_
              refine Own.icmp_ne 227 at_220 (by decide) rfl (fun q => absurd (by rw [own_ix_0_4, if_neg c210, if_pos c187]) q) (fun _ => ?_)
              refine Own.iconst (1 : Int32) at_223 rfl ?_
              refine Own.goto_ 228 at_224 (by decide) rfl ?_
              refine Own.ret_nar (t := .boolean) (by simp) rfl at_228 (by decide) (by decide) ?_
              exact rfl
            · refine Own.iconst (0 : Int32) at_213 rfl ?_
              refine Own.istore #[.val (.long q0), .second, .val (.int p1), .val (.int p2), .val (.int p3), .val (.int us), .val (.int ug), .val (.ref b88), .val (.int (0 : Int32)), .val (.int (4 : Int32)), .val (.ref b93), .val (.int (own_ix_0_4 us c0 c1 c2 c3)), .val (.int (0 : Int32))] at_214 rfl ?_
              refine Own.iload at_216 rfl ?_
              refine Own.iload at_218 rfl ?_
              refine Own.icmp_ne 227 at_220 (by decide) rfl (fun q => absurd (by rw [own_ix_0_4, if_pos c210]) q) (fun _ => ?_)
              refine Own.iconst (1 : Int32) at_223 rfl ?_
              refine Own.goto_ 228 at_224 (by decide) rfl ?_
              refine Own.ret_nar (t := .boolean) (by simp) rfl at_228 (by decide) (by decide) ?_
              exact rfl
      · refine Own.iconst (3 : Int32) at_142 rfl ?_
        refine Own.istore #[.val (.long q0), .second, .val (.int p1), .val (.int p2), .val (.int p3), .val (.int us), .val (.int ug), .val (.ref b88), .val (.int (0 : Int32)), .val (.int (4 : Int32)), .val (.ref b93), .val (.int (own_ix_0_4 us c0 c1 c2 c3)), .val (.int (3 : Int32))] at_143 rfl ?_
        refine Own.iload at_145 rfl ?_
        refine Own.iconst (2 : Int32) at_147 rfl ?_
        refine Own.icmp_gt 169 at_148 (by decide) rfl (fun q => absurd q (by decide)) (fun _ => ?_)
        refine Own.iconst (2 : Int32) at_151 rfl ?_
        refine Own.iload at_152 rfl ?_
        refine Own.icmp_ge 169 at_154 (by decide) rfl (fun q => absurd (by decide) q) (fun _ => ?_)
        refine Own.aload at_157 rfl rfl ?_
        refine Own.iconst (2 : Int32) at_159 rfl ?_
        refine Own.caload_ V92 (i := 2) rfl rfl at_160 ?_
        refine Own.iload at_161 rfl ?_
        refine Own.icmp_ne 169 at_163 (by decide) rfl (fun c163 => ?_) (fun c163 => ?_)
        · refine Own.iload at_169 rfl ?_
          refine Own.iconst (1 : Int32) at_171 rfl ?_
          refine Own.icmp_gt 193 at_172 (by decide) rfl (fun q => absurd q (by decide)) (fun _ => ?_)
          refine Own.iconst (1 : Int32) at_175 rfl ?_
          refine Own.iload at_176 rfl ?_
          refine Own.icmp_ge 193 at_178 (by decide) rfl (fun q => absurd (by decide) q) (fun _ => ?_)
          refine Own.aload at_181 rfl rfl ?_
          refine Own.iconst (1 : Int32) at_183 rfl ?_
          refine Own.caload_ V92 (i := 1) rfl rfl at_184 ?_
          refine Own.iload at_185 rfl ?_
          refine Own.icmp_ne 193 at_187 (by decide) rfl (fun c187 => ?_) (fun c187 => ?_)
          · refine Own.iload at_193 rfl ?_
            refine Own.if_gt 216 at_195 (by decide) rfl (fun q => absurd q (by decide)) (fun _ => ?_)
            refine Own.iconst (0 : Int32) at_198 rfl ?_
            refine Own.iload at_199 rfl ?_
            refine Own.icmp_ge 216 at_201 (by decide) rfl (fun q => absurd (by decide) q) (fun _ => ?_)
            refine Own.aload at_204 rfl rfl ?_
            refine Own.iconst (0 : Int32) at_206 rfl ?_
            refine Own.caload_ V92 (i := 0) rfl rfl at_207 ?_
            refine Own.iload at_208 rfl ?_
            refine Own.icmp_ne 216 at_210 (by decide) rfl (fun c210 => ?_) (fun c210 => ?_)
            · refine Own.iload at_216 rfl ?_
              refine Own.iload at_218 rfl ?_
              refine Own.icmp_ne 227 at_220 (by decide) rfl (fun q => absurd (by rw [own_ix_0_4, if_neg c210, if_neg c187, if_neg c163, if_pos c139]) q) (fun _ => ?_)
              refine Own.iconst (1 : Int32) at_223 rfl ?_
              refine Own.goto_ 228 at_224 (by decide) rfl ?_
              refine Own.ret_nar (t := .boolean) (by simp) rfl at_228 (by decide) (by decide) ?_
              exact rfl
            · refine Own.iconst (0 : Int32) at_213 rfl ?_
              refine Own.istore #[.val (.long q0), .second, .val (.int p1), .val (.int p2), .val (.int p3), .val (.int us), .val (.int ug), .val (.ref b88), .val (.int (0 : Int32)), .val (.int (4 : Int32)), .val (.ref b93), .val (.int (own_ix_0_4 us c0 c1 c2 c3)), .val (.int (0 : Int32))] at_214 rfl ?_
              refine Own.iload at_216 rfl ?_
              refine Own.iload at_218 rfl ?_
              refine Own.icmp_ne 227 at_220 (by decide) rfl (fun q => absurd (by rw [own_ix_0_4, if_pos c210]) q) (fun _ => ?_)
              refine Own.iconst (1 : Int32) at_223 rfl ?_
              refine Own.goto_ 228 at_224 (by decide) rfl ?_
              refine Own.ret_nar (t := .boolean) (by simp) rfl at_228 (by decide) (by decide) ?_
              exact rfl
          · refine Own.iconst (1 : Int32) at_190 rfl ?_
            refine Own.istore #[.val (.long q0), .second, .val (.int p1), .val (.int p2), .val (.int p3), .val (.int us), .val (.int ug), .val (.ref b88), .val (.int (0 : Int32)), .val (.int (4 : Int32)), .val (.ref b93), .val (.int (own_ix_0_4 us c0 c1 c2 c3)), .val (.int (1 : Int32))] at_191 rfl ?_
            refine Own.iload at_193 rfl ?_
            refine Own.if_gt 216 at_195 (by decide) rfl (fun q => absurd q (by decide)) (fun _ => ?_)
            refine Own.iconst (0 : Int32) at_198 rfl ?_
            refine Own.iload at_199 rfl ?_
            refine Own.icmp_ge 216 at_201 (by decide) rfl (fun q => absurd (by decide) q) (fun _ => ?_)
            refine Own.aload at_204 rfl rfl ?_
            refine Own.iconst (0 : Int32) at_206 rfl ?_
            refine Own.caload_ V92 (i := 0) rfl rfl at_207 ?_
            refine Own.iload at_208 rfl ?_
            refine Own.icmp_ne 216 at_210 (by decide) rfl (fun c210 => ?_) (fun c210 => ?_)
            · refine Own.iload at_216 rfl ?_
              refine Own.iload at_218 rfl ?_
              refine Own.icmp_ne 227 at_220 (by decide) rfl (fun q => absurd (by rw [own_ix_0_4, if_neg c210, if_pos c187]) q) (fun _ => ?_)
              refine Own.iconst (1 : Int32) at_223 rfl ?_
              refine Own.goto_ 228 at_224 (by decide) rfl ?_
              refine Own.ret_nar (t := .boolean) (by simp) rfl at_228 (by decide) (by decide) ?_
              exact rfl
            · refine Own.iconst (0 : Int32) at_213 rfl ?_
              refine Own.istore #[.val (.long q0), .second, .val (.int p1), .val (.int p2), .val (.int p3), .val (.int us), .val (.int ug), .val (.ref b88), .val (.int (0 : Int32)), .val (.int (4 : Int32)), .val (.ref b93), .val (.int (own_ix_0_4 us c0 c1 c2 c3)), .val (.int (0 : Int32))] at_214 rfl ?_
              refine Own.iload at_216 rfl ?_
              refine Own.iload at_218 rfl ?_
              refine Own.icmp_ne 227 at_220 (by decide) rfl (fun q => absurd (by rw [own_ix_0_4, if_pos c210]) q) (fun _ => ?_)
              refine Own.iconst (1 : Int32) at_223 rfl ?_
              refine Own.goto_ 228 at_224 (by decide) rfl ?_
              refine Own.ret_nar (t := .boolean) (by simp) rfl at_228 (by decide) (by decide) ?_
              exact rfl
        · refine Own.iconst (2 : Int32) at_166 rfl ?_
          refine Own.istore #[.val (.long q0), .second, .val (.int p1), .val (.int p2), .val (.int p3), .val (.int us), .val (.int ug), .val (.ref b88), .val (.int (0 : Int32)), .val (.int (4 : Int32)), .val (.ref b93), .val (.int (own_ix_0_4 us c0 c1 c2 c3)), .val (.int (2 : Int32))] at_167 rfl ?_
          refine Own.iload at_169 rfl ?_
          refine Own.iconst (1 : Int32) at_171 rfl ?_
          refine Own.icmp_gt 193 at_172 (by decide) rfl (fun q => absurd q (by decide)) (fun _ => ?_)
          refine Own.iconst (1 : Int32) at_175 rfl ?_
          refine Own.iload at_176 rfl ?_
          refine Own.icmp_ge 193 at_178 (by decide) rfl (fun q => absurd (by decide) q) (fun _ => ?_)
          refine Own.aload at_181 rfl rfl ?_
          refine Own.iconst (1 : Int32) at_183 rfl ?_
          refine Own.caload_ V92 (i := 1) rfl rfl at_184 ?_
          refine Own.iload at_185 rfl ?_
          refine Own.icmp_ne 193 at_187 (by decide) rfl (fun c187 => ?_) (fun c187 => ?_)
          · refine Own.iload at_193 rfl ?_
            refine Own.if_gt 216 at_195 (by decide) rfl (fun q => absurd q (by decide)) (fun _ => ?_)
            refine Own.iconst (0 : Int32) at_198 rfl ?_
            refine Own.iload at_199 rfl ?_
            refine Own.icmp_ge 216 at_201 (by decide) rfl (fun q => absurd (by decide) q) (fun _ => ?_)
            refine Own.aload at_204 rfl rfl ?_
            refine Own.iconst (0 : Int32) at_206 rfl ?_
            refine Own.caload_ V92 (i := 0) rfl rfl at_207 ?_
            refine Own.iload at_208 rfl ?_
            refine Own.icmp_ne 216 at_210 (by decide) rfl (fun c210 => ?_) (fun c210 => ?_)
            · refine Own.iload at_216 rfl ?_
              refine Own.iload at_218 rfl ?_
              refine Own.icmp_ne 227 at_220 (by decide) rfl (fun q => absurd (by rw [own_ix_0_4, if_neg c210, if_neg c187, if_pos c163]) q) (fun _ => ?_)
              refine Own.iconst (1 : Int32) at_223 rfl ?_
              refine Own.goto_ 228 at_224 (by decide) rfl ?_
              refine Own.ret_nar (t := .boolean) (by simp) rfl at_228 (by decide) (by decide) ?_
              exact rfl
            · refine Own.iconst (0 : Int32) at_213 rfl ?_
              refine Own.istore #[.val (.long q0), .second, .val (.int p1), .val (.int p2), .val (.int p3), .val (.int us), .val (.int ug), .val (.ref b88), .val (.int (0 : Int32)), .val (.int (4 : Int32)), .val (.ref b93), .val (.int (own_ix_0_4 us c0 c1 c2 c3)), .val (.int (0 : Int32))] at_214 rfl ?_
              refine Own.iload at_216 rfl ?_
              refine Own.iload at_218 rfl ?_
              refine Own.icmp_ne 227 at_220 (by decide) rfl (fun q => absurd (by rw [own_ix_0_4, if_pos c210]) q) (fun _ => ?_)
              refine Own.iconst (1 : Int32) at_223 rfl ?_
              refine Own.goto_ 228 at_224 (by decide) rfl ?_
              refine Own.ret_nar (t := .boolean) (by simp) rfl at_228 (by decide) (by decide) ?_
              exact rfl
          · refine Own.iconst (1 : Int32) at_190 rfl ?_
            refine Own.istore #[.val (.long q0), .second, .val (.int p1), .val (.int p2), .val (.int p3), .val (.int us), .val (.int ug), .val (.ref b88), .val (.int (0 : Int32)), .val (.int (4 : Int32)), .val (.ref b93), .val (.int (own_ix_0_4 us c0 c1 c2 c3)), .val (.int (1 : Int32))] at_191 rfl ?_
            refine Own.iload at_193 rfl ?_
            refine Own.if_gt 216 at_195 (by decide) rfl (fun q => absurd q (by decide)) (fun _ => ?_)
            refine Own.iconst (0 : Int32) at_198 rfl ?_
            refine Own.iload at_199 rfl ?_
            refine Own.icmp_ge 216 at_201 (by decide) rfl (fun q => absurd (by decide) q) (fun _ => ?_)
            refine Own.aload at_204 rfl rfl ?_
            refine Own.iconst (0 : Int32) at_206 rfl ?_
            refine Own.caload_ V92 (i := 0) rfl rfl at_207 ?_
            refine Own.iload at_208 rfl ?_
            refine Own.icmp_ne 216 at_210 (by decide) rfl (fun c210 => ?_) (fun c210 => ?_)
            · refine Own.iload at_216 rfl ?_
              refine Own.iload at_218 rfl ?_
              refine Own.icmp_ne 227 at_220 (by decide) rfl (fun q => absurd (by rw [own_ix_0_4, if_neg c210, if_pos c187]) q) (fun _ => ?_)
              refine Own.iconst (1 : Int32) at_223 rfl ?_
              refine Own.goto_ 228 at_224 (by decide) rfl ?_
              refine Own.ret_nar (t := .boolean) (by simp) rfl at_228 (by decide) (by decide) ?_
              exact rfl
            · refine Own.iconst (0 : Int32) at_213 rfl ?_
              refine Own.istore #[.val (.long q0), .second, .val (.int p1), .val (.int p2), .val (.int p3), .val (.int us), .val (.int ug), .val (.ref b88), .val (.int (0 : Int32)), .val (.int (4 : Int32)), .val (.ref b93), .val (.int (own_ix_0_4 us c0 c1 c2 c3)), .val (.int (0 : Int32))] at_214 rfl ?_
              refine Own.iload at_216 rfl ?_
              refine Own.iload at_218 rfl ?_
              refine Own.icmp_ne 227 at_220 (by decide) rfl (fun q => absurd (by rw [own_ix_0_4, if_pos c210]) q) (fun _ => ?_)
              refine Own.iconst (1 : Int32) at_223 rfl ?_
              refine Own.goto_ 228 at_224 (by decide) rfl ?_
              refine Own.ret_nar (t := .boolean) (by simp) rfl at_228 (by decide) (by decide) ?_
              exact rfl
  · have ht : uo = 1 ∨ uo = 2 ∨ uo = 3 ∨ uo = 4 := by rw [e_uo]; exact own_t1 p3
    rcases ht with rfl | rfl | rfl | rfl
    · refine Own.callSP [(.ref b93), (.int us), (.int (1 : Int32)), (.int (1 : Int32))] [] 0 (rmX_1_1 l Z a0 hw [] b93 us bb kb cod bs zc vf c0 c1 c2 c3 h94 n0 hn X_b93 F_v F_c V_b S_C S_F S_A S_H S_L hz hvf hr0 hr1 hr2 hr3 hsp) (hw _ (List.mem_of_getElem? (i := 37) rfl)) (hw _ (List.mem_of_getElem? (i := 38) rfl)) (hw _ (List.mem_of_getElem? (i := 39) rfl)) (hw _ (List.mem_of_getElem? (i := 40) rfl)) (by decide) at_112 pd_9 rfl rfl rfl rfl (by decide) (by decide) (by decide) (by decide) ?_
      refine Own.istore #[.val (.long q0), .second, .val (.int p1), .val (.int p2), .val (.int p3), .val (.int us), .val (.int ug), .val (.ref b88), .val (.int (1 : Int32)), .val (.int (1 : Int32)), .val (.ref b93), .val (.int (own_ix_1_1 us c0 c1 c2 c3)), .unset] at_115 rfl ?_
      refine Own.iload at_117 rfl ?_
      refine Own.istore #[.val (.long q0), .second, .val (.int p1), .val (.int p2), .val (.int p3), .val (.int us), .val (.int ug), .val (.ref b88), .val (.int (1 : Int32)), .val (.int (1 : Int32)), .val (.ref b93), .val (.int (own_ix_1_1 us c0 c1 c2 c3)), .val (.int (1 : Int32))] at_119 rfl ?_
      refine Own.iload at_121 rfl ?_
      refine Own.iconst (3 : Int32) at_123 rfl ?_
      refine Own.icmp_gt 145 at_124 (by decide) rfl (fun q => absurd q (by decide)) (fun _ => ?_)
      refine Own.iconst (3 : Int32) at_127 rfl ?_
      refine Own.iload at_128 rfl ?_
      refine Own.icmp_ge 145 at_130 (by decide) rfl (fun _ => ?_) (fun q => absurd q (by decide))
      refine Own.iload at_145 rfl ?_
      refine Own.iconst (2 : Int32) at_147 rfl ?_
      refine Own.icmp_gt 169 at_148 (by decide) rfl (fun q => absurd q (by decide)) (fun _ => ?_)
      refine Own.iconst (2 : Int32) at_151 rfl ?_
      refine Own.iload at_152 rfl ?_
      refine Own.icmp_ge 169 at_154 (by decide) rfl (fun _ => ?_) (fun q => absurd q (by decide))
      refine Own.iload at_169 rfl ?_
      refine Own.iconst (1 : Int32) at_171 rfl ?_
      refine Own.icmp_gt 193 at_172 (by decide) rfl (fun q => absurd q (by decide)) (fun _ => ?_)
      refine Own.iconst (1 : Int32) at_175 rfl ?_
      refine Own.iload at_176 rfl ?_
      refine Own.icmp_ge 193 at_178 (by decide) rfl (fun _ => ?_) (fun q => absurd q (by decide))
      refine Own.iload at_193 rfl ?_
      refine Own.if_gt 216 at_195 (by decide) rfl (fun _ => ?_) (fun q => absurd (by decide) q)
      refine Own.iload at_216 rfl ?_
      refine Own.iload at_218 rfl ?_
      refine Own.icmp_ne 227 at_220 (by decide) rfl (fun q => absurd (by rw [own_ix_1_1]) q) (fun _ => ?_)
      refine Own.iconst (1 : Int32) at_223 rfl ?_
      refine Own.goto_ 228 at_224 (by decide) rfl ?_
      refine Own.ret_nar (t := .boolean) (by simp) rfl at_228 (by decide) (by decide) ?_
      exact rfl
    · refine Own.callSP [(.ref b93), (.int us), (.int (1 : Int32)), (.int (2 : Int32))] [] 0 (rmX_1_2 l Z a0 hw [] b93 us bb kb cod bs zc vf c0 c1 c2 c3 h94 n0 hn X_b93 F_v F_c V_b S_C S_F S_A S_H S_L hz hvf hr0 hr1 hr2 hr3 hsp) (hw _ (List.mem_of_getElem? (i := 37) rfl)) (hw _ (List.mem_of_getElem? (i := 38) rfl)) (hw _ (List.mem_of_getElem? (i := 39) rfl)) (hw _ (List.mem_of_getElem? (i := 40) rfl)) (by decide) at_112 pd_9 rfl rfl rfl rfl (by decide) (by decide) (by decide) (by decide) ?_
      refine Own.istore #[.val (.long q0), .second, .val (.int p1), .val (.int p2), .val (.int p3), .val (.int us), .val (.int ug), .val (.ref b88), .val (.int (1 : Int32)), .val (.int (2 : Int32)), .val (.ref b93), .val (.int (own_ix_1_2 us c0 c1 c2 c3)), .unset] at_115 rfl ?_
      refine Own.iload at_117 rfl ?_
      refine Own.istore #[.val (.long q0), .second, .val (.int p1), .val (.int p2), .val (.int p3), .val (.int us), .val (.int ug), .val (.ref b88), .val (.int (1 : Int32)), .val (.int (2 : Int32)), .val (.ref b93), .val (.int (own_ix_1_2 us c0 c1 c2 c3)), .val (.int (2 : Int32))] at_119 rfl ?_
      refine Own.iload at_121 rfl ?_
      refine Own.iconst (3 : Int32) at_123 rfl ?_
      refine Own.icmp_gt 145 at_124 (by decide) rfl (fun q => absurd q (by decide)) (fun _ => ?_)
      refine Own.iconst (3 : Int32) at_127 rfl ?_
      refine Own.iload at_128 rfl ?_
      refine Own.icmp_ge 145 at_130 (by decide) rfl (fun _ => ?_) (fun q => absurd q (by decide))
      refine Own.iload at_145 rfl ?_
      refine Own.iconst (2 : Int32) at_147 rfl ?_
      refine Own.icmp_gt 169 at_148 (by decide) rfl (fun q => absurd q (by decide)) (fun _ => ?_)
      refine Own.iconst (2 : Int32) at_151 rfl ?_
      refine Own.iload at_152 rfl ?_
      refine Own.icmp_ge 169 at_154 (by decide) rfl (fun _ => ?_) (fun q => absurd q (by decide))
      refine Own.iload at_169 rfl ?_
      refine Own.iconst (1 : Int32) at_171 rfl ?_
      refine Own.icmp_gt 193 at_172 (by decide) rfl (fun q => absurd q (by decide)) (fun _ => ?_)
      refine Own.iconst (1 : Int32) at_175 rfl ?_
      refine Own.iload at_176 rfl ?_
      refine Own.icmp_ge 193 at_178 (by decide) rfl (fun q => absurd (by decide) q) (fun _ => ?_)
      refine Own.aload at_181 rfl rfl ?_
      refine Own.iconst (1 : Int32) at_183 rfl ?_
      refine Own.caload_ V92 (i := 1) rfl rfl at_184 ?_
      refine Own.iload at_185 rfl ?_
      refine Own.icmp_ne 193 at_187 (by decide) rfl (fun c187 => ?_) (fun c187 => ?_)
      · refine Own.iload at_193 rfl ?_
        refine Own.if_gt 216 at_195 (by decide) rfl (fun _ => ?_) (fun q => absurd (by decide) q)
        refine Own.iload at_216 rfl ?_
        refine Own.iload at_218 rfl ?_
        refine Own.icmp_ne 227 at_220 (by decide) rfl (fun q => absurd (by rw [own_ix_1_2, if_neg c187]) q) (fun _ => ?_)
        refine Own.iconst (1 : Int32) at_223 rfl ?_
        refine Own.goto_ 228 at_224 (by decide) rfl ?_
        refine Own.ret_nar (t := .boolean) (by simp) rfl at_228 (by decide) (by decide) ?_
        exact rfl
      · refine Own.iconst (1 : Int32) at_190 rfl ?_
        refine Own.istore #[.val (.long q0), .second, .val (.int p1), .val (.int p2), .val (.int p3), .val (.int us), .val (.int ug), .val (.ref b88), .val (.int (1 : Int32)), .val (.int (2 : Int32)), .val (.ref b93), .val (.int (own_ix_1_2 us c0 c1 c2 c3)), .val (.int (1 : Int32))] at_191 rfl ?_
        refine Own.iload at_193 rfl ?_
        refine Own.if_gt 216 at_195 (by decide) rfl (fun _ => ?_) (fun q => absurd (by decide) q)
        refine Own.iload at_216 rfl ?_
        refine Own.iload at_218 rfl ?_
        refine Own.icmp_ne 227 at_220 (by decide) rfl (fun q => absurd (by rw [own_ix_1_2, if_pos c187]) q) (fun _ => ?_)
        refine Own.iconst (1 : Int32) at_223 rfl ?_
        refine Own.goto_ 228 at_224 (by decide) rfl ?_
        refine Own.ret_nar (t := .boolean) (by simp) rfl at_228 (by decide) (by decide) ?_
        exact rfl
    · refine Own.callSP [(.ref b93), (.int us), (.int (1 : Int32)), (.int (3 : Int32))] [] 0 (rmX_1_3 l Z a0 hw [] b93 us bb kb cod bs zc vf c0 c1 c2 c3 h94 n0 hn X_b93 F_v F_c V_b S_C S_F S_A S_H S_L hz hvf hr0 hr1 hr2 hr3 hsp) (hw _ (List.mem_of_getElem? (i := 37) rfl)) (hw _ (List.mem_of_getElem? (i := 38) rfl)) (hw _ (List.mem_of_getElem? (i := 39) rfl)) (hw _ (List.mem_of_getElem? (i := 40) rfl)) (by decide) at_112 pd_9 rfl rfl rfl rfl (by decide) (by decide) (by decide) (by decide) ?_
      refine Own.istore #[.val (.long q0), .second, .val (.int p1), .val (.int p2), .val (.int p3), .val (.int us), .val (.int ug), .val (.ref b88), .val (.int (1 : Int32)), .val (.int (3 : Int32)), .val (.ref b93), .val (.int (own_ix_1_3 us c0 c1 c2 c3)), .unset] at_115 rfl ?_
      refine Own.iload at_117 rfl ?_
      refine Own.istore #[.val (.long q0), .second, .val (.int p1), .val (.int p2), .val (.int p3), .val (.int us), .val (.int ug), .val (.ref b88), .val (.int (1 : Int32)), .val (.int (3 : Int32)), .val (.ref b93), .val (.int (own_ix_1_3 us c0 c1 c2 c3)), .val (.int (3 : Int32))] at_119 rfl ?_
      refine Own.iload at_121 rfl ?_
      refine Own.iconst (3 : Int32) at_123 rfl ?_
      refine Own.icmp_gt 145 at_124 (by decide) rfl (fun q => absurd q (by decide)) (fun _ => ?_)
      refine Own.iconst (3 : Int32) at_127 rfl ?_
      refine Own.iload at_128 rfl ?_
      refine Own.icmp_ge 145 at_130 (by decide) rfl (fun _ => ?_) (fun q => absurd q (by decide))
      refine Own.iload at_145 rfl ?_
      refine Own.iconst (2 : Int32) at_147 rfl ?_
      refine Own.icmp_gt 169 at_148 (by decide) rfl (fun q => absurd q (by decide)) (fun _ => ?_)
      refine Own.iconst (2 : Int32) at_151 rfl ?_
      refine Own.iload at_152 rfl ?_
      refine Own.icmp_ge 169 at_154 (by decide) rfl (fun q => absurd (by decide) q) (fun _ => ?_)
      refine Own.aload at_157 rfl rfl ?_
      refine Own.iconst (2 : Int32) at_159 rfl ?_
      refine Own.caload_ V92 (i := 2) rfl rfl at_160 ?_
      refine Own.iload at_161 rfl ?_
      refine Own.icmp_ne 169 at_163 (by decide) rfl (fun c163 => ?_) (fun c163 => ?_)
      · refine Own.iload at_169 rfl ?_
        refine Own.iconst (1 : Int32) at_171 rfl ?_
        refine Own.icmp_gt 193 at_172 (by decide) rfl (fun q => absurd q (by decide)) (fun _ => ?_)
        refine Own.iconst (1 : Int32) at_175 rfl ?_
        refine Own.iload at_176 rfl ?_
        refine Own.icmp_ge 193 at_178 (by decide) rfl (fun q => absurd (by decide) q) (fun _ => ?_)
        refine Own.aload at_181 rfl rfl ?_
        refine Own.iconst (1 : Int32) at_183 rfl ?_
        refine Own.caload_ V92 (i := 1) rfl rfl at_184 ?_
        refine Own.iload at_185 rfl ?_
        refine Own.icmp_ne 193 at_187 (by decide) rfl (fun c187 => ?_) (fun c187 => ?_)
        · refine Own.iload at_193 rfl ?_
          refine Own.if_gt 216 at_195 (by decide) rfl (fun _ => ?_) (fun q => absurd (by decide) q)
          refine Own.iload at_216 rfl ?_
          refine Own.iload at_218 rfl ?_
          refine Own.icmp_ne 227 at_220 (by decide) rfl (fun q => absurd (by rw [own_ix_1_3, if_neg c187, if_neg c163]) q) (fun _ => ?_)
          refine Own.iconst (1 : Int32) at_223 rfl ?_
          refine Own.goto_ 228 at_224 (by decide) rfl ?_
          refine Own.ret_nar (t := .boolean) (by simp) rfl at_228 (by decide) (by decide) ?_
          exact rfl
        · refine Own.iconst (1 : Int32) at_190 rfl ?_
          refine Own.istore #[.val (.long q0), .second, .val (.int p1), .val (.int p2), .val (.int p3), .val (.int us), .val (.int ug), .val (.ref b88), .val (.int (1 : Int32)), .val (.int (3 : Int32)), .val (.ref b93), .val (.int (own_ix_1_3 us c0 c1 c2 c3)), .val (.int (1 : Int32))] at_191 rfl ?_
          refine Own.iload at_193 rfl ?_
          refine Own.if_gt 216 at_195 (by decide) rfl (fun _ => ?_) (fun q => absurd (by decide) q)
          refine Own.iload at_216 rfl ?_
          refine Own.iload at_218 rfl ?_
          refine Own.icmp_ne 227 at_220 (by decide) rfl (fun q => absurd (by rw [own_ix_1_3, if_pos c187]) q) (fun _ => ?_)
          refine Own.iconst (1 : Int32) at_223 rfl ?_
          refine Own.goto_ 228 at_224 (by decide) rfl ?_
          refine Own.ret_nar (t := .boolean) (by simp) rfl at_228 (by decide) (by decide) ?_
          exact rfl
      · refine Own.iconst (2 : Int32) at_166 rfl ?_
        refine Own.istore #[.val (.long q0), .second, .val (.int p1), .val (.int p2), .val (.int p3), .val (.int us), .val (.int ug), .val (.ref b88), .val (.int (1 : Int32)), .val (.int (3 : Int32)), .val (.ref b93), .val (.int (own_ix_1_3 us c0 c1 c2 c3)), .val (.int (2 : Int32))] at_167 rfl ?_
        refine Own.iload at_169 rfl ?_
        refine Own.iconst (1 : Int32) at_171 rfl ?_
        refine Own.icmp_gt 193 at_172 (by decide) rfl (fun q => absurd q (by decide)) (fun _ => ?_)
        refine Own.iconst (1 : Int32) at_175 rfl ?_
        refine Own.iload at_176 rfl ?_
        refine Own.icmp_ge 193 at_178 (by decide) rfl (fun q => absurd (by decide) q) (fun _ => ?_)
        refine Own.aload at_181 rfl rfl ?_
        refine Own.iconst (1 : Int32) at_183 rfl ?_
        refine Own.caload_ V92 (i := 1) rfl rfl at_184 ?_
        refine Own.iload at_185 rfl ?_
        refine Own.icmp_ne 193 at_187 (by decide) rfl (fun c187 => ?_) (fun c187 => ?_)
        · refine Own.iload at_193 rfl ?_
          refine Own.if_gt 216 at_195 (by decide) rfl (fun _ => ?_) (fun q => absurd (by decide) q)
          refine Own.iload at_216 rfl ?_
          refine Own.iload at_218 rfl ?_
          refine Own.icmp_ne 227 at_220 (by decide) rfl (fun q => absurd (by rw [own_ix_1_3, if_neg c187, if_pos c163]) q) (fun _ => ?_)
          refine Own.iconst (1 : Int32) at_223 rfl ?_
          refine Own.goto_ 228 at_224 (by decide) rfl ?_
          refine Own.ret_nar (t := .boolean) (by simp) rfl at_228 (by decide) (by decide) ?_
          exact rfl
        · refine Own.iconst (1 : Int32) at_190 rfl ?_
          refine Own.istore #[.val (.long q0), .second, .val (.int p1), .val (.int p2), .val (.int p3), .val (.int us), .val (.int ug), .val (.ref b88), .val (.int (1 : Int32)), .val (.int (3 : Int32)), .val (.ref b93), .val (.int (own_ix_1_3 us c0 c1 c2 c3)), .val (.int (1 : Int32))] at_191 rfl ?_
          refine Own.iload at_193 rfl ?_
          refine Own.if_gt 216 at_195 (by decide) rfl (fun _ => ?_) (fun q => absurd (by decide) q)
          refine Own.iload at_216 rfl ?_
          refine Own.iload at_218 rfl ?_
          refine Own.icmp_ne 227 at_220 (by decide) rfl (fun q => absurd (by rw [own_ix_1_3, if_pos c187]) q) (fun _ => ?_)
          refine Own.iconst (1 : Int32) at_223 rfl ?_
          refine Own.goto_ 228 at_224 (by decide) rfl ?_
          refine Own.ret_nar (t := .boolean) (by simp) rfl at_228 (by decide) (by decide) ?_
          exact rfl
    · refine Own.callSP [(.ref b93), (.int us), (.int (1 : Int32)), (.int (4 : Int32))] [] 0 (rmX_1_4 l Z a0 hw [] b93 us bb kb cod bs zc vf c0 c1 c2 c3 h94 n0 hn X_b93 F_v F_c V_b S_C S_F S_A S_H S_L hz hvf hr0 hr1 hr2 hr3 hsp) (hw _ (List.mem_of_getElem? (i := 37) rfl)) (hw _ (List.mem_of_getElem? (i := 38) rfl)) (hw _ (List.mem_of_getElem? (i := 39) rfl)) (hw _ (List.mem_of_getElem? (i := 40) rfl)) (by decide) at_112 pd_9 rfl rfl rfl rfl (by decide) (by decide) (by decide) (by decide) ?_
      refine Own.istore #[.val (.long q0), .second, .val (.int p1), .val (.int p2), .val (.int p3), .val (.int us), .val (.int ug), .val (.ref b88), .val (.int (1 : Int32)), .val (.int (4 : Int32)), .val (.ref b93), .val (.int (own_ix_1_4 us c0 c1 c2 c3)), .unset] at_115 rfl ?_
      refine Own.iload at_117 rfl ?_
      refine Own.istore #[.val (.long q0), .second, .val (.int p1), .val (.int p2), .val (.int p3), .val (.int us), .val (.int ug), .val (.ref b88), .val (.int (1 : Int32)), .val (.int (4 : Int32)), .val (.ref b93), .val (.int (own_ix_1_4 us c0 c1 c2 c3)), .val (.int (4 : Int32))] at_119 rfl ?_
      refine Own.iload at_121 rfl ?_
      refine Own.iconst (3 : Int32) at_123 rfl ?_
      refine Own.icmp_gt 145 at_124 (by decide) rfl (fun q => absurd q (by decide)) (fun _ => ?_)
      refine Own.iconst (3 : Int32) at_127 rfl ?_
      refine Own.iload at_128 rfl ?_
      refine Own.icmp_ge 145 at_130 (by decide) rfl (fun q => absurd (by decide) q) (fun _ => ?_)
      refine Own.aload at_133 rfl rfl ?_
      refine Own.iconst (3 : Int32) at_135 rfl ?_
      refine Own.caload_ V92 (i := 3) rfl rfl at_136 ?_
      refine Own.iload at_137 rfl ?_
      refine Own.icmp_ne 145 at_139 (by decide) rfl (fun c139 => ?_) (fun c139 => ?_)
      · refine Own.iload at_145 rfl ?_
        refine Own.iconst (2 : Int32) at_147 rfl ?_
        refine Own.icmp_gt 169 at_148 (by decide) rfl (fun q => absurd q (by decide)) (fun _ => ?_)
        refine Own.iconst (2 : Int32) at_151 rfl ?_
        refine Own.iload at_152 rfl ?_
        refine Own.icmp_ge 169 at_154 (by decide) rfl (fun q => absurd (by decide) q) (fun _ => ?_)
        refine Own.aload at_157 rfl rfl ?_
        refine Own.iconst (2 : Int32) at_159 rfl ?_
        refine Own.caload_ V92 (i := 2) rfl rfl at_160 ?_
        refine Own.iload at_161 rfl ?_
        refine Own.icmp_ne 169 at_163 (by decide) rfl (fun c163 => ?_) (fun c163 => ?_)
        · refine Own.iload at_169 rfl ?_
          refine Own.iconst (1 : Int32) at_171 rfl ?_
          refine Own.icmp_gt 193 at_172 (by decide) rfl (fun q => absurd q (by decide)) (fun _ => ?_)
          refine Own.iconst (1 : Int32) at_175 rfl ?_
          refine Own.iload at_176 rfl ?_
          refine Own.icmp_ge 193 at_178 (by decide) rfl (fun q => absurd (by decide) q) (fun _ => ?_)
          refine Own.aload at_181 rfl rfl ?_
          refine Own.iconst (1 : Int32) at_183 rfl ?_
          refine Own.caload_ V92 (i := 1) rfl rfl at_184 ?_
          refine Own.iload at_185 rfl ?_
          refine Own.icmp_ne 193 at_187 (by decide) rfl (fun c187 => ?_) (fun c187 => ?_)
          · refine Own.iload at_193 rfl ?_
            refine Own.if_gt 216 at_195 (by decide) rfl (fun _ => ?_) (fun q => absurd (by decide) q)
            refine Own.iload at_216 rfl ?_
            refine Own.iload at_218 rfl ?_
            refine Own.icmp_ne 227 at_220 (by decide) rfl (fun q => absurd (by rw [own_ix_1_4, if_neg c187, if_neg c163, if_neg c139]) q) (fun _ => ?_)
            refine Own.iconst (1 : Int32) at_223 rfl ?_
            refine Own.goto_ 228 at_224 (by decide) rfl ?_
            refine Own.ret_nar (t := .boolean) (by simp) rfl at_228 (by decide) (by decide) ?_
            exact rfl
          · refine Own.iconst (1 : Int32) at_190 rfl ?_
            refine Own.istore #[.val (.long q0), .second, .val (.int p1), .val (.int p2), .val (.int p3), .val (.int us), .val (.int ug), .val (.ref b88), .val (.int (1 : Int32)), .val (.int (4 : Int32)), .val (.ref b93), .val (.int (own_ix_1_4 us c0 c1 c2 c3)), .val (.int (1 : Int32))] at_191 rfl ?_
            refine Own.iload at_193 rfl ?_
            refine Own.if_gt 216 at_195 (by decide) rfl (fun _ => ?_) (fun q => absurd (by decide) q)
            refine Own.iload at_216 rfl ?_
            refine Own.iload at_218 rfl ?_
            refine Own.icmp_ne 227 at_220 (by decide) rfl (fun q => absurd (by rw [own_ix_1_4, if_pos c187]) q) (fun _ => ?_)
            refine Own.iconst (1 : Int32) at_223 rfl ?_
            refine Own.goto_ 228 at_224 (by decide) rfl ?_
            refine Own.ret_nar (t := .boolean) (by simp) rfl at_228 (by decide) (by decide) ?_
            exact rfl
        · refine Own.iconst (2 : Int32) at_166 rfl ?_
          refine Own.istore #[.val (.long q0), .second, .val (.int p1), .val (.int p2), .val (.int p3), .val (.int us), .val (.int ug), .val (.ref b88), .val (.int (1 : Int32)), .val (.int (4 : Int32)), .val (.ref b93), .val (.int (own_ix_1_4 us c0 c1 c2 c3)), .val (.int (2 : Int32))] at_167 rfl ?_
          refine Own.iload at_169 rfl ?_
          refine Own.iconst (1 : Int32) at_171 rfl ?_
          refine Own.icmp_gt 193 at_172 (by decide) rfl (fun q => absurd q (by decide)) (fun _ => ?_)
          refine Own.iconst (1 : Int32) at_175 rfl ?_
          refine Own.iload at_176 rfl ?_
          refine Own.icmp_ge 193 at_178 (by decide) rfl (fun q => absurd (by decide) q) (fun _ => ?_)
          refine Own.aload at_181 rfl rfl ?_
          refine Own.iconst (1 : Int32) at_183 rfl ?_
          refine Own.caload_ V92 (i := 1) rfl rfl at_184 ?_
          refine Own.iload at_185 rfl ?_
          refine Own.icmp_ne 193 at_187 (by decide) rfl (fun c187 => ?_) (fun c187 => ?_)
          · refine Own.iload at_193 rfl ?_
            refine Own.if_gt 216 at_195 (by decide) rfl (fun _ => ?_) (fun q => absurd (by decide) q)
            refine Own.iload at_216 rfl ?_
            refine Own.iload at_218 rfl ?_
            refine Own.icmp_ne 227 at_220 (by decide) rfl (fun q => absurd (by rw [own_ix_1_4, if_neg c187, if_pos c163]) q) (fun _ => ?_)
            refine Own.iconst (1 : Int32) at_223 rfl ?_
            refine Own.goto_ 228 at_224 (by decide) rfl ?_
            refine Own.ret_nar (t := .boolean) (by simp) rfl at_228 (by decide) (by decide) ?_
            exact rfl
          · refine Own.iconst (1 : Int32) at_190 rfl ?_
            refine Own.istore #[.val (.long q0), .second, .val (.int p1), .val (.int p2), .val (.int p3), .val (.int us), .val (.int ug), .val (.ref b88), .val (.int (1 : Int32)), .val (.int (4 : Int32)), .val (.ref b93), .val (.int (own_ix_1_4 us c0 c1 c2 c3)), .val (.int (1 : Int32))] at_191 rfl ?_
            refine Own.iload at_193 rfl ?_
            refine Own.if_gt 216 at_195 (by decide) rfl (fun _ => ?_) (fun q => absurd (by decide) q)
            refine Own.iload at_216 rfl ?_
            refine Own.iload at_218 rfl ?_
            refine Own.icmp_ne 227 at_220 (by decide) rfl (fun q => absurd (by rw [own_ix_1_4, if_pos c187]) q) (fun _ => ?_)
            refine Own.iconst (1 : Int32) at_223 rfl ?_
            refine Own.goto_ 228 at_224 (by decide) rfl ?_
            refine Own.ret_nar (t := .boolean) (by simp) rfl at_228 (by decide) (by decide) ?_
            exact rfl
      · refine Own.iconst (3 : Int32) at_142 rfl ?_
        refine Own.istore #[.val (.long q0), .second, .val (.int p1), .val (.int p2), .val (.int p3), .val (.int us), .val (.int ug), .val (.ref b88), .val (.int (1 : Int32)), .val (.int (4 : Int32)), .val (.ref b93), .val (.int (own_ix_1_4 us c0 c1 c2 c3)), .val (.int (3 : Int32))] at_143 rfl ?_
        refine Own.iload at_145 rfl ?_
        refine Own.iconst (2 : Int32) at_147 rfl ?_
        refine Own.icmp_gt 169 at_148 (by decide) rfl (fun q => absurd q (by decide)) (fun _ => ?_)
        refine Own.iconst (2 : Int32) at_151 rfl ?_
        refine Own.iload at_152 rfl ?_
        refine Own.icmp_ge 169 at_154 (by decide) rfl (fun q => absurd (by decide) q) (fun _ => ?_)
        refine Own.aload at_157 rfl rfl ?_
        refine Own.iconst (2 : Int32) at_159 rfl ?_
        refine Own.caload_ V92 (i := 2) rfl rfl at_160 ?_
        refine Own.iload at_161 rfl ?_
        refine Own.icmp_ne 169 at_163 (by decide) rfl (fun c163 => ?_) (fun c163 => ?_)
        · refine Own.iload at_169 rfl ?_
          refine Own.iconst (1 : Int32) at_171 rfl ?_
          refine Own.icmp_gt 193 at_172 (by decide) rfl (fun q => absurd q (by decide)) (fun _ => ?_)
          refine Own.iconst (1 : Int32) at_175 rfl ?_
          refine Own.iload at_176 rfl ?_
          refine Own.icmp_ge 193 at_178 (by decide) rfl (fun q => absurd (by decide) q) (fun _ => ?_)
          refine Own.aload at_181 rfl rfl ?_
          refine Own.iconst (1 : Int32) at_183 rfl ?_
          refine Own.caload_ V92 (i := 1) rfl rfl at_184 ?_
          refine Own.iload at_185 rfl ?_
          refine Own.icmp_ne 193 at_187 (by decide) rfl (fun c187 => ?_) (fun c187 => ?_)
          · refine Own.iload at_193 rfl ?_
            refine Own.if_gt 216 at_195 (by decide) rfl (fun _ => ?_) (fun q => absurd (by decide) q)
            refine Own.iload at_216 rfl ?_
            refine Own.iload at_218 rfl ?_
            refine Own.icmp_ne 227 at_220 (by decide) rfl (fun q => absurd (by rw [own_ix_1_4, if_neg c187, if_neg c163, if_pos c139]) q) (fun _ => ?_)
            refine Own.iconst (1 : Int32) at_223 rfl ?_
            refine Own.goto_ 228 at_224 (by decide) rfl ?_
            refine Own.ret_nar (t := .boolean) (by simp) rfl at_228 (by decide) (by decide) ?_
            exact rfl
          · refine Own.iconst (1 : Int32) at_190 rfl ?_
            refine Own.istore #[.val (.long q0), .second, .val (.int p1), .val (.int p2), .val (.int p3), .val (.int us), .val (.int ug), .val (.ref b88), .val (.int (1 : Int32)), .val (.int (4 : Int32)), .val (.ref b93), .val (.int (own_ix_1_4 us c0 c1 c2 c3)), .val (.int (1 : Int32))] at_191 rfl ?_
            refine Own.iload at_193 rfl ?_
            refine Own.if_gt 216 at_195 (by decide) rfl (fun _ => ?_) (fun q => absurd (by decide) q)
            refine Own.iload at_216 rfl ?_
            refine Own.iload at_218 rfl ?_
            refine Own.icmp_ne 227 at_220 (by decide) rfl (fun q => absurd (by rw [own_ix_1_4, if_pos c187]) q) (fun _ => ?_)
            refine Own.iconst (1 : Int32) at_223 rfl ?_
            refine Own.goto_ 228 at_224 (by decide) rfl ?_
            refine Own.ret_nar (t := .boolean) (by simp) rfl at_228 (by decide) (by decide) ?_
            exact rfl
        · refine Own.iconst (2 : Int32) at_166 rfl ?_
          refine Own.istore #[.val (.long q0), .second, .val (.int p1), .val (.int p2), .val (.int p3), .val (.int us), .val (.int ug), .val (.ref b88), .val (.int (1 : Int32)), .val (.int (4 : Int32)), .val (.ref b93), .val (.int (own_ix_1_4 us c0 c1 c2 c3)), .val (.int (2 : Int32))] at_167 rfl ?_
          refine Own.iload at_169 rfl ?_
          refine Own.iconst (1 : Int32) at_171 rfl ?_
          refine Own.icmp_gt 193 at_172 (by decide) rfl (fun q => absurd q (by decide)) (fun _ => ?_)
          refine Own.iconst (1 : Int32) at_175 rfl ?_
          refine Own.iload at_176 rfl ?_
          refine Own.icmp_ge 193 at_178 (by decide) rfl (fun q => absurd (by decide) q) (fun _ => ?_)
          refine Own.aload at_181 rfl rfl ?_
          refine Own.iconst (1 : Int32) at_183 rfl ?_
          refine Own.caload_ V92 (i := 1) rfl rfl at_184 ?_
          refine Own.iload at_185 rfl ?_
          refine Own.icmp_ne 193 at_187 (by decide) rfl (fun c187 => ?_) (fun c187 => ?_)
          · refine Own.iload at_193 rfl ?_
            refine Own.if_gt 216 at_195 (by decide) rfl (fun _ => ?_) (fun q => absurd (by decide) q)
            refine Own.iload at_216 rfl ?_
            refine Own.iload at_218 rfl ?_
            refine Own.icmp_ne 227 at_220 (by decide) rfl (fun q => absurd (by rw [own_ix_1_4, if_neg c187, if_pos c163]) q) (fun _ => ?_)
            refine Own.iconst (1 : Int32) at_223 rfl ?_
            refine Own.goto_ 228 at_224 (by decide) rfl ?_
            refine Own.ret_nar (t := .boolean) (by simp) rfl at_228 (by decide) (by decide) ?_
            exact rfl
          · refine Own.iconst (1 : Int32) at_190 rfl ?_
            refine Own.istore #[.val (.long q0), .second, .val (.int p1), .val (.int p2), .val (.int p3), .val (.int us), .val (.int ug), .val (.ref b88), .val (.int (1 : Int32)), .val (.int (4 : Int32)), .val (.ref b93), .val (.int (own_ix_1_4 us c0 c1 c2 c3)), .val (.int (1 : Int32))] at_191 rfl ?_
            refine Own.iload at_193 rfl ?_
            refine Own.if_gt 216 at_195 (by decide) rfl (fun _ => ?_) (fun q => absurd (by decide) q)
            refine Own.iload at_216 rfl ?_
            refine Own.iload at_218 rfl ?_
            refine Own.icmp_ne 227 at_220 (by decide) rfl (fun q => absurd (by rw [own_ix_1_4, if_pos c187]) q) (fun _ => ?_)
            refine Own.iconst (1 : Int32) at_223 rfl ?_
            refine Own.goto_ 228 at_224 (by decide) rfl ?_
            refine Own.ret_nar (t := .boolean) (by simp) rfl at_228 (by decide) (by decide) ?_
            exact rfl
  · have ht : uo = 2 ∨ uo = 3 ∨ uo = 4 := by rw [e_uo]; exact own_t2 p3
    rcases ht with rfl | rfl | rfl
    · refine Own.callSP [(.ref b93), (.int us), (.int (2 : Int32)), (.int (2 : Int32))] [] 0 (rmX_2_2 l Z a0 hw [] b93 us bb kb cod bs zc vf c0 c1 c2 c3 h94 n0 hn X_b93 F_v F_c V_b S_C S_F S_A S_H S_L hz hvf hr0 hr1 hr2 hr3 hsp) (hw _ (List.mem_of_getElem? (i := 37) rfl)) (hw _ (List.mem_of_getElem? (i := 38) rfl)) (hw _ (List.mem_of_getElem? (i := 39) rfl)) (hw _ (List.mem_of_getElem? (i := 40) rfl)) (by decide) at_112 pd_9 rfl rfl rfl rfl (by decide) (by decide) (by decide) (by decide) ?_
      refine Own.istore #[.val (.long q0), .second, .val (.int p1), .val (.int p2), .val (.int p3), .val (.int us), .val (.int ug), .val (.ref b88), .val (.int (2 : Int32)), .val (.int (2 : Int32)), .val (.ref b93), .val (.int (own_ix_2_2 us c0 c1 c2 c3)), .unset] at_115 rfl ?_
      refine Own.iload at_117 rfl ?_
      refine Own.istore #[.val (.long q0), .second, .val (.int p1), .val (.int p2), .val (.int p3), .val (.int us), .val (.int ug), .val (.ref b88), .val (.int (2 : Int32)), .val (.int (2 : Int32)), .val (.ref b93), .val (.int (own_ix_2_2 us c0 c1 c2 c3)), .val (.int (2 : Int32))] at_119 rfl ?_
      refine Own.iload at_121 rfl ?_
      refine Own.iconst (3 : Int32) at_123 rfl ?_
      refine Own.icmp_gt 145 at_124 (by decide) rfl (fun q => absurd q (by decide)) (fun _ => ?_)
      refine Own.iconst (3 : Int32) at_127 rfl ?_
      refine Own.iload at_128 rfl ?_
      refine Own.icmp_ge 145 at_130 (by decide) rfl (fun _ => ?_) (fun q => absurd q (by decide))
      refine Own.iload at_145 rfl ?_
      refine Own.iconst (2 : Int32) at_147 rfl ?_
      refine Own.icmp_gt 169 at_148 (by decide) rfl (fun q => absurd q (by decide)) (fun _ => ?_)
      refine Own.iconst (2 : Int32) at_151 rfl ?_
      refine Own.iload at_152 rfl ?_
      refine Own.icmp_ge 169 at_154 (by decide) rfl (fun _ => ?_) (fun q => absurd q (by decide))
      refine Own.iload at_169 rfl ?_
      refine Own.iconst (1 : Int32) at_171 rfl ?_
      refine Own.icmp_gt 193 at_172 (by decide) rfl (fun _ => ?_) (fun q => absurd (by decide) q)
      refine Own.iload at_193 rfl ?_
      refine Own.if_gt 216 at_195 (by decide) rfl (fun _ => ?_) (fun q => absurd (by decide) q)
      refine Own.iload at_216 rfl ?_
      refine Own.iload at_218 rfl ?_
      refine Own.icmp_ne 227 at_220 (by decide) rfl (fun q => absurd (by rw [own_ix_2_2]) q) (fun _ => ?_)
      refine Own.iconst (1 : Int32) at_223 rfl ?_
      refine Own.goto_ 228 at_224 (by decide) rfl ?_
      refine Own.ret_nar (t := .boolean) (by simp) rfl at_228 (by decide) (by decide) ?_
      exact rfl
    · refine Own.callSP [(.ref b93), (.int us), (.int (2 : Int32)), (.int (3 : Int32))] [] 0 (rmX_2_3 l Z a0 hw [] b93 us bb kb cod bs zc vf c0 c1 c2 c3 h94 n0 hn X_b93 F_v F_c V_b S_C S_F S_A S_H S_L hz hvf hr0 hr1 hr2 hr3 hsp) (hw _ (List.mem_of_getElem? (i := 37) rfl)) (hw _ (List.mem_of_getElem? (i := 38) rfl)) (hw _ (List.mem_of_getElem? (i := 39) rfl)) (hw _ (List.mem_of_getElem? (i := 40) rfl)) (by decide) at_112 pd_9 rfl rfl rfl rfl (by decide) (by decide) (by decide) (by decide) ?_
      refine Own.istore #[.val (.long q0), .second, .val (.int p1), .val (.int p2), .val (.int p3), .val (.int us), .val (.int ug), .val (.ref b88), .val (.int (2 : Int32)), .val (.int (3 : Int32)), .val (.ref b93), .val (.int (own_ix_2_3 us c0 c1 c2 c3)), .unset] at_115 rfl ?_
      refine Own.iload at_117 rfl ?_
      refine Own.istore #[.val (.long q0), .second, .val (.int p1), .val (.int p2), .val (.int p3), .val (.int us), .val (.int ug), .val (.ref b88), .val (.int (2 : Int32)), .val (.int (3 : Int32)), .val (.ref b93), .val (.int (own_ix_2_3 us c0 c1 c2 c3)), .val (.int (3 : Int32))] at_119 rfl ?_
      refine Own.iload at_121 rfl ?_
      refine Own.iconst (3 : Int32) at_123 rfl ?_
      refine Own.icmp_gt 145 at_124 (by decide) rfl (fun q => absurd q (by decide)) (fun _ => ?_)
      refine Own.iconst (3 : Int32) at_127 rfl ?_
      refine Own.iload at_128 rfl ?_
      refine Own.icmp_ge 145 at_130 (by decide) rfl (fun _ => ?_) (fun q => absurd q (by decide))
      refine Own.iload at_145 rfl ?_
      refine Own.iconst (2 : Int32) at_147 rfl ?_
      refine Own.icmp_gt 169 at_148 (by decide) rfl (fun q => absurd q (by decide)) (fun _ => ?_)
      refine Own.iconst (2 : Int32) at_151 rfl ?_
      refine Own.iload at_152 rfl ?_
      refine Own.icmp_ge 169 at_154 (by decide) rfl (fun q => absurd (by decide) q) (fun _ => ?_)
      refine Own.aload at_157 rfl rfl ?_
      refine Own.iconst (2 : Int32) at_159 rfl ?_
      refine Own.caload_ V92 (i := 2) rfl rfl at_160 ?_
      refine Own.iload at_161 rfl ?_
      refine Own.icmp_ne 169 at_163 (by decide) rfl (fun c163 => ?_) (fun c163 => ?_)
      · refine Own.iload at_169 rfl ?_
        refine Own.iconst (1 : Int32) at_171 rfl ?_
        refine Own.icmp_gt 193 at_172 (by decide) rfl (fun _ => ?_) (fun q => absurd (by decide) q)
        refine Own.iload at_193 rfl ?_
        refine Own.if_gt 216 at_195 (by decide) rfl (fun _ => ?_) (fun q => absurd (by decide) q)
        refine Own.iload at_216 rfl ?_
        refine Own.iload at_218 rfl ?_
        refine Own.icmp_ne 227 at_220 (by decide) rfl (fun q => absurd (by rw [own_ix_2_3, if_neg c163]) q) (fun _ => ?_)
        refine Own.iconst (1 : Int32) at_223 rfl ?_
        refine Own.goto_ 228 at_224 (by decide) rfl ?_
        refine Own.ret_nar (t := .boolean) (by simp) rfl at_228 (by decide) (by decide) ?_
        exact rfl
      · refine Own.iconst (2 : Int32) at_166 rfl ?_
        refine Own.istore #[.val (.long q0), .second, .val (.int p1), .val (.int p2), .val (.int p3), .val (.int us), .val (.int ug), .val (.ref b88), .val (.int (2 : Int32)), .val (.int (3 : Int32)), .val (.ref b93), .val (.int (own_ix_2_3 us c0 c1 c2 c3)), .val (.int (2 : Int32))] at_167 rfl ?_
        refine Own.iload at_169 rfl ?_
        refine Own.iconst (1 : Int32) at_171 rfl ?_
        refine Own.icmp_gt 193 at_172 (by decide) rfl (fun _ => ?_) (fun q => absurd (by decide) q)
        refine Own.iload at_193 rfl ?_
        refine Own.if_gt 216 at_195 (by decide) rfl (fun _ => ?_) (fun q => absurd (by decide) q)
        refine Own.iload at_216 rfl ?_
        refine Own.iload at_218 rfl ?_
        refine Own.icmp_ne 227 at_220 (by decide) rfl (fun q => absurd (by rw [own_ix_2_3, if_pos c163]) q) (fun _ => ?_)
        refine Own.iconst (1 : Int32) at_223 rfl ?_
        refine Own.goto_ 228 at_224 (by decide) rfl ?_
        refine Own.ret_nar (t := .boolean) (by simp) rfl at_228 (by decide) (by decide) ?_
        exact rfl
    · refine Own.callSP [(.ref b93), (.int us), (.int (2 : Int32)), (.int (4 : Int32))] [] 0 (rmX_2_4 l Z a0 hw [] b93 us bb kb cod bs zc vf c0 c1 c2 c3 h94 n0 hn X_b93 F_v F_c V_b S_C S_F S_A S_H S_L hz hvf hr0 hr1 hr2 hr3 hsp) (hw _ (List.mem_of_getElem? (i := 37) rfl)) (hw _ (List.mem_of_getElem? (i := 38) rfl)) (hw _ (List.mem_of_getElem? (i := 39) rfl)) (hw _ (List.mem_of_getElem? (i := 40) rfl)) (by decide) at_112 pd_9 rfl rfl rfl rfl (by decide) (by decide) (by decide) (by decide) ?_
      refine Own.istore #[.val (.long q0), .second, .val (.int p1), .val (.int p2), .val (.int p3), .val (.int us), .val (.int ug), .val (.ref b88), .val (.int (2 : Int32)), .val (.int (4 : Int32)), .val (.ref b93), .val (.int (own_ix_2_4 us c0 c1 c2 c3)), .unset] at_115 rfl ?_
      refine Own.iload at_117 rfl ?_
      refine Own.istore #[.val (.long q0), .second, .val (.int p1), .val (.int p2), .val (.int p3), .val (.int us), .val (.int ug), .val (.ref b88), .val (.int (2 : Int32)), .val (.int (4 : Int32)), .val (.ref b93), .val (.int (own_ix_2_4 us c0 c1 c2 c3)), .val (.int (4 : Int32))] at_119 rfl ?_
      refine Own.iload at_121 rfl ?_
      refine Own.iconst (3 : Int32) at_123 rfl ?_
      refine Own.icmp_gt 145 at_124 (by decide) rfl (fun q => absurd q (by decide)) (fun _ => ?_)
      refine Own.iconst (3 : Int32) at_127 rfl ?_
      refine Own.iload at_128 rfl ?_
      refine Own.icmp_ge 145 at_130 (by decide) rfl (fun q => absurd (by decide) q) (fun _ => ?_)
      refine Own.aload at_133 rfl rfl ?_
      refine Own.iconst (3 : Int32) at_135 rfl ?_
      refine Own.caload_ V92 (i := 3) rfl rfl at_136 ?_
      refine Own.iload at_137 rfl ?_
      refine Own.icmp_ne 145 at_139 (by decide) rfl (fun c139 => ?_) (fun c139 => ?_)
      · refine Own.iload at_145 rfl ?_
        refine Own.iconst (2 : Int32) at_147 rfl ?_
        refine Own.icmp_gt 169 at_148 (by decide) rfl (fun q => absurd q (by decide)) (fun _ => ?_)
        refine Own.iconst (2 : Int32) at_151 rfl ?_
        refine Own.iload at_152 rfl ?_
        refine Own.icmp_ge 169 at_154 (by decide) rfl (fun q => absurd (by decide) q) (fun _ => ?_)
        refine Own.aload at_157 rfl rfl ?_
        refine Own.iconst (2 : Int32) at_159 rfl ?_
        refine Own.caload_ V92 (i := 2) rfl rfl at_160 ?_
        refine Own.iload at_161 rfl ?_
        refine Own.icmp_ne 169 at_163 (by decide) rfl (fun c163 => ?_) (fun c163 => ?_)
        · refine Own.iload at_169 rfl ?_
          refine Own.iconst (1 : Int32) at_171 rfl ?_
          refine Own.icmp_gt 193 at_172 (by decide) rfl (fun _ => ?_) (fun q => absurd (by decide) q)
          refine Own.iload at_193 rfl ?_
          refine Own.if_gt 216 at_195 (by decide) rfl (fun _ => ?_) (fun q => absurd (by decide) q)
          refine Own.iload at_216 rfl ?_
          refine Own.iload at_218 rfl ?_
          refine Own.icmp_ne 227 at_220 (by decide) rfl (fun q => absurd (by rw [own_ix_2_4, if_neg c163, if_neg c139]) q) (fun _ => ?_)
          refine Own.iconst (1 : Int32) at_223 rfl ?_
          refine Own.goto_ 228 at_224 (by decide) rfl ?_
          refine Own.ret_nar (t := .boolean) (by simp) rfl at_228 (by decide) (by decide) ?_
          exact rfl
        · refine Own.iconst (2 : Int32) at_166 rfl ?_
          refine Own.istore #[.val (.long q0), .second, .val (.int p1), .val (.int p2), .val (.int p3), .val (.int us), .val (.int ug), .val (.ref b88), .val (.int (2 : Int32)), .val (.int (4 : Int32)), .val (.ref b93), .val (.int (own_ix_2_4 us c0 c1 c2 c3)), .val (.int (2 : Int32))] at_167 rfl ?_
          refine Own.iload at_169 rfl ?_
          refine Own.iconst (1 : Int32) at_171 rfl ?_
          refine Own.icmp_gt 193 at_172 (by decide) rfl (fun _ => ?_) (fun q => absurd (by decide) q)
          refine Own.iload at_193 rfl ?_
          refine Own.if_gt 216 at_195 (by decide) rfl (fun _ => ?_) (fun q => absurd (by decide) q)
          refine Own.iload at_216 rfl ?_
          refine Own.iload at_218 rfl ?_
          refine Own.icmp_ne 227 at_220 (by decide) rfl (fun q => absurd (by rw [own_ix_2_4, if_pos c163]) q) (fun _ => ?_)
          refine Own.iconst (1 : Int32) at_223 rfl ?_
          refine Own.goto_ 228 at_224 (by decide) rfl ?_
          refine Own.ret_nar (t := .boolean) (by simp) rfl at_228 (by decide) (by decide) ?_
          exact rfl
      · refine Own.iconst (3 : Int32) at_142 rfl ?_
        refine Own.istore #[.val (.long q0), .second, .val (.int p1), .val (.int p2), .val (.int p3), .val (.int us), .val (.int ug), .val (.ref b88), .val (.int (2 : Int32)), .val (.int (4 : Int32)), .val (.ref b93), .val (.int (own_ix_2_4 us c0 c1 c2 c3)), .val (.int (3 : Int32))] at_143 rfl ?_
        refine Own.iload at_145 rfl ?_
        refine Own.iconst (2 : Int32) at_147 rfl ?_
        refine Own.icmp_gt 169 at_148 (by decide) rfl (fun q => absurd q (by decide)) (fun _ => ?_)
        refine Own.iconst (2 : Int32) at_151 rfl ?_
        refine Own.iload at_152 rfl ?_
        refine Own.icmp_ge 169 at_154 (by decide) rfl (fun q => absurd (by decide) q) (fun _ => ?_)
        refine Own.aload at_157 rfl rfl ?_
        refine Own.iconst (2 : Int32) at_159 rfl ?_
        refine Own.caload_ V92 (i := 2) rfl rfl at_160 ?_
        refine Own.iload at_161 rfl ?_
        refine Own.icmp_ne 169 at_163 (by decide) rfl (fun c163 => ?_) (fun c163 => ?_)
        · refine Own.iload at_169 rfl ?_
          refine Own.iconst (1 : Int32) at_171 rfl ?_
          refine Own.icmp_gt 193 at_172 (by decide) rfl (fun _ => ?_) (fun q => absurd (by decide) q)
          refine Own.iload at_193 rfl ?_
          refine Own.if_gt 216 at_195 (by decide) rfl (fun _ => ?_) (fun q => absurd (by decide) q)
          refine Own.iload at_216 rfl ?_
          refine Own.iload at_218 rfl ?_
          refine Own.icmp_ne 227 at_220 (by decide) rfl (fun q => absurd (by rw [own_ix_2_4, if_neg c163, if_pos c139]) q) (fun _ => ?_)
          refine Own.iconst (1 : Int32) at_223 rfl ?_
          refine Own.goto_ 228 at_224 (by decide) rfl ?_
          refine Own.ret_nar (t := .boolean) (by simp) rfl at_228 (by decide) (by decide) ?_
          exact rfl
        · refine Own.iconst (2 : Int32) at_166 rfl ?_
          refine Own.istore #[.val (.long q0), .second, .val (.int p1), .val (.int p2), .val (.int p3), .val (.int us), .val (.int ug), .val (.ref b88), .val (.int (2 : Int32)), .val (.int (4 : Int32)), .val (.ref b93), .val (.int (own_ix_2_4 us c0 c1 c2 c3)), .val (.int (2 : Int32))] at_167 rfl ?_
          refine Own.iload at_169 rfl ?_
          refine Own.iconst (1 : Int32) at_171 rfl ?_
          refine Own.icmp_gt 193 at_172 (by decide) rfl (fun _ => ?_) (fun q => absurd (by decide) q)
          refine Own.iload at_193 rfl ?_
          refine Own.if_gt 216 at_195 (by decide) rfl (fun _ => ?_) (fun q => absurd (by decide) q)
          refine Own.iload at_216 rfl ?_
          refine Own.iload at_218 rfl ?_
          refine Own.icmp_ne 227 at_220 (by decide) rfl (fun q => absurd (by rw [own_ix_2_4, if_pos c163]) q) (fun _ => ?_)
          refine Own.iconst (1 : Int32) at_223 rfl ?_
          refine Own.goto_ 228 at_224 (by decide) rfl ?_
          refine Own.ret_nar (t := .boolean) (by simp) rfl at_228 (by decide) (by decide) ?_
          exact rfl
  · have ht : uo = 3 ∨ uo = 4 := by rw [e_uo]; exact own_t3 p3
    rcases ht with rfl | rfl
    · refine Own.callSP [(.ref b93), (.int us), (.int (3 : Int32)), (.int (3 : Int32))] [] 0 (rmX_3_3 l Z a0 hw [] b93 us bb kb cod bs zc vf c0 c1 c2 c3 h94 n0 hn X_b93 F_v F_c V_b S_C S_F S_A S_H S_L hz hvf hr0 hr1 hr2 hr3 hsp) (hw _ (List.mem_of_getElem? (i := 37) rfl)) (hw _ (List.mem_of_getElem? (i := 38) rfl)) (hw _ (List.mem_of_getElem? (i := 39) rfl)) (hw _ (List.mem_of_getElem? (i := 40) rfl)) (by decide) at_112 pd_9 rfl rfl rfl rfl (by decide) (by decide) (by decide) (by decide) ?_
      refine Own.istore #[.val (.long q0), .second, .val (.int p1), .val (.int p2), .val (.int p3), .val (.int us), .val (.int ug), .val (.ref b88), .val (.int (3 : Int32)), .val (.int (3 : Int32)), .val (.ref b93), .val (.int (own_ix_3_3 us c0 c1 c2 c3)), .unset] at_115 rfl ?_
      refine Own.iload at_117 rfl ?_
      refine Own.istore #[.val (.long q0), .second, .val (.int p1), .val (.int p2), .val (.int p3), .val (.int us), .val (.int ug), .val (.ref b88), .val (.int (3 : Int32)), .val (.int (3 : Int32)), .val (.ref b93), .val (.int (own_ix_3_3 us c0 c1 c2 c3)), .val (.int (3 : Int32))] at_119 rfl ?_
      refine Own.iload at_121 rfl ?_
      refine Own.iconst (3 : Int32) at_123 rfl ?_
      refine Own.icmp_gt 145 at_124 (by decide) rfl (fun q => absurd q (by decide)) (fun _ => ?_)
      refine Own.iconst (3 : Int32) at_127 rfl ?_
      refine Own.iload at_128 rfl ?_
      refine Own.icmp_ge 145 at_130 (by decide) rfl (fun _ => ?_) (fun q => absurd q (by decide))
      refine Own.iload at_145 rfl ?_
      refine Own.iconst (2 : Int32) at_147 rfl ?_
      refine Own.icmp_gt 169 at_148 (by decide) rfl (fun _ => ?_) (fun q => absurd (by decide) q)
      refine Own.iload at_169 rfl ?_
      refine Own.iconst (1 : Int32) at_171 rfl ?_
      refine Own.icmp_gt 193 at_172 (by decide) rfl (fun _ => ?_) (fun q => absurd (by decide) q)
      refine Own.iload at_193 rfl ?_
      refine Own.if_gt 216 at_195 (by decide) rfl (fun _ => ?_) (fun q => absurd (by decide) q)
      refine Own.iload at_216 rfl ?_
      refine Own.iload at_218 rfl ?_
      refine Own.icmp_ne 227 at_220 (by decide) rfl (fun q => absurd (by rw [own_ix_3_3]) q) (fun _ => ?_)
      refine Own.iconst (1 : Int32) at_223 rfl ?_
      refine Own.goto_ 228 at_224 (by decide) rfl ?_
      refine Own.ret_nar (t := .boolean) (by simp) rfl at_228 (by decide) (by decide) ?_
      exact rfl
    · refine Own.callSP [(.ref b93), (.int us), (.int (3 : Int32)), (.int (4 : Int32))] [] 0 (rmX_3_4 l Z a0 hw [] b93 us bb kb cod bs zc vf c0 c1 c2 c3 h94 n0 hn X_b93 F_v F_c V_b S_C S_F S_A S_H S_L hz hvf hr0 hr1 hr2 hr3 hsp) (hw _ (List.mem_of_getElem? (i := 37) rfl)) (hw _ (List.mem_of_getElem? (i := 38) rfl)) (hw _ (List.mem_of_getElem? (i := 39) rfl)) (hw _ (List.mem_of_getElem? (i := 40) rfl)) (by decide) at_112 pd_9 rfl rfl rfl rfl (by decide) (by decide) (by decide) (by decide) ?_
      refine Own.istore #[.val (.long q0), .second, .val (.int p1), .val (.int p2), .val (.int p3), .val (.int us), .val (.int ug), .val (.ref b88), .val (.int (3 : Int32)), .val (.int (4 : Int32)), .val (.ref b93), .val (.int (own_ix_3_4 us c0 c1 c2 c3)), .unset] at_115 rfl ?_
      refine Own.iload at_117 rfl ?_
      refine Own.istore #[.val (.long q0), .second, .val (.int p1), .val (.int p2), .val (.int p3), .val (.int us), .val (.int ug), .val (.ref b88), .val (.int (3 : Int32)), .val (.int (4 : Int32)), .val (.ref b93), .val (.int (own_ix_3_4 us c0 c1 c2 c3)), .val (.int (4 : Int32))] at_119 rfl ?_
      refine Own.iload at_121 rfl ?_
      refine Own.iconst (3 : Int32) at_123 rfl ?_
      refine Own.icmp_gt 145 at_124 (by decide) rfl (fun q => absurd q (by decide)) (fun _ => ?_)
      refine Own.iconst (3 : Int32) at_127 rfl ?_
      refine Own.iload at_128 rfl ?_
      refine Own.icmp_ge 145 at_130 (by decide) rfl (fun q => absurd (by decide) q) (fun _ => ?_)
      refine Own.aload at_133 rfl rfl ?_
      refine Own.iconst (3 : Int32) at_135 rfl ?_
      refine Own.caload_ V92 (i := 3) rfl rfl at_136 ?_
      refine Own.iload at_137 rfl ?_
      refine Own.icmp_ne 145 at_139 (by decide) rfl (fun c139 => ?_) (fun c139 => ?_)
      · refine Own.iload at_145 rfl ?_
        refine Own.iconst (2 : Int32) at_147 rfl ?_
        refine Own.icmp_gt 169 at_148 (by decide) rfl (fun _ => ?_) (fun q => absurd (by decide) q)
        refine Own.iload at_169 rfl ?_
        refine Own.iconst (1 : Int32) at_171 rfl ?_
        refine Own.icmp_gt 193 at_172 (by decide) rfl (fun _ => ?_) (fun q => absurd (by decide) q)
        refine Own.iload at_193 rfl ?_
        refine Own.if_gt 216 at_195 (by decide) rfl (fun _ => ?_) (fun q => absurd (by decide) q)
        refine Own.iload at_216 rfl ?_
        refine Own.iload at_218 rfl ?_
        refine Own.icmp_ne 227 at_220 (by decide) rfl (fun q => absurd (by rw [own_ix_3_4, if_neg c139]) q) (fun _ => ?_)
        refine Own.iconst (1 : Int32) at_223 rfl ?_
        refine Own.goto_ 228 at_224 (by decide) rfl ?_
        refine Own.ret_nar (t := .boolean) (by simp) rfl at_228 (by decide) (by decide) ?_
        exact rfl
      · refine Own.iconst (3 : Int32) at_142 rfl ?_
        refine Own.istore #[.val (.long q0), .second, .val (.int p1), .val (.int p2), .val (.int p3), .val (.int us), .val (.int ug), .val (.ref b88), .val (.int (3 : Int32)), .val (.int (4 : Int32)), .val (.ref b93), .val (.int (own_ix_3_4 us c0 c1 c2 c3)), .val (.int (3 : Int32))] at_143 rfl ?_
        refine Own.iload at_145 rfl ?_
        refine Own.iconst (2 : Int32) at_147 rfl ?_
        refine Own.icmp_gt 169 at_148 (by decide) rfl (fun _ => ?_) (fun q => absurd (by decide) q)
        refine Own.iload at_169 rfl ?_
        refine Own.iconst (1 : Int32) at_171 rfl ?_
        refine Own.icmp_gt 193 at_172 (by decide) rfl (fun _ => ?_) (fun q => absurd (by decide) q)
        refine Own.iload at_193 rfl ?_
        refine Own.if_gt 216 at_195 (by decide) rfl (fun _ => ?_) (fun q => absurd (by decide) q)
        refine Own.iload at_216 rfl ?_
        refine Own.iload at_218 rfl ?_
        refine Own.icmp_ne 227 at_220 (by decide) rfl (fun q => absurd (by rw [own_ix_3_4, if_pos c139]) q) (fun _ => ?_)
        refine Own.iconst (1 : Int32) at_223 rfl ?_
        refine Own.goto_ 228 at_224 (by decide) rfl ?_
        refine Own.ret_nar (t := .boolean) (by simp) rfl at_228 (by decide) (by decide) ?_
        exact rfl
  · have ht : uo = 4 := by rw [e_uo]; exact own_t4 p3
    obtain rfl := ht
    refine Own.callSP [(.ref b93), (.int us), (.int (4 : Int32)), (.int (4 : Int32))] [] 0 (rmX_4_4 l Z a0 hw [] b93 us bb kb cod bs zc vf c0 c1 c2 c3 h94 n0 hn X_b93 F_v F_c V_b S_C S_F S_A S_H S_L hz hvf hr0 hr1 hr2 hr3 hsp) (hw _ (List.mem_of_getElem? (i := 37) rfl)) (hw _ (List.mem_of_getElem? (i := 38) rfl)) (hw _ (List.mem_of_getElem? (i := 39) rfl)) (hw _ (List.mem_of_getElem? (i := 40) rfl)) (by decide) at_112 pd_9 rfl rfl rfl rfl (by decide) (by decide) (by decide) (by decide) ?_
    refine Own.istore #[.val (.long q0), .second, .val (.int p1), .val (.int p2), .val (.int p3), .val (.int us), .val (.int ug), .val (.ref b88), .val (.int (4 : Int32)), .val (.int (4 : Int32)), .val (.ref b93), .val (.int (own_ix_4_4 us c0 c1 c2 c3)), .unset] at_115 rfl ?_
    refine Own.iload at_117 rfl ?_
    refine Own.istore #[.val (.long q0), .second, .val (.int p1), .val (.int p2), .val (.int p3), .val (.int us), .val (.int ug), .val (.ref b88), .val (.int (4 : Int32)), .val (.int (4 : Int32)), .val (.ref b93), .val (.int (own_ix_4_4 us c0 c1 c2 c3)), .val (.int (4 : Int32))] at_119 rfl ?_
    refine Own.iload at_121 rfl ?_
    refine Own.iconst (3 : Int32) at_123 rfl ?_
    refine Own.icmp_gt 145 at_124 (by decide) rfl (fun _ => ?_) (fun q => absurd (by decide) q)
    refine Own.iload at_145 rfl ?_
    refine Own.iconst (2 : Int32) at_147 rfl ?_
    refine Own.icmp_gt 169 at_148 (by decide) rfl (fun _ => ?_) (fun q => absurd (by decide) q)
    refine Own.iload at_169 rfl ?_
    refine Own.iconst (1 : Int32) at_171 rfl ?_
    refine Own.icmp_gt 193 at_172 (by decide) rfl (fun _ => ?_) (fun q => absurd (by decide) q)
    refine Own.iload at_193 rfl ?_
    refine Own.if_gt 216 at_195 (by decide) rfl (fun _ => ?_) (fun q => absurd (by decide) q)
    refine Own.iload at_216 rfl ?_
    refine Own.iload at_218 rfl ?_
    refine Own.icmp_ne 227 at_220 (by decide) rfl (fun q => absurd (by rw [own_ix_4_4]) q) (fun _ => ?_)
    refine Own.iconst (1 : Int32) at_223 rfl ?_
    refine Own.goto_ 228 at_224 (by decide) rfl ?_
    refine Own.ret_nar (t := .boolean) (by simp) rfl at_228 (by decide) (by decide) ?_
    exact rfl
set_option maxRecDepth 65536 in
set_option maxHeartbeats 40000000 in
theorem comes_1 {Post : Tables → Env → Array Value → State → Outcome → State → Prop} (hpost : ∀ tb e args s v u, (limb_1_1.after args s (.returned v) u = true ∧ limb_1_2.after args s (.returned v) u = true ∧ True) → FrameEnd s (.returned v) u (Jvm.fieldLocs frame_1_writes args s ++ Jvm.arrayLocs frame_1_arrays args s ++ Jvm.staticLocs frame_1_statics s) 16 128 → Post tb e args s (.returned v) u) :
    ArmFor flags0 classFile x code maxLocals ret World_1 tables_1 room_1 Calls_1 rest_1 Pre_1 Post := by
  intro l hfl _ _ p e ha hc hk s m args below hf hA hF happ hP
  obtain ⟨hcalls, hrest, hpre⟩ := hP
  obtain ⟨-, -, -, hnamed, -, -, -, hat⟩ := (Spec.applies_iff hf).mp happ
  obtain ⟨hg, hn⟩ := and_e (Cond.before_iff.mp (show (Jvm.Cond.and given_1 narrow_1).before args s = true from hpre))
  obtain ⟨gc, ga0⟩ := and_e hg
  obtain ⟨g0, ga1⟩ := and_e ga0
  obtain ⟨g1, ga2⟩ := and_e ga1
  obtain ⟨g2, ga3⟩ := and_e ga2
  have g3 := ga3
  obtain ⟨w0, w1, w2, w3, rfl⟩ : ∃ w0 w1 w2 w3 : Value, args = #[w0, w1, w2, w3] := by
    have hs : args.size = 4 := by simpa [Cond.value, given_1] using gc
    obtain ⟨L⟩ := args
    match L, hs with
    | [w0, w1, w2, w3], _ => exact ⟨w0, w1, w2, w3, rfl⟩
  have hw := fun d (hd : d ∈ tables_1) => atoms_spec (ws := Jvm.Cond.code x code maxLocals ret :: tables_1) hat d (List.mem_cons_of_mem _ hd)
  have hfit : Fit s := fun {y c} hc i hi => by
    obtain ⟨ha, rfl⟩ := Array.getElem?_eq_some_iff.mp hc
    have q := List.all_eq_true.mp ((Array.all_eq_true_iff_forall_mem.mp hF) _ (Array.getElem_mem ha)) i (List.mem_range.mpr hi)
    simpa [Array.getElem?_eq_getElem hi] using q
  obtain ⟨i0, ei0⟩ := isL_v g0
  obtain rfl : w0 = (.long i0) := Option.some.inj ei0
  obtain ⟨i1, ei1⟩ := is_v g1
  obtain rfl : w1 = (.int i1) := Option.some.inj ei1
  obtain ⟨i2, ei2⟩ := is_v g2
  obtain rfl : w2 = (.int i2) := Option.some.inj ei2
  obtain ⟨i3, ei3⟩ := is_v g3
  obtain rfl : w3 = (.int i3) := Option.some.inj ei3
  obtain ⟨hsets, hown0⟩ := atoms_of _ (rest_1_c_eq ▸ (show rest_1_c.before _ s = true from hrest))
  obtain ⟨zc, ezc⟩ := is_v (Cond.before_iff.mp (hsets _ (List.mem_of_getElem? (i := 1) rfl)))
  have S_C := Sta.start ezc (Or.inl (hsets _ (List.mem_of_getElem? (i := 0) rfl)))
  have hz : ¬ zc = 0 := fun q => by
    have hq := Cond.before_iff.mp (hsets _ (List.mem_of_getElem? (i := 2) rfl))
    have h0 := not_v hq
    have h1 := eq_i ezc (Term.int_eval (0 : Int32)) (congrArg Value.int q) (idx := []) (o := none) (first := s)
    rw [h1] at h0; cases h0
  obtain ⟨vf, evf, hvf⟩ := isR_v (Cond.before_iff.mp (hsets _ (List.mem_of_getElem? (i := 8) rfl)))
  have S_F := Sta.start evf (Or.inl (hsets _ (List.mem_of_getElem? (i := 7) rfl)))
  have hq10 := Cond.before_iff.mp (hsets _ (List.mem_of_getElem? (i := 12) rfl))
  obtain ⟨sv10, es10, fs10⟩ := static_fit hfit (hsets _ (List.mem_of_getElem? (i := 10) rfl)) (ty := .boolean) (by decide)
  obtain ⟨z10, rfl⟩ := fit_I fs10 (by simp)
  obtain rfl : z10 = 1 := by simpa [Cond.value, es10, Term.int_eval] using hq10
  have S_A := Sta.start es10 (Or.inl (hsets _ (List.mem_of_getElem? (i := 11) rfl)))
  have hq13 := Cond.before_iff.mp (hsets _ (List.mem_of_getElem? (i := 15) rfl))
  obtain ⟨sv13, es13, fs13⟩ := static_fit hfit (hsets _ (List.mem_of_getElem? (i := 13) rfl)) (ty := .int) (by decide)
  obtain ⟨z13, rfl⟩ := fit_I fs13 (by simp)
  obtain rfl : z13 = 0 := by simpa [Cond.value, es13, Term.int_eval] using hq13
  have S_H := Sta.start es13 (Or.inl (hsets _ (List.mem_of_getElem? (i := 14) rfl)))
  have hq16 := Cond.before_iff.mp (hsets _ (List.mem_of_getElem? (i := 18) rfl))
  obtain ⟨sv16, es16, fs16⟩ := static_fit hfit (hsets _ (List.mem_of_getElem? (i := 16) rfl)) (ty := .int) (by decide)
  obtain ⟨z16, rfl⟩ := fit_I fs16 (by simp)
  obtain rfl : z16 = 8 := by simpa [Cond.value, es16, Term.int_eval] using hq16
  have S_L := Sta.start es16 (Or.inl (hsets _ (List.mem_of_getElem? (i := 17) rfl)))
  obtain ⟨n, o, h1, h2, h3, _, L, rfl, ⟨N, -, rfl⟩, hq⟩ := rm0 l s _ hw tables_1 i0 i1 i2 i3 zc vf s.heap s.heap.size (Nat.le_refl _) S_C S_F S_A S_H S_L hz hvf p e ha hc hk s m _ below hf ((Spec.applies_iff_loose hf).mp happ).1 ⟨rfl, State.Warmed39.refl s, rfl⟩ trivial
  refine ⟨n, _, h1, h2, h3, hpost _ _ _ _ _ _ ⟨Cond.after_iff.mpr rfl, Cond.after_iff.mpr (eq_i res_at (Term.int_eval (1)) rfl), trivial⟩ ⟨hq.1, hq.2.1, (hq.2.2.sift fun y hy => Or.inr (N y hy)).mono (by decide) (by decide)⟩⟩
theorem main_1_1 : Claimed_1_1 := comes_1 fun _ _ _ _ _ _ h hF => ⟨h.1, hF⟩
theorem main_1_2 : Claimed_1_2 := comes_1 fun _ _ _ _ _ _ h hF => ⟨h.2.1, hF⟩
end Jvm.Pilot.@@N@@
namespace Jvm.Pilot.@@N@@
open Jvm Jvm.ClassFile Sem Op Lib Jvm.Free Jvm.Stand Jvm.Pilot.@@N@@.Jvm.D
/-! MADE BY PROGRAM (witnessworld.py) out of the Statement's table words and the real class files: 20 classes; the members and pool entries that the words name. The judged class is class 1, her method 1. -/
namespace start1
open Jvm.ClassFile
def u (s : String) : CpInfo := .utf8 (stringToUtf16 s)
/-- a pool by its gaps: so many unusable entries, then the entry; so many at the end -/
def gap : Nat → List CpInfo → List CpInfo
  | 0, r => r
  | n + 1, r => .unusable :: gap n r
def poolList (es : List (Nat × CpInfo)) (last : Nat) : List CpInfo := es.foldr (fun e r => gap e.1 (e.2 :: r)) (gap last [])
def pool (es : List (Nat × CpInfo)) (last : Nat) : Array CpInfo := ⟨poolList es last⟩
def fileOf (pool : Array CpInfo) (this : Nat) (attrs : Array Attribute := #[]) (ms : Array MethodInfo := #[]) (fl : Nat := 33) (sup : Nat := 0) (ifs : Array Nat := #[]) (fds : Array FieldInfo := #[]) : ClassFile where
  minorVersion := 0
  majorVersion := 65
  constantPool := pool
  accessFlags := fl
  thisClass := this
  superClass := sup
  interfaces := ifs
  fields := fds
  methods := ms
  attributes := attrs
def plain (name : String) (sup : Option ClassId) : Class where
  name := name
  kind := .ordinary
  loader := none
  accessFlags := 33
  super := sup
  interfaces := #[]
  cf := none
  fields := #[]
  methods := #[]
  instanceTypes := #[]
  staticTypes := #[]
  resolved := #[]
  callSites := []
  init := .initialized
  statics := none
  mirror := none

def pool0 : Array CpInfo := pool [(5, u "<init>"), (0, u "()V"), (1, .class_ 10), (1, u "java/lang/Object")] 113

def k0c0 : Code := { maxStack := 0, maxLocals := 1, code := object_method_1_code, exceptionTable := #[], attributes := #[] }
def k0m0 : Method := { name := "<init>", desc := "()V", sig := { parameters := [], returnType := none }, accessFlags := 1, code := some k0c0 }
/-- java/lang/Object -/
def k0 : Class := { plain "java/lang/Object" none with
  accessFlags := 33
  interfaces := #[]
  cf := some (fileOf pool0 8 #[] #[{ accessFlags := 1, nameIndex := 5, descriptorIndex := 6, attributes := #[] }] 33 0 #[] #[])
  fields := #[]
  methods := #[k0m0]
  instanceTypes := #[]
  staticTypes := #[]
  resolved := Array.replicate 124 none
  statics := none }

def pool1 : Array CpInfo := pool [(2, .class_ 4), (1, u "java/lang/Object"), (0, u "<init>"), (0, u "()V"), (0, .integer 65535), (0, .methodref 9 10), (0, .class_ 11), (0, .nameAndType 12 13), (0, u "com/example/cytorelay/cytorelay/core/Hl7SyntaxIndexOfPinLaw"), (0, u "pick"), (0, u "(JIIC)C"), (0, .integer 2147483647), (0, .class_ 16), (0, u "java/lang/String"), (0, .methodref 15 18), (0, .nameAndType 5 19), (0, u "([C)V"), (0, .methodref 21 22), (0, .class_ 23), (0, .nameAndType 24 25), (0, u "com/example/cytorelay/cytorelay/core/Hl7Syntax"), (0, u "indexOf"), (0, u "(Ljava/lang/String;CII)I"), (0, .long 65535), (3, u "law"), (0, u "(JIII)Z")] 5

def k1m0 : Method := { name := "<init>", desc := "()V", sig := { parameters := [], returnType := none }, accessFlags := 1, code := none }
def k1c1 : Code := { maxStack := 7, maxLocals := 13, code := code, exceptionTable := #[], attributes := #[] }
def k1m1 : Method := { name := "law", desc := "(JIII)Z", sig := { parameters := [.long, .int, .int, .int], returnType := some .boolean }, accessFlags := 9, code := some k1c1 }
def k1c2 : Code := { maxStack := 4, maxLocals := 5, code := method_3_code, exceptionTable := #[], attributes := #[] }
def k1m2 : Method := { name := "pick", desc := "(JIIC)C", sig := { parameters := [.long, .int, .int, .char], returnType := some .char }, accessFlags := 10, code := some k1c2 }
/-- com/example/cytorelay/cytorelay/core/Hl7SyntaxIndexOfPinLaw -/
def k1 : Class := { plain "com/example/cytorelay/cytorelay/core/Hl7SyntaxIndexOfPinLaw" (some 0) with
  accessFlags := 49
  interfaces := #[]
  cf := some (fileOf pool1 9 #[] #[{ accessFlags := 1, nameIndex := 5, descriptorIndex := 6, attributes := #[] }, { accessFlags := 9, nameIndex := 30, descriptorIndex := 31, attributes := #[] }, { accessFlags := 10, nameIndex := 12, descriptorIndex := 13, attributes := #[] }] 49 2 #[] #[])
  fields := #[]
  methods := #[k1m0, k1m1, k1m2]
  instanceTypes := #[]
  staticTypes := #[]
  resolved := Array.replicate 37 none
  statics := none }

def pool2 : Array CpInfo := pool [(1, .class_ 2), (0, u "java/io/Serializable"), (0, .class_ 4), (0, u "java/lang/Object")] 2

/-- java/io/Serializable -/
def k2 : Class := { plain "java/io/Serializable" (some 0) with
  accessFlags := 1537
  interfaces := #[]
  cf := some (fileOf pool2 1 #[] #[] 1537 3 #[] #[])
  fields := #[]
  methods := #[]
  instanceTypes := #[]
  staticTypes := #[]
  resolved := Array.replicate 7 none
  statics := none }

def pool3 : Array CpInfo := pool [(1, .class_ 2), (0, u "java/lang/Comparable"), (0, .class_ 4), (0, u "java/lang/Object")] 7

/-- java/lang/Comparable -/
def k3 : Class := { plain "java/lang/Comparable" (some 0) with
  accessFlags := 1537
  interfaces := #[]
  cf := some (fileOf pool3 1 #[] #[] 1537 3 #[] #[])
  fields := #[]
  methods := #[]
  instanceTypes := #[]
  staticTypes := #[]
  resolved := Array.replicate 12 none
  statics := none }

def pool4 : Array CpInfo := pool [(2, .class_ 4), (1, u "java/lang/CharSequence"), (42, .class_ 48), (0, u "java/lang/CharSequence$1CodePointIterator"), (10, .class_ 60), (0, u "java/lang/CharSequence$1CharIterator"), (5, .class_ 67), (0, u "java/lang/Object")] 63

/-- java/lang/CharSequence -/
def k4 : Class := { plain "java/lang/CharSequence" (some 0) with
  accessFlags := 1537
  interfaces := #[]
  cf := some (fileOf pool4 2 #[.nestMembers #[47, 59]] #[] 1537 66 #[] #[])
  fields := #[]
  methods := #[]
  instanceTypes := #[]
  staticTypes := #[]
  resolved := Array.replicate 131 none
  statics := none }

def pool5 : Array CpInfo := pool [(1, .class_ 2), (0, u "java/lang/constant/Constable"), (0, .class_ 4), (0, u "java/lang/Object")] 6

/-- java/lang/constant/Constable -/
def k5 : Class := { plain "java/lang/constant/Constable" (some 0) with
  accessFlags := 1537
  interfaces := #[]
  cf := some (fileOf pool5 1 #[] #[] 1537 3 #[] #[])
  fields := #[]
  methods := #[]
  instanceTypes := #[]
  staticTypes := #[]
  resolved := Array.replicate 11 none
  statics := none }

def pool6 : Array CpInfo := pool [(1, .class_ 2), (0, u "java/lang/constant/ConstantDesc"), (0, .class_ 4), (0, u "java/lang/Object")] 32

/-- java/lang/constant/ConstantDesc -/
def k6 : Class := { plain "java/lang/constant/ConstantDesc" (some 0) with
  accessFlags := 1537
  interfaces := #[]
  cf := some (fileOf pool6 1 #[] #[] 1537 3 #[] #[])
  fields := #[]
  methods := #[]
  instanceTypes := #[]
  staticTypes := #[]
  resolved := Array.replicate 37 none
  statics := none }

def pool7 : Array CpInfo := pool [(1, .methodref 2 3), (0, .class_ 4), (0, .nameAndType 5 6), (0, u "java/lang/Object"), (0, u "<init>"), (0, u "()V"), (2, .fieldref 10 11), (0, .class_ 12), (0, .nameAndType 13 14), (0, u "java/lang/String"), (0, u "value"), (0, u "[B"), (0, .fieldref 10 16), (0, .nameAndType 17 18), (0, u "coder"), (0, u "B"), (2, u "hash"), (0, u "I"), (2, u "hashIsZero"), (0, u "Z"), (0, .methodref 10 28), (0, .nameAndType 5 29), (0, u "([CIILjava/lang/Void;)V"), (8, .fieldref 10 39), (0, .nameAndType 40 26), (0, u "COMPACT_STRINGS"), (1, .class_ 44), (1, u "java/lang/StringUTF16"), (0, u "compress"), (1, .methodref 42 48), (0, .nameAndType 49 50), (0, u "coderFromArrayLen"), (0, u "([BI)B"), (56, .class_ 109), (1, u "java/lang/StringLatin1"), (32, u "()Z"), (34, .methodref 42 178), (0, .nameAndType 45 179), (0, u "([CII)[B"), (183, u "([BI)C"), (27, u "(II)V"), (35, u "(I)C"), (64, .methodref 10 493), (0, .nameAndType 494 142), (0, u "isLatin1"), (0, .methodref 107 496), (0, .nameAndType 497 363), (0, u "charAt"), (0, .methodref 42 496), (2, u "checkIndex"), (73, .class_ 576), (0, u "java/lang/CharSequence"), (22, u "CASE_INSENSITIVE_ORDER"), (0, u "Ljava/util/Comparator;"), (409, u "([C)V"), (42, .fieldref 1054 1055), (0, .class_ 1056), (0, .nameAndType 1057 1058), (0, u "jdk/internal/util/Preconditions"), (0, u "SIOOBE_FORMATTER"), (0, u "Ljava/util/function/BiFunction;"), (0, .methodref 1054 1060), (0, .nameAndType 501 1061), (0, u "(IILjava/util/function/BiFunction;)I"), (39, u "serialPersistentFields"), (0, u "[Ljava/io/ObjectStreamField;"), (0, .class_ 1104), (0, u "java/lang/String$CaseInsensitiveComparator"), (1, .class_ 1107), (0, u "java/io/Serializable"), (0, .class_ 1109), (0, u "java/lang/Comparable"), (0, .class_ 1111), (0, u "java/lang/constant/Constable"), (0, .class_ 1113), (0, u "java/lang/constant/ConstantDesc"), (2, u "serialVersionUID"), (0, u "J"), (3, u "REPL"), (0, u "C"), (2, u "LATIN1"), (1, u "UTF16")] 323

def k7m0 : Method := { name := "<init>", desc := "()V", sig := { parameters := [], returnType := none }, accessFlags := 1, code := none }
def k7c1 : Code := { maxStack := 5, maxLocals := 2, code := jdk_42_method_3_code, exceptionTable := #[], attributes := #[] }
def k7m1 : Method := { name := "<init>", desc := "([C)V", sig := { parameters := [(.array .char)], returnType := none }, accessFlags := 1, code := some k7c1 }
def k7c2 : Code := { maxStack := 2, maxLocals := 2, code := jdk_42_method_56_code, exceptionTable := #[], attributes := #[] }
def k7m2 : Method := { name := "charAt", desc := "(I)C", sig := { parameters := [.int], returnType := some .char }, accessFlags := 1, code := some k7c2 }
def k7c3 : Code := { maxStack := 4, maxLocals := 6, code := jdk_42_method_149_code, exceptionTable := #[], attributes := #[] }
def k7m3 : Method := { name := "<init>", desc := "([CIILjava/lang/Void;)V", sig := { parameters := [(.array .char), .int, .int, (.object "java/lang/Void")], returnType := none }, accessFlags := 2, code := some k7c3 }
def k7c4 : Code := { maxStack := 1, maxLocals := 1, code := jdk_42_method_154_code, exceptionTable := #[], attributes := #[] }
def k7m4 : Method := { name := "isLatin1", desc := "()Z", sig := { parameters := [], returnType := some .boolean }, accessFlags := 0, code := some k7c4 }
def k7c5 : Code := { maxStack := 3, maxLocals := 2, code := jdk_42_method_155_code, exceptionTable := #[], attributes := #[] }
def k7m5 : Method := { name := "checkIndex", desc := "(II)V", sig := { parameters := [.int, .int], returnType := none }, accessFlags := 8, code := some k7c5 }
/-- java/lang/String -/
def k7 : Class := { plain "java/lang/String" (some 0) with
  accessFlags := 49
  interfaces := #[2, 3, 4, 5, 6]
  cf := some (fileOf pool7 10 #[.nestMembers #[1103]] #[{ accessFlags := 1, nameIndex := 5, descriptorIndex := 6, attributes := #[] }, { accessFlags := 1, nameIndex := 5, descriptorIndex := 1010, attributes := #[] }, { accessFlags := 1, nameIndex := 497, descriptorIndex := 427, attributes := #[] }, { accessFlags := 2, nameIndex := 5, descriptorIndex := 29, attributes := #[] }, { accessFlags := 0, nameIndex := 494, descriptorIndex := 142, attributes := #[] }, { accessFlags := 8, nameIndex := 501, descriptorIndex := 391, attributes := #[] }] 49 2 #[1106, 1108, 575, 1110, 1112] #[{ accessFlags := 18, nameIndex := 13, descriptorIndex := 14, attributes := #[] }, { accessFlags := 18, nameIndex := 17, descriptorIndex := 18, attributes := #[] }, { accessFlags := 2, nameIndex := 21, descriptorIndex := 22, attributes := #[] }, { accessFlags := 2, nameIndex := 25, descriptorIndex := 26, attributes := #[] }, { accessFlags := 26, nameIndex := 1116, descriptorIndex := 1117, attributes := #[] }, { accessFlags := 24, nameIndex := 40, descriptorIndex := 26, attributes := #[] }, { accessFlags := 26, nameIndex := 1101, descriptorIndex := 1102, attributes := #[] }, { accessFlags := 26, nameIndex := 1121, descriptorIndex := 1122, attributes := #[] }, { accessFlags := 25, nameIndex := 599, descriptorIndex := 600, attributes := #[] }, { accessFlags := 24, nameIndex := 1125, descriptorIndex := 18, attributes := #[] }, { accessFlags := 24, nameIndex := 1127, descriptorIndex := 18, attributes := #[] }])
  fields := #[{ name := "value", type := (.array .byte), accessFlags := 18, slot := 0, constantValue := 0 }, { name := "coder", type := .byte, accessFlags := 18, slot := 1, constantValue := 0 }, { name := "hash", type := .int, accessFlags := 2, slot := 2, constantValue := 0 }, { name := "hashIsZero", type := .boolean, accessFlags := 2, slot := 3, constantValue := 0 }, { name := "serialVersionUID", type := .long, accessFlags := 26, slot := 0, constantValue := 0 }, { name := "COMPACT_STRINGS", type := .boolean, accessFlags := 24, slot := 1, constantValue := 0 }, { name := "serialPersistentFields", type := (.array (.object "java/io/ObjectStreamField")), accessFlags := 26, slot := 2, constantValue := 0 }, { name := "REPL", type := .char, accessFlags := 26, slot := 3, constantValue := 0 }, { name := "CASE_INSENSITIVE_ORDER", type := (.object "java/util/Comparator"), accessFlags := 25, slot := 4, constantValue := 0 }, { name := "LATIN1", type := .byte, accessFlags := 24, slot := 5, constantValue := 0 }, { name := "UTF16", type := .byte, accessFlags := 24, slot := 6, constantValue := 0 }]
  methods := #[k7m0, k7m1, k7m2, k7m3, k7m4, k7m5]
  instanceTypes := #[(.array .byte), .byte, .int, .boolean]
  staticTypes := #[.long, .boolean, (.array (.object "java/io/ObjectStreamField")), .char, (.object "java/util/Comparator"), .byte, .byte]
  resolved := Array.replicate 1451 none
  statics := some 0 }

def pool8 : Array CpInfo := pool [(3, .class_ 4), (0, u "java/lang/String"), (1, .class_ 8), (1, u "java/lang/Object"), (0, u "<init>"), (0, u "()V"), (0, .methodref 12 13), (0, .class_ 14), (0, .nameAndType 15 16), (0, u "java/lang/StringUTF16"), (0, u "newBytesLength"), (0, u "(I)I"), (3, .integer 1073741823), (23, .fieldref 12 45), (0, .nameAndType 46 47), (0, u "$assertionsDisabled"), (0, u "Z"), (0, .methodref 12 49), (0, .nameAndType 50 51), (0, u "length"), (0, u "([B)I"), (7, .fieldref 12 60), (0, .nameAndType 61 62), (0, u "HI_BYTE_SHIFT"), (0, u "I"), (0, .fieldref 12 64), (0, .nameAndType 65 62), (0, u "LO_BYTE_SHIFT"), (1, .methodref 12 68), (0, .nameAndType 69 70), (0, u "checkIndex"), (0, u "(I[B)V"), (0, .methodref 12 72), (0, .nameAndType 73 74), (0, u "getChar"), (0, u "([BI)C"), (32, .methodref 12 108), (0, .nameAndType 109 110), (0, u "newBytesFor"), (0, u "(I)[B"), (0, .methodref 12 112), (0, .nameAndType 113 114), (0, u "putChar"), (0, u "([BII)V"), (0, .methodref 12 116), (0, .nameAndType 117 118), (0, u "compress"), (0, u "([CI[BII)I"), (0, .methodref 12 120), (0, .nameAndType 121 122), (0, u "toBytes"), (0, u "([CII)[B"), (138, u "coderFromArrayLen"), (0, u "([BI)B"), (106, .class_ 371), (1, u "java/lang/StringUTF16$LinesSpliterator"), (20, u "charAt"), (21, .methodref 3 415), (0, .nameAndType 69 416), (0, u "(II)V"), (13, u "MAX_LENGTH"), (196, .class_ 628), (0, u "java/lang/StringUTF16$CodePointsSpliterator"), (0, .class_ 630), (0, u "java/lang/StringUTF16$CharsSpliterator")] 4

def k8m0 : Method := { name := "<init>", desc := "()V", sig := { parameters := [], returnType := none }, accessFlags := 0, code := none }
def k8c1 : Code := { maxStack := 1, maxLocals := 1, code := jdk_52_method_2_code, exceptionTable := #[], attributes := #[] }
def k8m1 : Method := { name := "newBytesFor", desc := "(I)[B", sig := { parameters := [.int], returnType := some (.array .byte) }, accessFlags := 9, code := some k8c1 }
def k8c2 : Code := { maxStack := 4, maxLocals := 1, code := jdk_52_method_3_code, exceptionTable := #[], attributes := #[] }
def k8m2 : Method := { name := "newBytesLength", desc := "(I)I", sig := { parameters := [.int], returnType := some .int }, accessFlags := 9, code := some k8c2 }
def k8c3 : Code := { maxStack := 4, maxLocals := 3, code := jdk_52_method_4_code, exceptionTable := #[], attributes := #[] }
def k8m3 : Method := { name := "putChar", desc := "([BII)V", sig := { parameters := [(.array .byte), .int, .int], returnType := none }, accessFlags := 8, code := some k8c3 }
def k8c4 : Code := { maxStack := 3, maxLocals := 2, code := jdk_52_method_5_code, exceptionTable := #[], attributes := #[] }
def k8m4 : Method := { name := "getChar", desc := "([BI)C", sig := { parameters := [(.array .byte), .int], returnType := some .char }, accessFlags := 8, code := some k8c4 }
def k8c5 : Code := { maxStack := 2, maxLocals := 1, code := jdk_52_method_6_code, exceptionTable := #[], attributes := #[] }
def k8m5 : Method := { name := "length", desc := "([B)I", sig := { parameters := [(.array .byte)], returnType := some .int }, accessFlags := 9, code := some k8c5 }
def k8c6 : Code := { maxStack := 4, maxLocals := 5, code := jdk_52_method_14_code, exceptionTable := #[], attributes := #[] }
def k8m6 : Method := { name := "toBytes", desc := "([CII)[B", sig := { parameters := [(.array .char), .int, .int], returnType := some (.array .byte) }, accessFlags := 9, code := some k8c6 }
def k8c7 : Code := { maxStack := 2, maxLocals := 2, code := jdk_52_method_15_code, exceptionTable := #[], attributes := #[] }
def k8m7 : Method := { name := "coderFromArrayLen", desc := "([BI)B", sig := { parameters := [(.array .byte), .int], returnType := some .byte }, accessFlags := 8, code := some k8c7 }
def k8c8 : Code := { maxStack := 5, maxLocals := 6, code := jdk_52_method_16_code, exceptionTable := #[], attributes := #[] }
def k8m8 : Method := { name := "compress", desc := "([CII)[B", sig := { parameters := [(.array .char), .int, .int], returnType := some (.array .byte) }, accessFlags := 9, code := some k8c8 }
def k8c9 : Code := { maxStack := 3, maxLocals := 7, code := jdk_52_method_21_code, exceptionTable := #[], attributes := #[] }
def k8m9 : Method := { name := "compress", desc := "([CI[BII)I", sig := { parameters := [(.array .char), .int, (.array .byte), .int, .int], returnType := some .int }, accessFlags := 9, code := some k8c9 }
def k8c10 : Code := { maxStack := 2, maxLocals := 2, code := jdk_52_method_83_code, exceptionTable := #[], attributes := #[] }
def k8m10 : Method := { name := "charAt", desc := "([BI)C", sig := { parameters := [(.array .byte), .int], returnType := some .char }, accessFlags := 9, code := some k8c10 }
def k8c11 : Code := { maxStack := 2, maxLocals := 2, code := jdk_52_method_91_code, exceptionTable := #[], attributes := #[] }
def k8m11 : Method := { name := "checkIndex", desc := "(I[B)V", sig := { parameters := [.int, (.array .byte)], returnType := none }, accessFlags := 9, code := some k8c11 }
/-- java/lang/StringUTF16 -/
def k8 : Class := { plain "java/lang/StringUTF16" (some 0) with
  accessFlags := 48
  interfaces := #[]
  cf := some (fileOf pool8 12 #[.nestMembers #[627, 629, 369]] #[{ accessFlags := 0, nameIndex := 9, descriptorIndex := 10, attributes := #[] }, { accessFlags := 9, nameIndex := 109, descriptorIndex := 110, attributes := #[] }, { accessFlags := 9, nameIndex := 15, descriptorIndex := 16, attributes := #[] }, { accessFlags := 8, nameIndex := 113, descriptorIndex := 114, attributes := #[] }, { accessFlags := 8, nameIndex := 73, descriptorIndex := 74, attributes := #[] }, { accessFlags := 9, nameIndex := 50, descriptorIndex := 51, attributes := #[] }, { accessFlags := 9, nameIndex := 121, descriptorIndex := 122, attributes := #[] }, { accessFlags := 8, nameIndex := 261, descriptorIndex := 262, attributes := #[] }, { accessFlags := 9, nameIndex := 117, descriptorIndex := 122, attributes := #[] }, { accessFlags := 9, nameIndex := 117, descriptorIndex := 118, attributes := #[] }, { accessFlags := 9, nameIndex := 392, descriptorIndex := 74, attributes := #[] }, { accessFlags := 9, nameIndex := 69, descriptorIndex := 70, attributes := #[] }] 48 6 #[] #[{ accessFlags := 26, nameIndex := 61, descriptorIndex := 62, attributes := #[] }, { accessFlags := 26, nameIndex := 65, descriptorIndex := 62, attributes := #[] }, { accessFlags := 24, nameIndex := 430, descriptorIndex := 62, attributes := #[] }, { accessFlags := 4120, nameIndex := 46, descriptorIndex := 47, attributes := #[] }])
  fields := #[{ name := "HI_BYTE_SHIFT", type := .int, accessFlags := 26, slot := 0, constantValue := 0 }, { name := "LO_BYTE_SHIFT", type := .int, accessFlags := 26, slot := 1, constantValue := 0 }, { name := "MAX_LENGTH", type := .int, accessFlags := 24, slot := 2, constantValue := 0 }, { name := "$assertionsDisabled", type := .boolean, accessFlags := 4120, slot := 3, constantValue := 0 }]
  methods := #[k8m0, k8m1, k8m2, k8m3, k8m4, k8m5, k8m6, k8m7, k8m8, k8m9, k8m10, k8m11]
  instanceTypes := #[]
  staticTypes := #[.int, .int, .int, .boolean]
  resolved := Array.replicate 635 none
  statics := some 1 }

def pool9 : Array CpInfo := pool [(1, .class_ 2), (0, u "com/example/cytorelay/cytorelay/core/Hl7Syntax"), (1, .class_ 6), (1, u "java/lang/Object"), (0, u "<init>"), (0, u "()V"), (0, .methodref 10 11), (0, .class_ 12), (0, .nameAndType 13 14), (0, u "java/lang/String"), (0, u "charAt"), (0, u "(I)C"), (0, u "HEADER"), (0, u "Ljava/lang/String;"), (3, u "SEGMENT_END"), (0, u "C"), (1, u "FIELD_SEPARATOR"), (1, u "COMPONENT_SEPARATOR"), (1, u "REPETITION_SEPARATOR"), (1, u "ESCAPE"), (1, u "SUBCOMPONENT_SEPARATOR"), (1, u "ENCODING_CHARACTERS"), (4, u "indexOf"), (0, u "(Ljava/lang/String;CII)I"), (4, .class_ 45), (0, u "com/example/cytorelay/cytorelay/core/Hl7Syntax$Span"), (0, .class_ 47), (0, u "com/example/cytorelay/cytorelay/core/Hl7Syntax$Span$1")] 2

def k9m0 : Method := { name := "<init>", desc := "()V", sig := { parameters := [], returnType := none }, accessFlags := 2, code := none }
def k9c1 : Code := { maxStack := 2, maxLocals := 5, code := prog_31_method_2_code, exceptionTable := #[], attributes := #[] }
def k9m1 : Method := { name := "indexOf", desc := "(Ljava/lang/String;CII)I", sig := { parameters := [(.object "java/lang/String"), .char, .int, .int], returnType := some .int }, accessFlags := 8, code := some k9c1 }
/-- com/example/cytorelay/cytorelay/core/Hl7Syntax -/
def k9 : Class := { plain "com/example/cytorelay/cytorelay/core/Hl7Syntax" (some 0) with
  accessFlags := 48
  interfaces := #[]
  cf := some (fileOf pool9 1 #[.nestMembers #[44, 46]] #[{ accessFlags := 2, nameIndex := 7, descriptorIndex := 8, attributes := #[] }, { accessFlags := 8, nameIndex := 38, descriptorIndex := 39, attributes := #[] }] 48 4 #[] #[{ accessFlags := 24, nameIndex := 15, descriptorIndex := 16, attributes := #[] }, { accessFlags := 24, nameIndex := 20, descriptorIndex := 21, attributes := #[] }, { accessFlags := 24, nameIndex := 23, descriptorIndex := 21, attributes := #[] }, { accessFlags := 24, nameIndex := 25, descriptorIndex := 21, attributes := #[] }, { accessFlags := 24, nameIndex := 27, descriptorIndex := 21, attributes := #[] }, { accessFlags := 24, nameIndex := 29, descriptorIndex := 21, attributes := #[] }, { accessFlags := 24, nameIndex := 31, descriptorIndex := 21, attributes := #[] }, { accessFlags := 24, nameIndex := 33, descriptorIndex := 16, attributes := #[] }])
  fields := #[{ name := "HEADER", type := (.object "java/lang/String"), accessFlags := 24, slot := 0, constantValue := 0 }, { name := "SEGMENT_END", type := .char, accessFlags := 24, slot := 1, constantValue := 0 }, { name := "FIELD_SEPARATOR", type := .char, accessFlags := 24, slot := 2, constantValue := 0 }, { name := "COMPONENT_SEPARATOR", type := .char, accessFlags := 24, slot := 3, constantValue := 0 }, { name := "REPETITION_SEPARATOR", type := .char, accessFlags := 24, slot := 4, constantValue := 0 }, { name := "ESCAPE", type := .char, accessFlags := 24, slot := 5, constantValue := 0 }, { name := "SUBCOMPONENT_SEPARATOR", type := .char, accessFlags := 24, slot := 6, constantValue := 0 }, { name := "ENCODING_CHARACTERS", type := (.object "java/lang/String"), accessFlags := 24, slot := 7, constantValue := 0 }]
  methods := #[k9m0, k9m1]
  instanceTypes := #[]
  staticTypes := #[(.object "java/lang/String"), .char, .char, .char, .char, .char, .char, (.object "java/lang/String")]
  resolved := Array.replicate 50 none
  statics := none }

def pool10 : Array CpInfo := pool [(1, .class_ 2), (0, u "java/lang/String"), (1, .class_ 6), (1, u "java/lang/Object"), (0, u "<init>"), (0, u "()V"), (0, .methodref 1 10), (0, .nameAndType 11 12), (0, u "checkIndex"), (0, u "(II)V"), (1, .class_ 16), (1, u "java/lang/StringLatin1"), (36, u "([BI)C"), (67, u "$assertionsDisabled"), (0, u "Z"), (98, .class_ 223), (1, u "java/lang/StringLatin1$LinesSpliterator"), (28, u "charAt"), (137, .class_ 391), (0, u "java/lang/StringLatin1$CharsSpliterator")] 3

def k10m0 : Method := { name := "<init>", desc := "()V", sig := { parameters := [], returnType := none }, accessFlags := 0, code := none }
def k10c1 : Code := { maxStack := 2, maxLocals := 2, code := jdk_43_method_2_code, exceptionTable := #[], attributes := #[] }
def k10m1 : Method := { name := "charAt", desc := "([BI)C", sig := { parameters := [(.array .byte), .int], returnType := some .char }, accessFlags := 9, code := some k10c1 }
/-- java/lang/StringLatin1 -/
def k10 : Class := { plain "java/lang/StringLatin1" (some 0) with
  accessFlags := 48
  interfaces := #[]
  cf := some (fileOf pool10 14 #[.nestMembers #[390, 221]] #[{ accessFlags := 0, nameIndex := 7, descriptorIndex := 8, attributes := #[] }, { accessFlags := 9, nameIndex := 252, descriptorIndex := 53, attributes := #[] }] 48 4 #[] #[{ accessFlags := 4120, nameIndex := 121, descriptorIndex := 122, attributes := #[] }])
  fields := #[{ name := "$assertionsDisabled", type := .boolean, accessFlags := 4120, slot := 0, constantValue := 0 }]
  methods := #[k10m0, k10m1]
  instanceTypes := #[]
  staticTypes := #[.boolean]
  resolved := Array.replicate 395 none
  statics := none }

def pool11 : Array CpInfo := pool [(2, .class_ 4), (1, u "java/lang/Object"), (0, u "<init>"), (0, u "()V"), (17, .class_ 26), (1, u "jdk/internal/util/Preconditions"), (6, u "checkIndex"), (21, .class_ 56), (0, u "jdk/internal/util/Preconditions$4"), (57, .class_ 115), (0, u "jdk/internal/util/Preconditions$1"), (7, u "SIOOBE_FORMATTER"), (0, u "Ljava/util/function/BiFunction;"), (0, .class_ 126), (0, u "jdk/internal/util/Preconditions$2"), (3, u "AIOOBE_FORMATTER"), (0, .class_ 132), (0, u "jdk/internal/util/Preconditions$3"), (3, u "IOOBE_FORMATTER"), (41, u "(IILjava/util/function/BiFunction;)I")] 15

def k11m0 : Method := { name := "<init>", desc := "()V", sig := { parameters := [], returnType := none }, accessFlags := 1, code := none }
def k11c1 : Code := { maxStack := 3, maxLocals := 3, code := jdk_41_method_11_code, exceptionTable := #[], attributes := #[] }
def k11m1 : Method := { name := "checkIndex", desc := "(IILjava/util/function/BiFunction;)I", sig := { parameters := [.int, .int, (.object "java/util/function/BiFunction")], returnType := some .int }, accessFlags := 9, code := some k11c1 }
/-- jdk/internal/util/Preconditions -/
def k11 : Class := { plain "jdk/internal/util/Preconditions" (some 0) with
  accessFlags := 33
  interfaces := #[]
  cf := some (fileOf pool11 24 #[.nestMembers #[55, 131, 125, 114]] #[{ accessFlags := 1, nameIndex := 5, descriptorIndex := 6, attributes := #[] }, { accessFlags := 9, nameIndex := 33, descriptorIndex := 178, attributes := #[] }] 33 2 #[] #[{ accessFlags := 25, nameIndex := 123, descriptorIndex := 124, attributes := #[] }, { accessFlags := 25, nameIndex := 130, descriptorIndex := 124, attributes := #[] }, { accessFlags := 25, nameIndex := 136, descriptorIndex := 124, attributes := #[] }])
  fields := #[{ name := "SIOOBE_FORMATTER", type := (.object "java/util/function/BiFunction"), accessFlags := 25, slot := 0, constantValue := 0 }, { name := "AIOOBE_FORMATTER", type := (.object "java/util/function/BiFunction"), accessFlags := 25, slot := 1, constantValue := 0 }, { name := "IOOBE_FORMATTER", type := (.object "java/util/function/BiFunction"), accessFlags := 25, slot := 2, constantValue := 0 }]
  methods := #[k11m0, k11m1]
  instanceTypes := #[]
  staticTypes := #[(.object "java/util/function/BiFunction"), (.object "java/util/function/BiFunction"), (.object "java/util/function/BiFunction")]
  resolved := Array.replicate 194 none
  statics := some 2 }

def pool12 : Array CpInfo := pool [(9, u "<init>"), (6, .class_ 18), (1, u "java/lang/Object"), (0, u "()V"), (1, .class_ 23), (1, u "jdk/internal/util/ArraysSupport"), (0, u "LOG2_ARRAY_LONG_INDEX_SCALE"), (0, u "I"), (2, u "U"), (0, u "Ljdk/internal/misc/Unsafe;"), (8, u "BIG_ENDIAN"), (0, u "Z"), (8, u "LOG2_BYTE_BIT_SIZE"), (4, u "LOG2_ARRAY_INT_INDEX_SCALE"), (54, u "JLA"), (0, u "Ljdk/internal/access/JavaLangAccess;"), (11, u "LOG2_ARRAY_BOOLEAN_INDEX_SCALE"), (9, u "LOG2_ARRAY_BYTE_INDEX_SCALE"), (5, u "LOG2_ARRAY_CHAR_INDEX_SCALE"), (5, u "LOG2_ARRAY_SHORT_INDEX_SCALE"), (18, u "LOG2_ARRAY_FLOAT_INDEX_SCALE"), (24, u "LOG2_ARRAY_DOUBLE_INDEX_SCALE"), (89, u "T_BOOLEAN"), (2, u "T_CHAR"), (1, u "T_FLOAT"), (1, u "T_DOUBLE"), (1, u "T_BYTE"), (1, u "T_SHORT"), (1, u "T_INT"), (1, u "T_LONG"), (1, u "SOFT_MAX_ARRAY_LENGTH")] 83

def k12m0 : Method := { name := "<init>", desc := "()V", sig := { parameters := [], returnType := none }, accessFlags := 2, code := none }
/-- jdk/internal/util/ArraysSupport -/
def k12 : Class := { plain "jdk/internal/util/ArraysSupport" (some 0) with
  accessFlags := 33
  interfaces := #[]
  cf := some (fileOf pool12 21 #[] #[{ accessFlags := 2, nameIndex := 9, descriptorIndex := 19, attributes := #[] }] 33 16 #[] #[{ accessFlags := 24, nameIndex := 28, descriptorIndex := 29, attributes := #[] }, { accessFlags := 26, nameIndex := 38, descriptorIndex := 39, attributes := #[] }, { accessFlags := 25, nameIndex := 121, descriptorIndex := 25, attributes := #[] }, { accessFlags := 25, nameIndex := 131, descriptorIndex := 25, attributes := #[] }, { accessFlags := 25, nameIndex := 137, descriptorIndex := 25, attributes := #[] }, { accessFlags := 25, nameIndex := 143, descriptorIndex := 25, attributes := #[] }, { accessFlags := 25, nameIndex := 53, descriptorIndex := 25, attributes := #[] }, { accessFlags := 25, nameIndex := 24, descriptorIndex := 25, attributes := #[] }, { accessFlags := 25, nameIndex := 162, descriptorIndex := 25, attributes := #[] }, { accessFlags := 25, nameIndex := 187, descriptorIndex := 25, attributes := #[] }, { accessFlags := 26, nameIndex := 48, descriptorIndex := 25, attributes := #[] }, { accessFlags := 25, nameIndex := 277, descriptorIndex := 25, attributes := #[] }, { accessFlags := 25, nameIndex := 280, descriptorIndex := 25, attributes := #[] }, { accessFlags := 25, nameIndex := 282, descriptorIndex := 25, attributes := #[] }, { accessFlags := 25, nameIndex := 284, descriptorIndex := 25, attributes := #[] }, { accessFlags := 25, nameIndex := 286, descriptorIndex := 25, attributes := #[] }, { accessFlags := 25, nameIndex := 288, descriptorIndex := 25, attributes := #[] }, { accessFlags := 25, nameIndex := 290, descriptorIndex := 25, attributes := #[] }, { accessFlags := 25, nameIndex := 292, descriptorIndex := 25, attributes := #[] }, { accessFlags := 26, nameIndex := 108, descriptorIndex := 109, attributes := #[] }, { accessFlags := 25, nameIndex := 294, descriptorIndex := 25, attributes := #[] }])
  fields := #[{ name := "U", type := (.object "jdk/internal/misc/Unsafe"), accessFlags := 24, slot := 0, constantValue := 0 }, { name := "BIG_ENDIAN", type := .boolean, accessFlags := 26, slot := 1, constantValue := 0 }, { name := "LOG2_ARRAY_BOOLEAN_INDEX_SCALE", type := .int, accessFlags := 25, slot := 2, constantValue := 0 }, { name := "LOG2_ARRAY_BYTE_INDEX_SCALE", type := .int, accessFlags := 25, slot := 3, constantValue := 0 }, { name := "LOG2_ARRAY_CHAR_INDEX_SCALE", type := .int, accessFlags := 25, slot := 4, constantValue := 0 }, { name := "LOG2_ARRAY_SHORT_INDEX_SCALE", type := .int, accessFlags := 25, slot := 5, constantValue := 0 }, { name := "LOG2_ARRAY_INT_INDEX_SCALE", type := .int, accessFlags := 25, slot := 6, constantValue := 0 }, { name := "LOG2_ARRAY_LONG_INDEX_SCALE", type := .int, accessFlags := 25, slot := 7, constantValue := 0 }, { name := "LOG2_ARRAY_FLOAT_INDEX_SCALE", type := .int, accessFlags := 25, slot := 8, constantValue := 0 }, { name := "LOG2_ARRAY_DOUBLE_INDEX_SCALE", type := .int, accessFlags := 25, slot := 9, constantValue := 0 }, { name := "LOG2_BYTE_BIT_SIZE", type := .int, accessFlags := 26, slot := 10, constantValue := 0 }, { name := "T_BOOLEAN", type := .int, accessFlags := 25, slot := 11, constantValue := 0 }, { name := "T_CHAR", type := .int, accessFlags := 25, slot := 12, constantValue := 0 }, { name := "T_FLOAT", type := .int, accessFlags := 25, slot := 13, constantValue := 0 }, { name := "T_DOUBLE", type := .int, accessFlags := 25, slot := 14, constantValue := 0 }, { name := "T_BYTE", type := .int, accessFlags := 25, slot := 15, constantValue := 0 }, { name := "T_SHORT", type := .int, accessFlags := 25, slot := 16, constantValue := 0 }, { name := "T_INT", type := .int, accessFlags := 25, slot := 17, constantValue := 0 }, { name := "T_LONG", type := .int, accessFlags := 25, slot := 18, constantValue := 0 }, { name := "JLA", type := (.object "jdk/internal/access/JavaLangAccess"), accessFlags := 26, slot := 19, constantValue := 0 }, { name := "SOFT_MAX_ARRAY_LENGTH", type := .int, accessFlags := 25, slot := 20, constantValue := 0 }]
  methods := #[k12m0]
  instanceTypes := #[]
  staticTypes := #[(.object "jdk/internal/misc/Unsafe"), .boolean, .int, .int, .int, .int, .int, .int, .int, .int, .int, .int, .int, .int, .int, .int, .int, .int, .int, (.object "jdk/internal/access/JavaLangAccess"), .int]
  resolved := Array.replicate 378 none
  statics := none }

def pool13 : Array CpInfo := pool [(1, u "java/lang/Cloneable"), (0, .class_ 1), (0, u "java/lang/Object"), (0, .class_ 3)] 3

/-- java/lang/Cloneable -/
def k13 : Class := { plain "java/lang/Cloneable" (some 0) with
  accessFlags := 1537
  interfaces := #[]
  cf := some (fileOf pool13 2 #[] #[] 1537 4 #[] #[])
  fields := #[]
  methods := #[]
  instanceTypes := #[]
  staticTypes := #[]
  resolved := Array.replicate 8 none
  statics := none }

/-- the primitive byte -/
def k14 : Class := { plain "byte" none with kind := .primitive 'B', accessFlags := 0x411 }
/-- [B -/
def k15 : Class := { plain "[B" (some 0) with kind := .array 14 .byte, interfaces := #[13, 2], accessFlags := 1041 }

/-- the primitive char -/
def k16 : Class := { plain "char" none with kind := .primitive 'C', accessFlags := 0x411 }
/-- [C -/
def k17 : Class := { plain "[C" (some 0) with kind := .array 16 .char, interfaces := #[13, 2], accessFlags := 1041 }

/-- the primitive int -/
def k18 : Class := { plain "int" none with kind := .primitive 'I', accessFlags := 0x411 }
/-- [I -/
def k19 : Class := { plain "[I" (some 0) with kind := .array 18 .int, interfaces := #[13, 2], accessFlags := 1041 }

def heap : Heap := #[{ cls := 7, slots := #[.long 0, .int 1, .null, .int 0, .null, .int 0, .int 0], vm := .statics 7 },
  { cls := 8, slots := #[.int 0, .int 8, .int 0, .int 1], vm := .statics 8 },
  { cls := 11, slots := #[.null, .null, .null], vm := .statics 11 }]
def classes : Array Class := #[k0, k1, k2, k3, k4, k5, k6, k7, k8, k9, k10, k11, k12, k13, k14, k15, k16, k17, k18, k19]
def interned : List (Array UInt16 × Addr) := []
def slotsUsed : Nat := 14
def theMethod : MethodId := ⟨1, 1⟩
def args0 : Array Value := #[.long 4294967299, .int 65, .int 1, .int 2]
def aboutOver (below : List Frame) : State where
  vm := { classes := classes, interned := interned.toArray }
  heap := heap
  slotsUsed := slotsUsed
  threads := #[{ frames := .invoking theMethod args0 :: below }]
def below0 : List Frame := [.native { method := ⟨0, 0⟩, args := #[] }]
def about1 : State := aboutOver below0
def p0 : Program := .bare "" "" ""
def e0 : Env := launch0.env 0 0 0
theorem w_frames : about1.frames = Frame.invoking theMethod args0 :: below0 := rfl
set_option maxRecDepth 65536 in
theorem w_args : argsFit about1.vm theMethod args0 = true := by decide +kernel
set_option maxRecDepth 65536 in
theorem w_heap : heapFits about1 = true := by decide +kernel
set_option maxRecDepth 65536 in
theorem w_runnable : about1.curStatus? = some .runnable := by decide +kernel
set_option maxRecDepth 65536 in
theorem w_alone : about1.alone = true := by decide +kernel
set_option maxRecDepth 65536 in
theorem w_named : about1.methodNamed? x = some theMethod := by decide +kernel
set_option maxRecDepth 65536 in
theorem w_hears : about1.hears theMethod below0 = true := by decide +kernel
set_option maxRecDepth 65536 in
theorem w_ripe : about1.ripe theMethod args0 below0 = true := by decide +kernel
theorem w_running : about1.status = .running := rfl
set_option maxRecDepth 65536 in
theorem w_room : about1.hasRoom e0.platform room_1 = true :=
  launch0.hasRoom_least _ room_1 (by decide +kernel) (by decide +kernel) (by decide +kernel) (by decide +kernel) (by decide +kernel) (by decide +kernel)
theorem allAtoms_all (ts : List Jvm.Cond) (a : Array Jvm.Value) (st : Jvm.State) : (allAtoms ts).before a st = ts.all (fun c => c.before a st) := by
  induction ts with
  | nil => rfl
  | cons c t ih =>
    show (Jvm.Cond.and c (allAtoms t)).before a st = _
    rw [Jvm.Cond.before_and, ih, List.all_cons]
def words1 : List Jvm.Cond := Jvm.Cond.code x code maxLocals ret :: tables_1
/-- a 'code' word, met by the world's own term for the bytes: nothing is compared byte by byte -/
theorem code_word {y : MethodName} {bytes : ByteArray} {mx : Nat} {rt : Option FieldType} {a : Array Value} {s : State} {m : MethodId} {meth : Method} {c : Code} (h1 : s.methodNamed? y = some m) (h2 : s.vm.method? m = some meth) (h3 : meth.code = some c) (h4 : c.code = bytes)
    (h5 : (c.maxLocals == mx && c.exceptionTable.isEmpty && decide (c.maxStack ≤ mostOperands) && decide (meth.sig.returnType = rt) && !meth.locks && decide (parseMethodDescriptor y.desc = some meth.sig)) = true) : (Jvm.Cond.code y bytes mx rt).before a s = true := by
  simp only [Bool.and_eq_true, beq_iff_eq, Bool.not_eq_true', decide_eq_true_eq] at h5
  obtain ⟨⟨⟨⟨⟨g1, g2⟩, g3⟩, g4⟩, g5⟩, g6⟩ := h5
  simp [Cond.before, Cond.holds, Cond.value, h1, h2, h3, h4, g1, g2, g3, g4, g5, g6]
def isCode : Jvm.Cond → Bool
  | .code _ _ _ _ => true
  | _ => false
theorem all_split {L : List Jvm.Cond} {P : Jvm.Cond → Bool} (h1 : L.all (fun c => isCode c || P c) = true) (h2 : ∀ c ∈ L.filter isCode, P c = true) : L.all P = true := by
  refine List.all_eq_true.mpr fun c hc => ?_
  have h := List.all_eq_true.mp h1 c hc
  rcases Bool.eq_false_or_eq_true (isCode c) with hi | hi
  · exact h2 c (List.mem_filter.mpr ⟨hc, hi⟩)
  · simpa [hi] using h
set_option maxRecDepth 65536 in
theorem w_c0 : (Jvm.Cond.code x code maxLocals ret).before args0 about1 = true := code_word (m := ⟨1, 1⟩) (meth := k1m1) (c := k1c1) (by decide +kernel) rfl rfl rfl (by decide +kernel)
set_option maxRecDepth 65536 in
theorem w_c1 : (Jvm.Cond.code ({ cls := "com/example/cytorelay/cytorelay/core/Hl7SyntaxIndexOfPinLaw", name := "pick", desc := "(JIIC)C" } : Jvm.MethodName) method_3_code (5 : Nat) (Option.some Jvm.ClassFile.FieldType.char)).before args0 about1 = true := code_word (m := ⟨1, 2⟩) (meth := k1m2) (c := k1c2) (by decide +kernel) rfl rfl rfl (by decide +kernel)
set_option maxRecDepth 65536 in
theorem w_c2 : (Jvm.Cond.code ({ cls := "java/lang/String", name := "<init>", desc := "([C)V" } : Jvm.MethodName) jdk_42_method_3_code (2 : Nat) (Option.none : Option Jvm.ClassFile.FieldType)).before args0 about1 = true := code_word (m := ⟨7, 1⟩) (meth := k7m1) (c := k7c1) (by decide +kernel) rfl rfl rfl (by decide +kernel)
set_option maxRecDepth 65536 in
theorem w_c3 : (Jvm.Cond.code ({ cls := "java/lang/String", name := "<init>", desc := "([CIILjava/lang/Void;)V" } : Jvm.MethodName) jdk_42_method_149_code (6 : Nat) (Option.none : Option Jvm.ClassFile.FieldType)).before args0 about1 = true := code_word (m := ⟨7, 3⟩) (meth := k7m3) (c := k7c3) (by decide +kernel) rfl rfl rfl (by decide +kernel)
set_option maxRecDepth 65536 in
theorem w_c4 : (Jvm.Cond.code ({ cls := "java/lang/Object", name := "<init>", desc := "()V" } : Jvm.MethodName) object_method_1_code (1 : Nat) (Option.none : Option Jvm.ClassFile.FieldType)).before args0 about1 = true := code_word (m := ⟨0, 0⟩) (meth := k0m0) (c := k0c0) (by decide +kernel) rfl rfl rfl (by decide +kernel)
set_option maxRecDepth 65536 in
theorem w_c5 : (Jvm.Cond.code ({ cls := "java/lang/StringUTF16", name := "compress", desc := "([CII)[B" } : Jvm.MethodName) jdk_52_method_16_code (6 : Nat) (Option.some (Jvm.ClassFile.FieldType.array Jvm.ClassFile.FieldType.byte))).before args0 about1 = true := code_word (m := ⟨8, 8⟩) (meth := k8m8) (c := k8c8) (by decide +kernel) rfl rfl rfl (by decide +kernel)
set_option maxRecDepth 65536 in
theorem w_c6 : (Jvm.Cond.code ({ cls := "java/lang/StringUTF16", name := "compress", desc := "([CI[BII)I" } : Jvm.MethodName) jdk_52_method_21_code (7 : Nat) (Option.some Jvm.ClassFile.FieldType.int)).before args0 about1 = true := code_word (m := ⟨8, 9⟩) (meth := k8m9) (c := k8c9) (by decide +kernel) rfl rfl rfl (by decide +kernel)
set_option maxRecDepth 65536 in
theorem w_c7 : (Jvm.Cond.code ({ cls := "java/lang/StringUTF16", name := "coderFromArrayLen", desc := "([BI)B" } : Jvm.MethodName) jdk_52_method_15_code (2 : Nat) (Option.some Jvm.ClassFile.FieldType.byte)).before args0 about1 = true := code_word (m := ⟨8, 7⟩) (meth := k8m7) (c := k8c7) (by decide +kernel) rfl rfl rfl (by decide +kernel)
set_option maxRecDepth 65536 in
theorem w_c8 : (Jvm.Cond.code ({ cls := "com/example/cytorelay/cytorelay/core/Hl7Syntax", name := "indexOf", desc := "(Ljava/lang/String;CII)I" } : Jvm.MethodName) prog_31_method_2_code (5 : Nat) (Option.some Jvm.ClassFile.FieldType.int)).before args0 about1 = true := code_word (m := ⟨9, 1⟩) (meth := k9m1) (c := k9c1) (by decide +kernel) rfl rfl rfl (by decide +kernel)
set_option maxRecDepth 65536 in
theorem w_c9 : (Jvm.Cond.code ({ cls := "java/lang/String", name := "charAt", desc := "(I)C" } : Jvm.MethodName) jdk_42_method_56_code (2 : Nat) (Option.some Jvm.ClassFile.FieldType.char)).before args0 about1 = true := code_word (m := ⟨7, 2⟩) (meth := k7m2) (c := k7c2) (by decide +kernel) rfl rfl rfl (by decide +kernel)
set_option maxRecDepth 65536 in
theorem w_c10 : (Jvm.Cond.code ({ cls := "java/lang/String", name := "isLatin1", desc := "()Z" } : Jvm.MethodName) jdk_42_method_154_code (1 : Nat) (Option.some Jvm.ClassFile.FieldType.boolean)).before args0 about1 = true := code_word (m := ⟨7, 4⟩) (meth := k7m4) (c := k7c4) (by decide +kernel) rfl rfl rfl (by decide +kernel)
set_option maxRecDepth 65536 in
theorem w_c11 : (Jvm.Cond.code ({ cls := "java/lang/StringLatin1", name := "charAt", desc := "([BI)C" } : Jvm.MethodName) jdk_43_method_2_code (2 : Nat) (Option.some Jvm.ClassFile.FieldType.char)).before args0 about1 = true := code_word (m := ⟨10, 1⟩) (meth := k10m1) (c := k10c1) (by decide +kernel) rfl rfl rfl (by decide +kernel)
set_option maxRecDepth 65536 in
theorem w_c12 : (Jvm.Cond.code ({ cls := "java/lang/String", name := "checkIndex", desc := "(II)V" } : Jvm.MethodName) jdk_42_method_155_code (2 : Nat) (Option.none : Option Jvm.ClassFile.FieldType)).before args0 about1 = true := code_word (m := ⟨7, 5⟩) (meth := k7m5) (c := k7c5) (by decide +kernel) rfl rfl rfl (by decide +kernel)
set_option maxRecDepth 65536 in
theorem w_c13 : (Jvm.Cond.code ({ cls := "jdk/internal/util/Preconditions", name := "checkIndex", desc := "(IILjava/util/function/BiFunction;)I" } : Jvm.MethodName) jdk_41_method_11_code (3 : Nat) (Option.some Jvm.ClassFile.FieldType.int)).before args0 about1 = true := code_word (m := ⟨11, 1⟩) (meth := k11m1) (c := k11c1) (by decide +kernel) rfl rfl rfl (by decide +kernel)
set_option maxRecDepth 65536 in
theorem w_c14 : (Jvm.Cond.code ({ cls := "java/lang/StringUTF16", name := "toBytes", desc := "([CII)[B" } : Jvm.MethodName) jdk_52_method_14_code (5 : Nat) (Option.some (Jvm.ClassFile.FieldType.array Jvm.ClassFile.FieldType.byte))).before args0 about1 = true := code_word (m := ⟨8, 6⟩) (meth := k8m6) (c := k8c6) (by decide +kernel) rfl rfl rfl (by decide +kernel)
set_option maxRecDepth 65536 in
theorem w_c15 : (Jvm.Cond.code ({ cls := "java/lang/StringUTF16", name := "newBytesFor", desc := "(I)[B" } : Jvm.MethodName) jdk_52_method_2_code (1 : Nat) (Option.some (Jvm.ClassFile.FieldType.array Jvm.ClassFile.FieldType.byte))).before args0 about1 = true := code_word (m := ⟨8, 1⟩) (meth := k8m1) (c := k8c1) (by decide +kernel) rfl rfl rfl (by decide +kernel)
set_option maxRecDepth 65536 in
theorem w_c16 : (Jvm.Cond.code ({ cls := "java/lang/StringUTF16", name := "newBytesLength", desc := "(I)I" } : Jvm.MethodName) jdk_52_method_3_code (1 : Nat) (Option.some Jvm.ClassFile.FieldType.int)).before args0 about1 = true := code_word (m := ⟨8, 2⟩) (meth := k8m2) (c := k8c2) (by decide +kernel) rfl rfl rfl (by decide +kernel)
set_option maxRecDepth 65536 in
theorem w_c17 : (Jvm.Cond.code ({ cls := "java/lang/StringUTF16", name := "putChar", desc := "([BII)V" } : Jvm.MethodName) jdk_52_method_4_code (3 : Nat) (Option.none : Option Jvm.ClassFile.FieldType)).before args0 about1 = true := code_word (m := ⟨8, 3⟩) (meth := k8m3) (c := k8c3) (by decide +kernel) rfl rfl rfl (by decide +kernel)
set_option maxRecDepth 65536 in
theorem w_c18 : (Jvm.Cond.code ({ cls := "java/lang/StringUTF16", name := "getChar", desc := "([BI)C" } : Jvm.MethodName) jdk_52_method_5_code (2 : Nat) (Option.some Jvm.ClassFile.FieldType.char)).before args0 about1 = true := code_word (m := ⟨8, 4⟩) (meth := k8m4) (c := k8c4) (by decide +kernel) rfl rfl rfl (by decide +kernel)
set_option maxRecDepth 65536 in
theorem w_c19 : (Jvm.Cond.code ({ cls := "java/lang/StringUTF16", name := "charAt", desc := "([BI)C" } : Jvm.MethodName) jdk_52_method_83_code (2 : Nat) (Option.some Jvm.ClassFile.FieldType.char)).before args0 about1 = true := code_word (m := ⟨8, 10⟩) (meth := k8m10) (c := k8c10) (by decide +kernel) rfl rfl rfl (by decide +kernel)
set_option maxRecDepth 65536 in
theorem w_c20 : (Jvm.Cond.code ({ cls := "java/lang/StringUTF16", name := "checkIndex", desc := "(I[B)V" } : Jvm.MethodName) jdk_52_method_91_code (2 : Nat) (Option.none : Option Jvm.ClassFile.FieldType)).before args0 about1 = true := code_word (m := ⟨8, 11⟩) (meth := k8m11) (c := k8c11) (by decide +kernel) rfl rfl rfl (by decide +kernel)
set_option maxRecDepth 65536 in
theorem w_c21 : (Jvm.Cond.code ({ cls := "java/lang/StringUTF16", name := "length", desc := "([B)I" } : Jvm.MethodName) jdk_52_method_6_code (1 : Nat) (Option.some Jvm.ClassFile.FieldType.int)).before args0 about1 = true := code_word (m := ⟨8, 5⟩) (meth := k8m5) (c := k8c5) (by decide +kernel) rfl rfl rfl (by decide +kernel)
def codes1 : List Jvm.Cond := [Jvm.Cond.code x code maxLocals ret, Jvm.Cond.code ({ cls := "com/example/cytorelay/cytorelay/core/Hl7SyntaxIndexOfPinLaw", name := "pick", desc := "(JIIC)C" } : Jvm.MethodName) method_3_code (5 : Nat) (Option.some Jvm.ClassFile.FieldType.char), Jvm.Cond.code ({ cls := "java/lang/String", name := "<init>", desc := "([C)V" } : Jvm.MethodName) jdk_42_method_3_code (2 : Nat) (Option.none : Option Jvm.ClassFile.FieldType), Jvm.Cond.code ({ cls := "java/lang/String", name := "<init>", desc := "([CIILjava/lang/Void;)V" } : Jvm.MethodName) jdk_42_method_149_code (6 : Nat) (Option.none : Option Jvm.ClassFile.FieldType), Jvm.Cond.code ({ cls := "java/lang/Object", name := "<init>", desc := "()V" } : Jvm.MethodName) object_method_1_code (1 : Nat) (Option.none : Option Jvm.ClassFile.FieldType), Jvm.Cond.code ({ cls := "java/lang/StringUTF16", name := "compress", desc := "([CII)[B" } : Jvm.MethodName) jdk_52_method_16_code (6 : Nat) (Option.some (Jvm.ClassFile.FieldType.array Jvm.ClassFile.FieldType.byte)), Jvm.Cond.code ({ cls := "java/lang/StringUTF16", name := "compress", desc := "([CI[BII)I" } : Jvm.MethodName) jdk_52_method_21_code (7 : Nat) (Option.some Jvm.ClassFile.FieldType.int), Jvm.Cond.code ({ cls := "java/lang/StringUTF16", name := "coderFromArrayLen", desc := "([BI)B" } : Jvm.MethodName) jdk_52_method_15_code (2 : Nat) (Option.some Jvm.ClassFile.FieldType.byte), Jvm.Cond.code ({ cls := "com/example/cytorelay/cytorelay/core/Hl7Syntax", name := "indexOf", desc := "(Ljava/lang/String;CII)I" } : Jvm.MethodName) prog_31_method_2_code (5 : Nat) (Option.some Jvm.ClassFile.FieldType.int), Jvm.Cond.code ({ cls := "java/lang/String", name := "charAt", desc := "(I)C" } : Jvm.MethodName) jdk_42_method_56_code (2 : Nat) (Option.some Jvm.ClassFile.FieldType.char), Jvm.Cond.code ({ cls := "java/lang/String", name := "isLatin1", desc := "()Z" } : Jvm.MethodName) jdk_42_method_154_code (1 : Nat) (Option.some Jvm.ClassFile.FieldType.boolean), Jvm.Cond.code ({ cls := "java/lang/StringLatin1", name := "charAt", desc := "([BI)C" } : Jvm.MethodName) jdk_43_method_2_code (2 : Nat) (Option.some Jvm.ClassFile.FieldType.char), Jvm.Cond.code ({ cls := "java/lang/String", name := "checkIndex", desc := "(II)V" } : Jvm.MethodName) jdk_42_method_155_code (2 : Nat) (Option.none : Option Jvm.ClassFile.FieldType), Jvm.Cond.code ({ cls := "jdk/internal/util/Preconditions", name := "checkIndex", desc := "(IILjava/util/function/BiFunction;)I" } : Jvm.MethodName) jdk_41_method_11_code (3 : Nat) (Option.some Jvm.ClassFile.FieldType.int), Jvm.Cond.code ({ cls := "java/lang/StringUTF16", name := "toBytes", desc := "([CII)[B" } : Jvm.MethodName) jdk_52_method_14_code (5 : Nat) (Option.some (Jvm.ClassFile.FieldType.array Jvm.ClassFile.FieldType.byte)), Jvm.Cond.code ({ cls := "java/lang/StringUTF16", name := "newBytesFor", desc := "(I)[B" } : Jvm.MethodName) jdk_52_method_2_code (1 : Nat) (Option.some (Jvm.ClassFile.FieldType.array Jvm.ClassFile.FieldType.byte)), Jvm.Cond.code ({ cls := "java/lang/StringUTF16", name := "newBytesLength", desc := "(I)I" } : Jvm.MethodName) jdk_52_method_3_code (1 : Nat) (Option.some Jvm.ClassFile.FieldType.int), Jvm.Cond.code ({ cls := "java/lang/StringUTF16", name := "putChar", desc := "([BII)V" } : Jvm.MethodName) jdk_52_method_4_code (3 : Nat) (Option.none : Option Jvm.ClassFile.FieldType), Jvm.Cond.code ({ cls := "java/lang/StringUTF16", name := "getChar", desc := "([BI)C" } : Jvm.MethodName) jdk_52_method_5_code (2 : Nat) (Option.some Jvm.ClassFile.FieldType.char), Jvm.Cond.code ({ cls := "java/lang/StringUTF16", name := "charAt", desc := "([BI)C" } : Jvm.MethodName) jdk_52_method_83_code (2 : Nat) (Option.some Jvm.ClassFile.FieldType.char), Jvm.Cond.code ({ cls := "java/lang/StringUTF16", name := "checkIndex", desc := "(I[B)V" } : Jvm.MethodName) jdk_52_method_91_code (2 : Nat) (Option.none : Option Jvm.ClassFile.FieldType), Jvm.Cond.code ({ cls := "java/lang/StringUTF16", name := "length", desc := "([B)I" } : Jvm.MethodName) jdk_52_method_6_code (1 : Nat) (Option.some Jvm.ClassFile.FieldType.int)]
set_option maxRecDepth 65536 in
theorem codes_eq : words1.filter isCode = codes1 := rfl
theorem w_codes : ∀ c ∈ words1.filter isCode, c.before args0 about1 = true := by
  rw [codes_eq]
  intro c hc
  simp only [codes1, List.mem_cons, List.not_mem_nil, or_false] at hc
  rcases hc with rfl | rfl | rfl | rfl | rfl | rfl | rfl | rfl | rfl | rfl | rfl | rfl | rfl | rfl | rfl | rfl | rfl | rfl | rfl | rfl | rfl | rfl
  · exact w_c0
  · exact w_c1
  · exact w_c2
  · exact w_c3
  · exact w_c4
  · exact w_c5
  · exact w_c6
  · exact w_c7
  · exact w_c8
  · exact w_c9
  · exact w_c10
  · exact w_c11
  · exact w_c12
  · exact w_c13
  · exact w_c14
  · exact w_c15
  · exact w_c16
  · exact w_c17
  · exact w_c18
  · exact w_c19
  · exact w_c20
  · exact w_c21
set_option maxRecDepth 65536 in
theorem w_t1 : (words1.take 24).all (fun c => isCode c || c.before args0 about1) = true := by decide +kernel
set_option maxRecDepth 65536 in
theorem w_t2 : ((words1.drop 24).take 24).all (fun c => isCode c || c.before args0 about1) = true := by decide +kernel
set_option maxRecDepth 65536 in
theorem w_t3 : (((words1.drop 24).drop 24).take 24).all (fun c => isCode c || c.before args0 about1) = true := by decide +kernel
set_option maxRecDepth 65536 in
theorem w_t4 : (((words1.drop 24).drop 24).drop 24).all (fun c => isCode c || c.before args0 about1) = true := by decide +kernel
theorem w_tables : (allAtoms (Jvm.Cond.code x code maxLocals ret :: tables_1)).before args0 about1 = true := by
  rw [allAtoms_all]
  show words1.all (fun c => c.before args0 about1) = true
  refine all_split ?_ w_codes
  rw [← List.take_append_drop 24 words1, List.all_append, w_t1, ← List.take_append_drop 24 (words1.drop 24), List.all_append, w_t2, ← List.take_append_drop 24 ((words1.drop 24).drop 24), List.all_append, w_t3, w_t4]
  rfl
set_option maxRecDepth 65536 in
theorem w_rest : rest_1_c.before args0 about1 = true := by decide +kernel
set_option maxRecDepth 65536 in
theorem w_case : (Jvm.Cond.and given_1 narrow_1).before args0 about1 = true := by decide +kernel
theorem w_applies : (headSpec (Jvm.Cond.code x code maxLocals ret :: tables_1) room_1).applies x e0.platform about1 = true :=
  (Spec.applies_iff w_frames).mpr ⟨w_running, w_runnable, w_alone, w_named, w_hears, w_ripe, w_room, w_tables⟩
theorem atStart : AtStart classFile x code maxLocals ret World_1 tables_1 room_1 Calls_1 rest_1 Pre_1 launch0 p0 e0 about1 theMethod args0 below0 :=
  ⟨lists_1, trivial, launch0.admits_env _ _ _, launch0.least_env, fairChoices_fair.cas, fairChoices_fair.clock, w_frames, w_args, w_heap, w_applies, trivial, w_rest, w_case⟩
end start1
theorem witness_1 : WitnessClaimed_1 := ⟨start1.p0, start1.e0, start1.about1, start1.theMethod, start1.args0, start1.below0, start1.atStart⟩
end Jvm.Pilot.@@N@@
