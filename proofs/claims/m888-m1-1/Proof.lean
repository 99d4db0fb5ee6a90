import JvmDerived
import JvmDerived.Pilot.@@N@@Statement
import JvmDerived.Pilot.@@N@@Code
set_option linter.unusedVariables false
set_option linter.unusedSimpArgs false

namespace Jvm.Own
open Sem ClassFile Op Lib Jvm.Stand Jvm.Free Jvm.LawKit Jvm.RoadKit Bundle
abbrev Ents : Type := List (String × Nat)
def SfAt (Z : State) (EL : Ents) (vm : Vm) (h : Heap) (x : Addr) : Prop := x < h.size ∧ Safe Z EL vm h x
def Prom (EL : Ents) (Z : State) (n0 : Nat) (h0 : Heap) (Q : Option Value → Heap → (Addr → Prop) → Prop) (R : Room) (s : State) (o : Outcome) (t : State) : Prop :=
  ∃ v L, o = .returned v ∧ (Fr n0 L ∧ h0.size ≤ t.heap.size ∧ CHr Z EL s.vm h0 t.vm t.heap ∧ Q v t.heap (SfAt Z EL t.vm t.heap)) ∧ ReturnedEndW s o t L R.cells R.slots
def Go (p : Program) (e : Env) (below : List Frame) (P : Outcome → State → Prop) (U : State) : Prop :=
  ∃ t o, Steps p.tables e below U t ∧ t.status = .running ∧ Ended t below o ∧ P o t
theorem Go.step {p : Program} {e : Env} {below : List Frame} {P : Outcome → State → Prop} {U V : State} (f : ∀ t, Steps p.tables e below V t → Steps p.tables e below U t) (g : Go p e below P V) : Go p e below P U := by
  obtain ⟨t, o, h1, h2⟩ := g; exact ⟨t, o, f t h1, h2⟩
def Cx (Z : State) (EL : Ents) (bytes : ByteArray) (maxL : Nat) (own nm : String) (ret : Option FieldType) (p : Program) (vm0 : Vm) (m : MethodId) (meth : Method) (c : Code) : Prop :=
  p.tables.exec = Jvm.exec ∧ c.code = bytes ∧ c.maxLocals = maxL ∧ meth.sig.returnType = ret ∧ meth.locks = false ∧ meth.name = nm ∧ Z.Warmed39 vm0 ∧ vm0.findClass own = some m.cls ∧ ∃ a0, EW Z a0 EL
def Rel (EL : Ents) (Z s : State) (h0 : Heap) (vm0 : Vm) (h : Heap) (SF : List Addr) : Prop := (∃ k0, s.Since vm0 k0 ∧ k0 ≤ h.size) ∧ CHr Z EL s.vm h0 vm0 h ∧ ∀ x ∈ SF, SfAt Z EL vm0 h x
/-- the contract of a body -/
def Met (EL : Ents) (l : Launch) (Z : State) (y : MethodName) (bytes : ByteArray) (maxL : Nat) (ret : Option FieldType) (R : Room) (ws : List Jvm.Cond) (as' : Array Value) (h0 : Heap) (n0 : Nat) (SF : List Addr) (Q : Option Value → Heap → (Addr → Prop) → Prop) : Prop :=
  MetFree l y (head1 (Jvm.Cond.code y bytes maxL ret :: ws) R) (fun a U => a = as' ∧ Z.Warmed39 U.vm ∧ U.heap = h0 ∧ CHv Z EL U.vm h0 ∧ (∀ x ∈ SF, SfAt Z EL U.vm h0 x) ∧ ∃ a0, EW Z a0 EL) (fun _ _ _ _ _ => True) (fun _ U o U' => Prom EL Z n0 h0 Q R U o U')
/-- from this point of the body on the run ends as Q says -/
def OAt (EL : Ents) (l : Launch) (Z : State) (bytes : ByteArray) (maxL : Nat) (own nm : String) (ret : Option FieldType) (R : Room) (n0 : Nat) (h0 : Heap) (Q : Option Value → Heap → (Addr → Prop) → Prop) (SF : List Addr)
    (h : Heap) (cells slots pc : Nat) (Ls : Array Slot) (st : List Value) : Prop :=
  ∀ (p : Program) (e : Env) (s : State) (vm0 : Vm) (m : MethodId) (args : Array Value) (below : List Frame) (meth : Method) (c : Code) (T : State) (locs : List Loc),
    Cx Z EL bytes maxL own nm ret p vm0 m meth c → Rel EL Z s h0 vm0 h SF → Stand p l e R (s.setVm vm0) m args below meth c T locs cells slots → T.heap = h → Fr n0 locs →
    Go p e below (Prom EL Z n0 h0 Q R s) (T.setTop (mkF m pc Ls st))
section Walk
variable {EL : Ents} {l : Launch} {Z : State} {a0 : Array Value} {bytes : ByteArray} {maxL : Nat} {own nm : String} {ret : Option FieldType} {R : Room} {n0 : Nat} {h0 : Heap} {Q : Option Value → Heap → (Addr → Prop) → Prop} {SF : List Addr} {h h' : Heap} {cells slots pc : Nat} {Ls : Array Slot} {st : List Value}
theorem Met.of {y : MethodName} {ws : List Jvm.Cond} {as' : Array Value} (hp : plainFor y = true) {Ls : Array Slot} (hef : ∀ m, entryFrame m as' maxL = mkF m 0 Ls [])
    (k : OAt EL l Z bytes maxL y.cls y.name ret R n0 h0 Q SF h0 0 0 0 Ls []) : Met EL l Z y bytes maxL ret R ws as' h0 n0 SF Q := by
  refine MetFree.of_bodySF hp hisR ?_
  intro p e s m args below meth c s₁ Bd hml0 hP hK
  obtain ⟨rfl, hZ, hh, hC, hS, hE⟩ := hP
  have X0 : Stand p l e R s m args below meth c s₁ [] 0 0 := Stand.of_body Bd
  have e0 : s₁.heap = h0 := by rw [← hh, Bd.state]; rfl
  have g := k p e s s.vm m args below meth c s₁ [] ⟨Bd.exec, Bd.bytes, hml0, Bd.returns, Bd.notSynchronized, (name_of_methodNamed Bd.named Bd.method).1, hZ, findClass_of_methodNamed Bd.named, hE⟩ ⟨⟨0, State.WarmedH.since (State.WarmedH.refl s) 0, Nat.zero_le _⟩, CHr.refl hC, hS⟩ X0 e0 (Fr.nil n0)
  rw [← hef m] at g
  exact g
theorem Met.imp {y : MethodName} {ws : List Jvm.Cond} {as' : Array Value} {Q' : Option Value → Heap → (Addr → Prop) → Prop} (k : Met EL l Z y bytes maxL ret R ws as' h0 n0 SF Q) (f : ∀ v h S, Q v h S → Q' v h S) : Met EL l Z y bytes maxL ret R ws as' h0 n0 SF Q' :=
  fun p e h1 h2 h3 s m args below h4 h5 h6 h7 => by
    obtain ⟨n, o, g1, g2, g3, v, L, g4, ⟨g5, g6, g7, g8⟩, g9⟩ := k p e h1 h2 h3 s m args below h4 h5 h6 h7
    exact ⟨n, o, g1, g2, g3, v, L, g4, ⟨g5, g6, g7, f _ _ _ g8⟩, g9⟩
theorem OAt.cast {st' : List Value} (q : st' = st) (k : OAt EL l Z bytes maxL own nm ret R n0 h0 Q SF h cells slots pc Ls st') : OAt EL l Z bytes maxL own nm ret R n0 h0 Q SF h cells slots pc Ls st := q ▸ k
theorem OAt.castL {Ls' : Array Slot} {st' : List Value} (q : Ls' = Ls) (q2 : st' = st) (k : OAt EL l Z bytes maxL own nm ret R n0 h0 Q SF h cells slots pc Ls' st') : OAt EL l Z bytes maxL own nm ret R n0 h0 Q SF h cells slots pc Ls st := q ▸ q2 ▸ k
theorem OAt.sf {SF' : List Addr} (q : ∀ x ∈ SF', x ∈ SF) (k : OAt EL l Z bytes maxL own nm ret R n0 h0 Q SF' h cells slots pc Ls st) : OAt EL l Z bytes maxL own nm ret R n0 h0 Q SF h cells slots pc Ls st :=
  fun p e s vm0 m args below meth c T locs C r X eT N => k p e s vm0 m args below meth c T locs C ⟨r.1, r.2.1, fun x hx => r.2.2 x (q x hx)⟩ X eT N
theorem OAt.plain {pc' : Nat} {Ls' : Array Slot} {st' : List Value} (k : OAt EL l Z bytes maxL own nm ret R n0 h0 Q SF h cells slots pc' Ls' st')
    (f : ∀ {p : Program} {e : Env} {below : List Frame} {m : MethodId} {c : Code} {T : State}, At T m c below → p.tables.exec = Jvm.exec → c.code = bytes → ∀ target, Steps p.tables e below (T.setTop (mkF m pc' Ls' st')) target → Steps p.tables e below (T.setTop (mkF m pc Ls st)) target) : OAt EL l Z bytes maxL own nm ret R n0 h0 Q SF h cells slots pc Ls st :=
  fun p e s vm0 m args below meth c T locs C r X eT N => (k p e s vm0 m args below meth c T locs C r X eT N).step (f X.here C.1 C.2.1)
theorem OAt.warm {pc' : Nat} {Ls' : Array Slot} {st' : List Value} (k : OAt EL l Z bytes maxL own nm ret R n0 h0 Q SF h cells slots pc' Ls' st')
    (f : ∀ {p : Program} {e : Env} {s : State} {m : MethodId} {args : Array Value} {below : List Frame} {meth : Method} {c : Code} {T : State} {locs : List Loc}, Cx Z EL bytes maxL own nm ret p s.vm m meth c → Stand p l e R s m args below meth c T locs cells slots → T.heap = h →
      ∃ T', Stand p l e R s m args below meth c T' locs cells slots ∧ T'.heap = h ∧ ∀ target, Steps p.tables e below (T'.setTop (mkF m pc' Ls' st')) target → Steps p.tables e below (T.setTop (mkF m pc Ls st)) target) : OAt EL l Z bytes maxL own nm ret R n0 h0 Q SF h cells slots pc Ls st :=
  fun p e s vm0 m args below meth c T locs C r X eT N => by
    obtain ⟨T', X', e', g⟩ := f (s := s.setVm vm0) C X eT
    exact (k p e s vm0 m args below meth c T' locs C r X' e' N).step g
/-- the heap goes on: nothing booked is written -/
theorem Rel.go {s : State} {vm0 : Vm} {SF' : List Addr} (r : Rel EL Z s h0 vm0 h SF) (q : CHr Z EL vm0 h vm0 h') (q2 : ∀ x ∈ SF', x ∈ SF ∨ (x < h'.size ∧ Safe Z EL vm0 h' x)) : Rel EL Z s h0 vm0 h' SF' := by
  obtain ⟨⟨k0, r1, r2⟩, r3, r4⟩ := r
  refine ⟨⟨k0, r1, Nat.le_trans r2 q.2.1⟩, r3.trans q, fun x hx => ?_⟩
  rcases q2 x hx with y | y
  · exact ⟨Nat.lt_of_lt_of_le (r4 x y).1 q.2.1, q.safe (r4 x y).1 (r4 x y).2⟩
  · exact y
theorem OAt.move {pc' : Nat} {Ls' : Array Slot} {st' : Heap → List Value} {cells' slots' : Nat} {P : Heap → Prop} {SF' : Heap → List Addr} (hg : ∀ h' vm, Z.vm.Alike vm → CHv Z EL vm h → (∀ x ∈ SF, SfAt Z EL vm h x) → P h' → CHr Z EL vm h vm h' ∧ ∀ x ∈ SF' h', x ∈ SF ∨ (x < h'.size ∧ Safe Z EL vm h' x)) (k : ∀ h', P h' → OAt EL l Z bytes maxL own nm ret R n0 h0 Q (SF' h') h' cells' slots' pc' Ls' (st' h'))
    (f : ∀ {p : Program} {e : Env} {s : State} {m : MethodId} {args : Array Value} {below : List Frame} {meth : Method} {c : Code} {T : State} {locs : List Loc}, Cx Z EL bytes maxL own nm ret p s.vm m meth c → Stand p l e R s m args below meth c T locs cells slots → T.heap = h → Fr n0 locs →
      ∃ T' h' locs', Stand p l e R s m args below meth c T' locs' cells' slots' ∧ T'.heap = h' ∧ Fr n0 locs' ∧ P h' ∧ ∀ target, Steps p.tables e below (T'.setTop (mkF m pc' Ls' (st' h'))) target → Steps p.tables e below (T.setTop (mkF m pc Ls st)) target) : OAt EL l Z bytes maxL own nm ret R n0 h0 Q SF h cells slots pc Ls st :=
  fun p e s vm0 m args below meth c T locs C r X eT N => by
    obtain ⟨T', h', locs', X', e', N', p', g⟩ := f (s := s.setVm vm0) C X eT N
    obtain ⟨q1, q2⟩ := hg h' vm0 C.2.2.2.2.2.2.1.alike r.2.1.1 r.2.2 p'
    exact (k h' p' p e s vm0 m args below meth c T' locs' C (r.go q1 q2) X' e' N').step g
theorem sf_ext {vm : Vm} (E : Ext h h') (H : CHv Z EL vm h) {a : Addr} (ha : a = h.size) (hl : a < h'.size) : CHr Z EL vm h vm h' ∧ ∀ x ∈ a :: SF, x ∈ SF ∨ (x < h'.size ∧ Safe Z EL vm h' x) :=
  ⟨CHr.ext E H, fun x hx => (List.mem_cons.mp hx).elim (fun e => Or.inr (by subst e; exact ⟨hl, (Safe.new (Nat.le_of_eq ha.symm)).ext E H⟩)) Or.inl⟩
theorem sf_wr {vm : Vm} {a : Addr} {sl : Nat} {v : Value} (W : Wr h h' a sl v) (H : CHv Z EL vm h) (hS : ∀ x ∈ SF, SfAt Z EL vm h x) (ha : a ∈ SF) : CHr Z EL vm h vm h' ∧ ∀ x ∈ SF, x ∈ SF ∨ (x < h'.size ∧ Safe Z EL vm h' x) := ⟨CHr.wr W (hS a ha).2 H, fun x hx => Or.inl hx⟩
theorem sf_keep {vm : Vm} {a : Addr} (K : Keep h h' [a]) (H : CHv Z EL vm h) (hS : ∀ x ∈ SF, SfAt Z EL vm h x) (ha : a ∈ SF) : CHr Z EL vm h vm h' ∧ ∀ x ∈ SF, x ∈ SF ∨ (x < h'.size ∧ Safe Z EL vm h' x) := ⟨CHr.keep K (fun x hx => by rw [List.mem_singleton.mp hx]; exact (hS a ha).2) H, fun x hx => Or.inl hx⟩
/-- the end -/
theorem OAt.done {v : Option Value} (hv : ret = none → v = none) (hq : ∀ S : Addr → Prop, (∀ x ∈ SF, S x) → Q v h S) (hc : cells ≤ R.cells) (hn : slots ≤ R.slots)
    (f : ∀ {p : Program} {e : Env} {s : State} {m : MethodId} {args : Array Value} {below : List Frame} {meth : Method} {c : Code} {T : State} {locs : List Loc} {fs : List Frame}, Cx Z EL bytes maxL own nm ret p s.vm m meth c → Stand p l e R s m args below meth c T locs cells slots →
      (∀ (f : JFrame) (acts : List Action), f.method = m → f.locked = none → f.entered = [] → (doReturn e (T.setTop f) acts v).1 = T.setFrames fs) → Steps p.tables e below (T.setTop (mkF m pc Ls st)) (T.setFrames fs)) : OAt EL l Z bytes maxL own nm ret R n0 h0 Q SF h cells slots pc Ls st :=
  fun p e s vm0 m args below meth c T locs C r X eT N => by
    have hl : meth.locks = false := C.2.2.2.2.1
    have hv' : meth.sig.returnType = none → v = none := fun q => hv (C.2.2.2.1.symm.trans q)
    obtain ⟨⟨k0, r1, r2⟩, r3, r4⟩ := r
    obtain ⟨ae, hE⟩ := C.2.2.2.2.2.2.2.2
    obtain ⟨fs, h1, h2, h3, h4⟩ := X.leaveW (v := v) r1 (by rw [eT]; exact r2) hv' hl
    have q := CHv.at X C.2.2.2.2.2.2.1 hE r3.1
    have hh : (T.setFrames fs).heap = h := eT
    have hvm : (T.setFrames fs).vm = T.vm := rfl
    refine ⟨_, _, f (s := s.setVm vm0) C X h1, h2, h3, v, locs, rfl, ⟨N, by rw [hh]; exact r3.2.1, by rw [hh, hvm]; exact r3.trans q, by rw [hh, hvm]; exact hq _ fun x hx => ⟨(r4 x hx).1, q.safe (r4 x hx).1 (r4 x hx).2⟩⟩, h4.1, h4.2.1, h4.2.2.1, h4.2.2.2.mono hc hn⟩
theorem iconst {i : Int} (v : Int32) (hd : decode bytes pc = .ok (.iconst i, 1)) (hv : Int32.ofInt i = v) (k : OAt EL l Z bytes maxL own nm ret R n0 h0 Q SF h cells slots (pc + 1) Ls (.int v :: st)) : OAt EL l Z bytes maxL own nm ret R n0 h0 Q SF h cells slots pc Ls st :=
  k.plain fun hh hx hby _ q => XS.iconst hh hx rfl (hb hby hd) (by rw [hv]; exact q)
theorem bipush {i : Int} (v : Int32) (hd : decode bytes pc = .ok (.bipush i, 2)) (hv : (Int8.ofInt i).toInt32 = v) (k : OAt EL l Z bytes maxL own nm ret R n0 h0 Q SF h cells slots (pc + 2) Ls (.int v :: st)) : OAt EL l Z bytes maxL own nm ret R n0 h0 Q SF h cells slots pc Ls st :=
  k.plain fun hh hx hby _ q => XS.bipush hh hx rfl (hb hby hd) (by rw [hv]; exact q)
theorem sipush {i : Int} (v : Int32) (hd : decode bytes pc = .ok (.sipush i, 3)) (hv : (Int16.ofInt i).toInt32 = v) (k : OAt EL l Z bytes maxL own nm ret R n0 h0 Q SF h cells slots (pc + 3) Ls (.int v :: st)) : OAt EL l Z bytes maxL own nm ret R n0 h0 Q SF h cells slots pc Ls st :=
  k.plain fun hh hx hby _ q => XS.sipush hh hx rfl (hb hby hd) (by rw [hv]; exact q)
theorem lconst {i : Fin 2} (v : Int64) (hd : decode bytes pc = .ok (.lconst i, 1)) (hv : Int64.ofNat i = v) (k : OAt EL l Z bytes maxL own nm ret R n0 h0 Q SF h cells slots (pc + 1) Ls (.long v :: st)) : OAt EL l Z bytes maxL own nm ret R n0 h0 Q SF h cells slots pc Ls st :=
  k.plain fun hh hx hby _ q => XS.lconst hh hx rfl (hb hby hd) (by rw [hv]; exact q)
theorem aconstNull (hd : decode bytes pc = .ok (.aconst_null, 1)) (k : OAt EL l Z bytes maxL own nm ret R n0 h0 Q SF h cells slots (pc + 1) Ls (.null :: st)) : OAt EL l Z bytes maxL own nm ret R n0 h0 Q SF h cells slots pc Ls st :=
  k.plain fun hh hx hby _ q => XS.aconstNull hh hx rfl (hb hby hd) q
theorem iload {i : Nat} {v : Int32} (hd : decode bytes pc = .ok (.iload i, 2)) (hl : Ls[i]? = some (.val (.int v))) (k : OAt EL l Z bytes maxL own nm ret R n0 h0 Q SF h cells slots (pc + 2) Ls (.int v :: st)) : OAt EL l Z bytes maxL own nm ret R n0 h0 Q SF h cells slots pc Ls st :=
  k.plain fun hh hx hby _ q => XS.iload hh hx rfl (hb hby hd) hl q
theorem iloadN {i : Fin 4} {v : Int32} (hd : decode bytes pc = .ok (.iload_n i, 1)) (hl : Ls[i.val]? = some (.val (.int v))) (k : OAt EL l Z bytes maxL own nm ret R n0 h0 Q SF h cells slots (pc + 1) Ls (.int v :: st)) : OAt EL l Z bytes maxL own nm ret R n0 h0 Q SF h cells slots pc Ls st :=
  k.plain fun hh hx hby _ q => XS.iloadN hh hx rfl (hb hby hd) hl q
theorem lload {i : Nat} {v : Int64} (hd : decode bytes pc = .ok (.lload i, 2)) (hl : Ls[i]? = some (.val (.long v))) (k : OAt EL l Z bytes maxL own nm ret R n0 h0 Q SF h cells slots (pc + 2) Ls (.long v :: st)) : OAt EL l Z bytes maxL own nm ret R n0 h0 Q SF h cells slots pc Ls st :=
  k.plain fun hh hx hby _ q => XS.lload hh hx rfl (hb hby hd) hl q
theorem lloadN {i : Fin 4} {v : Int64} (hd : decode bytes pc = .ok (.lload_n i, 1)) (hl : Ls[i.val]? = some (.val (.long v))) (k : OAt EL l Z bytes maxL own nm ret R n0 h0 Q SF h cells slots (pc + 1) Ls (.long v :: st)) : OAt EL l Z bytes maxL own nm ret R n0 h0 Q SF h cells slots pc Ls st :=
  k.plain fun hh hx hby _ q => XS.lloadN hh hx rfl (hb hby hd) hl q
theorem aload {i : Nat} {v : Value} (hd : decode bytes pc = .ok (.aload i, 2)) (hl : Ls[i]? = some (.val v)) (hv : v.isRef = true) (k : OAt EL l Z bytes maxL own nm ret R n0 h0 Q SF h cells slots (pc + 2) Ls (v :: st)) : OAt EL l Z bytes maxL own nm ret R n0 h0 Q SF h cells slots pc Ls st :=
  k.plain fun hh hx hby _ q => XS.aload hh hx rfl (hb hby hd) hl hv q
theorem aloadN {i : Fin 4} {v : Value} (hd : decode bytes pc = .ok (.aload_n i, 1)) (hl : Ls[i.val]? = some (.val v)) (hv : v.isRef = true) (k : OAt EL l Z bytes maxL own nm ret R n0 h0 Q SF h cells slots (pc + 1) Ls (v :: st)) : OAt EL l Z bytes maxL own nm ret R n0 h0 Q SF h cells slots pc Ls st :=
  k.plain fun hh hx hby _ q => XS.aloadN hh hx rfl (hb hby hd) hl hv q
theorem istore {i : Nat} {v : Int32} (L2 : Array Slot) (hd : decode bytes pc = .ok (.istore i, 2)) (hl : storeLocals Ls i (.int v) = some L2) (k : OAt EL l Z bytes maxL own nm ret R n0 h0 Q SF h cells slots (pc + 2) L2 st) : OAt EL l Z bytes maxL own nm ret R n0 h0 Q SF h cells slots pc Ls (.int v :: st) :=
  k.plain fun hh hx hby _ q => XS.istore hh hx rfl (hb hby hd) rfl hl q
theorem istoreN {i : Fin 4} {v : Int32} (L2 : Array Slot) (hd : decode bytes pc = .ok (.istore_n i, 1)) (hl : storeLocals Ls i.val (.int v) = some L2) (k : OAt EL l Z bytes maxL own nm ret R n0 h0 Q SF h cells slots (pc + 1) L2 st) : OAt EL l Z bytes maxL own nm ret R n0 h0 Q SF h cells slots pc Ls (.int v :: st) :=
  k.plain fun hh hx hby _ q => XS.istoreN hh hx rfl (hb hby hd) rfl hl q
theorem lstore {i : Nat} {v : Int64} (L2 : Array Slot) (hd : decode bytes pc = .ok (.lstore i, 2)) (hl : storeLocals Ls i (.long v) = some L2) (k : OAt EL l Z bytes maxL own nm ret R n0 h0 Q SF h cells slots (pc + 2) L2 st) : OAt EL l Z bytes maxL own nm ret R n0 h0 Q SF h cells slots pc Ls (.long v :: st) :=
  k.plain fun hh hx hby _ q => XS.lstore hh hx rfl (hb hby hd) rfl hl q
theorem lstoreN {i : Fin 4} {v : Int64} (L2 : Array Slot) (hd : decode bytes pc = .ok (.lstore_n i, 1)) (hl : storeLocals Ls i.val (.long v) = some L2) (k : OAt EL l Z bytes maxL own nm ret R n0 h0 Q SF h cells slots (pc + 1) L2 st) : OAt EL l Z bytes maxL own nm ret R n0 h0 Q SF h cells slots pc Ls (.long v :: st) :=
  k.plain fun hh hx hby _ q => XS.lstoreN hh hx rfl (hb hby hd) rfl hl q
theorem astore {i : Nat} {v : Value} (L2 : Array Slot) (hd : decode bytes pc = .ok (.astore i, 2)) (hv : v.isRef = true) (hl : storeLocals Ls i v = some L2) (k : OAt EL l Z bytes maxL own nm ret R n0 h0 Q SF h cells slots (pc + 2) L2 st) : OAt EL l Z bytes maxL own nm ret R n0 h0 Q SF h cells slots pc Ls (v :: st) :=
  k.plain fun hh hx hby _ q => XS.astore hh hx rfl (hb hby hd) rfl hv hl q
theorem astoreN {i : Fin 4} {v : Value} (L2 : Array Slot) (hd : decode bytes pc = .ok (.astore_n i, 1)) (hv : v.isRef = true) (hl : storeLocals Ls i.val v = some L2) (k : OAt EL l Z bytes maxL own nm ret R n0 h0 Q SF h cells slots (pc + 1) L2 st) : OAt EL l Z bytes maxL own nm ret R n0 h0 Q SF h cells slots pc Ls (v :: st) :=
  k.plain fun hh hx hby _ q => XS.astoreN hh hx rfl (hb hby hd) rfl hv hl q
theorem iinc {i : Nat} {z : Int} {v : Int32} (w : Int32) (L2 : Array Slot) (hd : decode bytes pc = .ok (.iinc i z, 3)) (hw : Int32.ofInt z = w) (hl : Ls[i]? = some (.val (.int v))) (hl' : storeLocals Ls i (.int (v + w)) = some L2) (k : OAt EL l Z bytes maxL own nm ret R n0 h0 Q SF h cells slots (pc + 3) L2 st) : OAt EL l Z bytes maxL own nm ret R n0 h0 Q SF h cells slots pc Ls st :=
  k.plain fun hh hx hby _ q => XS.iinc hh hx rfl (hb hby hd) hl (by rw [hw]; exact hl') q
theorem iadd {x y : Int32} (hd : decode bytes pc = .ok (.iadd, 1)) (k : OAt EL l Z bytes maxL own nm ret R n0 h0 Q SF h cells slots (pc + 1) Ls (.int (x + y) :: st)) : OAt EL l Z bytes maxL own nm ret R n0 h0 Q SF h cells slots pc Ls (.int y :: .int x :: st) :=
  k.plain fun hh hx hby _ q => XS.iadd hh hx rfl (hb hby hd) rfl q
theorem isub {x y : Int32} (hd : decode bytes pc = .ok (.isub, 1)) (k : OAt EL l Z bytes maxL own nm ret R n0 h0 Q SF h cells slots (pc + 1) Ls (.int (x - y) :: st)) : OAt EL l Z bytes maxL own nm ret R n0 h0 Q SF h cells slots pc Ls (.int y :: .int x :: st) :=
  k.plain fun hh hx hby _ q => XS.isub hh hx rfl (hb hby hd) rfl q
theorem imul {x y : Int32} (hd : decode bytes pc = .ok (.imul, 1)) (k : OAt EL l Z bytes maxL own nm ret R n0 h0 Q SF h cells slots (pc + 1) Ls (.int (x * y) :: st)) : OAt EL l Z bytes maxL own nm ret R n0 h0 Q SF h cells slots pc Ls (.int y :: .int x :: st) :=
  k.plain fun hh hx hby _ q => XS.imul hh hx rfl (hb hby hd) rfl q
theorem iand {x y : Int32} (hd : decode bytes pc = .ok (.iand, 1)) (k : OAt EL l Z bytes maxL own nm ret R n0 h0 Q SF h cells slots (pc + 1) Ls (.int (x &&& y) :: st)) : OAt EL l Z bytes maxL own nm ret R n0 h0 Q SF h cells slots pc Ls (.int y :: .int x :: st) :=
  k.plain fun hh hx hby _ q => XS.iand hh hx rfl (hb hby hd) rfl q
theorem ior {x y : Int32} (hd : decode bytes pc = .ok (.ior, 1)) (k : OAt EL l Z bytes maxL own nm ret R n0 h0 Q SF h cells slots (pc + 1) Ls (.int (x ||| y) :: st)) : OAt EL l Z bytes maxL own nm ret R n0 h0 Q SF h cells slots pc Ls (.int y :: .int x :: st) :=
  k.plain fun hh hx hby _ q => XS.ior hh hx rfl (hb hby hd) rfl q
theorem ixor {x y : Int32} (hd : decode bytes pc = .ok (.ixor, 1)) (k : OAt EL l Z bytes maxL own nm ret R n0 h0 Q SF h cells slots (pc + 1) Ls (.int (x ^^^ y) :: st)) : OAt EL l Z bytes maxL own nm ret R n0 h0 Q SF h cells slots pc Ls (.int y :: .int x :: st) :=
  k.plain fun hh hx hby _ q => XS.ixor hh hx rfl (hb hby hd) rfl q
theorem ishl {x y : Int32} (hd : decode bytes pc = .ok (.ishl, 1)) (k : OAt EL l Z bytes maxL own nm ret R n0 h0 Q SF h cells slots (pc + 1) Ls (.int (x <<< (y &&& 31)) :: st)) : OAt EL l Z bytes maxL own nm ret R n0 h0 Q SF h cells slots pc Ls (.int y :: .int x :: st) :=
  k.plain fun hh hx hby _ q => XS.ishl hh hx rfl (hb hby hd) rfl q
theorem ishr {x y : Int32} (hd : decode bytes pc = .ok (.ishr, 1)) (k : OAt EL l Z bytes maxL own nm ret R n0 h0 Q SF h cells slots (pc + 1) Ls (.int (x >>> (y &&& 31)) :: st)) : OAt EL l Z bytes maxL own nm ret R n0 h0 Q SF h cells slots pc Ls (.int y :: .int x :: st) :=
  k.plain fun hh hx hby _ q => XS.ishr hh hx rfl (hb hby hd) rfl q
theorem iushr {x y : Int32} (hd : decode bytes pc = .ok (.iushr, 1)) (k : OAt EL l Z bytes maxL own nm ret R n0 h0 Q SF h cells slots (pc + 1) Ls (.int ((x.toUInt32 >>> (y &&& 31).toUInt32).toInt32) :: st)) : OAt EL l Z bytes maxL own nm ret R n0 h0 Q SF h cells slots pc Ls (.int y :: .int x :: st) :=
  k.plain fun hh hx hby _ q => XS.iushr hh hx rfl (hb hby hd) rfl q
theorem idiv {x y : Int32} (hd : decode bytes pc = .ok (.idiv, 1)) (hy : y ≠ 0) (k : OAt EL l Z bytes maxL own nm ret R n0 h0 Q SF h cells slots (pc + 1) Ls (.int (x / y) :: st)) : OAt EL l Z bytes maxL own nm ret R n0 h0 Q SF h cells slots pc Ls (.int y :: .int x :: st) :=
  k.plain fun hh hx hby _ q => XS.idiv hh hx rfl (hb hby hd) rfl hy q
theorem ladd {x y : Int64} (hd : decode bytes pc = .ok (.ladd, 1)) (k : OAt EL l Z bytes maxL own nm ret R n0 h0 Q SF h cells slots (pc + 1) Ls (.long (x + y) :: st)) : OAt EL l Z bytes maxL own nm ret R n0 h0 Q SF h cells slots pc Ls (.long y :: .long x :: st) :=
  k.plain fun hh hx hby _ q => XS.ladd hh hx rfl (hb hby hd) rfl q
theorem lsub {x y : Int64} (hd : decode bytes pc = .ok (.lsub, 1)) (k : OAt EL l Z bytes maxL own nm ret R n0 h0 Q SF h cells slots (pc + 1) Ls (.long (x - y) :: st)) : OAt EL l Z bytes maxL own nm ret R n0 h0 Q SF h cells slots pc Ls (.long y :: .long x :: st) :=
  k.plain fun hh hx hby _ q => XS.lsub hh hx rfl (hb hby hd) rfl q
theorem lmul {x y : Int64} (hd : decode bytes pc = .ok (.lmul, 1)) (k : OAt EL l Z bytes maxL own nm ret R n0 h0 Q SF h cells slots (pc + 1) Ls (.long (x * y) :: st)) : OAt EL l Z bytes maxL own nm ret R n0 h0 Q SF h cells slots pc Ls (.long y :: .long x :: st) :=
  k.plain fun hh hx hby _ q => XS.lmul hh hx rfl (hb hby hd) rfl q
theorem land {x y : Int64} (hd : decode bytes pc = .ok (.land, 1)) (k : OAt EL l Z bytes maxL own nm ret R n0 h0 Q SF h cells slots (pc + 1) Ls (.long (x &&& y) :: st)) : OAt EL l Z bytes maxL own nm ret R n0 h0 Q SF h cells slots pc Ls (.long y :: .long x :: st) :=
  k.plain fun hh hx hby _ q => XS.land hh hx rfl (hb hby hd) rfl q
theorem lor {x y : Int64} (hd : decode bytes pc = .ok (.lor, 1)) (k : OAt EL l Z bytes maxL own nm ret R n0 h0 Q SF h cells slots (pc + 1) Ls (.long (x ||| y) :: st)) : OAt EL l Z bytes maxL own nm ret R n0 h0 Q SF h cells slots pc Ls (.long y :: .long x :: st) :=
  k.plain fun hh hx hby _ q => XS.lor hh hx rfl (hb hby hd) rfl q
theorem lxor {x y : Int64} (hd : decode bytes pc = .ok (.lxor, 1)) (k : OAt EL l Z bytes maxL own nm ret R n0 h0 Q SF h cells slots (pc + 1) Ls (.long (x ^^^ y) :: st)) : OAt EL l Z bytes maxL own nm ret R n0 h0 Q SF h cells slots pc Ls (.long y :: .long x :: st) :=
  k.plain fun hh hx hby _ q => XS.lxor hh hx rfl (hb hby hd) rfl q
theorem lshl {x : Int64} {y : Int32} (hd : decode bytes pc = .ok (.lshl, 1)) (k : OAt EL l Z bytes maxL own nm ret R n0 h0 Q SF h cells slots (pc + 1) Ls (.long (x <<< (y &&& 0x3f).toInt64) :: st)) : OAt EL l Z bytes maxL own nm ret R n0 h0 Q SF h cells slots pc Ls (.int y :: .long x :: st) :=
  k.plain fun hh hx hby _ q => XS.lshl hh hx rfl (hb hby hd) rfl q
theorem lshr {x : Int64} {y : Int32} (hd : decode bytes pc = .ok (.lshr, 1)) (k : OAt EL l Z bytes maxL own nm ret R n0 h0 Q SF h cells slots (pc + 1) Ls (.long (x >>> (y &&& 0x3f).toInt64) :: st)) : OAt EL l Z bytes maxL own nm ret R n0 h0 Q SF h cells slots pc Ls (.int y :: .long x :: st) :=
  k.plain fun hh hx hby _ q => XS.lshr hh hx rfl (hb hby hd) rfl q
theorem lushr {x : Int64} {y : Int32} (hd : decode bytes pc = .ok (.lushr, 1)) (k : OAt EL l Z bytes maxL own nm ret R n0 h0 Q SF h cells slots (pc + 1) Ls (.long ((x.toUInt64 >>> (y &&& 0x3f).toInt64.toUInt64).toInt64) :: st)) : OAt EL l Z bytes maxL own nm ret R n0 h0 Q SF h cells slots pc Ls (.int y :: .long x :: st) :=
  k.plain fun hh hx hby _ q => XS.lushr hh hx rfl (hb hby hd) rfl q
theorem ldiv {x y : Int64} (hd : decode bytes pc = .ok (.ldiv, 1)) (hy : y ≠ 0) (k : OAt EL l Z bytes maxL own nm ret R n0 h0 Q SF h cells slots (pc + 1) Ls (.long (x / y) :: st)) : OAt EL l Z bytes maxL own nm ret R n0 h0 Q SF h cells slots pc Ls (.long y :: .long x :: st) :=
  k.plain fun hh hx hby _ q => XS.ldiv hh hx rfl (hb hby hd) rfl hy q
theorem lrem {x y : Int64} (hd : decode bytes pc = .ok (.lrem, 1)) (hy : y ≠ 0) (k : OAt EL l Z bytes maxL own nm ret R n0 h0 Q SF h cells slots (pc + 1) Ls (.long (x - (x / y) * y) :: st)) : OAt EL l Z bytes maxL own nm ret R n0 h0 Q SF h cells slots pc Ls (.long y :: .long x :: st) :=
  k.plain fun hh hx hby _ q => XS.lrem hh hx rfl (hb hby hd) rfl hy q
theorem ineg {x : Int32} (hd : decode bytes pc = .ok (.ineg, 1)) (k : OAt EL l Z bytes maxL own nm ret R n0 h0 Q SF h cells slots (pc + 1) Ls (.int (-x) :: st)) : OAt EL l Z bytes maxL own nm ret R n0 h0 Q SF h cells slots pc Ls (.int x :: st) :=
  k.plain fun hh hx hby _ q => XS.ineg hh hx rfl (hb hby hd) rfl q
theorem lneg {x : Int64} (hd : decode bytes pc = .ok (.lneg, 1)) (k : OAt EL l Z bytes maxL own nm ret R n0 h0 Q SF h cells slots (pc + 1) Ls (.long (-x) :: st)) : OAt EL l Z bytes maxL own nm ret R n0 h0 Q SF h cells slots pc Ls (.long x :: st) :=
  k.plain fun hh hx hby _ q => XS.lneg hh hx rfl (hb hby hd) rfl q
theorem i2l {x : Int32} (hd : decode bytes pc = .ok (.i2l, 1)) (k : OAt EL l Z bytes maxL own nm ret R n0 h0 Q SF h cells slots (pc + 1) Ls (.long x.toInt64 :: st)) : OAt EL l Z bytes maxL own nm ret R n0 h0 Q SF h cells slots pc Ls (.int x :: st) :=
  k.plain fun hh hx hby _ q => XS.i2l hh hx rfl (hb hby hd) rfl q
theorem l2i {x : Int64} (hd : decode bytes pc = .ok (.l2i, 1)) (k : OAt EL l Z bytes maxL own nm ret R n0 h0 Q SF h cells slots (pc + 1) Ls (.int x.toInt32 :: st)) : OAt EL l Z bytes maxL own nm ret R n0 h0 Q SF h cells slots pc Ls (.long x :: st) :=
  k.plain fun hh hx hby _ q => XS.l2i hh hx rfl (hb hby hd) rfl q
theorem i2b {x : Int32} (hd : decode bytes pc = .ok (.i2b, 1)) (k : OAt EL l Z bytes maxL own nm ret R n0 h0 Q SF h cells slots (pc + 1) Ls (.int x.toInt8.toInt32 :: st)) : OAt EL l Z bytes maxL own nm ret R n0 h0 Q SF h cells slots pc Ls (.int x :: st) :=
  k.plain fun hh hx hby _ q => XS.i2b hh hx rfl (hb hby hd) rfl q
theorem i2s {x : Int32} (hd : decode bytes pc = .ok (.i2s, 1)) (k : OAt EL l Z bytes maxL own nm ret R n0 h0 Q SF h cells slots (pc + 1) Ls (.int x.toInt16.toInt32 :: st)) : OAt EL l Z bytes maxL own nm ret R n0 h0 Q SF h cells slots pc Ls (.int x :: st) :=
  k.plain fun hh hx hby _ q => XS.i2s hh hx rfl (hb hby hd) rfl q
theorem i2c {x : Int32} (hd : decode bytes pc = .ok (.i2c, 1)) (k : OAt EL l Z bytes maxL own nm ret R n0 h0 Q SF h cells slots (pc + 1) Ls (.int x.toUInt32.toUInt16.toUInt32.toInt32 :: st)) : OAt EL l Z bytes maxL own nm ret R n0 h0 Q SF h cells slots pc Ls (.int x :: st) :=
  k.plain fun hh hx hby _ q => XS.i2c hh hx rfl (hb hby hd) rfl q
theorem lcmp {x y : Int64} (hd : decode bytes pc = .ok (.lcmp, 1)) (k : OAt EL l Z bytes maxL own nm ret R n0 h0 Q SF h cells slots (pc + 1) Ls (.int (lcmpV x y) :: st)) : OAt EL l Z bytes maxL own nm ret R n0 h0 Q SF h cells slots pc Ls (.long y :: .long x :: st) :=
  k.plain fun hh hx hby _ q => XS.lcmp hh hx rfl (hb hby hd) rfl (by rw [← lcW] at q; exact q)
theorem pop {v : Value} (hd : decode bytes pc = .ok (.pop, 1)) (hc : v.category = 1) (k : OAt EL l Z bytes maxL own nm ret R n0 h0 Q SF h cells slots (pc + 1) Ls st) : OAt EL l Z bytes maxL own nm ret R n0 h0 Q SF h cells slots pc Ls (v :: st) :=
  k.plain fun hh hx hby _ q => XS.pop hh hx rfl (hb hby hd) rfl hc q
theorem dup {v : Value} (hd : decode bytes pc = .ok (.dup, 1)) (hc : v.category = 1) (k : OAt EL l Z bytes maxL own nm ret R n0 h0 Q SF h cells slots (pc + 1) Ls (v :: v :: st)) : OAt EL l Z bytes maxL own nm ret R n0 h0 Q SF h cells slots pc Ls (v :: st) :=
  k.plain fun hh hx hby _ q => XS.dup hh hx rfl (hb hby hd) rfl hc q
theorem dupX1 {v w : Value} (hd : decode bytes pc = .ok (.dup_x1, 1)) (hc : v.category = 1) (hc' : w.category = 1) (k : OAt EL l Z bytes maxL own nm ret R n0 h0 Q SF h cells slots (pc + 1) Ls (v :: w :: v :: st)) : OAt EL l Z bytes maxL own nm ret R n0 h0 Q SF h cells slots pc Ls (v :: w :: st) :=
  k.plain fun hh hx hby _ q => XS.dupX1 hh hx rfl (hb hby hd) rfl hc hc' q
theorem dup2 {v w : Value} (hd : decode bytes pc = .ok (.dup2, 1)) (hc : v.category = 1) (hc' : w.category = 1) (k : OAt EL l Z bytes maxL own nm ret R n0 h0 Q SF h cells slots (pc + 1) Ls (v :: w :: v :: w :: st)) : OAt EL l Z bytes maxL own nm ret R n0 h0 Q SF h cells slots pc Ls (v :: w :: st) :=
  k.plain fun hh hx hby _ q => Jvm.Free.XT.dup2 hh hx rfl (hb hby hd) rfl hc hc' q
theorem dup2L {x : Int64} (hd : decode bytes pc = .ok (.dup2, 1)) (k : OAt EL l Z bytes maxL own nm ret R n0 h0 Q SF h cells slots (pc + 1) Ls (.long x :: .long x :: st)) : OAt EL l Z bytes maxL own nm ret R n0 h0 Q SF h cells slots pc Ls (.long x :: st) :=
  k.plain fun hh hx hby _ q => Jvm.Free.XT.dup2L hh hx rfl (hb hby hd) rfl q
theorem goto_ {o : Int} (pc' : Nat) (hd : decode bytes pc = .ok (.goto o, 3)) (ho : 0 ≤ (pc : Int) + o) (hp : ((pc : Int) + o).toNat = pc') (k : OAt EL l Z bytes maxL own nm ret R n0 h0 Q SF h cells slots pc' Ls st) : OAt EL l Z bytes maxL own nm ret R n0 h0 Q SF h cells slots pc Ls st :=
  k.plain fun hh hx hby _ q => XS.goto hh hx rfl rfl (hb hby hd) ho hp q
theorem icmp_eq {x y : Int32} {o : Int} (pc' : Nat) (hd : decode bytes pc = .ok (.if_icmp .eq o, 3)) (ho : 0 ≤ (pc : Int) + o) (hp : ((pc : Int) + o).toNat = pc') (kt : x = y → OAt EL l Z bytes maxL own nm ret R n0 h0 Q SF h cells slots pc' Ls st) (kf : ¬ x = y → OAt EL l Z bytes maxL own nm ret R n0 h0 Q SF h cells slots (pc + 3) Ls st) : OAt EL l Z bytes maxL own nm ret R n0 h0 Q SF h cells slots pc Ls (.int y :: .int x :: st) := by
  by_cases hc : x = y
  · exact (kt hc).plain fun hh hx hby _ q => XS.icmpYes hh hx rfl rfl (hb hby hd) rfl (teq hc).1 ho hp q
  · exact (kf hc).plain fun hh hx hby _ q => XS.icmpNo hh hx rfl (hb hby hd) rfl (feq hc).1 q
theorem if_eq {x : Int32} {o : Int} (pc' : Nat) (hd : decode bytes pc = .ok (.ifCond .eq o, 3)) (ho : 0 ≤ (pc : Int) + o) (hp : ((pc : Int) + o).toNat = pc') (kt : x = (0 : Int32) → OAt EL l Z bytes maxL own nm ret R n0 h0 Q SF h cells slots pc' Ls st) (kf : ¬ x = (0 : Int32) → OAt EL l Z bytes maxL own nm ret R n0 h0 Q SF h cells slots (pc + 3) Ls st) : OAt EL l Z bytes maxL own nm ret R n0 h0 Q SF h cells slots pc Ls (.int x :: st) := by
  by_cases hc : x = (0 : Int32)
  · exact (kt hc).plain fun hh hx hby _ q => XS.ifYes hh hx rfl rfl (hb hby hd) rfl ((if0 _ _).trans (teq hc).1) ho hp q
  · exact (kf hc).plain fun hh hx hby _ q => XS.ifNo hh hx rfl (hb hby hd) rfl ((if0 _ _).trans (feq hc).1) q
theorem icmp_ne {x y : Int32} {o : Int} (pc' : Nat) (hd : decode bytes pc = .ok (.if_icmp .ne o, 3)) (ho : 0 ≤ (pc : Int) + o) (hp : ((pc : Int) + o).toNat = pc') (kt : ¬ x = y → OAt EL l Z bytes maxL own nm ret R n0 h0 Q SF h cells slots pc' Ls st) (kf : x = y → OAt EL l Z bytes maxL own nm ret R n0 h0 Q SF h cells slots (pc + 3) Ls st) : OAt EL l Z bytes maxL own nm ret R n0 h0 Q SF h cells slots pc Ls (.int y :: .int x :: st) := by
  by_cases hc : ¬ x = y
  · exact (kt hc).plain fun hh hx hby _ q => XS.icmpYes hh hx rfl rfl (hb hby hd) rfl (feq hc).2 ho hp q
  · have hc' := Classical.not_not.mp hc; exact (kf hc').plain fun hh hx hby _ q => XS.icmpNo hh hx rfl (hb hby hd) rfl (teq hc').2 q
theorem if_ne {x : Int32} {o : Int} (pc' : Nat) (hd : decode bytes pc = .ok (.ifCond .ne o, 3)) (ho : 0 ≤ (pc : Int) + o) (hp : ((pc : Int) + o).toNat = pc') (kt : ¬ x = (0 : Int32) → OAt EL l Z bytes maxL own nm ret R n0 h0 Q SF h cells slots pc' Ls st) (kf : x = (0 : Int32) → OAt EL l Z bytes maxL own nm ret R n0 h0 Q SF h cells slots (pc + 3) Ls st) : OAt EL l Z bytes maxL own nm ret R n0 h0 Q SF h cells slots pc Ls (.int x :: st) := by
  by_cases hc : ¬ x = (0 : Int32)
  · exact (kt hc).plain fun hh hx hby _ q => XS.ifYes hh hx rfl rfl (hb hby hd) rfl ((if0 _ _).trans (feq hc).2) ho hp q
  · have hc' := Classical.not_not.mp hc; exact (kf hc').plain fun hh hx hby _ q => XS.ifNo hh hx rfl (hb hby hd) rfl ((if0 _ _).trans (teq hc').2) q
theorem icmp_lt {x y : Int32} {o : Int} (pc' : Nat) (hd : decode bytes pc = .ok (.if_icmp .lt o, 3)) (ho : 0 ≤ (pc : Int) + o) (hp : ((pc : Int) + o).toNat = pc') (kt : x < y → OAt EL l Z bytes maxL own nm ret R n0 h0 Q SF h cells slots pc' Ls st) (kf : ¬ x < y → OAt EL l Z bytes maxL own nm ret R n0 h0 Q SF h cells slots (pc + 3) Ls st) : OAt EL l Z bytes maxL own nm ret R n0 h0 Q SF h cells slots pc Ls (.int y :: .int x :: st) := by
  by_cases hc : x < y
  · exact (kt hc).plain fun hh hx hby _ q => XS.icmpYes hh hx rfl rfl (hb hby hd) rfl (tlt hc).1 ho hp q
  · exact (kf hc).plain fun hh hx hby _ q => XS.icmpNo hh hx rfl (hb hby hd) rfl (flt hc).1 q
theorem if_lt {x : Int32} {o : Int} (pc' : Nat) (hd : decode bytes pc = .ok (.ifCond .lt o, 3)) (ho : 0 ≤ (pc : Int) + o) (hp : ((pc : Int) + o).toNat = pc') (kt : x < (0 : Int32) → OAt EL l Z bytes maxL own nm ret R n0 h0 Q SF h cells slots pc' Ls st) (kf : ¬ x < (0 : Int32) → OAt EL l Z bytes maxL own nm ret R n0 h0 Q SF h cells slots (pc + 3) Ls st) : OAt EL l Z bytes maxL own nm ret R n0 h0 Q SF h cells slots pc Ls (.int x :: st) := by
  by_cases hc : x < (0 : Int32)
  · exact (kt hc).plain fun hh hx hby _ q => XS.ifYes hh hx rfl rfl (hb hby hd) rfl ((if0 _ _).trans (tlt hc).1) ho hp q
  · exact (kf hc).plain fun hh hx hby _ q => XS.ifNo hh hx rfl (hb hby hd) rfl ((if0 _ _).trans (flt hc).1) q
theorem icmp_ge {x y : Int32} {o : Int} (pc' : Nat) (hd : decode bytes pc = .ok (.if_icmp .ge o, 3)) (ho : 0 ≤ (pc : Int) + o) (hp : ((pc : Int) + o).toNat = pc') (kt : ¬ x < y → OAt EL l Z bytes maxL own nm ret R n0 h0 Q SF h cells slots pc' Ls st) (kf : x < y → OAt EL l Z bytes maxL own nm ret R n0 h0 Q SF h cells slots (pc + 3) Ls st) : OAt EL l Z bytes maxL own nm ret R n0 h0 Q SF h cells slots pc Ls (.int y :: .int x :: st) := by
  by_cases hc : ¬ x < y
  · exact (kt hc).plain fun hh hx hby _ q => XS.icmpYes hh hx rfl rfl (hb hby hd) rfl (flt hc).2.1 ho hp q
  · have hc' := Classical.not_not.mp hc; exact (kf hc').plain fun hh hx hby _ q => XS.icmpNo hh hx rfl (hb hby hd) rfl (tlt hc').2.1 q
theorem if_ge {x : Int32} {o : Int} (pc' : Nat) (hd : decode bytes pc = .ok (.ifCond .ge o, 3)) (ho : 0 ≤ (pc : Int) + o) (hp : ((pc : Int) + o).toNat = pc') (kt : ¬ x < (0 : Int32) → OAt EL l Z bytes maxL own nm ret R n0 h0 Q SF h cells slots pc' Ls st) (kf : x < (0 : Int32) → OAt EL l Z bytes maxL own nm ret R n0 h0 Q SF h cells slots (pc + 3) Ls st) : OAt EL l Z bytes maxL own nm ret R n0 h0 Q SF h cells slots pc Ls (.int x :: st) := by
  by_cases hc : ¬ x < (0 : Int32)
  · exact (kt hc).plain fun hh hx hby _ q => XS.ifYes hh hx rfl rfl (hb hby hd) rfl ((if0 _ _).trans (flt hc).2.1) ho hp q
  · have hc' := Classical.not_not.mp hc; exact (kf hc').plain fun hh hx hby _ q => XS.ifNo hh hx rfl (hb hby hd) rfl ((if0 _ _).trans (tlt hc').2.1) q
theorem icmp_gt {x y : Int32} {o : Int} (pc' : Nat) (hd : decode bytes pc = .ok (.if_icmp .gt o, 3)) (ho : 0 ≤ (pc : Int) + o) (hp : ((pc : Int) + o).toNat = pc') (kt : y < x → OAt EL l Z bytes maxL own nm ret R n0 h0 Q SF h cells slots pc' Ls st) (kf : ¬ y < x → OAt EL l Z bytes maxL own nm ret R n0 h0 Q SF h cells slots (pc + 3) Ls st) : OAt EL l Z bytes maxL own nm ret R n0 h0 Q SF h cells slots pc Ls (.int y :: .int x :: st) := by
  by_cases hc : y < x
  · exact (kt hc).plain fun hh hx hby _ q => XS.icmpYes hh hx rfl rfl (hb hby hd) rfl (tlt hc).2.2.1 ho hp q
  · exact (kf hc).plain fun hh hx hby _ q => XS.icmpNo hh hx rfl (hb hby hd) rfl (flt hc).2.2.1 q
theorem if_gt {x : Int32} {o : Int} (pc' : Nat) (hd : decode bytes pc = .ok (.ifCond .gt o, 3)) (ho : 0 ≤ (pc : Int) + o) (hp : ((pc : Int) + o).toNat = pc') (kt : (0 : Int32) < x → OAt EL l Z bytes maxL own nm ret R n0 h0 Q SF h cells slots pc' Ls st) (kf : ¬ (0 : Int32) < x → OAt EL l Z bytes maxL own nm ret R n0 h0 Q SF h cells slots (pc + 3) Ls st) : OAt EL l Z bytes maxL own nm ret R n0 h0 Q SF h cells slots pc Ls (.int x :: st) := by
  by_cases hc : (0 : Int32) < x
  · exact (kt hc).plain fun hh hx hby _ q => XS.ifYes hh hx rfl rfl (hb hby hd) rfl ((if0 _ _).trans (tlt hc).2.2.1) ho hp q
  · exact (kf hc).plain fun hh hx hby _ q => XS.ifNo hh hx rfl (hb hby hd) rfl ((if0 _ _).trans (flt hc).2.2.1) q
theorem icmp_le {x y : Int32} {o : Int} (pc' : Nat) (hd : decode bytes pc = .ok (.if_icmp .le o, 3)) (ho : 0 ≤ (pc : Int) + o) (hp : ((pc : Int) + o).toNat = pc') (kt : ¬ y < x → OAt EL l Z bytes maxL own nm ret R n0 h0 Q SF h cells slots pc' Ls st) (kf : y < x → OAt EL l Z bytes maxL own nm ret R n0 h0 Q SF h cells slots (pc + 3) Ls st) : OAt EL l Z bytes maxL own nm ret R n0 h0 Q SF h cells slots pc Ls (.int y :: .int x :: st) := by
  by_cases hc : ¬ y < x
  · exact (kt hc).plain fun hh hx hby _ q => XS.icmpYes hh hx rfl rfl (hb hby hd) rfl (flt hc).2.2.2 ho hp q
  · have hc' := Classical.not_not.mp hc; exact (kf hc').plain fun hh hx hby _ q => XS.icmpNo hh hx rfl (hb hby hd) rfl (tlt hc').2.2.2 q
theorem if_le {x : Int32} {o : Int} (pc' : Nat) (hd : decode bytes pc = .ok (.ifCond .le o, 3)) (ho : 0 ≤ (pc : Int) + o) (hp : ((pc : Int) + o).toNat = pc') (kt : ¬ (0 : Int32) < x → OAt EL l Z bytes maxL own nm ret R n0 h0 Q SF h cells slots pc' Ls st) (kf : (0 : Int32) < x → OAt EL l Z bytes maxL own nm ret R n0 h0 Q SF h cells slots (pc + 3) Ls st) : OAt EL l Z bytes maxL own nm ret R n0 h0 Q SF h cells slots pc Ls (.int x :: st) := by
  by_cases hc : ¬ (0 : Int32) < x
  · exact (kt hc).plain fun hh hx hby _ q => XS.ifYes hh hx rfl rfl (hb hby hd) rfl ((if0 _ _).trans (flt hc).2.2.2) ho hp q
  · have hc' := Classical.not_not.mp hc; exact (kf hc').plain fun hh hx hby _ q => XS.ifNo hh hx rfl (hb hby hd) rfl ((if0 _ _).trans (tlt hc').2.2.2) q
theorem ifnullYes {o : Int} (pc' : Nat) (hd : decode bytes pc = .ok (.ifnull o, 3)) (ho : 0 ≤ (pc : Int) + o) (hp : ((pc : Int) + o).toNat = pc') (k : OAt EL l Z bytes maxL own nm ret R n0 h0 Q SF h cells slots pc' Ls st) : OAt EL l Z bytes maxL own nm ret R n0 h0 Q SF h cells slots pc Ls (.null :: st) :=
  k.plain fun hh hx hby _ q => XS.ifnullYes hh hx rfl rfl (hb hby hd) rfl ho hp q
theorem ifnullNo {b : Addr} {o : Int} (hd : decode bytes pc = .ok (.ifnull o, 3)) (k : OAt EL l Z bytes maxL own nm ret R n0 h0 Q SF h cells slots (pc + 3) Ls st) : OAt EL l Z bytes maxL own nm ret R n0 h0 Q SF h cells slots pc Ls (.ref b :: st) :=
  k.plain fun hh hx hby _ q => XS.ifnullNo hh hx rfl (hb hby hd) rfl q
theorem ifnonnullYes {b : Addr} {o : Int} (pc' : Nat) (hd : decode bytes pc = .ok (.ifnonnull o, 3)) (ho : 0 ≤ (pc : Int) + o) (hp : ((pc : Int) + o).toNat = pc') (k : OAt EL l Z bytes maxL own nm ret R n0 h0 Q SF h cells slots pc' Ls st) : OAt EL l Z bytes maxL own nm ret R n0 h0 Q SF h cells slots pc Ls (.ref b :: st) :=
  k.plain fun hh hx hby _ q => XS.ifnonnullYes hh hx rfl rfl (hb hby hd) rfl ho hp q
theorem ifnonnullNo {o : Int} (hd : decode bytes pc = .ok (.ifnonnull o, 3)) (k : OAt EL l Z bytes maxL own nm ret R n0 h0 Q SF h cells slots (pc + 3) Ls st) : OAt EL l Z bytes maxL own nm ret R n0 h0 Q SF h cells slots pc Ls (.null :: st) :=
  k.plain fun hh hx hby _ q => XS.ifnonnullNo hh hx rfl (hb hby hd) rfl q
theorem acmp_eq {x y : Value} {o : Int} (pc' : Nat) (hd : decode bytes pc = .ok (.if_acmp .eq o, 3)) (ho : 0 ≤ (pc : Int) + o) (hp : ((pc : Int) + o).toNat = pc') (hx' : x.isRef = true) (hy' : y.isRef = true) (kt : x = y → OAt EL l Z bytes maxL own nm ret R n0 h0 Q SF h cells slots pc' Ls st) (kf : ¬ x = y → OAt EL l Z bytes maxL own nm ret R n0 h0 Q SF h cells slots (pc + 3) Ls st) : OAt EL l Z bytes maxL own nm ret R n0 h0 Q SF h cells slots pc Ls (y :: x :: st) := by
  by_cases hc : x = y
  · exact (kt hc).plain fun hh hx hby _ q => Jvm.Free.XT.acmpYes hh hx rfl rfl (hb hby hd) rfl hx' hy' (Jvm.Free.XT.aa_eq_t hc) ho hp q
  · exact (kf hc).plain fun hh hx hby _ q => Jvm.Free.XT.acmpNo hh hx rfl (hb hby hd) rfl hx' hy' (Jvm.Free.XT.aa_eq_f hc) q
theorem acmp_ne {x y : Value} {o : Int} (pc' : Nat) (hd : decode bytes pc = .ok (.if_acmp .ne o, 3)) (ho : 0 ≤ (pc : Int) + o) (hp : ((pc : Int) + o).toNat = pc') (hx' : x.isRef = true) (hy' : y.isRef = true) (kt : ¬ x = y → OAt EL l Z bytes maxL own nm ret R n0 h0 Q SF h cells slots pc' Ls st) (kf : x = y → OAt EL l Z bytes maxL own nm ret R n0 h0 Q SF h cells slots (pc + 3) Ls st) : OAt EL l Z bytes maxL own nm ret R n0 h0 Q SF h cells slots pc Ls (y :: x :: st) := by
  by_cases hc : ¬ x = y
  · exact (kt hc).plain fun hh hx hby _ q => Jvm.Free.XT.acmpYes hh hx rfl rfl (hb hby hd) rfl hx' hy' (Jvm.Free.XT.aa_ne_t hc) ho hp q
  · have hc' := Classical.not_not.mp hc; exact (kf hc').plain fun hh hx hby _ q => Jvm.Free.XT.acmpNo hh hx rfl (hb hby hd) rfl hx' hy' (Jvm.Free.XT.aa_ne_f hc') q
theorem irem_ {x y : Int32} (hd : decode bytes pc = .ok (.irem, 1)) (hy : y ≠ 0) (k : OAt EL l Z bytes maxL own nm ret R n0 h0 Q SF h cells slots (pc + 1) Ls (.int (x % y) :: st)) : OAt EL l Z bytes maxL own nm ret R n0 h0 Q SF h cells slots pc Ls (.int y :: .int x :: st) :=
  k.warm fun C X e => ⟨_, X, e, fun _ q => iremM X C.1 rfl (hb C.2.1 hd) rfl hy q⟩
theorem ldcInt {v : Int32} {i : Nat} (w : (Jvm.Cond.constant own i v).before a0 Z = true) (hd : decode bytes pc = .ok (.ldc i, 2)) (k : OAt EL l Z bytes maxL own nm ret R n0 h0 Q SF h cells slots (pc + 2) Ls (.int v :: st)) : OAt EL l Z bytes maxL own nm ret R n0 h0 Q SF h cells slots pc Ls st :=
  k.warm fun C X e => ⟨_, X, e, fun _ q => X.ldcI C.1 C.2.2.2.2.2.2.2.1 (mvT C.2.2.2.2.2.2.1 w) rfl (hb C.2.1 hd) q⟩
theorem ldcWInt {v : Int32} {i : Nat} (w : (Jvm.Cond.constant own i v).before a0 Z = true) (hd : decode bytes pc = .ok (.ldc_w i, 3)) (k : OAt EL l Z bytes maxL own nm ret R n0 h0 Q SF h cells slots (pc + 3) Ls (.int v :: st)) : OAt EL l Z bytes maxL own nm ret R n0 h0 Q SF h cells slots pc Ls st :=
  k.warm fun C X e => ⟨_, X, e, fun _ q => X.ldcWI C.1 C.2.2.2.2.2.2.2.1 (mvT C.2.2.2.2.2.2.1 w) rfl (hb C.2.1 hd) q⟩
theorem ldc2Long {v : Int64} {i : Nat} (w : (Jvm.Cond.constantLong own i v).before a0 Z = true) (hd : decode bytes pc = .ok (.ldc2_w i, 3)) (k : OAt EL l Z bytes maxL own nm ret R n0 h0 Q SF h cells slots (pc + 3) Ls (.long v :: st)) : OAt EL l Z bytes maxL own nm ret R n0 h0 Q SF h cells slots pc Ls st :=
  k.warm fun C X e => ⟨_, X, e, fun _ q => X.ldc2J C.1 C.2.2.2.2.2.2.2.1 (mvT C.2.2.2.2.2.2.1 w) rfl (hb C.2.1 hd) q⟩
/-! returns -/
theorem ret_int {z : Int32} (hret : ret = some .int) (hd : decode bytes pc = .ok (.ireturn, 1)) (hc : cells ≤ R.cells) (hn : slots ≤ R.slots) (hq : ∀ S : Addr → Prop, (∀ x ∈ SF, S x) → Q (some (.int z)) h S) : OAt EL l Z bytes maxL own nm ret R n0 h0 Q SF h cells slots pc Ls (.int z :: st) :=
  OAt.done (by rw [hret]; nofun) hq hc hn fun C X hl => retOut X C.1 (t := .int) (C.2.2.2.1.trans hret) rfl (Or.inl ⟨rfl, Or.inl rfl, z, rfl⟩) (hb C.2.1 hd) hl
theorem ret_nar {z : Int32} {t : FieldType} (ht : t = .boolean ∨ t = .byte ∨ t = .char ∨ t = .short) (hret : ret = some t) (hd : decode bytes pc = .ok (.ireturn, 1)) (hc : cells ≤ R.cells) (hn : slots ≤ R.slots) (hq : ∀ S : Addr → Prop, (∀ x ∈ SF, S x) → Q (some (.int (nar t z))) h S) : OAt EL l Z bytes maxL own nm ret R n0 h0 Q SF h cells slots pc Ls (.int z :: st) :=
  OAt.done (by rw [hret]; nofun) hq hc hn fun C X hl => retN X C.1 (C.2.2.2.1.trans hret) ht (hb C.2.1 hd) hl
theorem ret_long {z : Int64} (hret : ret = some .long) (hd : decode bytes pc = .ok (.lreturn, 1)) (hc : cells ≤ R.cells) (hn : slots ≤ R.slots) (hq : ∀ S : Addr → Prop, (∀ x ∈ SF, S x) → Q (some (.long z)) h S) : OAt EL l Z bytes maxL own nm ret R n0 h0 Q SF h cells slots pc Ls (.long z :: st) :=
  OAt.done (by rw [hret]; nofun) hq hc hn fun C X hl => retOut X C.1 (t := .long) (C.2.2.2.1.trans hret) rfl (Or.inr (Or.inl ⟨rfl, rfl, z, rfl⟩)) (hb C.2.1 hd) hl
theorem ret_ref {v : Value} {t : FieldType} (hv : v.isRef = true) (ht : t.isReference = true) (hret : ret = some t) (hd : decode bytes pc = .ok (.areturn, 1)) (hc : cells ≤ R.cells) (hn : slots ≤ R.slots) (hq : ∀ S : Addr → Prop, (∀ x ∈ SF, S x) → Q (some v) h S) : OAt EL l Z bytes maxL own nm ret R n0 h0 Q SF h cells slots pc Ls (v :: st) :=
  OAt.done (by rw [hret]; nofun) hq hc hn fun C X hl => retOut X C.1 (t := t) (C.2.2.2.1.trans hret) (by rcases ref_cases hv with rfl | ⟨a, rfl⟩ <;> cases t <;> first | rfl | (simp [FieldType.isReference] at ht)) (Or.inr (Or.inr (Or.inr (Or.inr ⟨rfl, ht, hv⟩)))) (hb C.2.1 hd) hl
theorem ret_void (hret : ret = none) (hd : decode bytes pc = .ok (.return_, 1)) (hc : cells ≤ R.cells) (hn : slots ≤ R.slots) (hq : ∀ S : Addr → Prop, (∀ x ∈ SF, S x) → Q none h S) : OAt EL l Z bytes maxL own nm ret R n0 h0 Q SF h cells slots pc Ls [] :=
  OAt.done (fun _ => rfl) hq hc hn fun C X hl => X.returnOut C.1 (C.2.2.2.1.trans hret) (hb C.2.1 hd) hl

theorem Cx.exec {p : Program} {vm0 : Vm} {m : MethodId} {meth : Method} {c : Code} (C : Cx Z EL bytes maxL own nm ret p vm0 m meth c) : p.tables.exec = Jvm.exec := C.1
theorem Cx.by {p : Program} {vm0 : Vm} {m : MethodId} {meth : Method} {c : Code} (C : Cx Z EL bytes maxL own nm ret p vm0 m meth c) : c.code = bytes := C.2.1
theorem Cx.ml {p : Program} {vm0 : Vm} {m : MethodId} {meth : Method} {c : Code} (C : Cx Z EL bytes maxL own nm ret p vm0 m meth c) : c.maxLocals = maxL := C.2.2.1
theorem Cx.name {p : Program} {vm0 : Vm} {m : MethodId} {meth : Method} {c : Code} (C : Cx Z EL bytes maxL own nm ret p vm0 m meth c) : meth.name = nm := C.2.2.2.2.2.1
theorem Cx.zz {p : Program} {vm0 : Vm} {m : MethodId} {meth : Method} {c : Code} (C : Cx Z EL bytes maxL own nm ret p vm0 m meth c) : Z.Warmed39 vm0 := C.2.2.2.2.2.2.1
theorem Cx.ow {p : Program} {vm0 : Vm} {m : MethodId} {meth : Method} {c : Code} (C : Cx Z EL bytes maxL own nm ret p vm0 m meth c) : vm0.findClass own = some m.cls := C.2.2.2.2.2.2.2.1
/-! objects and fields -/
theorem new_ {C : String} {i n : Nat} (w : (Jvm.Cond.classLink own i C).before a0 Z = true) (wi : (Jvm.Cond.instantiable C n).before a0 Z = true) (wz : (Jvm.Cond.initialized C).before a0 Z = true) (hd : decode bytes pc = .ok (.new i, 3)) (hc : cells + 1 ≤ R.cells) (hl : slots + n ≤ R.slots)
    (k : ∀ (h' : Heap) (a : Addr), a = h.size → Ext h h' → Exa Z h' a C → (∀ {O f d : String} {ty : FieldType}, Laid Z a0 C O f d → parseFieldDescriptor d = some ty → Fld Z h' a O f d (defaultValue ty)) → OAt EL l Z bytes maxL own nm ret R n0 h0 Q (a :: SF) h' (cells + 1) (slots + n) (pc + 3) Ls (.ref a :: st)) : OAt EL l Z bytes maxL own nm ret R n0 h0 Q SF h cells slots pc Ls st :=
  OAt.move (P := fun h' => Ext h h' ∧ Exa Z h' h.size C ∧ ∀ {O f d : String} {ty : FieldType}, Laid Z a0 C O f d → parseFieldDescriptor d = some ty → Fld Z h' h.size O f d (defaultValue ty)) (st' := fun _ => .ref h.size :: st) (SF' := fun _ => h.size :: SF) (fun h' vm hal H hS q => sf_ext q.1 H rfl q.2.1.lt) (fun h' q => k h' _ rfl q.1 q.2.1 q.2.2) fun C X e N => by
    obtain ⟨T', h', X', e', E, A, D, -, g⟩ := newO X C.exec C.zz C.ow w wi wz e (g := mkF _ pc Ls st) rfl (hb C.by hd) hc hl
    exact ⟨T', h', _, X', e', N, ⟨E, A, D⟩, g⟩
theorem getF_ {R0 O f d host : String} {i : Nat} {a : Addr} {v : Value} (w : (Jvm.Cond.fieldLink own i R0 f d).before a0 Z = true ∨ (Jvm.Cond.fieldLinkNest own i R0 f d host).before a0 Z = true) (via : Via Z R0 O f d) (F : Fld Z h a O f d v) (hd : decode bytes pc = .ok (.getfield i, 3)) (k : OAt EL l Z bytes maxL own nm ret R n0 h0 Q SF h cells slots (pc + 3) Ls (v :: st)) : OAt EL l Z bytes maxL own nm ret R n0 h0 Q SF h cells slots pc Ls (.ref a :: st) :=
  k.warm fun C X e => Jvm.RoadKit.getF X C.exec C.zz C.ow w via e F (g := mkF _ pc Ls (.ref a :: st)) rfl rfl (hb C.by hd)
theorem getS_ {R0 O f d host : String} {i : Nat} {v : Value} (w : (Jvm.Cond.fieldLink own i R0 f d).before a0 Z = true ∨ (Jvm.Cond.fieldLinkNest own i R0 f d host).before a0 Z = true) (via : Via Z R0 O f d) (F : Sta Z h O f d v) (hd : decode bytes pc = .ok (.getstatic i, 3)) (k : OAt EL l Z bytes maxL own nm ret R n0 h0 Q SF h cells slots (pc + 3) Ls (v :: st)) : OAt EL l Z bytes maxL own nm ret R n0 h0 Q SF h cells slots pc Ls st :=
  k.warm fun C X e => getS2 X C.exec C.zz C.ow w via e F (g := mkF _ pc Ls st) rfl (hb C.by hd)
theorem putF_ {R0 O f d host K : String} {i kk : Nat} {ty : FieldType} {a : Addr} {v old : Value} (w : (Jvm.Cond.fieldLink own i R0 f d).before a0 Z = true ∨ (Jvm.Cond.fieldLinkNest own i R0 f d host).before a0 Z = true) (via : Via Z R0 O f d) (F : Fld Z h a O f d old) (E : Exa Z h a K)
    (L : (Jvm.Cond.lays K O f d).before a0 Z = true ∨ ((Jvm.Cond.laysFinal K O f d).before a0 Z = true ∧ own = O ∧ nm = "<init>")) (wi : (Jvm.Cond.instantiable K kk).before a0 Z = true) (hty : parseFieldDescriptor d = some ty) (hn : narrow ty v = v) (hf : fits ty v = true) (ha : n0 ≤ a) (hsf : a ∈ SF) (hd : decode bytes pc = .ok (.putfield i, 3))
    (k : ∀ h', Wr h h' a (Jvm.RoadKit.slotOf Z O f d) v → OAt EL l Z bytes maxL own nm ret R n0 h0 Q SF h' cells slots (pc + 3) Ls st) : OAt EL l Z bytes maxL own nm ret R n0 h0 Q SF h cells slots pc Ls (v :: .ref a :: st) :=
  OAt.move (P := fun h' => Wr h h' a (Jvm.RoadKit.slotOf Z O f d) v) (st' := fun _ => st) (SF' := fun _ => SF) (fun h' vm hal H hS q => sf_wr q H hS hsf) k fun C X e N => by
    obtain ⟨T', h', X', e', W', g⟩ := putF X C.exec C.zz C.ow w via e F E (L.imp id fun q => ⟨q.1, q.2.1, C.name.trans q.2.2⟩) wi hty hn hf (g := mkF _ pc Ls (v :: .ref a :: st)) rfl rfl (hb C.by hd)
    exact ⟨T', h', _, X', e', Fr.snoc X' N ha, W', g⟩
theorem putFN_ {R0 O f d K : String} {i kk : Nat} {ty : FieldType} {a : Addr} {v v' old : Value} (w : (Jvm.Cond.fieldLink own i R0 f d).before a0 Z = true) (via : Via Z R0 O f d) (F : Fld Z h a O f d old) (E : Exa Z h a K)
    (L : (Jvm.Cond.lays K O f d).before a0 Z = true ∨ ((Jvm.Cond.laysFinal K O f d).before a0 Z = true ∧ own = O ∧ nm = "<init>")) (wi : (Jvm.Cond.instantiable K kk).before a0 Z = true) (hty : parseFieldDescriptor d = some ty) (hn : narrow ty v = v') (hf : fits ty v' = true) (ha : n0 ≤ a) (hsf : a ∈ SF) (hd : decode bytes pc = .ok (.putfield i, 3))
    (k : ∀ h', Wr h h' a (Jvm.RoadKit.slotOf Z O f d) v' → OAt EL l Z bytes maxL own nm ret R n0 h0 Q SF h' cells slots (pc + 3) Ls st) : OAt EL l Z bytes maxL own nm ret R n0 h0 Q SF h cells slots pc Ls (v :: .ref a :: st) :=
  OAt.move (P := fun h' => Wr h h' a (Jvm.RoadKit.slotOf Z O f d) v') (st' := fun _ => st) (SF' := fun _ => SF) (fun h' vm hal H hS q => sf_wr q H hS hsf) k fun C X e N => by
    obtain ⟨T', h', X', e', W', g⟩ := putFN X C.exec C.zz C.ow w via e F E (L.imp id fun q => ⟨q.1, q.2.1, C.name.trans q.2.2⟩) wi hty hn hf (g := mkF _ pc Ls (v :: .ref a :: st)) rfl rfl (hb C.by hd)
    exact ⟨T', h', _, X', e', Fr.snoc X' N ha, W', g⟩
theorem initO_ {i : Nat} {a : Addr} (w1 : (Jvm.Cond.methodLink own i Lib.objectInit).before a0 Z = true) (w2 : (Jvm.Cond.instanceMethod Lib.objectInit).before a0 Z = true) (w3 : (Jvm.Cond.code Lib.objectInit ⟨#[0xb1]⟩ 1 none).before a0 Z = true) (hd : decode bytes pc = .ok (.invokespecial i, 3)) (hs : Ls.size = maxL) (hf : 1 ≤ R.frames)
    (wt : Nat) (hW : (st.map fun v => v.category).sum = wt) (hl : wt + 12 ≤ R.locals) (k : OAt EL l Z bytes maxL own nm ret R n0 h0 Q SF h cells slots (pc + 3) Ls st) : OAt EL l Z bytes maxL own nm ret R n0 h0 Q SF h cells slots pc Ls (.ref a :: st) :=
  k.warm fun C X e => initO X C.exec C.zz C.ow w1 w2 w3 e (g := mkF _ pc Ls (.ref a :: st)) rfl (by rw [C.ml]; exact hs) rfl (hb C.by hd) hf (W := wt) (by show 2 * 0 + _ ≤ _; rw [hW]; omega) hl
theorem castY_ {K : String} {i : Nat} {a : Addr} (w : (Jvm.Cond.classLink own i K).before a0 Z = true) (F : Ins Z h a K true) (hd : decode bytes pc = .ok (.checkcast i, 3)) (k : OAt EL l Z bytes maxL own nm ret R n0 h0 Q SF h cells slots (pc + 3) Ls (.ref a :: st)) : OAt EL l Z bytes maxL own nm ret R n0 h0 Q SF h cells slots pc Ls (.ref a :: st) :=
  k.warm fun C X e => castY X C.exec C.zz C.ow w e F (g := mkF _ pc Ls (.ref a :: st)) rfl rfl (hb C.by hd)
theorem castNull {i : Nat} (hd : decode bytes pc = .ok (.checkcast i, 3)) (k : OAt EL l Z bytes maxL own nm ret R n0 h0 Q SF h cells slots (pc + 3) Ls (.null :: st)) : OAt EL l Z bytes maxL own nm ret R n0 h0 Q SF h cells slots pc Ls (.null :: st) :=
  k.warm fun C X e => ⟨_, X, e, X.checkcastNull C.exec (g := mkF _ pc Ls (.null :: st)) rfl rfl (hb C.by hd)⟩
theorem instY_ {K : String} {i : Nat} {a : Addr} (w : (Jvm.Cond.classLink own i K).before a0 Z = true) (F : Ins Z h a K true) (hd : decode bytes pc = .ok (.instanceof i, 3)) (k : OAt EL l Z bytes maxL own nm ret R n0 h0 Q SF h cells slots (pc + 3) Ls (.int 1 :: st)) : OAt EL l Z bytes maxL own nm ret R n0 h0 Q SF h cells slots pc Ls (.ref a :: st) :=
  k.warm fun C X e => instY X C.exec C.zz C.ow w e F (g := mkF _ pc Ls (.ref a :: st)) rfl rfl (hb C.by hd)
/-! arrays: a list of what they hold -/
def Arl (Z : State) (h : Heap) (a : Addr) (k : ClassId) (ty : FieldType) (vs : List Value) : Prop := ∃ c : Cell, Arr Z h a c ty ∧ c.cls = k ∧ c.slots.toList = vs ∧ vs.length < 2 ^ 31 ∧ ∀ v ∈ vs, fits ty v = true
section Arl
variable {a b : Addr} {ka : ClassId} {ty : FieldType} {vs : List Value} {v : Value} {sl : Nat} {ws : List Addr}
theorem Arl.lt (F : Arl Z h a ka ty vs) : a < h.size := by obtain ⟨c, A, -⟩ := F; exact A.lt
theorem Arl.len (F : Arl Z h a ka ty vs) : vs.length < 2 ^ 31 := by obtain ⟨c, -, -, -, q, -⟩ := F; exact q
theorem Arl.fits (F : Arl Z h a ka ty vs) : ∀ v ∈ vs, Jvm.fits ty v = true := by obtain ⟨c, -, -, -, -, q⟩ := F; exact q
theorem Arl.ext (F : Arl Z h a ka ty vs) (E : Ext h h') : Arl Z h' a ka ty vs := by obtain ⟨c, A, r⟩ := F; exact ⟨c, A.ext E, r⟩
theorem Arl.other (F : Arl Z h b ka ty vs) (W : Wr h h' a sl v) (q : b ≠ a) : Arl Z h' b ka ty vs := by obtain ⟨c, A, r⟩ := F; exact ⟨c, A.other W q, r⟩
theorem Arl.keep (F : Arl Z h a ka ty vs) (K : Keep h h' ws) (q : a ∉ ws) : Arl Z h' a ka ty vs := by obtain ⟨c, A, r⟩ := F; exact ⟨c, ⟨K.2.1 a c A.1 q, A.2⟩, r⟩
theorem Arl.of_new {n : Int32} {N : Nat} (A : Arr Z h a (newA ka ty n) ty) (hn : n.toInt = N) (hf : Jvm.fits ty (defaultValue ty) = true) : Arl Z h a ka ty (List.replicate N (defaultValue ty)) := by
  have hN : n.toNatClampNeg = N := by have h1 : n.toNatClampNeg = n.toInt.toNat := rfl; rw [h1, hn]; rfl
  refine ⟨_, A, rfl, ?_, ?_, ?_⟩
  · simp [newA, hN]
  · rw [List.length_replicate]; have := n.toInt_lt; omega
  · intro v hv; rw [List.mem_replicate] at hv; rw [hv.2]; exact hf
theorem idx_of {j : Int32} {i : Nat} (hj : j.toInt = i) : ¬ j < 0 ∧ j.toNatClampNeg = i := by
  refine ⟨fun q => ?_, ?_⟩
  · rw [Int32.lt_iff_toInt_lt, hj] at q; have : (0 : Int32).toInt = 0 := rfl; omega
  · have h1 : j.toNatClampNeg = j.toInt.toNat := rfl
    rw [h1, hj]; rfl
theorem Arl.at (F : Arl Z h a ka ty vs) {j : Int32} {i : Nat} (hj : j.toInt = i) (hv : vs[i]? = some v) : ∃ c : Cell, Arr Z h a c ty ∧ ¬ (j < 0 ∨ c.slots.size ≤ j.toNatClampNeg) ∧ c.slots[j.toNatClampNeg]? = some v := by
  obtain ⟨c, A, h1, h2, h3, h4⟩ := F
  obtain ⟨q1, q2⟩ := idx_of hj
  have hi : i < vs.length := (List.getElem?_eq_some_iff.mp hv).1
  have hs : c.slots.size = vs.length := by rw [← h2]; simp
  refine ⟨c, A, ?_, ?_⟩
  · rw [q2]; rintro (x | x)
    · exact q1 x
    · omega
  · rw [q2, ← Array.getElem?_toList, h2]; exact hv
theorem Arl.set (F : Arl Z h a ka ty vs) {i : Nat} (hf : Jvm.fits ty v = true) (W : Wr h h' a i v) : Arl Z h' a ka ty (vs.set i v) := by
  obtain ⟨c, A, h1, h2, h3, h4⟩ := F
  refine ⟨_, A.same W, h1, ?_, by simpa using h3, ?_⟩
  · subst h2; simp [Cell.setSlot]
  · intro w hw
    rcases List.mem_or_eq_of_mem_set hw with q | q
    · exact h4 _ q
    · rw [q]; exact hf
theorem Arl.inb (F : Arl Z h a ka ty vs) {j : Int32} {i : Nat} (hj : j.toInt = i) (hi : i < vs.length) : ∃ c : Cell, Arr Z h a c ty ∧ ¬ (j < 0 ∨ c.slots.size ≤ j.toNatClampNeg) := by
  obtain ⟨c, A, q, -⟩ := F.at hj (v := vs[i]) (List.getElem?_eq_getElem hi)
  exact ⟨c, A, q⟩
theorem Arl.nostat (F : Arl Z h a ka ty vs) : ∀ cell : Cell, h[a]? = some cell → cell.vm.isStatics = false := by obtain ⟨c, A, -⟩ := F; exact A.nostat
theorem sto_of {y : Addr} {C : String} (F : Arl Z h a ka ty vs) (O : Ovr Z ka C) (I : Ins Z h y C true) : Sto Z h a (.ref y) := by obtain ⟨c, A, q, -⟩ := F; exact Sto.ofV A q O I
theorem sta_keep {C n d : String} {w : Value} (F : Sta Z h C n d w) (K : Keep h h' ws) (hw : ∀ x ∈ ws, ∀ cell : Cell, h[x]? = some cell → cell.vm.isStatics = false) : Sta Z h' C n d w := by
  obtain ⟨cf, i, k, f, st, cell, h1, h2, h3, h4, h5, h6, h7⟩ := F
  refine ⟨cf, i, k, f, st, cell, h1, h2, h3, h4, K.2.1 _ _ h5 fun q => ?_, h6, h7⟩
  rw [hw st q cell h5] at h6; cases h6
theorem narrow_ref {t : FieldType} {w : Value} (hv : w.isRef = true) (ht : t.isReference = true) : narrow t w = w := by rcases ref_cases hv with rfl | ⟨x, rfl⟩ <;> cases t <;> first | rfl | (simp [FieldType.isReference] at ht)
theorem fits_ref' {t : FieldType} {w : Value} (hv : w.isRef = true) (ht : t.isReference = true) : Jvm.fits t w = true := by rcases ref_cases hv with rfl | ⟨x, rfl⟩ <;> cases t <;> first | rfl | (simp [FieldType.isReference] at ht)
theorem Arl.arv (F : Arl Z h a ka ty vs) (d : Value) {z : Int32} (hz : z.toInt = vs.length) : Arv Z h a ka ty z vs d := by
  obtain ⟨c, A, h1, h2, h3, h4⟩ := F
  obtain ⟨q1, q2⟩ := idx_of hz
  have hs : c.slots.size = vs.length := by rw [← h2]; simp
  refine ⟨c, A, h1, hs.trans q2.symm, q1, ?_, ?_⟩
  · intro k hk
    have hk' : k < vs.length := by omega
    rw [← Array.getElem?_toList, h2, List.getD_eq_getElem?_getD, List.getElem?_eq_getElem hk']; rfl
  · intro i hi
    have hi' : i < vs.length := by omega
    rw [List.getD_eq_getElem?_getD, List.getElem?_eq_getElem hi']
    exact h4 _ (List.getElem_mem hi')
theorem Arl.of_arv {d : Value} {z : Int32} (F : Arv Z h a ka ty z vs d) (hz : z.toInt = vs.length) : Arl Z h a ka ty vs := by
  obtain ⟨c, A, h1, h2, h3, h4, h5⟩ := F
  obtain ⟨q1, q2⟩ := idx_of hz
  have hs : c.slots.size = vs.length := h2.trans q2
  have hv : ∀ k (hk : k < vs.length), vs.getD k d = vs[k] := fun k hk => by rw [List.getD_eq_getElem?_getD, List.getElem?_eq_getElem hk]; rfl
  refine ⟨c, A, h1, ?_, ?_, ?_⟩
  · apply List.ext_getElem?
    intro k
    rw [Array.getElem?_toList]
    by_cases hk : k < vs.length
    · rw [h4 k (by omega), List.getElem?_eq_getElem hk, hv k hk]
    · rw [List.getElem?_eq_none (by omega), Array.getElem?_eq_none (by omega)]
  · have := z.toInt_lt; omega
  · intro v hm
    obtain ⟨i, hi, rfl⟩ := List.getElem_of_mem hm
    rw [← hv i hi]; exact h5 i (by omega)
end Arl
theorem newarray_ {aty : ArrayType} {n : Int32} {N : Nat} (cap : Nat) (ty : FieldType) (hty : newarray.typeOf aty = ty) (w : (Jvm.Cond.arrayClass ty).before a0 Z = true) (hd : decode bytes pc = .ok (.newarray aty, 2)) (hn : n.toInt = N) (hcap : N ≤ cap) (hb' : cap * 8 ≤ 536870912) (hc : cells + 1 ≤ R.cells) (hl : slots + cap ≤ R.slots) (hf : fits ty (defaultValue ty) = true)
    (k : ∀ (h' : Heap) (a : Addr) (ka : ClassId), a = h.size → Ext h h' → Arl Z h' a ka ty (List.replicate N (defaultValue ty)) → OAt EL l Z bytes maxL own nm ret R n0 h0 Q (a :: SF) h' (cells + 1) (slots + cap) (pc + 2) Ls (.ref a :: st)) : OAt EL l Z bytes maxL own nm ret R n0 h0 Q SF h cells slots pc Ls (.int n :: st) := by
  subst hty
  obtain ⟨q1, q2⟩ := idx_of hn
  exact OAt.move (P := fun h' => Ext h h' ∧ ∃ ka, Arl Z h' h.size ka (newarray.typeOf aty) (List.replicate N (defaultValue (newarray.typeOf aty)))) (st' := fun _ => .ref h.size :: st) (SF' := fun _ => h.size :: SF) (fun h' vm hal H hS q => sf_ext q.1 H rfl (by obtain ⟨-, _, q2⟩ := q; exact q2.lt)) (fun h' q => by obtain ⟨q1, ka, q2⟩ := q; exact k h' _ ka rfl q1 q2) fun C X e N => by
    obtain ⟨T', h', cA, X', e', E, A, g⟩ := newP X C.exec C.zz w e (g := mkF _ pc Ls (.int n :: st)) rfl (hb C.by hd) rfl q1 (cap := cap) (by omega) hb' hc hl
    exact ⟨T', h', _, X', e', N, ⟨E, cA, Arl.of_new A hn hf⟩, g⟩
theorem anewarray_ {K : String} {i : Nat} {n : Int32} {N : Nat} (cap : Nat) (w1 : (Jvm.Cond.classLink own i K).before a0 Z = true) (w2 : (Jvm.Cond.arrayOver (.object K)).before a0 Z = true) (hd : decode bytes pc = .ok (.anewarray i, 3)) (hn : n.toInt = N) (hcap : N ≤ cap) (hb' : cap * 8 ≤ 536870912) (hc : cells + 1 ≤ R.cells) (hl : slots + cap ≤ R.slots)
    (k : ∀ (h' : Heap) (a : Addr) (ka : ClassId), a = h.size → Ext h h' → Ovr Z ka K → Arl Z h' a ka (.object K) (List.replicate N .null) → OAt EL l Z bytes maxL own nm ret R n0 h0 Q (a :: SF) h' (cells + 1) (slots + cap) (pc + 3) Ls (.ref a :: st)) : OAt EL l Z bytes maxL own nm ret R n0 h0 Q SF h cells slots pc Ls (.int n :: st) := by
  obtain ⟨q1, q2⟩ := idx_of hn
  exact OAt.move (P := fun h' => Ext h h' ∧ ∃ ka, Ovr Z ka K ∧ Arl Z h' h.size ka (.object K) (List.replicate N .null)) (st' := fun _ => .ref h.size :: st) (SF' := fun _ => h.size :: SF) (fun h' vm hal H hS q => sf_ext q.1 H rfl (by obtain ⟨-, _, -, q2⟩ := q; exact q2.lt)) (fun h' q => by obtain ⟨q1, ka, q3, q2⟩ := q; exact k h' _ ka rfl q1 q3 q2) fun C X e N => by
    obtain ⟨T', h', cA, X', e', E, A, O, g⟩ := newR X C.exec C.zz C.ow w1 w2 e (g := mkF _ pc Ls (.int n :: st)) rfl (hb C.by hd) rfl q1 (cap := cap) (by omega) hb' hc hl
    exact ⟨T', h', _, X', e', N, ⟨E, cA, O, Arl.of_new A hn rfl⟩, g⟩
theorem arraylength_ {a : Addr} {ka : ClassId} {ty : FieldType} {vs : List Value} (z : Int32) (F : Arl Z h a ka ty vs) (hz' : vs.length.toInt32 = z) (hd : decode bytes pc = .ok (.arraylength, 1)) (k : OAt EL l Z bytes maxL own nm ret R n0 h0 Q SF h cells slots (pc + 1) Ls (.int z :: st)) : OAt EL l Z bytes maxL own nm ret R n0 h0 Q SF h cells slots pc Ls (.ref a :: st) :=
  k.warm fun C X e => by
    obtain ⟨c, A, h1, h2, h3, h4⟩ := F
    have hs : c.slots.size.toInt32 = z := by rw [← hz', ← h2]; simp
    refine ⟨_, X, e, fun t q => X.arraylength C.exec (by rw [e]; exact A.1) (State.isArrayOf_alike C.zz.alike A.2.1) (g := mkF _ pc Ls (.ref a :: st)) rfl rfl (hb C.by hd) t ?_⟩
    rw [hs]; exact q
theorem iaload_ {a : Addr} {ka : ClassId} {vs : List Value} {j : Int32} {i : Nat} {v : Value} (F : Arl Z h a ka .int vs) (hj : j.toInt = i) (hv : vs[i]? = some v) (hd : decode bytes pc = .ok (.iaload, 1)) (k : OAt EL l Z bytes maxL own nm ret R n0 h0 Q SF h cells slots (pc + 1) Ls (v :: st)) : OAt EL l Z bytes maxL own nm ret R n0 h0 Q SF h cells slots pc Ls (.int j :: .ref a :: st) :=
  k.warm fun C X e => by
    obtain ⟨c, A, h1, h2⟩ := F.at hj hv
    exact ⟨_, X, e, fun t q => X.iaload C.exec (by rw [e]; exact A.1) (State.isArrayOf_alike C.zz.alike A.2.1) A.2.2 h1 h2 (g := mkF _ pc Ls (.int j :: .ref a :: st)) rfl rfl (hb C.by hd) t q⟩
theorem laload_ {a : Addr} {ka : ClassId} {vs : List Value} {j : Int32} {i : Nat} {v : Value} (F : Arl Z h a ka .long vs) (hj : j.toInt = i) (hv : vs[i]? = some v) (hd : decode bytes pc = .ok (.laload, 1)) (k : OAt EL l Z bytes maxL own nm ret R n0 h0 Q SF h cells slots (pc + 1) Ls (v :: st)) : OAt EL l Z bytes maxL own nm ret R n0 h0 Q SF h cells slots pc Ls (.int j :: .ref a :: st) :=
  k.warm fun C X e => by
    obtain ⟨c, A, h1, h2⟩ := F.at hj hv
    exact ⟨_, X, e, fun t q => X.laload C.exec (by rw [e]; exact A.1) (State.isArrayOf_alike C.zz.alike A.2.1) A.2.2 h1 h2 (g := mkF _ pc Ls (.int j :: .ref a :: st)) rfl rfl (hb C.by hd) t q⟩
theorem caload_ {a : Addr} {ka : ClassId} {vs : List Value} {j : Int32} {i : Nat} {v : Value} (F : Arl Z h a ka .char vs) (hj : j.toInt = i) (hv : vs[i]? = some v) (hd : decode bytes pc = .ok (.caload, 1)) (k : OAt EL l Z bytes maxL own nm ret R n0 h0 Q SF h cells slots (pc + 1) Ls (v :: st)) : OAt EL l Z bytes maxL own nm ret R n0 h0 Q SF h cells slots pc Ls (.int j :: .ref a :: st) :=
  k.warm fun C X e => by
    obtain ⟨c, A, h1, h2⟩ := F.at hj hv
    exact ⟨_, X, e, fun t q => X.caload C.exec (by rw [e]; exact A.1) (State.isArrayOf_alike C.zz.alike A.2.1) A.2.2 h1 h2 (g := mkF _ pc Ls (.int j :: .ref a :: st)) rfl rfl (hb C.by hd) t q⟩
theorem baload_ {a : Addr} {ka : ClassId} {vs : List Value} {j : Int32} {i : Nat} {v : Value} (F : Arl Z h a ka .byte vs) (hj : j.toInt = i) (hv : vs[i]? = some v) (hd : decode bytes pc = .ok (.baload, 1)) (k : OAt EL l Z bytes maxL own nm ret R n0 h0 Q SF h cells slots (pc + 1) Ls (v :: st)) : OAt EL l Z bytes maxL own nm ret R n0 h0 Q SF h cells slots pc Ls (.int j :: .ref a :: st) :=
  k.warm fun C X e => by
    obtain ⟨c, A, h1, h2⟩ := F.at hj hv
    exact ⟨_, X, e, fun t q => X.baloadBytes C.exec (by rw [e]; exact A.1) (State.isArrayOf_alike C.zz.alike A.2.1) A.2.2 h1 h2 (g := mkF _ pc Ls (.int j :: .ref a :: st)) rfl rfl (hb C.by hd) t q⟩
theorem zaload_ {a : Addr} {ka : ClassId} {vs : List Value} {j : Int32} {i : Nat} {v : Value} (F : Arl Z h a ka .boolean vs) (hj : j.toInt = i) (hv : vs[i]? = some v) (hd : decode bytes pc = .ok (.baload, 1)) (k : OAt EL l Z bytes maxL own nm ret R n0 h0 Q SF h cells slots (pc + 1) Ls (v :: st)) : OAt EL l Z bytes maxL own nm ret R n0 h0 Q SF h cells slots pc Ls (.int j :: .ref a :: st) :=
  k.warm fun C X e => by
    obtain ⟨c, A, h1, h2⟩ := F.at hj hv
    exact ⟨_, X, e, fun t q => X.baloadBooleans C.exec (by rw [e]; exact A.1) (State.isArrayOf_alike C.zz.alike A.2.1) A.2.2 h1 h2 (g := mkF _ pc Ls (.int j :: .ref a :: st)) rfl rfl (hb C.by hd) t q⟩
theorem aaload_ {a : Addr} {ka : ClassId} {ty : FieldType} {vs : List Value} {j : Int32} {i : Nat} {v : Value} (F : Arl Z h a ka ty vs) (hty : ty.isReference = true) (hj : j.toInt = i) (hv : vs[i]? = some v) (hd : decode bytes pc = .ok (.aaload, 1)) (k : OAt EL l Z bytes maxL own nm ret R n0 h0 Q SF h cells slots (pc + 1) Ls (v :: st)) : OAt EL l Z bytes maxL own nm ret R n0 h0 Q SF h cells slots pc Ls (.int j :: .ref a :: st) :=
  k.warm fun C X e => by
    obtain ⟨c, A, h1, h2⟩ := F.at hj hv
    exact ⟨_, X, e, fun t q => X.aaload C.exec (by rw [e]; exact A.1) (State.isArrayOf_alike C.zz.alike A.2.1) hty A.2.2 h1 h2 (g := mkF _ pc Ls (.int j :: .ref a :: st)) rfl rfl (hb C.by hd) t q⟩
theorem iastore_ {a : Addr} {ka : ClassId} {vs : List Value} {j : Int32} {x : Int32} {i : Nat} (F : Arl Z h a ka .int vs) (hj : j.toInt = i) (hi : i < vs.length) (ha : n0 ≤ a) (hsf : a ∈ SF) (hd : decode bytes pc = .ok (.iastore, 1)) (k : ∀ h', Wr h h' a i (.int x) → Arl Z h' a ka .int (vs.set i (.int x)) → OAt EL l Z bytes maxL own nm ret R n0 h0 Q SF h' cells slots (pc + 1) Ls st) : OAt EL l Z bytes maxL own nm ret R n0 h0 Q SF h cells slots pc Ls (.int x :: .int j :: .ref a :: st) :=
  OAt.move (P := fun h' => Wr h h' a i (.int x) ∧ Arl Z h' a ka .int (vs.set i (.int x))) (st' := fun _ => st) (SF' := fun _ => SF) (fun h' vm hal H hS q => sf_wr q.1 H hS hsf) (fun h' q => k h' q.1 q.2) fun C X e N => by
    obtain ⟨c, A, h1⟩ := F.inb hj hi
    obtain ⟨T', h', X', e', W', g⟩ := stI X C.exec C.zz e A h1 (g := mkF _ pc Ls (.int x :: .int j :: .ref a :: st)) rfl rfl (hb C.by hd)
    rw [(idx_of hj).2] at W'
    exact ⟨T', h', _, X', e', Fr.snoc X' N ha, ⟨W', F.set (rfl) W'⟩, g⟩
theorem lastore_ {a : Addr} {ka : ClassId} {vs : List Value} {j : Int32} {x : Int64} {i : Nat} (F : Arl Z h a ka .long vs) (hj : j.toInt = i) (hi : i < vs.length) (ha : n0 ≤ a) (hsf : a ∈ SF) (hd : decode bytes pc = .ok (.lastore, 1)) (k : ∀ h', Wr h h' a i (.long x) → Arl Z h' a ka .long (vs.set i (.long x)) → OAt EL l Z bytes maxL own nm ret R n0 h0 Q SF h' cells slots (pc + 1) Ls st) : OAt EL l Z bytes maxL own nm ret R n0 h0 Q SF h cells slots pc Ls (.long x :: .int j :: .ref a :: st) :=
  OAt.move (P := fun h' => Wr h h' a i (.long x) ∧ Arl Z h' a ka .long (vs.set i (.long x))) (st' := fun _ => st) (SF' := fun _ => SF) (fun h' vm hal H hS q => sf_wr q.1 H hS hsf) (fun h' q => k h' q.1 q.2) fun C X e N => by
    obtain ⟨c, A, h1⟩ := F.inb hj hi
    obtain ⟨T', h', X', e', W', g⟩ := stJ X C.exec C.zz e A h1 (g := mkF _ pc Ls (.long x :: .int j :: .ref a :: st)) rfl rfl (hb C.by hd)
    rw [(idx_of hj).2] at W'
    exact ⟨T', h', _, X', e', Fr.snoc X' N ha, ⟨W', F.set (rfl) W'⟩, g⟩
theorem castore_ {a : Addr} {ka : ClassId} {vs : List Value} {j : Int32} {x : Int32} {i : Nat} (F : Arl Z h a ka .char vs) (hj : j.toInt = i) (hi : i < vs.length) (ha : n0 ≤ a) (hsf : a ∈ SF) (hd : decode bytes pc = .ok (.castore, 1)) (k : ∀ h', Wr h h' a i (.int (nar .char x)) → Arl Z h' a ka .char (vs.set i (.int (nar .char x))) → OAt EL l Z bytes maxL own nm ret R n0 h0 Q SF h' cells slots (pc + 1) Ls st) : OAt EL l Z bytes maxL own nm ret R n0 h0 Q SF h cells slots pc Ls (.int x :: .int j :: .ref a :: st) :=
  OAt.move (P := fun h' => Wr h h' a i (.int (nar .char x)) ∧ Arl Z h' a ka .char (vs.set i (.int (nar .char x)))) (st' := fun _ => st) (SF' := fun _ => SF) (fun h' vm hal H hS q => sf_wr q.1 H hS hsf) (fun h' q => k h' q.1 q.2) fun C X e N => by
    obtain ⟨c, A, h1⟩ := F.inb hj hi
    obtain ⟨T', h', X', e', W', g⟩ := stC X C.exec C.zz e A h1 (g := mkF _ pc Ls (.int x :: .int j :: .ref a :: st)) rfl rfl (hb C.by hd)
    rw [(idx_of hj).2] at W'
    exact ⟨T', h', _, X', e', Fr.snoc X' N ha, ⟨W', F.set (fits_nar_char x) W'⟩, g⟩
theorem bastore_ {a : Addr} {ka : ClassId} {vs : List Value} {j : Int32} {x : Int32} {i : Nat} (F : Arl Z h a ka .byte vs) (hj : j.toInt = i) (hi : i < vs.length) (ha : n0 ≤ a) (hsf : a ∈ SF) (hd : decode bytes pc = .ok (.bastore, 1)) (k : ∀ h', Wr h h' a i (.int (nar .byte x)) → Arl Z h' a ka .byte (vs.set i (.int (nar .byte x))) → OAt EL l Z bytes maxL own nm ret R n0 h0 Q SF h' cells slots (pc + 1) Ls st) : OAt EL l Z bytes maxL own nm ret R n0 h0 Q SF h cells slots pc Ls (.int x :: .int j :: .ref a :: st) :=
  OAt.move (P := fun h' => Wr h h' a i (.int (nar .byte x)) ∧ Arl Z h' a ka .byte (vs.set i (.int (nar .byte x)))) (st' := fun _ => st) (SF' := fun _ => SF) (fun h' vm hal H hS q => sf_wr q.1 H hS hsf) (fun h' q => k h' q.1 q.2) fun C X e N => by
    obtain ⟨c, A, h1⟩ := F.inb hj hi
    obtain ⟨T', h', X', e', W', g⟩ := stB X C.exec C.zz e A h1 (g := mkF _ pc Ls (.int x :: .int j :: .ref a :: st)) rfl rfl (hb C.by hd)
    rw [(idx_of hj).2] at W'
    exact ⟨T', h', _, X', e', Fr.snoc X' N ha, ⟨W', F.set (fits_nar_byte x) W'⟩, g⟩
theorem zastore_ {a : Addr} {ka : ClassId} {vs : List Value} {j : Int32} {x : Int32} {i : Nat} (F : Arl Z h a ka .boolean vs) (hj : j.toInt = i) (hi : i < vs.length) (ha : n0 ≤ a) (hsf : a ∈ SF) (hd : decode bytes pc = .ok (.bastore, 1)) (k : ∀ h', Wr h h' a i (.int (nar .boolean x)) → Arl Z h' a ka .boolean (vs.set i (.int (nar .boolean x))) → OAt EL l Z bytes maxL own nm ret R n0 h0 Q SF h' cells slots (pc + 1) Ls st) : OAt EL l Z bytes maxL own nm ret R n0 h0 Q SF h cells slots pc Ls (.int x :: .int j :: .ref a :: st) :=
  OAt.move (P := fun h' => Wr h h' a i (.int (nar .boolean x)) ∧ Arl Z h' a ka .boolean (vs.set i (.int (nar .boolean x)))) (st' := fun _ => st) (SF' := fun _ => SF) (fun h' vm hal H hS q => sf_wr q.1 H hS hsf) (fun h' q => k h' q.1 q.2) fun C X e N => by
    obtain ⟨c, A, h1⟩ := F.inb hj hi
    obtain ⟨T', h', X', e', W', g⟩ := stZ X C.exec C.zz e A h1 (g := mkF _ pc Ls (.int x :: .int j :: .ref a :: st)) rfl rfl (hb C.by hd)
    rw [(idx_of hj).2] at W'
    exact ⟨T', h', _, X', e', Fr.snoc X' N ha, ⟨W', F.set (fits_nar_bool x) W'⟩, g⟩
theorem aastore_ {a : Addr} {ka : ClassId} {ty : FieldType} {vs : List Value} {j : Int32} {x : Value} {i : Nat} (F : Arl Z h a ka ty vs) (hty : ty.isReference = true) (hx : x.isRef = true) (S : Sto Z h a x) (hj : j.toInt = i) (hi : i < vs.length) (ha : n0 ≤ a) (hsf : a ∈ SF) (hd : decode bytes pc = .ok (.aastore, 1)) (k : ∀ h', Wr h h' a i x → Arl Z h' a ka ty (vs.set i x) → OAt EL l Z bytes maxL own nm ret R n0 h0 Q SF h' cells slots (pc + 1) Ls st) : OAt EL l Z bytes maxL own nm ret R n0 h0 Q SF h cells slots pc Ls (x :: .int j :: .ref a :: st) :=
  OAt.move (P := fun h' => Wr h h' a i x ∧ Arl Z h' a ka ty (vs.set i x)) (st' := fun _ => st) (SF' := fun _ => SF) (fun h' vm hal H hS q => sf_wr q.1 H hS hsf) (fun h' q => k h' q.1 q.2) fun C X e N => by
    obtain ⟨c, A, h1⟩ := F.inb hj hi
    obtain ⟨T', h', X', e', W', g⟩ := stR X C.exec C.zz e A h1 hty S (g := mkF _ pc Ls (x :: .int j :: .ref a :: st)) rfl rfl (hb C.by hd)
    rw [(idx_of hj).2] at W'
    have hf : fits ty x = true := by rcases ref_cases hx with rfl | ⟨y, rfl⟩ <;> cases ty <;> first | rfl | (simp [FieldType.isReference] at hty)
    exact ⟨T', h', _, X', e', Fr.snoc X' N ha, ⟨W', F.set hf W'⟩, g⟩
/-! calls by contract: a callee that interns nothing -/
theorem OAt.callN {y : MethodName} {bytes' : ByteArray} {maxL' : Nat} {ret' : Option FieldType} {R' : Room} {as' : Array Value} {SF0 : List Addr} {Q' : Option Value → Heap → (Addr → Prop) → Prop} {len wt : Nat} {rest : List Value} (hM : Met EL l Z y bytes' maxL' ret' R' [] as' h n0 SF0 Q') (hsub : ∀ x ∈ SF0, x ∈ SF)
    (wc : (Jvm.Cond.code y bytes' maxL' ret').before a0 Z = true) (wz : (Jvm.Cond.initialized y.cls).before a0 Z = true) (hf : R'.frames + 1 ≤ R.frames) (hl : wt + (maxL' + 11) + R'.locals ≤ R.locals) (hc : cells + R'.cells ≤ R.cells) (hs : slots + R'.slots ≤ R.slots)
    (f : ∀ {p : Program} {e : Env} {s : State} {m : MethodId} {args : Array Value} {below : List Frame} {meth : Method} {c : Code} {T : State} {locs : List Loc}, Cx Z EL bytes maxL own nm ret p s.vm m meth c → Stand p l e R s m args below meth c T locs cells slots → T.heap = h → ∀ (Pre : Pt → Array Value → Prop) (Post : Pt → Array Value → Option Value → Pt → Prop), BackS l R p e below s args y len wt Pre Post → (∀ vm₁, s.WarmedH vm₁ → Pre ⟨T.setVm vm₁, locs, cells, slots⟩ as') →
      ∃ (v : Option Value) (vm₁ : Vm) (B : Pt), s.WarmedH vm₁ ∧ Stand p l e R (s.setVm B.U.vm) m args below meth c B.U B.locs B.cells B.slots ∧ s.Since B.U.vm B.U.heap.size ∧ T.heap.size ≤ B.U.heap.size ∧ Post ⟨T.setVm vm₁, locs, cells, slots⟩ as' v B ∧ ∀ target, Steps p.tables e below (B.U.setTop (mkF m (pc + len) Ls (v.toList ++ rest))) target → Steps p.tables e below (T.setTop (mkF m pc Ls st)) target)
    (k : ∀ v h' (S : Addr → Prop), Q' v h' S → ∃ SX : List Addr, (∀ x ∈ SX, S x) ∧ OAt EL l Z bytes maxL own nm ret R n0 h0 Q (SX ++ SF) h' (cells + R'.cells) (slots + R'.slots) (pc + len) Ls (v.toList ++ rest)) : OAt EL l Z bytes maxL own nm ret R n0 h0 Q SF h cells slots pc Ls st :=
  fun p e s vm0 m args below meth c T locs C r X eT N => by
    obtain ⟨⟨k0, r1, r2⟩, r3, r4⟩ := r
    obtain ⟨ae, hE⟩ := C.2.2.2.2.2.2.2.2
    have hB : BackS l R p e below (s.setVm vm0) args y len wt (fun A a => a = as' ∧ A.U.heap = h ∧ A.cells + R'.cells ≤ R.cells ∧ A.slots + R'.slots ≤ R.slots)
        (fun A _ v B => ∃ L, (Fr n0 L ∧ h.size ≤ B.U.heap.size ∧ Q' v B.U.heap (SfAt Z EL B.U.vm B.U.heap)) ∧ B.locs = A.locs ++ L ∧ B.cells = A.cells + R'.cells ∧ B.slots = A.slots + R'.slots ∧ CHr Z EL vm0 h B.U.vm B.U.heap) :=
      BackS.of_freeW (bytes := bytes') (maxL := maxL') (ret := ret') (E := fun _ first o t L k n => k = R'.cells ∧ n = R'.slots ∧ ∃ v, o = .returned v ∧ (Fr n0 L ∧ h.size ≤ t.heap.size ∧ Q' v t.heap (SfAt Z EL t.vm t.heap)) ∧ CHr Z EL first.vm h t.vm t.heap) hM hf hl
        (fun m meth c A a Y hp => have hU : Z.Warmed39 A.U.vm := wtrans (s := s.setVm vm0) C.zz Y.warmed
          ⟨by show (Cond.and _ .tt).before a A.U = true; rw [Cond.before_and, mv hU wc]; rfl, mv hU wc, mv hU wz, hp.2.2.1, hp.2.2.2⟩)
        (fun m meth c A a g mk Y hp => have q := CHv.at Y C.zz hE r3.1
          ⟨hp.1, wtrans (s := s.setVm vm0) C.zz Y.warmed, hp.2.1, q.1, fun x hx => ⟨(r4 x (hsub x hx)).1, q.safe (r4 x (hsub x hx)).1 (r4 x (hsub x hx)).2⟩, ae, hE⟩) (fun _ _ _ _ _ _ _ _ _ => trivial)
        (fun _ _ _ _ ⟨v, L, h1, ⟨h2, h3, h4, h5⟩, h6⟩ => ⟨L, _, _, h6, rfl, rfl, v, h1, ⟨h2, h3, h5⟩, h4⟩)
        (fun m meth c A a g mk v t L k n Y hp _ _ ⟨e1, e2, v', e3, e4, e5⟩ => by
          cases e3; subst e1 e2
          exact ⟨L, e4, rfl, rfl, rfl, (CHv.at Y C.zz hE r3.1).trans e5⟩)
    obtain ⟨v, vm₁, ⟨T', L', k', n'⟩, hW, X', hS2, hg2, ⟨Lc, ⟨N', hg, hq⟩, l1, l2, l3, hch⟩, g⟩ := f (s := s.setVm vm0) C X eT _ _ hB (fun vm₁ _ => ⟨rfl, eT, hc, hs⟩)
    dsimp only [Pt.U, Pt.locs, Pt.cells, Pt.slots] at X' hS2 hg2 l1 l2 l3 g hg hq hch
    subst l1 l2 l3
    obtain ⟨X2, hS3, hZ3, ho3⟩ := rebS r1 (by rw [eT]; exact r2) X' hS2 hg2 C.zz C.ow
    obtain ⟨SX, hSX, kk⟩ := k v T'.heap _ hq
    refine (kk p e s T'.vm m args below meth c T' _ ⟨C.1, C.2.1, C.2.2.1, C.2.2.2.1, C.2.2.2.2.1, C.2.2.2.2.2.1, hZ3, ho3, ae, hE⟩ ⟨⟨_, hS3, Nat.le_refl _⟩, r3.trans hch, fun x hx => ?_⟩ X2 rfl (N.app N')).step g
    rcases List.mem_append.mp hx with y | y
    · exact hSX x y
    · exact ⟨Nat.lt_of_lt_of_le (r4 x y).1 hg, hch.safe (r4 x y).1 (r4 x y).2⟩
/-- what a call of a contract asks of room and words -/
theorem callS_ {y : MethodName} {bytes' : ByteArray} {maxL' : Nat} {ret' : Option FieldType} {R' : Room} {SF0 : List Addr} {Q' : Option Value → Heap → (Addr → Prop) → Prop} {i : Nat} {ps : List FieldType} {rt : Option FieldType} (argsL rest : List Value) (wt : Nat) (hM : Met EL l Z y bytes' maxL' ret' R' [] argsL.toArray h n0 SF0 Q') (hsub : ∀ x ∈ SF0, x ∈ SF)
    (w1 : (Jvm.Cond.methodLink own i y).before a0 Z = true) (w2 : (Jvm.Cond.static y).before a0 Z = true) (wz : (Jvm.Cond.initialized y.cls).before a0 Z = true) (wc : (Jvm.Cond.code y bytes' maxL' ret').before a0 Z = true) (hy : y.cls ≠ "java/lang/invoke/MethodHandle" ∧ y.cls ≠ "java/lang/invoke/VarHandle")
    (hd : decode bytes pc = .ok (.invokestatic i, 3)) (hp : parseMethodDescriptor y.desc = some ⟨ps, rt⟩) (hn : argsL.length = ps.length) (hst : st = argsL.reverse ++ rest) (hwt : (rest.map fun v => v.category).sum = wt) (hs : Ls.size = maxL)
    (hf : R'.frames + 1 ≤ R.frames) (hl : wt + (maxL' + 11) + R'.locals ≤ R.locals) (hc : cells + R'.cells ≤ R.cells) (hsl : slots + R'.slots ≤ R.slots)
    (k : ∀ v h' (S : Addr → Prop), Q' v h' S → ∃ SX : List Addr, (∀ x ∈ SX, S x) ∧ OAt EL l Z bytes maxL own nm ret R n0 h0 Q (SX ++ SF) h' (cells + R'.cells) (slots + R'.slots) (pc + 3) Ls (v.toList ++ rest)) : OAt EL l Z bytes maxL own nm ret R n0 h0 Q SF h cells slots pc Ls st :=
  OAt.callN (len := 3) hM hsub wc wz hf hl hc hsl (fun C X eT _ _ hB hpre => by
    obtain ⟨v, vm₁, B, h1, h2, h5, h6, h3, h4⟩ := Jvm.RoadKit.callSS X C.exec C.ow (mvT C.zz w1) (mvT C.zz w2) (mvT C.zz wz) (mvT C.zz wc) hy hB (g := mkF _ pc Ls st) rfl (by rw [C.ml]; exact hs) (lenOf hp hn) hst (by show 2 * 0 + _ ≤ _; rw [hwt]; omega) (hb C.by hd) hpre
    exact ⟨v, vm₁, B, h1, h2, h5, h6, h3, fun t q => h4.trans q⟩) k
/-- a static call of a body that writes nothing and returns val -/
def Pur (val : Value) (h : Heap) : Option Value → Heap → (Addr → Prop) → Prop := fun v h' _ => v = some val ∧ h' = h
theorem callSP {y : MethodName} {bytes' : ByteArray} {maxL' : Nat} {ret' : Option FieldType} {R' : Room} {val : Value} {i : Nat} {ps : List FieldType} {rt : Option FieldType} (argsL rest : List Value) (wt : Nat) (hM : Met EL l Z y bytes' maxL' ret' R' [] argsL.toArray h n0 [] (Pur val h))
    (w1 : (Jvm.Cond.methodLink own i y).before a0 Z = true) (w2 : (Jvm.Cond.static y).before a0 Z = true) (wz : (Jvm.Cond.initialized y.cls).before a0 Z = true) (wc : (Jvm.Cond.code y bytes' maxL' ret').before a0 Z = true) (hy : y.cls ≠ "java/lang/invoke/MethodHandle" ∧ y.cls ≠ "java/lang/invoke/VarHandle")
    (hd : decode bytes pc = .ok (.invokestatic i, 3)) (hp : parseMethodDescriptor y.desc = some ⟨ps, rt⟩) (hn : argsL.length = ps.length) (hst : st = argsL.reverse ++ rest) (hwt : (rest.map fun v => v.category).sum = wt) (hs : Ls.size = maxL)
    (hf : R'.frames + 1 ≤ R.frames) (hl : wt + (maxL' + 11) + R'.locals ≤ R.locals) (hc : cells + R'.cells ≤ R.cells) (hsl : slots + R'.slots ≤ R.slots)
    (k : OAt EL l Z bytes maxL own nm ret R n0 h0 Q SF h (cells + R'.cells) (slots + R'.slots) (pc + 3) Ls (val :: rest)) : OAt EL l Z bytes maxL own nm ret R n0 h0 Q SF h cells slots pc Ls st :=
  callS_ argsL rest wt hM (fun _ z => nomatch z) w1 w2 wz wc hy hd hp hn hst hwt hs hf hl hc hsl (fun v h' S q => by obtain ⟨rfl, rfl⟩ := q; exact ⟨[], fun _ z => (nomatch z), k⟩)
/-- a constructor -/
theorem callI_ {y : MethodName} {bytes' : ByteArray} {maxL' : Nat} {R' : Room} {SF0 : List Addr} {Q' : Option Value → Heap → (Addr → Prop) → Prop} {i : Nat} {ps : List FieldType} {rt : Option FieldType} (a : Addr) (argsL rest : List Value) (wt : Nat) (hM : Met EL l Z y bytes' maxL' none R' [] (.ref a :: argsL).toArray h n0 SF0 Q') (hsub : ∀ x ∈ SF0, x ∈ SF)
    (w1 : (Jvm.Cond.methodLink own i y).before a0 Z = true) (w2 : (Jvm.Cond.instanceMethod y).before a0 Z = true) (wz : (Jvm.Cond.initialized y.cls).before a0 Z = true) (wc : (Jvm.Cond.code y bytes' maxL' none).before a0 Z = true) (hy1 : y.name = "<init>") (hy : y.cls ≠ "java/lang/invoke/MethodHandle" ∧ y.cls ≠ "java/lang/invoke/VarHandle")
    (hd : decode bytes pc = .ok (.invokespecial i, 3)) (hp : parseMethodDescriptor y.desc = some ⟨ps, rt⟩) (hn : argsL.length = ps.length) (hst : st = argsL.reverse ++ .ref a :: rest) (hwt : (rest.map fun v => v.category).sum = wt) (hs : Ls.size = maxL)
    (hf : R'.frames + 1 ≤ R.frames) (hl : wt + (maxL' + 11) + R'.locals ≤ R.locals) (hc : cells + R'.cells ≤ R.cells) (hsl : slots + R'.slots ≤ R.slots)
    (k : ∀ v h' (S : Addr → Prop), Q' v h' S → ∃ SX : List Addr, (∀ x ∈ SX, S x) ∧ OAt EL l Z bytes maxL own nm ret R n0 h0 Q (SX ++ SF) h' (cells + R'.cells) (slots + R'.slots) (pc + 3) Ls (v.toList ++ rest)) : OAt EL l Z bytes maxL own nm ret R n0 h0 Q SF h cells slots pc Ls st :=
  OAt.callN (len := 3) hM hsub wc wz hf hl hc hsl (fun C X eT _ _ hB hpre => by
    obtain ⟨v, vm₁, B, h1, h2, h5, h6, h3, h4⟩ := X.specialBackS C.exec hy1 C.ow (mvT C.zz w1) (mvT C.zz w2) (mvT C.zz wc) hy hB (g := mkF _ pc Ls st) rfl (by rw [C.ml]; exact hs) (Steps.refl _) (lenOf hp hn) hst (by show 2 * 0 + _ ≤ _; rw [hwt]; omega) (hb C.by hd) hpre
    exact ⟨v, vm₁, B, h1, h2, h5, h6, h3, fun t q => h4.trans q⟩) k
/-- an instance method, selected by the receiver's class K -/
theorem callV_ {x y : MethodName} {K : String} {bytes' : ByteArray} {maxL' : Nat} {ret' : Option FieldType} {R' : Room} {SF0 : List Addr} {Q' : Option Value → Heap → (Addr → Prop) → Prop} {i : Nat} {ps : List FieldType} {rt : Option FieldType} (a : Addr) (argsL rest : List Value) (wt : Nat) (hM : Met EL l Z y bytes' maxL' ret' R' [] (.ref a :: argsL).toArray h n0 SF0 Q') (hsub : ∀ x ∈ SF0, x ∈ SF)
    (w1 : (Jvm.Cond.methodLink own i x).before a0 Z = true) (w2 : (Jvm.Cond.declares x).before a0 Z = true) (hnf : ∀ s : State, Z.Warmed39 s.vm → NotFace s x) (w3 : (Jvm.Cond.selects K x y).before a0 Z = true) (w4 : (Jvm.Cond.instanceMethod y).before a0 Z = true) (wz : (Jvm.Cond.initialized y.cls).before a0 Z = true) (wc : (Jvm.Cond.code y bytes' maxL' ret').before a0 Z = true)
    (hy : x.cls ≠ "java/lang/invoke/MethodHandle" ∧ x.cls ≠ "java/lang/invoke/VarHandle") (E : Exa Z h a K)
    (hd : decode bytes pc = .ok (.invokevirtual i, 3)) (hp : parseMethodDescriptor x.desc = some ⟨ps, rt⟩) (hn : argsL.length = ps.length) (hst : st = argsL.reverse ++ .ref a :: rest) (hwt : (rest.map fun v => v.category).sum = wt) (hs : Ls.size = maxL)
    (hf : R'.frames + 1 ≤ R.frames) (hl : wt + (maxL' + 11) + R'.locals ≤ R.locals) (hc : cells + R'.cells ≤ R.cells) (hsl : slots + R'.slots ≤ R.slots)
    (k : ∀ v h' (S : Addr → Prop), Q' v h' S → ∃ SX : List Addr, (∀ x ∈ SX, S x) ∧ OAt EL l Z bytes maxL own nm ret R n0 h0 Q (SX ++ SF) h' (cells + R'.cells) (slots + R'.slots) (pc + 3) Ls (v.toList ++ rest)) : OAt EL l Z bytes maxL own nm ret R n0 h0 Q SF h cells slots pc Ls st :=
  OAt.callN (len := 3) hM hsub wc wz hf hl hc hsl (fun C X eT _ _ hB hpre => by
    obtain ⟨cq, kq, qa, qb, qc⟩ := isOf C.zz eT E
    obtain ⟨v, vm₁, B, h1, h2, h5, h6, h3, h4⟩ := X.virtualBackS C.exec C.ow (mvT C.zz w1) (mvT C.zz w2) (hnf _ C.zz) (mvT C.zz w3) (mvT C.zz w4) hy hB qa qc (g := mkF _ pc Ls st) rfl (by rw [C.ml]; exact hs) (Steps.refl _) (lenOf hp hn) hst (by show 2 * 0 + _ ≤ _; rw [hwt]; omega) (hb C.by hd) hpre
    exact ⟨v, vm₁, B, h1, h2, h5, h6, h3, fun t q => h4.trans q⟩) k
/-- through an interface -/
theorem callF_ {x y : MethodName} {K : String} {bytes' : ByteArray} {maxL' : Nat} {ret' : Option FieldType} {R' : Room} {SF0 : List Addr} {Q' : Option Value → Heap → (Addr → Prop) → Prop} {i cn : Nat} {ps : List FieldType} {rt : Option FieldType} (a : Addr) (argsL rest : List Value) (wt : Nat) (hM : Met EL l Z y bytes' maxL' ret' R' [] (.ref a :: argsL).toArray h n0 SF0 Q') (hsub : ∀ x ∈ SF0, x ∈ SF)
    (w1 : (Jvm.Cond.methodLink own i x).before a0 Z = true) (w2 : (Jvm.Cond.declares x).before a0 Z = true) (w5 : (Jvm.Cond.interfaceMethod x.cls x.cls x.name x.desc).before a0 Z = true) (hfa : ((Jvm.Cond.interfaceMethod x.cls x.cls x.name x.desc).onTables && (Jvm.Cond.interfaceMethod x.cls x.cls x.name x.desc).keepsFace) = true) (w3 : (Jvm.Cond.selects K x y).before a0 Z = true) (w4 : (Jvm.Cond.instanceMethod y).before a0 Z = true) (w6 : (Jvm.Cond.publicMethod y).before a0 Z = true) (w7 : (Jvm.Cond.unhidden K x.name x.desc).before a0 Z = true) (w8 : (Jvm.Cond.castable K x.cls).before a0 Z = true)
    (wz : (Jvm.Cond.initialized y.cls).before a0 Z = true) (wc : (Jvm.Cond.code y bytes' maxL' ret').before a0 Z = true)
    (hy : x.cls ≠ "java/lang/invoke/MethodHandle" ∧ x.cls ≠ "java/lang/invoke/VarHandle") (E : Exa Z h a K)
    (hd : decode bytes pc = .ok (.invokeinterface i cn, 5)) (hp : parseMethodDescriptor x.desc = some ⟨ps, rt⟩) (hn : argsL.length = ps.length) (hst : st = argsL.reverse ++ .ref a :: rest) (hwt : (rest.map fun v => v.category).sum = wt) (hs : Ls.size = maxL)
    (hf : R'.frames + 1 ≤ R.frames) (hl : wt + (maxL' + 11) + R'.locals ≤ R.locals) (hc : cells + R'.cells ≤ R.cells) (hsl : slots + R'.slots ≤ R.slots)
    (k : ∀ v h' (S : Addr → Prop), Q' v h' S → ∃ SX : List Addr, (∀ x ∈ SX, S x) ∧ OAt EL l Z bytes maxL own nm ret R n0 h0 Q (SX ++ SF) h' (cells + R'.cells) (slots + R'.slots) (pc + 5) Ls (v.toList ++ rest)) : OAt EL l Z bytes maxL own nm ret R n0 h0 Q SF h cells slots pc Ls st :=
  OAt.callN (len := 5) hM hsub wc wz hf hl hc hsl (fun C X eT _ _ hB hpre => by
    obtain ⟨cq, kq, qa, qb, qc⟩ := isOf C.zz eT E
    obtain ⟨v, vm₁, B, h1, h2, h5, h6, h3, h4⟩ := X.interfaceBackS C.exec C.ow (mvT C.zz w1) (mvT C.zz w2) (mvT C.zz w5 hfa) (mvT C.zz w3) (mvT C.zz w4) (mvT C.zz w6) (mvT C.zz w7) (mvT C.zz w8) hy hB qa qb qc (g := mkF _ pc Ls st) rfl (by rw [C.ml]; exact hs) (Steps.refl _) (lenOf hp hn) hst (by show 2 * 0 + _ ≤ _; rw [hwt]; omega) (hb C.by hd) hpre
    exact ⟨v, vm₁, B, h1, h2, h5, h6, h3, fun t q => h4.trans q⟩) k
/-- a private method, by invokevirtual -/
theorem callP_ {y : MethodName} {K : String} {bytes' : ByteArray} {maxL' : Nat} {ret' : Option FieldType} {R' : Room} {SF0 : List Addr} {Q' : Option Value → Heap → (Addr → Prop) → Prop} {i : Nat} {ps : List FieldType} {rt : Option FieldType} (a : Addr) (argsL rest : List Value) (wt : Nat) (hM : Met EL l Z y bytes' maxL' ret' R' [] (.ref a :: argsL).toArray h n0 SF0 Q') (hsub : ∀ x ∈ SF0, x ∈ SF)
    (w1 : (Jvm.Cond.methodLink own i y).before a0 Z = true) (w4 : (Jvm.Cond.instanceMethod y).before a0 Z = true) (w3 : (Jvm.Cond.selects y.cls y y).before a0 Z = true) (w5 : (Jvm.Cond.privateMethod y).before a0 Z = true) (wz : (Jvm.Cond.initialized y.cls).before a0 Z = true) (wc : (Jvm.Cond.code y bytes' maxL' ret').before a0 Z = true)
    (hy : y.cls ≠ "java/lang/invoke/MethodHandle" ∧ y.cls ≠ "java/lang/invoke/VarHandle") (E : Exa Z h a K)
    (hd : decode bytes pc = .ok (.invokevirtual i, 3)) (hp : parseMethodDescriptor y.desc = some ⟨ps, rt⟩) (hn : argsL.length = ps.length) (hst : st = argsL.reverse ++ .ref a :: rest) (hwt : (rest.map fun v => v.category).sum = wt) (hs : Ls.size = maxL)
    (hf : R'.frames + 1 ≤ R.frames) (hl : wt + (maxL' + 11) + R'.locals ≤ R.locals) (hc : cells + R'.cells ≤ R.cells) (hsl : slots + R'.slots ≤ R.slots)
    (k : ∀ v h' (S : Addr → Prop), Q' v h' S → ∃ SX : List Addr, (∀ x ∈ SX, S x) ∧ OAt EL l Z bytes maxL own nm ret R n0 h0 Q (SX ++ SF) h' (cells + R'.cells) (slots + R'.slots) (pc + 3) Ls (v.toList ++ rest)) : OAt EL l Z bytes maxL own nm ret R n0 h0 Q SF h cells slots pc Ls st :=
  OAt.callN (len := 3) hM hsub wc wz hf hl hc hsl (fun C X eT _ _ hB hpre => by
    obtain ⟨cq, qa, qb⟩ := E.cell
    obtain ⟨v, vm₁, B, h1, h2, h5, h6, h3, h4⟩ := X.privateBackS C.exec C.ow (mvT C.zz w1) (mvT C.zz w4) (mvT C.zz w3) (Cond.privateMethod_at (mvP C.zz w5 (args := #[]))) (mvT C.zz wc) hy hB (g := mkF _ pc Ls st) rfl (by rw [C.ml]; exact hs) (Steps.refl _) (a := a) (by rw [eT]; exact qa) qb (lenOf hp hn) hst (by show 2 * 0 + _ ≤ _; rw [hwt]; omega) (hb C.by hd) hpre
    exact ⟨v, vm₁, B, h1, h2, h5, h6, h3, fun t q => h4.trans q⟩) k
def Pur0 (h : Heap) : Option Value → Heap → (Addr → Prop) → Prop := fun v h' _ => v = none ∧ h' = h
theorem callIP {y : MethodName} {bytes' : ByteArray} {maxL' : Nat} {R' : Room} {i : Nat} {ps : List FieldType} {rt : Option FieldType} (a : Addr) (argsL rest : List Value) (wt : Nat) (hM : Met EL l Z y bytes' maxL' none R' [] (.ref a :: argsL).toArray h n0 [] (Pur0 h))
    (w1 : (Jvm.Cond.methodLink own i y).before a0 Z = true) (w2 : (Jvm.Cond.instanceMethod y).before a0 Z = true) (wz : (Jvm.Cond.initialized y.cls).before a0 Z = true) (wc : (Jvm.Cond.code y bytes' maxL' none).before a0 Z = true) (hy1 : y.name = "<init>") (hy : y.cls ≠ "java/lang/invoke/MethodHandle" ∧ y.cls ≠ "java/lang/invoke/VarHandle")
    (hd : decode bytes pc = .ok (.invokespecial i, 3)) (hp : parseMethodDescriptor y.desc = some ⟨ps, rt⟩) (hn : argsL.length = ps.length) (hst : st = argsL.reverse ++ .ref a :: rest) (hwt : (rest.map fun v => v.category).sum = wt) (hs : Ls.size = maxL)
    (hf : R'.frames + 1 ≤ R.frames) (hl : wt + (maxL' + 11) + R'.locals ≤ R.locals) (hc : cells + R'.cells ≤ R.cells) (hsl : slots + R'.slots ≤ R.slots)
    (k : OAt EL l Z bytes maxL own nm ret R n0 h0 Q SF h (cells + R'.cells) (slots + R'.slots) (pc + 3) Ls rest) : OAt EL l Z bytes maxL own nm ret R n0 h0 Q SF h cells slots pc Ls st :=
  callI_ a argsL rest wt hM (fun _ z => nomatch z) w1 w2 wz wc hy1 hy hd hp hn hst hwt hs hf hl hc hsl (fun v h' S q => by obtain ⟨rfl, rfl⟩ := q; exact ⟨[], fun _ z => (nomatch z), k⟩)
theorem callVP {x y : MethodName} {K : String} {bytes' : ByteArray} {maxL' : Nat} {ret' : Option FieldType} {R' : Room} {val : Value} {i : Nat} {ps : List FieldType} {rt : Option FieldType} (a : Addr) (argsL rest : List Value) (wt : Nat) (hM : Met EL l Z y bytes' maxL' ret' R' [] (.ref a :: argsL).toArray h n0 [] (Pur val h))
    (w1 : (Jvm.Cond.methodLink own i x).before a0 Z = true) (w2 : (Jvm.Cond.declares x).before a0 Z = true) (hnf : ∀ s : State, Z.Warmed39 s.vm → NotFace s x) (w3 : (Jvm.Cond.selects K x y).before a0 Z = true) (w4 : (Jvm.Cond.instanceMethod y).before a0 Z = true) (wz : (Jvm.Cond.initialized y.cls).before a0 Z = true) (wc : (Jvm.Cond.code y bytes' maxL' ret').before a0 Z = true)
    (hy : x.cls ≠ "java/lang/invoke/MethodHandle" ∧ x.cls ≠ "java/lang/invoke/VarHandle") (E : Exa Z h a K)
    (hd : decode bytes pc = .ok (.invokevirtual i, 3)) (hp : parseMethodDescriptor x.desc = some ⟨ps, rt⟩) (hn : argsL.length = ps.length) (hst : st = argsL.reverse ++ .ref a :: rest) (hwt : (rest.map fun v => v.category).sum = wt) (hs : Ls.size = maxL)
    (hf : R'.frames + 1 ≤ R.frames) (hl : wt + (maxL' + 11) + R'.locals ≤ R.locals) (hc : cells + R'.cells ≤ R.cells) (hsl : slots + R'.slots ≤ R.slots)
    (k : OAt EL l Z bytes maxL own nm ret R n0 h0 Q SF h (cells + R'.cells) (slots + R'.slots) (pc + 3) Ls (val :: rest)) : OAt EL l Z bytes maxL own nm ret R n0 h0 Q SF h cells slots pc Ls st :=
  callV_ a argsL rest wt hM (fun _ z => nomatch z) w1 w2 hnf w3 w4 wz wc hy E hd hp hn hst hwt hs hf hl hc hsl (fun v h' S q => by obtain ⟨rfl, rfl⟩ := q; exact ⟨[], fun _ z => (nomatch z), k⟩)
theorem callFP {x y : MethodName} {K : String} {bytes' : ByteArray} {maxL' : Nat} {ret' : Option FieldType} {R' : Room} {val : Value} {i cn : Nat} {ps : List FieldType} {rt : Option FieldType} (a : Addr) (argsL rest : List Value) (wt : Nat) (hM : Met EL l Z y bytes' maxL' ret' R' [] (.ref a :: argsL).toArray h n0 [] (Pur val h))
    (w1 : (Jvm.Cond.methodLink own i x).before a0 Z = true) (w2 : (Jvm.Cond.declares x).before a0 Z = true) (w5 : (Jvm.Cond.interfaceMethod x.cls x.cls x.name x.desc).before a0 Z = true) (hfa : ((Jvm.Cond.interfaceMethod x.cls x.cls x.name x.desc).onTables && (Jvm.Cond.interfaceMethod x.cls x.cls x.name x.desc).keepsFace) = true) (w3 : (Jvm.Cond.selects K x y).before a0 Z = true) (w4 : (Jvm.Cond.instanceMethod y).before a0 Z = true) (w6 : (Jvm.Cond.publicMethod y).before a0 Z = true) (w7 : (Jvm.Cond.unhidden K x.name x.desc).before a0 Z = true) (w8 : (Jvm.Cond.castable K x.cls).before a0 Z = true)
    (wz : (Jvm.Cond.initialized y.cls).before a0 Z = true) (wc : (Jvm.Cond.code y bytes' maxL' ret').before a0 Z = true)
    (hy : x.cls ≠ "java/lang/invoke/MethodHandle" ∧ x.cls ≠ "java/lang/invoke/VarHandle") (E : Exa Z h a K)
    (hd : decode bytes pc = .ok (.invokeinterface i cn, 5)) (hp : parseMethodDescriptor x.desc = some ⟨ps, rt⟩) (hn : argsL.length = ps.length) (hst : st = argsL.reverse ++ .ref a :: rest) (hwt : (rest.map fun v => v.category).sum = wt) (hs : Ls.size = maxL)
    (hf : R'.frames + 1 ≤ R.frames) (hl : wt + (maxL' + 11) + R'.locals ≤ R.locals) (hc : cells + R'.cells ≤ R.cells) (hsl : slots + R'.slots ≤ R.slots)
    (k : OAt EL l Z bytes maxL own nm ret R n0 h0 Q SF h (cells + R'.cells) (slots + R'.slots) (pc + 5) Ls (val :: rest)) : OAt EL l Z bytes maxL own nm ret R n0 h0 Q SF h cells slots pc Ls st :=
  callF_ a argsL rest wt hM (fun _ z => nomatch z) w1 w2 w5 hfa w3 w4 w6 w7 w8 wz wc hy E hd hp hn hst hwt hs hf hl hc hsl (fun v h' S q => by obtain ⟨rfl, rfl⟩ := q; exact ⟨[], fun _ z => (nomatch z), k⟩)
theorem callPP {y : MethodName} {K : String} {bytes' : ByteArray} {maxL' : Nat} {ret' : Option FieldType} {R' : Room} {val : Value} {i : Nat} {ps : List FieldType} {rt : Option FieldType} (a : Addr) (argsL rest : List Value) (wt : Nat) (hM : Met EL l Z y bytes' maxL' ret' R' [] (.ref a :: argsL).toArray h n0 [] (Pur val h))
    (w1 : (Jvm.Cond.methodLink own i y).before a0 Z = true) (w4 : (Jvm.Cond.instanceMethod y).before a0 Z = true) (w3 : (Jvm.Cond.selects y.cls y y).before a0 Z = true) (w5 : (Jvm.Cond.privateMethod y).before a0 Z = true) (wz : (Jvm.Cond.initialized y.cls).before a0 Z = true) (wc : (Jvm.Cond.code y bytes' maxL' ret').before a0 Z = true)
    (hy : y.cls ≠ "java/lang/invoke/MethodHandle" ∧ y.cls ≠ "java/lang/invoke/VarHandle") (E : Exa Z h a K)
    (hd : decode bytes pc = .ok (.invokevirtual i, 3)) (hp : parseMethodDescriptor y.desc = some ⟨ps, rt⟩) (hn : argsL.length = ps.length) (hst : st = argsL.reverse ++ .ref a :: rest) (hwt : (rest.map fun v => v.category).sum = wt) (hs : Ls.size = maxL)
    (hf : R'.frames + 1 ≤ R.frames) (hl : wt + (maxL' + 11) + R'.locals ≤ R.locals) (hc : cells + R'.cells ≤ R.cells) (hsl : slots + R'.slots ≤ R.slots)
    (k : OAt EL l Z bytes maxL own nm ret R n0 h0 Q SF h (cells + R'.cells) (slots + R'.slots) (pc + 3) Ls (val :: rest)) : OAt EL l Z bytes maxL own nm ret R n0 h0 Q SF h cells slots pc Ls st :=
  callP_ a argsL rest wt hM (fun _ z => nomatch z) w1 w4 w3 w5 wz wc hy E hd hp hn hst hwt hs hf hl hc hsl (fun v h' S q => by obtain ⟨rfl, rfl⟩ := q; exact ⟨[], fun _ z => (nomatch z), k⟩)
theorem arraycopy_ {a b : Addr} {ka kb : ClassId} {ty : FieldType} {vs vd : List Value} {sp dp nn : Int32} {i j n : Nat} {ix : Nat} (wt : Nat) (w1 : (Jvm.Cond.methodLink own ix Jvm.Stand.acN).before a0 Z = true) (w2 : (Jvm.Cond.native Jvm.Stand.acN).before a0 Z = true) (w3 : (Jvm.Cond.static Jvm.Stand.acN).before a0 Z = true) (w4 : (Jvm.Cond.initialized "java/lang/System").before a0 Z = true)
    (F : Arl Z h a ka ty vs) (G : Arl Z h b kb ty vd) (hty : refKind ty = false) (h1 : sp.toInt = i) (h2 : dp.toInt = j) (h3 : nn.toInt = n) (h4 : i + n ≤ vs.length) (h5 : j + n ≤ vd.length) (ge : n0 ≤ b) (hsf : b ∈ SF) (hs : Ls.size = maxL) (hd : decode bytes pc = .ok (.invokestatic ix, 3)) (hf : 1 ≤ R.frames) (hwt : (st.map fun v => v.category).sum = wt) (hlo : wt + (nativeFrameWords "java/lang/System" "arraycopy" 5 + 11) ≤ R.locals)
    (k : ∀ h', Keep h h' [b] → Arl Z h' b kb ty (vd.take j ++ (vs.drop i).take n ++ vd.drop (j + n)) → OAt EL l Z bytes maxL own nm ret R n0 h0 Q SF h' cells slots (pc + 3) Ls st) : OAt EL l Z bytes maxL own nm ret R n0 h0 Q SF h cells slots pc Ls (.int nn :: .int dp :: .ref b :: .int sp :: .ref a :: st) := by
  obtain ⟨p1, q1⟩ := idx_of h1
  obtain ⟨p2, q2⟩ := idx_of h2
  obtain ⟨p3, q3⟩ := idx_of h3
  have la := F.len
  have lb := G.len
  have za : (Int32.ofNat vs.length).toInt = vs.length := Int32.toInt_ofNat_of_lt la
  have zb : (Int32.ofNat vd.length).toInt = vd.length := Int32.toInt_ofNat_of_lt lb
  obtain ⟨pa, qa⟩ := idx_of za
  obtain ⟨pb, qb⟩ := idx_of zb
  have hus : (vs.drop i).take n = (List.range n).map fun k => vs.getD (i + k) .null := by
    apply List.ext_getElem?
    intro k
    by_cases hk : k < n
    · rw [List.getElem?_take_of_lt hk, List.getElem?_drop, List.getElem?_map, List.getElem?_range hk, Option.map_some, List.getD_eq_getElem?_getD, List.getElem?_eq_getElem (by omega)]; rfl
    · rw [List.getElem?_eq_none (by simp; omega), List.getElem?_eq_none (by simp; omega)]
  exact OAt.move (P := fun h' => Keep h h' [b] ∧ Arl Z h' b kb ty (vd.take j ++ (vs.drop i).take n ++ vd.drop (j + n))) (st' := fun _ => st) (SF' := fun _ => SF) (fun h' vm hal H hS q => sf_keep q.1 H hS hsf) (fun h' q => k h' q.1 q.2) fun C X e N => by
    obtain ⟨T', h', L, X', e', N', K, V, g⟩ := cpA X C.exec C.zz C.ow w1 w2 w3 w4 e (F.arv .null za) (G.arv .null zb) (us := (vs.drop i).take n) (Or.inl ⟨rfl, hty⟩) p1 p2 p3 (by omega) (by omega) (by rw [q3, q1]; exact hus) (by omega) N ge (g := mkF _ pc Ls (.int nn :: .int dp :: .ref b :: .int sp :: .ref a :: st)) rfl (by rw [C.ml]; exact hs) rfl (hb C.by hd) hf (W := wt) (by show 2 * 0 + _ ≤ _; rw [hwt]; omega) hlo
    rw [q2, q3] at V
    refine ⟨T', h', L, X', e', N', ⟨K, Arl.of_arv V ?_⟩, g⟩
    rw [zb]; simp; omega
theorem callS0 {y : MethodName} {bytes' : ByteArray} {maxL' : Nat} {ret' : Option FieldType} {R' : Room} {i : Nat} {ps : List FieldType} {rt : Option FieldType} (argsL rest : List Value) (wt : Nat) (hM : Met EL l Z y bytes' maxL' ret' R' [] argsL.toArray h n0 [] (Pur0 h))
    (w1 : (Jvm.Cond.methodLink own i y).before a0 Z = true) (w2 : (Jvm.Cond.static y).before a0 Z = true) (wz : (Jvm.Cond.initialized y.cls).before a0 Z = true) (wc : (Jvm.Cond.code y bytes' maxL' ret').before a0 Z = true) (hy : y.cls ≠ "java/lang/invoke/MethodHandle" ∧ y.cls ≠ "java/lang/invoke/VarHandle")
    (hd : decode bytes pc = .ok (.invokestatic i, 3)) (hp : parseMethodDescriptor y.desc = some ⟨ps, rt⟩) (hn : argsL.length = ps.length) (hst : st = argsL.reverse ++ rest) (hwt : (rest.map fun v => v.category).sum = wt) (hs : Ls.size = maxL)
    (hf : R'.frames + 1 ≤ R.frames) (hl : wt + (maxL' + 11) + R'.locals ≤ R.locals) (hc : cells + R'.cells ≤ R.cells) (hsl : slots + R'.slots ≤ R.slots)
    (k : OAt EL l Z bytes maxL own nm ret R n0 h0 Q SF h (cells + R'.cells) (slots + R'.slots) (pc + 3) Ls rest) : OAt EL l Z bytes maxL own nm ret R n0 h0 Q SF h cells slots pc Ls st :=
  callS_ argsL rest wt hM (fun _ z => nomatch z) w1 w2 wz wc hy hd hp hn hst hwt hs hf hl hc hsl (fun v h' S q => by obtain ⟨rfl, rfl⟩ := q; exact ⟨[], fun _ z => (nomatch z), k⟩)
theorem callV0 {x y : MethodName} {K : String} {bytes' : ByteArray} {maxL' : Nat} {ret' : Option FieldType} {R' : Room} {i : Nat} {ps : List FieldType} {rt : Option FieldType} (a : Addr) (argsL rest : List Value) (wt : Nat) (hM : Met EL l Z y bytes' maxL' ret' R' [] (.ref a :: argsL).toArray h n0 [] (Pur0 h))
    (w1 : (Jvm.Cond.methodLink own i x).before a0 Z = true) (w2 : (Jvm.Cond.declares x).before a0 Z = true) (hnf : ∀ s : State, Z.Warmed39 s.vm → NotFace s x) (w3 : (Jvm.Cond.selects K x y).before a0 Z = true) (w4 : (Jvm.Cond.instanceMethod y).before a0 Z = true) (wz : (Jvm.Cond.initialized y.cls).before a0 Z = true) (wc : (Jvm.Cond.code y bytes' maxL' ret').before a0 Z = true)
    (hy : x.cls ≠ "java/lang/invoke/MethodHandle" ∧ x.cls ≠ "java/lang/invoke/VarHandle") (E : Exa Z h a K)
    (hd : decode bytes pc = .ok (.invokevirtual i, 3)) (hp : parseMethodDescriptor x.desc = some ⟨ps, rt⟩) (hn : argsL.length = ps.length) (hst : st = argsL.reverse ++ .ref a :: rest) (hwt : (rest.map fun v => v.category).sum = wt) (hs : Ls.size = maxL)
    (hf : R'.frames + 1 ≤ R.frames) (hl : wt + (maxL' + 11) + R'.locals ≤ R.locals) (hc : cells + R'.cells ≤ R.cells) (hsl : slots + R'.slots ≤ R.slots)
    (k : OAt EL l Z bytes maxL own nm ret R n0 h0 Q SF h (cells + R'.cells) (slots + R'.slots) (pc + 3) Ls rest) : OAt EL l Z bytes maxL own nm ret R n0 h0 Q SF h cells slots pc Ls st :=
  callV_ a argsL rest wt hM (fun _ z => nomatch z) w1 w2 hnf w3 w4 wz wc hy E hd hp hn hst hwt hs hf hl hc hsl (fun v h' S q => by obtain ⟨rfl, rfl⟩ := q; exact ⟨[], fun _ z => (nomatch z), k⟩)
theorem callF0 {x y : MethodName} {K : String} {bytes' : ByteArray} {maxL' : Nat} {ret' : Option FieldType} {R' : Room} {i cn : Nat} {ps : List FieldType} {rt : Option FieldType} (a : Addr) (argsL rest : List Value) (wt : Nat) (hM : Met EL l Z y bytes' maxL' ret' R' [] (.ref a :: argsL).toArray h n0 [] (Pur0 h))
    (w1 : (Jvm.Cond.methodLink own i x).before a0 Z = true) (w2 : (Jvm.Cond.declares x).before a0 Z = true) (w5 : (Jvm.Cond.interfaceMethod x.cls x.cls x.name x.desc).before a0 Z = true) (hfa : ((Jvm.Cond.interfaceMethod x.cls x.cls x.name x.desc).onTables && (Jvm.Cond.interfaceMethod x.cls x.cls x.name x.desc).keepsFace) = true) (w3 : (Jvm.Cond.selects K x y).before a0 Z = true) (w4 : (Jvm.Cond.instanceMethod y).before a0 Z = true) (w6 : (Jvm.Cond.publicMethod y).before a0 Z = true) (w7 : (Jvm.Cond.unhidden K x.name x.desc).before a0 Z = true) (w8 : (Jvm.Cond.castable K x.cls).before a0 Z = true)
    (wz : (Jvm.Cond.initialized y.cls).before a0 Z = true) (wc : (Jvm.Cond.code y bytes' maxL' ret').before a0 Z = true)
    (hy : x.cls ≠ "java/lang/invoke/MethodHandle" ∧ x.cls ≠ "java/lang/invoke/VarHandle") (E : Exa Z h a K)
    (hd : decode bytes pc = .ok (.invokeinterface i cn, 5)) (hp : parseMethodDescriptor x.desc = some ⟨ps, rt⟩) (hn : argsL.length = ps.length) (hst : st = argsL.reverse ++ .ref a :: rest) (hwt : (rest.map fun v => v.category).sum = wt) (hs : Ls.size = maxL)
    (hf : R'.frames + 1 ≤ R.frames) (hl : wt + (maxL' + 11) + R'.locals ≤ R.locals) (hc : cells + R'.cells ≤ R.cells) (hsl : slots + R'.slots ≤ R.slots)
    (k : OAt EL l Z bytes maxL own nm ret R n0 h0 Q SF h (cells + R'.cells) (slots + R'.slots) (pc + 5) Ls rest) : OAt EL l Z bytes maxL own nm ret R n0 h0 Q SF h cells slots pc Ls st :=
  callF_ a argsL rest wt hM (fun _ z => nomatch z) w1 w2 w5 hfa w3 w4 w6 w7 w8 wz wc hy E hd hp hn hst hwt hs hf hl hc hsl (fun v h' S q => by obtain ⟨rfl, rfl⟩ := q; exact ⟨[], fun _ z => (nomatch z), k⟩)
theorem callP0 {y : MethodName} {K : String} {bytes' : ByteArray} {maxL' : Nat} {ret' : Option FieldType} {R' : Room} {i : Nat} {ps : List FieldType} {rt : Option FieldType} (a : Addr) (argsL rest : List Value) (wt : Nat) (hM : Met EL l Z y bytes' maxL' ret' R' [] (.ref a :: argsL).toArray h n0 [] (Pur0 h))
    (w1 : (Jvm.Cond.methodLink own i y).before a0 Z = true) (w4 : (Jvm.Cond.instanceMethod y).before a0 Z = true) (w3 : (Jvm.Cond.selects y.cls y y).before a0 Z = true) (w5 : (Jvm.Cond.privateMethod y).before a0 Z = true) (wz : (Jvm.Cond.initialized y.cls).before a0 Z = true) (wc : (Jvm.Cond.code y bytes' maxL' ret').before a0 Z = true)
    (hy : y.cls ≠ "java/lang/invoke/MethodHandle" ∧ y.cls ≠ "java/lang/invoke/VarHandle") (E : Exa Z h a K)
    (hd : decode bytes pc = .ok (.invokevirtual i, 3)) (hp : parseMethodDescriptor y.desc = some ⟨ps, rt⟩) (hn : argsL.length = ps.length) (hst : st = argsL.reverse ++ .ref a :: rest) (hwt : (rest.map fun v => v.category).sum = wt) (hs : Ls.size = maxL)
    (hf : R'.frames + 1 ≤ R.frames) (hl : wt + (maxL' + 11) + R'.locals ≤ R.locals) (hc : cells + R'.cells ≤ R.cells) (hsl : slots + R'.slots ≤ R.slots)
    (k : OAt EL l Z bytes maxL own nm ret R n0 h0 Q SF h (cells + R'.cells) (slots + R'.slots) (pc + 3) Ls rest) : OAt EL l Z bytes maxL own nm ret R n0 h0 Q SF h cells slots pc Ls st :=
  callP_ a argsL rest wt hM (fun _ z => nomatch z) w1 w4 w3 w5 wz wc hy E hd hp hn hst hwt hs hf hl hc hsl (fun v h' S q => by obtain ⟨rfl, rfl⟩ := q; exact ⟨[], fun _ z => (nomatch z), k⟩)

theorem ldcC_ {text : String} {i : Nat} {vs : List Value} {z : Int32} (n : Nat) (w : (Jvm.Cond.stringLink own i text).before a0 Z = true) (wS : ∀ a ∈ Bundle.stringAtoms, a.before a0 Z = true) (hmem : (own, i) ∈ EL) (hEL : EW Z a0 EL) (ht : (∀ c ∈ text.toList, c.toNat < 256) ∧ text.toList.map (fun c => Value.int (Jvm.Lit.byteI c.toNat.toUInt16)) = vs) (hz : z.toInt = vs.length)
    (hd : decode bytes pc = .ok (.ldc i, 2)) (hn' : 4 * text.toList.length ≤ n) (hbig : n ≤ 536870912) (hc : cells + 2 ≤ R.cells) (hl : slots + (n + 4) ≤ R.slots)
    (k : ∀ (h' : Heap) (a b : Addr) (kb : ClassId), Ext h h' → Exa Z h' a "java/lang/String" → Fld Z h' a "java/lang/String" "coder" "B" (.int 0) → Fld Z h' a "java/lang/String" "value" "[B" (.ref b) → Arl Z h' b kb .byte vs → (∀ x ∈ SF, x ≠ a ∧ x ≠ b) → OAt EL l Z bytes maxL own nm ret R n0 h0 Q SF h' (cells + 2) (slots + (n + 4)) (pc + 2) Ls (.ref a :: st)) : OAt EL l Z bytes maxL own nm ret R n0 h0 Q SF h cells slots pc Ls st :=
  fun p e s vm0 m args below meth c T locs C r X eT N => by
    obtain ⟨⟨k0, r1, r2⟩, r3, r4⟩ := r
    obtain ⟨q1, q2⟩ := idx_of hz
    obtain ⟨a, T', h', k1, b, kb, X', e', E, hS', hk', hZ', hown', E1, E2, E3, E4, -, -, hch, -, hne, g⟩ := ldcCH X C.exec C.zz C.ow w wS eT r1 r2 hEL hmem r3.1 ht q1 q2 (g := mkF m pc Ls st) rfl (hb C.by hd) hn' hbig hc hl
    have hsf : ∀ x ∈ SF, SfAt Z EL T'.vm h' x := fun x hx => ⟨Nat.lt_of_lt_of_le (r4 x hx).1 E.1, hch.safe (r4 x hx).1 (r4 x hx).2⟩
    exact (k h' a b kb E E1 E2 E3 (Arl.of_arv E4 hz) (fun x hx => hne x (hsf x hx).2) p e s T'.vm m args below meth c T' locs ⟨C.1, C.2.1, C.2.2.1, C.2.2.2.1, C.2.2.2.2.1, C.2.2.2.2.2.1, hZ', hown', C.2.2.2.2.2.2.2.2⟩ ⟨⟨k1, hS', hk'⟩, r3.trans hch, hsf⟩ X' e' N).step g

end Walk
end Jvm.Own
namespace Jvm.Pilot.@@N@@
open Jvm Jvm.ClassFile Sem Op Lib Jvm.Free Jvm.Stand Jvm.LawKit Jvm.RoadKit Jvm.Own Bundle Jvm.Pilot.@@N@@.Jvm.D
theorem own_wS {Z : State} {a0 : Array Value} (hw : ∀ d ∈ tables_1, d.before a0 Z = true) : ∀ a ∈ Bundle.stringAtoms, a.before a0 Z = true := fun d hd => by
  simp only [Bundle.stringAtoms, List.mem_cons, List.not_mem_nil, or_false] at hd
  rcases hd with rfl | rfl | rfl | rfl | rfl | rfl | rfl
  · exact (hw _ (List.mem_of_getElem? (i := 3) rfl))
  · exact (hw _ (List.mem_of_getElem? (i := 2) rfl))
  · exact (hw _ (List.mem_of_getElem? (i := 19) rfl))
  · exact (hw _ (List.mem_of_getElem? (i := 29) rfl))
  · exact (hw _ (List.mem_of_getElem? (i := 27) rfl))
  · exact (hw _ (List.mem_of_getElem? (i := 92) rfl))
  · exact (hw _ (List.mem_of_getElem? (i := 93) rfl))
def own_EL : Ents := [("java/lang/StringLatin1", 151)]
theorem own_EW {Z : State} {a0 : Array Value} (hw : ∀ d ∈ tables_1, d.before a0 Z = true) : EW Z a0 own_EL := (EW.cons (hw _ (List.mem_of_getElem? (i := 91) rfl)) (by decide) EW.nil)
theorem own_n1 : nar .boolean (1 : Int32) = 1 := rfl
theorem own_n0 : nar .boolean (0 : Int32) = 0 := rfl
theorem own_255 (x : Int32) : ¬ (255 : Int32) < nar .char ((x &&& (255 : Int32)).toUInt32.toUInt16.toUInt32.toInt32) := by
  have m0 := c_mask x 255 8 (by decide) (by decide)
  have i1 := c_i2c (x &&& 255)
  have i2 := c_i2c ((x &&& 255).toUInt32.toUInt16.toUInt32.toInt32)
  rw [Int32.lt_iff_toInt_lt]
  show ¬ (255 : Int32).toInt < ((x &&& (255 : Int32)).toUInt32.toUInt16.toUInt32.toInt32.toUInt32.toUInt16.toUInt32.toInt32).toInt
  have h3 : (255 : Int32).toInt = 255 := rfl
  omega
theorem own_pos (x : Int32) : 0 ≤ (x &&& (2147483647 : Int32)).toInt := by
  have := c_mask x 2147483647 31 (by decide) (by decide); omega
theorem own_f5 (x : Int32) : ((x &&& (2147483647 : Int32)) % (5 : Int32)) = 0 ∨ ((x &&& (2147483647 : Int32)) % (5 : Int32)) = 1 ∨ ((x &&& (2147483647 : Int32)) % (5 : Int32)) = 2 ∨ ((x &&& (2147483647 : Int32)) % (5 : Int32)) = 3 ∨ ((x &&& (2147483647 : Int32)) % (5 : Int32)) = 4 := by
  have h := own_pos x
  have e := (c_irem (x &&& (2147483647 : Int32)) 5 5 rfl).1 h
  simp only [← Int32.toInt_inj, Int32.reduceToInt]
  omega
theorem own_t0 (y : Int32) : (0 : Int32) + ((y &&& (2147483647 : Int32)) % ((5 : Int32) - 0)) = 0 ∨ (0 : Int32) + ((y &&& (2147483647 : Int32)) % ((5 : Int32) - 0)) = 1 ∨ (0 : Int32) + ((y &&& (2147483647 : Int32)) % ((5 : Int32) - 0)) = 2 ∨ (0 : Int32) + ((y &&& (2147483647 : Int32)) % ((5 : Int32) - 0)) = 3 ∨ (0 : Int32) + ((y &&& (2147483647 : Int32)) % ((5 : Int32) - 0)) = 4 := by
  have h := own_pos y
  have e := (c_irem (y &&& (2147483647 : Int32)) ((5 : Int32) - 0) 5 rfl).1 h
  have a := c_iadd (0 : Int32) ((y &&& (2147483647 : Int32)) % ((5 : Int32) - 0))
  have l1 := ((0 : Int32) + ((y &&& (2147483647 : Int32)) % ((5 : Int32) - 0))).le_toInt
  have l2 := ((0 : Int32) + ((y &&& (2147483647 : Int32)) % ((5 : Int32) - 0))).toInt_lt
  have k : (0 : Int32).toInt = 0 := rfl
  simp only [← Int32.toInt_inj, Int32.reduceToInt]
  omega
theorem own_t1 (y : Int32) : (1 : Int32) + ((y &&& (2147483647 : Int32)) % ((5 : Int32) - 1)) = 1 ∨ (1 : Int32) + ((y &&& (2147483647 : Int32)) % ((5 : Int32) - 1)) = 2 ∨ (1 : Int32) + ((y &&& (2147483647 : Int32)) % ((5 : Int32) - 1)) = 3 ∨ (1 : Int32) + ((y &&& (2147483647 : Int32)) % ((5 : Int32) - 1)) = 4 := by
  have h := own_pos y
  have e := (c_irem (y &&& (2147483647 : Int32)) ((5 : Int32) - 1) 4 rfl).1 h
  have a := c_iadd (1 : Int32) ((y &&& (2147483647 : Int32)) % ((5 : Int32) - 1))
  have l1 := ((1 : Int32) + ((y &&& (2147483647 : Int32)) % ((5 : Int32) - 1))).le_toInt
  have l2 := ((1 : Int32) + ((y &&& (2147483647 : Int32)) % ((5 : Int32) - 1))).toInt_lt
  have k : (1 : Int32).toInt = 1 := rfl
  simp only [← Int32.toInt_inj, Int32.reduceToInt]
  omega
theorem own_t2 (y : Int32) : (2 : Int32) + ((y &&& (2147483647 : Int32)) % ((5 : Int32) - 2)) = 2 ∨ (2 : Int32) + ((y &&& (2147483647 : Int32)) % ((5 : Int32) - 2)) = 3 ∨ (2 : Int32) + ((y &&& (2147483647 : Int32)) % ((5 : Int32) - 2)) = 4 := by
  have h := own_pos y
  have e := (c_irem (y &&& (2147483647 : Int32)) ((5 : Int32) - 2) 3 rfl).1 h
  have a := c_iadd (2 : Int32) ((y &&& (2147483647 : Int32)) % ((5 : Int32) - 2))
  have l1 := ((2 : Int32) + ((y &&& (2147483647 : Int32)) % ((5 : Int32) - 2))).le_toInt
  have l2 := ((2 : Int32) + ((y &&& (2147483647 : Int32)) % ((5 : Int32) - 2))).toInt_lt
  have k : (2 : Int32).toInt = 2 := rfl
  simp only [← Int32.toInt_inj, Int32.reduceToInt]
  omega
theorem own_t3 (y : Int32) : (3 : Int32) + ((y &&& (2147483647 : Int32)) % ((5 : Int32) - 3)) = 3 ∨ (3 : Int32) + ((y &&& (2147483647 : Int32)) % ((5 : Int32) - 3)) = 4 := by
  have h := own_pos y
  have e := (c_irem (y &&& (2147483647 : Int32)) ((5 : Int32) - 3) 2 rfl).1 h
  have a := c_iadd (3 : Int32) ((y &&& (2147483647 : Int32)) % ((5 : Int32) - 3))
  have l1 := ((3 : Int32) + ((y &&& (2147483647 : Int32)) % ((5 : Int32) - 3))).le_toInt
  have l2 := ((3 : Int32) + ((y &&& (2147483647 : Int32)) % ((5 : Int32) - 3))).toInt_lt
  have k : (3 : Int32).toInt = 3 := rfl
  simp only [← Int32.toInt_inj, Int32.reduceToInt]
  omega
theorem own_t4 (y : Int32) : (4 : Int32) + ((y &&& (2147483647 : Int32)) % ((5 : Int32) - 4)) = 4 := by
  have h := own_pos y
  have e := (c_irem (y &&& (2147483647 : Int32)) ((5 : Int32) - 4) 1 rfl).1 h
  have a := c_iadd (4 : Int32) ((y &&& (2147483647 : Int32)) % ((5 : Int32) - 4))
  have l1 := ((4 : Int32) + ((y &&& (2147483647 : Int32)) % ((5 : Int32) - 4))).le_toInt
  have l2 := ((4 : Int32) + ((y &&& (2147483647 : Int32)) % ((5 : Int32) - 4))).toInt_lt
  have k : (4 : Int32).toInt = 4 := rfl
  simp only [← Int32.toInt_inj, Int32.reduceToInt]
  omega
theorem d5_0 : decode jdk_52_method_21_code 0 = .ok (.iconst 0, 1) := by decide +kernel
theorem d5_1 : decode jdk_52_method_21_code 1 = .ok (.istore 5, 2) := by decide +kernel
theorem d5_3 : decode jdk_52_method_21_code 3 = .ok (.iload 5, 2) := by decide +kernel
theorem d5_5 : decode jdk_52_method_21_code 5 = .ok (.iload 4, 2) := by decide +kernel
theorem d5_7 : decode jdk_52_method_21_code 7 = .ok (.if_icmp .ge 37, 3) := by decide +kernel
theorem d5_10 : decode jdk_52_method_21_code 10 = .ok (.aload_n 0, 1) := by decide +kernel
theorem d5_11 : decode jdk_52_method_21_code 11 = .ok (.iload_n 1, 1) := by decide +kernel
theorem d5_12 : decode jdk_52_method_21_code 12 = .ok (.caload, 1) := by decide +kernel
theorem d5_13 : decode jdk_52_method_21_code 13 = .ok (.istore 6, 2) := by decide +kernel
theorem d5_15 : decode jdk_52_method_21_code 15 = .ok (.iload 6, 2) := by decide +kernel
theorem d5_17 : decode jdk_52_method_21_code 17 = .ok (.sipush 255, 3) := by decide +kernel
theorem d5_20 : decode jdk_52_method_21_code 20 = .ok (.if_icmp .le 6, 3) := by decide +kernel
theorem d5_26 : decode jdk_52_method_21_code 26 = .ok (.aload_n 2, 1) := by decide +kernel
theorem d5_27 : decode jdk_52_method_21_code 27 = .ok (.iload_n 3, 1) := by decide +kernel
theorem d5_28 : decode jdk_52_method_21_code 28 = .ok (.iload 6, 2) := by decide +kernel
theorem d5_30 : decode jdk_52_method_21_code 30 = .ok (.i2b, 1) := by decide +kernel
theorem d5_31 : decode jdk_52_method_21_code 31 = .ok (.bastore, 1) := by decide +kernel
theorem d5_32 : decode jdk_52_method_21_code 32 = .ok (.iinc 1 1, 3) := by decide +kernel
theorem d5_35 : decode jdk_52_method_21_code 35 = .ok (.iinc 3 1, 3) := by decide +kernel
theorem d5_38 : decode jdk_52_method_21_code 38 = .ok (.iinc 5 1, 3) := by decide +kernel
theorem d5_41 : decode jdk_52_method_21_code 41 = .ok (.goto (-38), 3) := by decide +kernel
theorem d5_44 : decode jdk_52_method_21_code 44 = .ok (.iload 4, 2) := by decide +kernel
theorem d5_46 : decode jdk_52_method_21_code 46 = .ok (.ireturn, 1) := by decide +kernel
def Q_rm5k4 (Z : State) (a3 : Addr) (kb : ClassId) (c0 : Int32) (c1 : Int32) (c2 : Int32) (c3 : Int32) (h0 : Heap) (n0 : Nat) (v : Option Value) (h : Heap) (Sf : Addr → Prop) : Prop := v = some (.int (4 : Int32)) ∧ Keep h0 h [a3] ∧ Arl Z h a3 kb .byte [(.int (nar .byte (c0.toInt8.toInt32))), (.int (nar .byte (c1.toInt8.toInt32))), (.int (nar .byte (c2.toInt8.toInt32))), (.int (nar .byte (c3.toInt8.toInt32)))]
theorem ef_rm5k4 (m : MethodId) (a1 : Addr) (a3 : Addr)  : entryFrame m #[(.ref a1), (.int (0 : Int32)), (.ref a3), (.int (0 : Int32)), (.int (4 : Int32))] 7 = mkF m 0 #[.val (.ref a1), .val (.int (0 : Int32)), .val (.ref a3), .val (.int (0 : Int32)), .val (.int (4 : Int32)), .unset, .unset] [] := by first | (simp [entryFrame, mkF, argsToLocals, Value.category]; done) | rfl
theorem pn_5 : plainFor (⟨"java/lang/StringUTF16", "compress", "([CI[BII)I"⟩ : MethodName) = true := plainFor_of_name (show plainName "java/lang/StringUTF16" = true by first | (simp [plainName, overriddenIn]; done) | decide +kernel)
set_option maxRecDepth 65536 in
set_option maxHeartbeats 40000000 in
theorem rm5k4 (l : Launch) (Z : State) (a0 : Array Value) (hw : ∀ d ∈ tables_1, d.before a0 Z = true) (ws : List Jvm.Cond) (a1 : Addr) (ka : ClassId) (a3 : Addr) (kb : ClassId) (c0 : Int32) (c1 : Int32) (c2 : Int32) (c3 : Int32) (h0 : Heap) (n0 : Nat) (hn : n0 ≤ h0.size) (V_a1 : Arl Z h0 a1 ka .char [(.int c0), (.int c1), (.int c2), (.int c3)]) (V_a3 : Arl Z h0 a3 kb .byte [(.int (0 : Int32)), (.int (0 : Int32)), (.int (0 : Int32)), (.int (0 : Int32))]) (ne_a1_a3 : a1 ≠ a3) (g_a3 : n0 ≤ a3) (hc0 : ¬ (255 : Int32) < c0) (hc1 : ¬ (255 : Int32) < c1) (hc2 : ¬ (255 : Int32) < c2) (hc3 : ¬ (255 : Int32) < c3) :
    Met own_EL l Z (⟨"java/lang/StringUTF16", "compress", "([CI[BII)I"⟩ : MethodName) jdk_52_method_21_code 7 (some .int) ({ frames := 0, cells := 0, slots := 0, locals := 0 } : Room) ws #[(.ref a1), (.int (0 : Int32)), (.ref a3), (.int (0 : Int32)), (.int (4 : Int32))] h0 n0 [a3] (Q_rm5k4 Z a3 kb c0 c1 c2 c3 h0 n0) := by
  refine Met.of pn_5 (fun m => ef_rm5k4 m a1 a3) ?_
  have K := Keep.refl h0 [a3]
  refine Own.iconst (0 : Int32) d5_0 rfl ?_
  refine Own.istore #[.val (.ref a1), .val (.int (0 : Int32)), .val (.ref a3), .val (.int (0 : Int32)), .val (.int (4 : Int32)), .val (.int (0 : Int32)), .unset] d5_1 rfl ?_
  refine Own.iload d5_3 rfl ?_
  refine Own.iload d5_5 rfl ?_
  refine Own.icmp_ge 44 d5_7 (by decide) rfl (fun q => absurd (by decide) q) (fun _ => ?_)
  refine Own.aloadN d5_10 rfl rfl ?_
  refine Own.iloadN d5_11 rfl ?_
  refine Own.caload_ V_a1 (i := 0) rfl rfl d5_12 ?_
  refine Own.istore #[.val (.ref a1), .val (.int (0 : Int32)), .val (.ref a3), .val (.int (0 : Int32)), .val (.int (4 : Int32)), .val (.int (0 : Int32)), .val (.int c0)] d5_13 rfl ?_
  refine Own.iload d5_15 rfl ?_
  refine Own.sipush (255 : Int32) d5_17 rfl ?_
  refine Own.icmp_le 26 d5_20 (by decide) rfl (fun _ => ?_) (fun q => absurd q hc0)
  refine Own.aloadN d5_26 rfl rfl ?_
  refine Own.iloadN d5_27 rfl ?_
  refine Own.iload d5_28 rfl ?_
  refine Own.i2b d5_30 ?_
  refine Own.bastore_ V_a3 (i := 0) rfl (Nat.le_of_ble_eq_true rfl) g_a3 (List.mem_of_getElem? (i := 0) rfl) d5_31 (fun h1 W1 V1 => ?_)
  have hn : n0 ≤ h1.size := by rw [W1.size]; exact hn
  replace V_a1 := V_a1.other W1 ne_a1_a3
  clear V_a3
  replace V1 : Arl Z h1 a3 kb .byte [(.int (nar .byte (c0.toInt8.toInt32))), (.int (0 : Int32)), (.int (0 : Int32)), (.int (0 : Int32))] := V1
  have K := K.wr W1 (Or.inl (List.mem_of_getElem? (i := 0) rfl))
  refine Own.iinc (1 : Int32) #[.val (.ref a1), .val (.int ((0 : Int32) + (1 : Int32))), .val (.ref a3), .val (.int (0 : Int32)), .val (.int (4 : Int32)), .val (.int (0 : Int32)), .val (.int c0)] d5_32 rfl rfl rfl ?_
  refine OAt.castL (Ls' := #[.val (.ref a1), .val (.int (1 : Int32)), .val (.ref a3), .val (.int (0 : Int32)), .val (.int (4 : Int32)), .val (.int (0 : Int32)), .val (.int c0)]) rfl rfl ?_
  refine Own.iinc (1 : Int32) #[.val (.ref a1), .val (.int (1 : Int32)), .val (.ref a3), .val (.int ((0 : Int32) + (1 : Int32))), .val (.int (4 : Int32)), .val (.int (0 : Int32)), .val (.int c0)] d5_35 rfl rfl rfl ?_
  refine OAt.castL (Ls' := #[.val (.ref a1), .val (.int (1 : Int32)), .val (.ref a3), .val (.int (1 : Int32)), .val (.int (4 : Int32)), .val (.int (0 : Int32)), .val (.int c0)]) rfl rfl ?_
  refine Own.iinc (1 : Int32) #[.val (.ref a1), .val (.int (1 : Int32)), .val (.ref a3), .val (.int (1 : Int32)), .val (.int (4 : Int32)), .val (.int ((0 : Int32) + (1 : Int32))), .val (.int c0)] d5_38 rfl rfl rfl ?_
  refine OAt.castL (Ls' := #[.val (.ref a1), .val (.int (1 : Int32)), .val (.ref a3), .val (.int (1 : Int32)), .val (.int (4 : Int32)), .val (.int (1 : Int32)), .val (.int c0)]) rfl rfl ?_
  refine Own.goto_ 3 d5_41 (by decide) rfl ?_
  refine Own.iload d5_3 rfl ?_
  refine Own.iload d5_5 rfl ?_
  refine Own.icmp_ge 44 d5_7 (by decide) rfl (fun q => absurd (by decide) q) (fun _ => ?_)
  refine Own.aloadN d5_10 rfl rfl ?_
  refine Own.iloadN d5_11 rfl ?_
  refine Own.caload_ V_a1 (i := 1) rfl rfl d5_12 ?_
  refine Own.istore #[.val (.ref a1), .val (.int (1 : Int32)), .val (.ref a3), .val (.int (1 : Int32)), .val (.int (4 : Int32)), .val (.int (1 : Int32)), .val (.int c1)] d5_13 rfl ?_
  refine Own.iload d5_15 rfl ?_
  refine Own.sipush (255 : Int32) d5_17 rfl ?_
  refine Own.icmp_le 26 d5_20 (by decide) rfl (fun _ => ?_) (fun q => absurd q hc1)
  refine Own.aloadN d5_26 rfl rfl ?_
  refine Own.iloadN d5_27 rfl ?_
  refine Own.iload d5_28 rfl ?_
  refine Own.i2b d5_30 ?_
  refine Own.bastore_ V1 (i := 1) rfl (Nat.le_of_ble_eq_true rfl) g_a3 (List.mem_of_getElem? (i := 0) rfl) d5_31 (fun h2 W2 V2 => ?_)
  have hn : n0 ≤ h2.size := by rw [W2.size]; exact hn
  replace V_a1 := V_a1.other W2 ne_a1_a3
  clear V1
  replace V2 : Arl Z h2 a3 kb .byte [(.int (nar .byte (c0.toInt8.toInt32))), (.int (nar .byte (c1.toInt8.toInt32))), (.int (0 : Int32)), (.int (0 : Int32))] := V2
  have K := K.wr W2 (Or.inl (List.mem_of_getElem? (i := 0) rfl))
  refine Own.iinc (1 : Int32) #[.val (.ref a1), .val (.int ((1 : Int32) + (1 : Int32))), .val (.ref a3), .val (.int (1 : Int32)), .val (.int (4 : Int32)), .val (.int (1 : Int32)), .val (.int c1)] d5_32 rfl rfl rfl ?_
  refine OAt.castL (Ls' := #[.val (.ref a1), .val (.int (2 : Int32)), .val (.ref a3), .val (.int (1 : Int32)), .val (.int (4 : Int32)), .val (.int (1 : Int32)), .val (.int c1)]) rfl rfl ?_
  refine Own.iinc (1 : Int32) #[.val (.ref a1), .val (.int (2 : Int32)), .val (.ref a3), .val (.int ((1 : Int32) + (1 : Int32))), .val (.int (4 : Int32)), .val (.int (1 : Int32)), .val (.int c1)] d5_35 rfl rfl rfl ?_
  refine OAt.castL (Ls' := #[.val (.ref a1), .val (.int (2 : Int32)), .val (.ref a3), .val (.int (2 : Int32)), .val (.int (4 : Int32)), .val (.int (1 : Int32)), .val (.int c1)]) rfl rfl ?_
  refine Own.iinc (1 : Int32) #[.val (.ref a1), .val (.int (2 : Int32)), .val (.ref a3), .val (.int (2 : Int32)), .val (.int (4 : Int32)), .val (.int ((1 : Int32) + (1 : Int32))), .val (.int c1)] d5_38 rfl rfl rfl ?_
  refine OAt.castL (Ls' := #[.val (.ref a1), .val (.int (2 : Int32)), .val (.ref a3), .val (.int (2 : Int32)), .val (.int (4 : Int32)), .val (.int (2 : Int32)), .val (.int c1)]) rfl rfl ?_
  refine Own.goto_ 3 d5_41 (by decide) rfl ?_
  refine Own.iload d5_3 rfl ?_
  refine Own.iload d5_5 rfl ?_
  refine Own.icmp_ge 44 d5_7 (by decide) rfl (fun q => absurd (by decide) q) (fun _ => ?_)
  refine Own.aloadN d5_10 rfl rfl ?_
  refine Own.iloadN d5_11 rfl ?_
  refine Own.caload_ V_a1 (i := 2) rfl rfl d5_12 ?_
  refine Own.istore #[.val (.ref a1), .val (.int (2 : Int32)), .val (.ref a3), .val (.int (2 : Int32)), .val (.int (4 : Int32)), .val (.int (2 : Int32)), .val (.int c2)] d5_13 rfl ?_
  refine Own.iload d5_15 rfl ?_
  refine Own.sipush (255 : Int32) d5_17 rfl ?_
  refine Own.icmp_le 26 d5_20 (by decide) rfl (fun _ => ?_) (fun q => absurd q hc2)
  refine Own.aloadN d5_26 rfl rfl ?_
  refine Own.iloadN d5_27 rfl ?_
  refine Own.iload d5_28 rfl ?_
  refine Own.i2b d5_30 ?_
  refine Own.bastore_ V2 (i := 2) rfl (Nat.le_of_ble_eq_true rfl) g_a3 (List.mem_of_getElem? (i := 0) rfl) d5_31 (fun h3 W3 V3 => ?_)
  have hn : n0 ≤ h3.size := by rw [W3.size]; exact hn
  replace V_a1 := V_a1.other W3 ne_a1_a3
  clear V2
  replace V3 : Arl Z h3 a3 kb .byte [(.int (nar .byte (c0.toInt8.toInt32))), (.int (nar .byte (c1.toInt8.toInt32))), (.int (nar .byte (c2.toInt8.toInt32))), (.int (0 : Int32))] := V3
  have K := K.wr W3 (Or.inl (List.mem_of_getElem? (i := 0) rfl))
  refine Own.iinc (1 : Int32) #[.val (.ref a1), .val (.int ((2 : Int32) + (1 : Int32))), .val (.ref a3), .val (.int (2 : Int32)), .val (.int (4 : Int32)), .val (.int (2 : Int32)), .val (.int c2)] d5_32 rfl rfl rfl ?_
  refine OAt.castL (Ls' := #[.val (.ref a1), .val (.int (3 : Int32)), .val (.ref a3), .val (.int (2 : Int32)), .val (.int (4 : Int32)), .val (.int (2 : Int32)), .val (.int c2)]) rfl rfl ?_
  refine Own.iinc (1 : Int32) #[.val (.ref a1), .val (.int (3 : Int32)), .val (.ref a3), .val (.int ((2 : Int32) + (1 : Int32))), .val (.int (4 : Int32)), .val (.int (2 : Int32)), .val (.int c2)] d5_35 rfl rfl rfl ?_
  refine OAt.castL (Ls' := #[.val (.ref a1), .val (.int (3 : Int32)), .val (.ref a3), .val (.int (3 : Int32)), .val (.int (4 : Int32)), .val (.int (2 : Int32)), .val (.int c2)]) rfl rfl ?_
  refine Own.iinc (1 : Int32) #[.val (.ref a1), .val (.int (3 : Int32)), .val (.ref a3), .val (.int (3 : Int32)), .val (.int (4 : Int32)), .val (.int ((2 : Int32) + (1 : Int32))), .val (.int c2)] d5_38 rfl rfl rfl ?_
  refine OAt.castL (Ls' := #[.val (.ref a1), .val (.int (3 : Int32)), .val (.ref a3), .val (.int (3 : Int32)), .val (.int (4 : Int32)), .val (.int (3 : Int32)), .val (.int c2)]) rfl rfl ?_
  refine Own.goto_ 3 d5_41 (by decide) rfl ?_
  refine Own.iload d5_3 rfl ?_
  refine Own.iload d5_5 rfl ?_
  refine Own.icmp_ge 44 d5_7 (by decide) rfl (fun q => absurd (by decide) q) (fun _ => ?_)
  refine Own.aloadN d5_10 rfl rfl ?_
  refine Own.iloadN d5_11 rfl ?_
  refine Own.caload_ V_a1 (i := 3) rfl rfl d5_12 ?_
  refine Own.istore #[.val (.ref a1), .val (.int (3 : Int32)), .val (.ref a3), .val (.int (3 : Int32)), .val (.int (4 : Int32)), .val (.int (3 : Int32)), .val (.int c3)] d5_13 rfl ?_
  refine Own.iload d5_15 rfl ?_
  refine Own.sipush (255 : Int32) d5_17 rfl ?_
  refine Own.icmp_le 26 d5_20 (by decide) rfl (fun _ => ?_) (fun q => absurd q hc3)
  refine Own.aloadN d5_26 rfl rfl ?_
  refine Own.iloadN d5_27 rfl ?_
  refine Own.iload d5_28 rfl ?_
  refine Own.i2b d5_30 ?_
  refine Own.bastore_ V3 (i := 3) rfl (Nat.le_of_ble_eq_true rfl) g_a3 (List.mem_of_getElem? (i := 0) rfl) d5_31 (fun h4 W4 V4 => ?_)
  have hn : n0 ≤ h4.size := by rw [W4.size]; exact hn
  replace V_a1 := V_a1.other W4 ne_a1_a3
  clear V3
  replace V4 : Arl Z h4 a3 kb .byte [(.int (nar .byte (c0.toInt8.toInt32))), (.int (nar .byte (c1.toInt8.toInt32))), (.int (nar .byte (c2.toInt8.toInt32))), (.int (nar .byte (c3.toInt8.toInt32)))] := V4
  have K := K.wr W4 (Or.inl (List.mem_of_getElem? (i := 0) rfl))
  refine Own.iinc (1 : Int32) #[.val (.ref a1), .val (.int ((3 : Int32) + (1 : Int32))), .val (.ref a3), .val (.int (3 : Int32)), .val (.int (4 : Int32)), .val (.int (3 : Int32)), .val (.int c3)] d5_32 rfl rfl rfl ?_
  refine OAt.castL (Ls' := #[.val (.ref a1), .val (.int (4 : Int32)), .val (.ref a3), .val (.int (3 : Int32)), .val (.int (4 : Int32)), .val (.int (3 : Int32)), .val (.int c3)]) rfl rfl ?_
  refine Own.iinc (1 : Int32) #[.val (.ref a1), .val (.int (4 : Int32)), .val (.ref a3), .val (.int ((3 : Int32) + (1 : Int32))), .val (.int (4 : Int32)), .val (.int (3 : Int32)), .val (.int c3)] d5_35 rfl rfl rfl ?_
  refine OAt.castL (Ls' := #[.val (.ref a1), .val (.int (4 : Int32)), .val (.ref a3), .val (.int (4 : Int32)), .val (.int (4 : Int32)), .val (.int (3 : Int32)), .val (.int c3)]) rfl rfl ?_
  refine Own.iinc (1 : Int32) #[.val (.ref a1), .val (.int (4 : Int32)), .val (.ref a3), .val (.int (4 : Int32)), .val (.int (4 : Int32)), .val (.int ((3 : Int32) + (1 : Int32))), .val (.int c3)] d5_38 rfl rfl rfl ?_
  refine OAt.castL (Ls' := #[.val (.ref a1), .val (.int (4 : Int32)), .val (.ref a3), .val (.int (4 : Int32)), .val (.int (4 : Int32)), .val (.int (4 : Int32)), .val (.int c3)]) rfl rfl ?_
  refine Own.goto_ 3 d5_41 (by decide) rfl ?_
  refine Own.iload d5_3 rfl ?_
  refine Own.iload d5_5 rfl ?_
  refine Own.icmp_ge 44 d5_7 (by decide) rfl (fun _ => ?_) (fun q => absurd q (by decide))
  refine Own.iload d5_44 rfl ?_
  refine Own.ret_int rfl d5_46 (by decide) (by decide) (fun Sf hSf => ?_)
  exact ⟨rfl, K, V4⟩
theorem d4_0 : decode jdk_52_method_16_code 0 = .ok (.iload_n 2, 1) := by decide +kernel
theorem d4_1 : decode jdk_52_method_16_code 1 = .ok (.newarray .byte, 2) := by decide +kernel
theorem d4_3 : decode jdk_52_method_16_code 3 = .ok (.astore_n 3, 1) := by decide +kernel
theorem d4_4 : decode jdk_52_method_16_code 4 = .ok (.aload_n 0, 1) := by decide +kernel
theorem d4_5 : decode jdk_52_method_16_code 5 = .ok (.iload_n 1, 1) := by decide +kernel
theorem d4_6 : decode jdk_52_method_16_code 6 = .ok (.aload_n 3, 1) := by decide +kernel
theorem d4_7 : decode jdk_52_method_16_code 7 = .ok (.iconst 0, 1) := by decide +kernel
theorem d4_8 : decode jdk_52_method_16_code 8 = .ok (.iload_n 2, 1) := by decide +kernel
theorem d4_9 : decode jdk_52_method_16_code 9 = .ok (.invokestatic 115, 3) := by decide +kernel
theorem pd_19 : parseMethodDescriptor "([CI[BII)I" = some ⟨[(.array .char), .int, (.array .byte), .int, .int], some .int⟩ := by decide +kernel
theorem d4_12 : decode jdk_52_method_16_code 12 = .ok (.istore 4, 2) := by decide +kernel
theorem d4_14 : decode jdk_52_method_16_code 14 = .ok (.iload 4, 2) := by decide +kernel
theorem d4_16 : decode jdk_52_method_16_code 16 = .ok (.iload_n 2, 1) := by decide +kernel
theorem d4_17 : decode jdk_52_method_16_code 17 = .ok (.if_icmp .eq 40, 3) := by decide +kernel
theorem d4_57 : decode jdk_52_method_16_code 57 = .ok (.aload_n 3, 1) := by decide +kernel
theorem d4_58 : decode jdk_52_method_16_code 58 = .ok (.areturn, 1) := by decide +kernel
def Q_rm3k4 (Z : State) (c0 : Int32) (c1 : Int32) (c2 : Int32) (c3 : Int32) (h0 : Heap) (n0 : Nat) (v : Option Value) (h : Heap) (Sf : Addr → Prop) : Prop := ∃ (a : Addr) (ka : ClassId), v = some (.ref a) ∧ h0.size ≤ a ∧ Keep h0 h [] ∧ Arl Z h a ka .byte [(.int (nar .byte (c0.toInt8.toInt32))), (.int (nar .byte (c1.toInt8.toInt32))), (.int (nar .byte (c2.toInt8.toInt32))), (.int (nar .byte (c3.toInt8.toInt32)))]
theorem ef_rm3k4 (m : MethodId) (a1 : Addr)  : entryFrame m #[(.ref a1), (.int (0 : Int32)), (.int (4 : Int32))] 6 = mkF m 0 #[.val (.ref a1), .val (.int (0 : Int32)), .val (.int (4 : Int32)), .unset, .unset, .unset] [] := by first | (simp [entryFrame, mkF, argsToLocals, Value.category]; done) | rfl
theorem pn_4 : plainFor (⟨"java/lang/StringUTF16", "compress", "([CII)[B"⟩ : MethodName) = true := plainFor_of_name (show plainName "java/lang/StringUTF16" = true by first | (simp [plainName, overriddenIn]; done) | decide +kernel)
set_option maxRecDepth 65536 in
set_option maxHeartbeats 40000000 in
theorem rm3k4 (l : Launch) (Z : State) (a0 : Array Value) (hw : ∀ d ∈ tables_1, d.before a0 Z = true) (ws : List Jvm.Cond) (a1 : Addr) (ka : ClassId) (c0 : Int32) (c1 : Int32) (c2 : Int32) (c3 : Int32) (h0 : Heap) (n0 : Nat) (hn : n0 ≤ h0.size) (V_a1 : Arl Z h0 a1 ka .char [(.int c0), (.int c1), (.int c2), (.int c3)]) (hc0 : ¬ (255 : Int32) < c0) (hc1 : ¬ (255 : Int32) < c1) (hc2 : ¬ (255 : Int32) < c2) (hc3 : ¬ (255 : Int32) < c3) :
    Met own_EL l Z (⟨"java/lang/StringUTF16", "compress", "([CII)[B"⟩ : MethodName) jdk_52_method_16_code 6 (some (.array .byte)) ({ frames := 1, cells := 1, slots := 4, locals := 18 } : Room) ws #[(.ref a1), (.int (0 : Int32)), (.int (4 : Int32))] h0 n0 [] (Q_rm3k4 Z c0 c1 c2 c3 h0 n0) := by
  refine Met.of pn_4 (fun m => ef_rm3k4 m a1) ?_
  have K := Keep.refl h0 []
  refine Own.iloadN d4_0 rfl ?_
  refine Own.newarray_ 4 .byte rfl (hw _ (List.mem_of_getElem? (i := 19) rfl)) d4_1 (N := 4) rfl (by decide) (by decide) (by decide) (by decide) rfl (fun h5 b5 k5 gb5 E5 V5 => ?_)
  have g_b5 : n0 ≤ b5 := by rw [gb5]; exact hn
  have ne_a1_b5 : a1 ≠ b5 := fun q => Nat.ne_of_lt V_a1.lt (q.trans gb5)
  have ne_b5_a1 := Ne.symm ne_a1_b5
  have hn := Nat.le_trans hn E5.1
  replace V_a1 := V_a1.ext E5
  replace V5 : Arl Z h5 b5 k5 .byte [(.int (0 : Int32)), (.int (0 : Int32)), (.int (0 : Int32)), (.int (0 : Int32))] := V5
  have sz_b5 : h0.size ≤ b5 := by rw [gb5]; exact K.1
  have K := K.ext E5
  refine Own.astoreN #[.val (.ref a1), .val (.int (0 : Int32)), .val (.int (4 : Int32)), .val (.ref b5), .unset, .unset] d4_3 rfl rfl ?_
  refine Own.aloadN d4_4 rfl rfl ?_
  refine Own.iloadN d4_5 rfl ?_
  refine Own.aloadN d4_6 rfl rfl ?_
  refine Own.iconst (0 : Int32) d4_7 rfl ?_
  refine Own.iloadN d4_8 rfl ?_
  refine Own.callS_ [(.ref a1), (.int (0 : Int32)), (.ref b5), (.int (0 : Int32)), (.int (4 : Int32))] [] 0 (rm5k4 l Z a0 hw [] a1 ka b5 k5 c0 c1 c2 c3 h5 n0 hn V_a1 V5 ne_a1_b5 g_b5 hc0 hc1 hc2 hc3) (allS (List.mem_of_getElem? (i := 0) rfl) all0) (hw _ (List.mem_of_getElem? (i := 20) rfl)) (hw _ (List.mem_of_getElem? (i := 21) rfl)) (hw _ (List.mem_of_getElem? (i := 17) rfl)) (hw _ (List.mem_of_getElem? (i := 22) rfl)) (by decide) d4_9 pd_19 rfl rfl rfl rfl (by decide) (by decide) (by decide) (by decide) (fun v6 h6 S6 hq6 => ?_)
  obtain ⟨rfl, K7, V7⟩ := hq6
  have hn := Nat.le_trans hn K7.1
  replace V_a1 := V_a1.keep K7 (ninS ne_a1_b5 nin0)
  have K := K.trans K7 (allS (Or.inr sz_b5) all0)
  refine ⟨[], all0, ?_⟩
  refine OAt.cast (st' := [(.int (4 : Int32))]) rfl ?_
  refine Own.istore #[.val (.ref a1), .val (.int (0 : Int32)), .val (.int (4 : Int32)), .val (.ref b5), .val (.int (4 : Int32)), .unset] d4_12 rfl ?_
  refine Own.iload d4_14 rfl ?_
  refine Own.iloadN d4_16 rfl ?_
  refine Own.icmp_eq 57 d4_17 (by decide) rfl (fun _ => ?_) (fun q => absurd (by decide) q)
  refine Own.aloadN d4_57 rfl rfl ?_
  refine Own.ret_ref (t := (.array .byte)) rfl rfl rfl d4_58 (by decide) (by decide) (fun Sf hSf => ?_)
  exact ⟨b5, k5, rfl, sz_b5, K, V7⟩
theorem d6_0 : decode jdk_52_method_15_code 0 = .ok (.iload_n 1, 1) := by decide +kernel
theorem d6_1 : decode jdk_52_method_15_code 1 = .ok (.aload_n 0, 1) := by decide +kernel
theorem d6_2 : decode jdk_52_method_15_code 2 = .ok (.arraylength, 1) := by decide +kernel
theorem d6_3 : decode jdk_52_method_15_code 3 = .ok (.isub, 1) := by decide +kernel
theorem d6_4 : decode jdk_52_method_15_code 4 = .ok (.bipush 31, 2) := by decide +kernel
theorem d6_6 : decode jdk_52_method_15_code 6 = .ok (.iushr, 1) := by decide +kernel
theorem d6_7 : decode jdk_52_method_15_code 7 = .ok (.i2b, 1) := by decide +kernel
theorem d6_8 : decode jdk_52_method_15_code 8 = .ok (.ireturn, 1) := by decide +kernel
theorem ef_rmlk4 (m : MethodId) (a1 : Addr)  : entryFrame m #[(.ref a1), (.int (4 : Int32))] 2 = mkF m 0 #[.val (.ref a1), .val (.int (4 : Int32))] [] := by first | (simp [entryFrame, mkF, argsToLocals, Value.category]; done) | rfl
theorem pn_6 : plainFor (⟨"java/lang/StringUTF16", "coderFromArrayLen", "([BI)B"⟩ : MethodName) = true := plainFor_of_name (show plainName "java/lang/StringUTF16" = true by first | (simp [plainName, overriddenIn]; done) | decide +kernel)
set_option maxRecDepth 65536 in
set_option maxHeartbeats 40000000 in
theorem rmlk4 (l : Launch) (Z : State) (a0 : Array Value) (hw : ∀ d ∈ tables_1, d.before a0 Z = true) (ws : List Jvm.Cond) (a1 : Addr) (ka : ClassId) (vs : List Value) (h0 : Heap) (n0 : Nat) (hn : n0 ≤ h0.size) (V_a1 : Arl Z h0 a1 ka .byte vs) (hl : vs.length = 4) :
    Met own_EL l Z (⟨"java/lang/StringUTF16", "coderFromArrayLen", "([BI)B"⟩ : MethodName) jdk_52_method_15_code 2 (some .byte) ({ frames := 0, cells := 0, slots := 0, locals := 0 } : Room) ws #[(.ref a1), (.int (4 : Int32))] h0 n0 [] (Pur (.int (0 : Int32)) h0) := by
  refine Met.of pn_6 (fun m => ef_rmlk4 m a1) ?_
  refine Own.iloadN d6_0 rfl ?_
  refine Own.aloadN d6_1 rfl rfl ?_
  refine Own.arraylength_ (4 : Int32) V_a1 (by rw [hl]; rfl) d6_2 ?_
  refine Own.isub d6_3 ?_
  refine OAt.cast (st' := [(.int (0 : Int32))]) rfl ?_
  refine Own.bipush (31 : Int32) d6_4 rfl ?_
  refine Own.iushr d6_6 ?_
  refine OAt.cast (st' := [(.int (0 : Int32))]) rfl ?_
  refine Own.i2b d6_7 ?_
  refine OAt.cast (st' := [(.int (0 : Int32))]) rfl ?_
  refine Own.ret_nar (t := .byte) (by simp) rfl d6_8 (by decide) (by decide) (fun Sf hSf => ?_)
  exact ⟨rfl, rfl⟩
theorem d2_0 : decode jdk_42_method_149_code 0 = .ok (.aload_n 0, 1) := by decide +kernel
theorem d2_1 : decode jdk_42_method_149_code 1 = .ok (.invokespecial 1, 3) := by decide +kernel
theorem d2_4 : decode jdk_42_method_149_code 4 = .ok (.iload_n 3, 1) := by decide +kernel
theorem d2_5 : decode jdk_42_method_149_code 5 = .ok (.ifCond .ne 22, 3) := by decide +kernel
theorem d2_27 : decode jdk_42_method_149_code 27 = .ok (.getstatic 38, 3) := by decide +kernel
theorem d2_30 : decode jdk_42_method_149_code 30 = .ok (.ifCond .eq 28, 3) := by decide +kernel
theorem d2_33 : decode jdk_42_method_149_code 33 = .ok (.aload_n 1, 1) := by decide +kernel
theorem d2_34 : decode jdk_42_method_149_code 34 = .ok (.iload_n 2, 1) := by decide +kernel
theorem d2_35 : decode jdk_42_method_149_code 35 = .ok (.iload_n 3, 1) := by decide +kernel
theorem d2_36 : decode jdk_42_method_149_code 36 = .ok (.invokestatic 177, 3) := by decide +kernel
theorem pd_17 : parseMethodDescriptor "([CII)[B" = some ⟨[(.array .char), .int, .int], some (.array .byte)⟩ := by decide +kernel
theorem d2_39 : decode jdk_42_method_149_code 39 = .ok (.astore 5, 2) := by decide +kernel
theorem d2_41 : decode jdk_42_method_149_code 41 = .ok (.aload_n 0, 1) := by decide +kernel
theorem d2_42 : decode jdk_42_method_149_code 42 = .ok (.aload 5, 2) := by decide +kernel
theorem d2_44 : decode jdk_42_method_149_code 44 = .ok (.iload_n 3, 1) := by decide +kernel
theorem d2_45 : decode jdk_42_method_149_code 45 = .ok (.invokestatic 47, 3) := by decide +kernel
theorem pd_13 : parseMethodDescriptor "([BI)B" = some ⟨[(.array .byte), .int], some .byte⟩ := by decide +kernel
theorem d2_48 : decode jdk_42_method_149_code 48 = .ok (.putfield 15, 3) := by decide +kernel
theorem d2_51 : decode jdk_42_method_149_code 51 = .ok (.aload_n 0, 1) := by decide +kernel
theorem d2_52 : decode jdk_42_method_149_code 52 = .ok (.aload 5, 2) := by decide +kernel
theorem d2_54 : decode jdk_42_method_149_code 54 = .ok (.putfield 9, 3) := by decide +kernel
theorem d2_57 : decode jdk_42_method_149_code 57 = .ok (.return_, 1) := by decide +kernel
def Q_rm4k4 (Z : State) (a1 : Addr) (c0 : Int32) (c1 : Int32) (c2 : Int32) (c3 : Int32) (h0 : Heap) (n0 : Nat) (v : Option Value) (h : Heap) (Sf : Addr → Prop) : Prop := v = none ∧ Keep h0 h [a1] ∧ ∃ (b : Addr) (kb : ClassId), h0.size ≤ b ∧ Fld Z h a1 "java/lang/String" "value" "[B" (.ref b) ∧ Fld Z h a1 "java/lang/String" "coder" "B" (.int (0 : Int32)) ∧ Arl Z h b kb .byte [(.int (nar .byte (c0.toInt8.toInt32))), (.int (nar .byte (c1.toInt8.toInt32))), (.int (nar .byte (c2.toInt8.toInt32))), (.int (nar .byte (c3.toInt8.toInt32)))]
theorem ef_rm4k4 (m : MethodId) (a1 : Addr) (a2 : Addr)  : entryFrame m #[(.ref a1), (.ref a2), (.int (0 : Int32)), (.int (4 : Int32)), .null] 6 = mkF m 0 #[.val (.ref a1), .val (.ref a2), .val (.int (0 : Int32)), .val (.int (4 : Int32)), .val .null, .unset] [] := by first | (simp [entryFrame, mkF, argsToLocals, Value.category]; done) | rfl
theorem pn_2 : plainFor (⟨"java/lang/String", "<init>", "([CIILjava/lang/Void;)V"⟩ : MethodName) = true := plainFor_of_name (show plainName "java/lang/String" = true by first | (simp [plainName, overriddenIn]; done) | decide +kernel)
set_option maxRecDepth 65536 in
set_option maxHeartbeats 40000000 in
theorem rm4k4 (l : Launch) (Z : State) (a0 : Array Value) (hw : ∀ d ∈ tables_1, d.before a0 Z = true) (ws : List Jvm.Cond) (a1 : Addr) (a2 : Addr) (ka : ClassId) (zc : Int32) (c0 : Int32) (c1 : Int32) (c2 : Int32) (c3 : Int32) (h0 : Heap) (n0 : Nat) (hn : n0 ≤ h0.size) (X_a1 : Exa Z h0 a1 "java/lang/String") (g_a1 : n0 ≤ a1) (F_value_a1 : Fld Z h0 a1 "java/lang/String" "value" "[B" .null) (F_coder_a1 : Fld Z h0 a1 "java/lang/String" "coder" "B" (.int (0 : Int32))) (V_a2 : Arl Z h0 a2 ka .char [(.int c0), (.int c1), (.int c2), (.int c3)]) (ne_a2_a1 : a2 ≠ a1) (S_C : Sta Z h0 "java/lang/String" "COMPACT_STRINGS" "Z" (.int zc)) (hz : ¬ zc = 0) (hc0 : ¬ (255 : Int32) < c0) (hc1 : ¬ (255 : Int32) < c1) (hc2 : ¬ (255 : Int32) < c2) (hc3 : ¬ (255 : Int32) < c3) :
    Met own_EL l Z (⟨"java/lang/String", "<init>", "([CIILjava/lang/Void;)V"⟩ : MethodName) jdk_42_method_149_code 6 none ({ frames := 2, cells := 1, slots := 4, locals := 35 } : Room) ws #[(.ref a1), (.ref a2), (.int (0 : Int32)), (.int (4 : Int32)), .null] h0 n0 [a1] (Q_rm4k4 Z a1 c0 c1 c2 c3 h0 n0) := by
  refine Met.of pn_2 (fun m => ef_rm4k4 m a1 a2) ?_
  have ne_a1_a2 := Ne.symm ne_a2_a1
  have K := Keep.refl h0 [a1]
  refine Own.aloadN d2_0 rfl rfl ?_
  refine Own.initO_ (hw _ (List.mem_of_getElem? (i := 11) rfl)) (hw _ (List.mem_of_getElem? (i := 12) rfl)) (hw _ (List.mem_of_getElem? (i := 13) rfl)) d2_1 rfl (by decide) 0 rfl (by decide) ?_
  refine Own.iloadN d2_4 rfl ?_
  refine Own.if_ne 27 d2_5 (by decide) rfl (fun _ => ?_) (fun q => absurd q (by decide))
  refine Own.getS_ (host := "") (Or.inl (hw _ (List.mem_of_getElem? (i := 14) rfl))) Via.refl S_C d2_27 ?_
  refine Own.if_eq 58 d2_30 (by decide) rfl (fun q => absurd q hz) (fun _ => ?_)
  refine Own.aloadN d2_33 rfl rfl ?_
  refine Own.iloadN d2_34 rfl ?_
  refine Own.iloadN d2_35 rfl ?_
  refine Own.callS_ [(.ref a2), (.int (0 : Int32)), (.int (4 : Int32))] [] 0 (rm3k4 l Z a0 hw [] a2 ka c0 c1 c2 c3 h0 n0 hn V_a2 hc0 hc1 hc2 hc3) all0 (hw _ (List.mem_of_getElem? (i := 15) rfl)) (hw _ (List.mem_of_getElem? (i := 16) rfl)) (hw _ (List.mem_of_getElem? (i := 17) rfl)) (hw _ (List.mem_of_getElem? (i := 18) rfl)) (by decide) d2_36 pd_17 rfl rfl rfl rfl (by decide) (by decide) (by decide) (by decide) (fun v8 h8 S8 hq8 => ?_)
  obtain ⟨b9, k9, rfl, z9, K9, V9⟩ := hq8
  have g_b9 : n0 ≤ b9 := Nat.le_trans hn z9
  have ne_a1_b9 : a1 ≠ b9 := Nat.ne_of_lt (Nat.lt_of_lt_of_le X_a1.lt z9)
  have ne_b9_a1 := Ne.symm ne_a1_b9
  have ne_a2_b9 : a2 ≠ b9 := Nat.ne_of_lt (Nat.lt_of_lt_of_le V_a2.lt z9)
  have ne_b9_a2 := Ne.symm ne_a2_b9
  have sz_b9 : h0.size ≤ b9 := Nat.le_trans K.1 z9
  have hn := Nat.le_trans hn K9.1
  replace S_C := sta_keep S_C K9 ns0
  replace X_a1 := X_a1.keep K9
  replace F_value_a1 := F_value_a1.keep K9 nin0
  replace F_coder_a1 := F_coder_a1.keep K9 nin0
  replace V_a2 := V_a2.keep K9 nin0
  have K := K.trans K9 all0
  refine ⟨[], all0, ?_⟩
  refine OAt.cast (st' := [(.ref b9)]) rfl ?_
  refine Own.astore #[.val (.ref a1), .val (.ref a2), .val (.int (0 : Int32)), .val (.int (4 : Int32)), .val .null, .val (.ref b9)] d2_39 rfl rfl ?_
  refine Own.aloadN d2_41 rfl rfl ?_
  refine Own.aload d2_42 rfl rfl ?_
  refine Own.iloadN d2_44 rfl ?_
  refine Own.callSP [(.ref b9), (.int (4 : Int32))] [(.ref a1)] 1 (rmlk4 l Z a0 hw [] b9 k9 _ h8 n0 hn V9 rfl) (hw _ (List.mem_of_getElem? (i := 23) rfl)) (hw _ (List.mem_of_getElem? (i := 24) rfl)) (hw _ (List.mem_of_getElem? (i := 17) rfl)) (hw _ (List.mem_of_getElem? (i := 25) rfl)) (by decide) d2_45 pd_13 rfl rfl rfl rfl (by decide) (by decide) (by decide) (by decide) ?_
  refine Own.putFN_ (hw _ (List.mem_of_getElem? (i := 26) rfl)) Via.refl F_coder_a1 X_a1 (Or.inr ⟨(hw _ (List.mem_of_getElem? (i := 27) rfl)), rfl, rfl⟩) (hw _ (List.mem_of_getElem? (i := 2) rfl)) (ty := .byte) (v' := (.int (nar .byte (0 : Int32)))) (by decide) rfl (fits_nar_byte _) g_a1 (List.mem_of_getElem? (i := 0) rfl) d2_48 (fun h10 W11 => ?_)
  replace F_coder_a1 := F_coder_a1.same W11
  have hn : n0 ≤ h10.size := by rw [W11.size]; exact hn
  replace X_a1 := X_a1.wr W11
  replace F_value_a1 := F_value_a1.other W11 (Or.inr (slot_ne (Or.inr (hw _ (List.mem_of_getElem? (i := 29) rfl))) (Or.inr (hw _ (List.mem_of_getElem? (i := 27) rfl))) (by decide) (t := (.array .byte)) (t' := .byte) (by decide) (by decide)))
  replace V_a2 := V_a2.other W11 ne_a2_a1
  replace S_C := S_C.wr W11
  replace V9 := V9.other W11 ne_b9_a1
  rw [show nar .byte (0 : Int32) = 0 from rfl] at F_coder_a1
  have K := K.wr W11 (Or.inl (List.mem_of_getElem? (i := 0) rfl))
  refine Own.aloadN d2_51 rfl rfl ?_
  refine Own.aload d2_52 rfl rfl ?_
  refine Own.putF_ (host := "") (Or.inl (hw _ (List.mem_of_getElem? (i := 28) rfl))) Via.refl F_value_a1 X_a1 (Or.inr ⟨(hw _ (List.mem_of_getElem? (i := 29) rfl)), rfl, rfl⟩) (hw _ (List.mem_of_getElem? (i := 2) rfl)) (ty := (.array .byte)) (by decide) rfl rfl g_a1 (List.mem_of_getElem? (i := 0) rfl) d2_54 (fun h12 W13 => ?_)
  replace F_value_a1 := F_value_a1.same W13
  have hn : n0 ≤ h12.size := by rw [W13.size]; exact hn
  replace X_a1 := X_a1.wr W13
  replace F_coder_a1 := F_coder_a1.other W13 (Or.inr (slot_ne (Or.inr (hw _ (List.mem_of_getElem? (i := 27) rfl))) (Or.inr (hw _ (List.mem_of_getElem? (i := 29) rfl))) (by decide) (t := .byte) (t' := (.array .byte)) (by decide) (by decide)))
  replace V_a2 := V_a2.other W13 ne_a2_a1
  replace S_C := S_C.wr W13
  replace V9 := V9.other W13 ne_b9_a1
  have K := K.wr W13 (Or.inl (List.mem_of_getElem? (i := 0) rfl))
  refine Own.ret_void rfl d2_57 (by decide) (by decide) (fun Sf hSf => ?_)
  exact ⟨rfl, K, b9, k9, sz_b9, F_value_a1, F_coder_a1, V9⟩
theorem d1_0 : decode jdk_42_method_3_code 0 = .ok (.aload_n 0, 1) := by decide +kernel
theorem d1_1 : decode jdk_42_method_3_code 1 = .ok (.aload_n 1, 1) := by decide +kernel
theorem d1_2 : decode jdk_42_method_3_code 2 = .ok (.iconst 0, 1) := by decide +kernel
theorem d1_3 : decode jdk_42_method_3_code 3 = .ok (.aload_n 1, 1) := by decide +kernel
theorem d1_4 : decode jdk_42_method_3_code 4 = .ok (.arraylength, 1) := by decide +kernel
theorem d1_5 : decode jdk_42_method_3_code 5 = .ok (.aconst_null, 1) := by decide +kernel
theorem d1_6 : decode jdk_42_method_3_code 6 = .ok (.invokespecial 27, 3) := by decide +kernel
theorem pd_18 : parseMethodDescriptor "([CIILjava/lang/Void;)V" = some ⟨[(.array .char), .int, .int, (.object "java/lang/Void")], none⟩ := by decide +kernel
theorem d1_9 : decode jdk_42_method_3_code 9 = .ok (.return_, 1) := by decide +kernel
def Q_rm1k4 (Z : State) (a1 : Addr) (c0 : Int32) (c1 : Int32) (c2 : Int32) (c3 : Int32) (h0 : Heap) (n0 : Nat) (v : Option Value) (h : Heap) (Sf : Addr → Prop) : Prop := v = none ∧ Keep h0 h [a1] ∧ ∃ (b : Addr) (kb : ClassId), h0.size ≤ b ∧ Fld Z h a1 "java/lang/String" "value" "[B" (.ref b) ∧ Fld Z h a1 "java/lang/String" "coder" "B" (.int (0 : Int32)) ∧ Arl Z h b kb .byte [(.int (nar .byte (c0.toInt8.toInt32))), (.int (nar .byte (c1.toInt8.toInt32))), (.int (nar .byte (c2.toInt8.toInt32))), (.int (nar .byte (c3.toInt8.toInt32)))]
theorem ef_rm1k4 (m : MethodId) (a1 : Addr) (a2 : Addr)  : entryFrame m #[(.ref a1), (.ref a2)] 2 = mkF m 0 #[.val (.ref a1), .val (.ref a2)] [] := by first | (simp [entryFrame, mkF, argsToLocals, Value.category]; done) | rfl
theorem pn_1 : plainFor (⟨"java/lang/String", "<init>", "([C)V"⟩ : MethodName) = true := plainFor_of_name (show plainName "java/lang/String" = true by first | (simp [plainName, overriddenIn]; done) | decide +kernel)
set_option maxRecDepth 65536 in
set_option maxHeartbeats 40000000 in
theorem rm1k4 (l : Launch) (Z : State) (a0 : Array Value) (hw : ∀ d ∈ tables_1, d.before a0 Z = true) (ws : List Jvm.Cond) (a1 : Addr) (a2 : Addr) (ka : ClassId) (zc : Int32) (c0 : Int32) (c1 : Int32) (c2 : Int32) (c3 : Int32) (h0 : Heap) (n0 : Nat) (hn : n0 ≤ h0.size) (X_a1 : Exa Z h0 a1 "java/lang/String") (g_a1 : n0 ≤ a1) (F_value_a1 : Fld Z h0 a1 "java/lang/String" "value" "[B" .null) (F_coder_a1 : Fld Z h0 a1 "java/lang/String" "coder" "B" (.int (0 : Int32))) (V_a2 : Arl Z h0 a2 ka .char [(.int c0), (.int c1), (.int c2), (.int c3)]) (ne_a2_a1 : a2 ≠ a1) (S_C : Sta Z h0 "java/lang/String" "COMPACT_STRINGS" "Z" (.int zc)) (hz : ¬ zc = 0) (hc0 : ¬ (255 : Int32) < c0) (hc1 : ¬ (255 : Int32) < c1) (hc2 : ¬ (255 : Int32) < c2) (hc3 : ¬ (255 : Int32) < c3) :
    Met own_EL l Z (⟨"java/lang/String", "<init>", "([C)V"⟩ : MethodName) jdk_42_method_3_code 2 none ({ frames := 3, cells := 1, slots := 4, locals := 52 } : Room) ws #[(.ref a1), (.ref a2)] h0 n0 [a1] (Q_rm1k4 Z a1 c0 c1 c2 c3 h0 n0) := by
  refine Met.of pn_1 (fun m => ef_rm1k4 m a1 a2) ?_
  have ne_a1_a2 := Ne.symm ne_a2_a1
  have K := Keep.refl h0 [a1]
  refine Own.aloadN d1_0 rfl rfl ?_
  refine Own.aloadN d1_1 rfl rfl ?_
  refine Own.iconst (0 : Int32) d1_2 rfl ?_
  refine Own.aloadN d1_3 rfl rfl ?_
  refine Own.arraylength_ (4 : Int32) V_a2 rfl d1_4 ?_
  refine Own.aconstNull d1_5 ?_
  refine Own.callI_ a1 [(.ref a2), (.int (0 : Int32)), (.int (4 : Int32)), .null] [] 0 (rm4k4 l Z a0 hw [] a1 a2 ka zc c0 c1 c2 c3 h0 n0 hn X_a1 g_a1 F_value_a1 F_coder_a1 V_a2 ne_a2_a1 S_C hz hc0 hc1 hc2 hc3) (allS (List.mem_of_getElem? (i := 0) rfl) all0) (hw _ (List.mem_of_getElem? (i := 7) rfl)) (hw _ (List.mem_of_getElem? (i := 8) rfl)) (hw _ (List.mem_of_getElem? (i := 3) rfl)) (hw _ (List.mem_of_getElem? (i := 10) rfl)) rfl (by decide) d1_6 pd_18 rfl rfl rfl rfl (by decide) (by decide) (by decide) (by decide) (fun v14 h14 S14 hq14 => ?_)
  obtain ⟨rfl, K4, rest4⟩ := hq14
  have hn := Nat.le_trans hn K4.1
  replace S_C := sta_keep S_C K4 (nsS X_a1.nostat ns0)
  replace X_a1 := X_a1.keep K4
  replace V_a2 := V_a2.keep K4 (ninS ne_a2_a1 nin0)
  have K := K.trans K4 (allS (Or.inl (List.mem_of_getElem? (i := 0) rfl)) all0)
  refine ⟨[], all0, ?_⟩
  refine OAt.cast (st' := []) rfl ?_
  refine Own.ret_void rfl d1_9 (by decide) (by decide) (fun Sf hSf => ?_)
  exact ⟨rfl, K, rest4⟩
theorem d13_0 : decode jdk_42_method_152_code 0 = .ok (.getstatic 38, 3) := by decide +kernel
theorem d13_3 : decode jdk_42_method_152_code 3 = .ok (.ifCond .eq 10, 3) := by decide +kernel
theorem d13_6 : decode jdk_42_method_152_code 6 = .ok (.aload_n 0, 1) := by decide +kernel
theorem d13_7 : decode jdk_42_method_152_code 7 = .ok (.getfield 15, 3) := by decide +kernel
theorem d13_10 : decode jdk_42_method_152_code 10 = .ok (.goto 4, 3) := by decide +kernel
theorem d13_14 : decode jdk_42_method_152_code 14 = .ok (.ireturn, 1) := by decide +kernel
theorem ef_rm_coder_0 (m : MethodId) (a1 : Addr)  : entryFrame m #[(.ref a1)] 1 = mkF m 0 #[.val (.ref a1)] [] := by first | (simp [entryFrame, mkF, argsToLocals, Value.category]; done) | rfl
theorem pn_13 : plainFor (⟨"java/lang/String", "coder", "()B"⟩ : MethodName) = true := plainFor_of_name (show plainName "java/lang/String" = true by first | (simp [plainName, overriddenIn]; done) | decide +kernel)
set_option maxRecDepth 65536 in
set_option maxHeartbeats 40000000 in
theorem rm_coder_0 (l : Launch) (Z : State) (a0 : Array Value) (hw : ∀ d ∈ tables_1, d.before a0 Z = true) (ws : List Jvm.Cond) (a1 : Addr) (b : Addr) (kb : ClassId) (vs : List Value) (zc : Int32) (h0 : Heap) (n0 : Nat) (hn : n0 ≤ h0.size) (X_a1 : Exa Z h0 a1 "java/lang/String") (F_value_a1 : Fld Z h0 a1 "java/lang/String" "value" "[B" (.ref b)) (F_coder_a1 : Fld Z h0 a1 "java/lang/String" "coder" "B" (.int (0 : Int32))) (V_b : Arl Z h0 b kb .byte vs) (hl : vs.length = 0) (S_C : Sta Z h0 "java/lang/String" "COMPACT_STRINGS" "Z" (.int zc)) (hz : ¬ zc = 0) :
    Met own_EL l Z (⟨"java/lang/String", "coder", "()B"⟩ : MethodName) jdk_42_method_152_code 1 (some .byte) ({ frames := 0, cells := 0, slots := 0, locals := 0 } : Room) ws #[(.ref a1)] h0 n0 [] (Pur (.int (0 : Int32)) h0) := by
  refine Met.of pn_13 (fun m => ef_rm_coder_0 m a1) ?_
  refine Own.getS_ (host := "") (Or.inl (hw _ (List.mem_of_getElem? (i := 14) rfl))) Via.refl S_C d13_0 ?_
  refine Own.if_eq 13 d13_3 (by decide) rfl (fun q => absurd q hz) (fun _ => ?_)
  refine Own.aloadN d13_6 rfl rfl ?_
  refine Own.getF_ (host := "") (Or.inl (hw _ (List.mem_of_getElem? (i := 26) rfl))) Via.refl F_coder_a1 d13_7 ?_
  refine Own.goto_ 14 d13_10 (by decide) rfl ?_
  refine Own.ret_nar (t := .byte) (by simp) rfl d13_14 (by decide) (by decide) (fun Sf hSf => ?_)
  exact ⟨rfl, rfl⟩
theorem d12_0 : decode jdk_42_method_54_code 0 = .ok (.aload_n 0, 1) := by decide +kernel
theorem d12_1 : decode jdk_42_method_54_code 1 = .ok (.getfield 9, 3) := by decide +kernel
theorem d12_4 : decode jdk_42_method_54_code 4 = .ok (.arraylength, 1) := by decide +kernel
theorem d12_5 : decode jdk_42_method_54_code 5 = .ok (.aload_n 0, 1) := by decide +kernel
theorem d12_6 : decode jdk_42_method_54_code 6 = .ok (.invokevirtual 335, 3) := by decide +kernel
theorem pd_0 : parseMethodDescriptor "()B" = some ⟨[], some .byte⟩ := by decide +kernel
theorem d12_9 : decode jdk_42_method_54_code 9 = .ok (.ishr, 1) := by decide +kernel
theorem d12_10 : decode jdk_42_method_54_code 10 = .ok (.ireturn, 1) := by decide +kernel
theorem ef_rm_len_0 (m : MethodId) (a1 : Addr)  : entryFrame m #[(.ref a1)] 1 = mkF m 0 #[.val (.ref a1)] [] := by first | (simp [entryFrame, mkF, argsToLocals, Value.category]; done) | rfl
theorem pn_12 : plainFor (⟨"java/lang/String", "length", "()I"⟩ : MethodName) = true := plainFor_of_name (show plainName "java/lang/String" = true by first | (simp [plainName, overriddenIn]; done) | decide +kernel)
set_option maxRecDepth 65536 in
set_option maxHeartbeats 40000000 in
theorem rm_len_0 (l : Launch) (Z : State) (a0 : Array Value) (hw : ∀ d ∈ tables_1, d.before a0 Z = true) (ws : List Jvm.Cond) (a1 : Addr) (b : Addr) (kb : ClassId) (vs : List Value) (zc : Int32) (h0 : Heap) (n0 : Nat) (hn : n0 ≤ h0.size) (X_a1 : Exa Z h0 a1 "java/lang/String") (F_value_a1 : Fld Z h0 a1 "java/lang/String" "value" "[B" (.ref b)) (F_coder_a1 : Fld Z h0 a1 "java/lang/String" "coder" "B" (.int (0 : Int32))) (V_b : Arl Z h0 b kb .byte vs) (hl : vs.length = 0) (S_C : Sta Z h0 "java/lang/String" "COMPACT_STRINGS" "Z" (.int zc)) (hz : ¬ zc = 0) :
    Met own_EL l Z (⟨"java/lang/String", "length", "()I"⟩ : MethodName) jdk_42_method_54_code 1 (some .int) ({ frames := 1, cells := 0, slots := 0, locals := 13 } : Room) ws #[(.ref a1)] h0 n0 [] (Pur (.int (0 : Int32)) h0) := by
  refine Met.of pn_12 (fun m => ef_rm_len_0 m a1) ?_
  refine Own.aloadN d12_0 rfl rfl ?_
  refine Own.getF_ (host := "") (Or.inl (hw _ (List.mem_of_getElem? (i := 28) rfl))) Via.refl F_value_a1 d12_1 ?_
  refine Own.arraylength_ (0 : Int32) V_b (by rw [hl]; rfl) d12_4 ?_
  refine Own.aloadN d12_5 rfl rfl ?_
  refine Own.callVP a1 [] [(.int (0 : Int32))] 1 (rm_coder_0 l Z a0 hw [] a1 b kb vs zc h0 n0 hn X_a1 F_value_a1 F_coder_a1 V_b hl S_C hz) (hw _ (List.mem_of_getElem? (i := 69) rfl)) (hw _ (List.mem_of_getElem? (i := 70) rfl)) (fun s hZ => notFace_of_selects (args := #[]) (mvT hZ (hw _ (List.mem_of_getElem? (i := 72) rfl)))) (hw _ (List.mem_of_getElem? (i := 72) rfl)) (hw _ (List.mem_of_getElem? (i := 71) rfl)) (hw _ (List.mem_of_getElem? (i := 3) rfl)) (hw _ (List.mem_of_getElem? (i := 73) rfl)) (by decide) X_a1 d12_6 pd_0 rfl rfl rfl rfl (by decide) (by decide) (by decide) (by decide) ?_
  refine Own.ishr d12_9 ?_
  refine OAt.cast (st' := [(.int (0 : Int32))]) rfl ?_
  refine Own.ret_int rfl d12_10 (by decide) (by decide) (fun Sf hSf => ?_)
  exact ⟨rfl, rfl⟩
theorem d16_0 : decode jdk_42_method_154_code 0 = .ok (.getstatic 38, 3) := by decide +kernel
theorem d16_3 : decode jdk_42_method_154_code 3 = .ok (.ifCond .eq 14, 3) := by decide +kernel
theorem d16_6 : decode jdk_42_method_154_code 6 = .ok (.aload_n 0, 1) := by decide +kernel
theorem d16_7 : decode jdk_42_method_154_code 7 = .ok (.getfield 15, 3) := by decide +kernel
theorem d16_10 : decode jdk_42_method_154_code 10 = .ok (.ifCond .ne 7, 3) := by decide +kernel
theorem d16_13 : decode jdk_42_method_154_code 13 = .ok (.iconst 1, 1) := by decide +kernel
theorem d16_14 : decode jdk_42_method_154_code 14 = .ok (.goto 4, 3) := by decide +kernel
theorem d16_18 : decode jdk_42_method_154_code 18 = .ok (.ireturn, 1) := by decide +kernel
theorem ef_rm_lat_0 (m : MethodId) (a1 : Addr)  : entryFrame m #[(.ref a1)] 1 = mkF m 0 #[.val (.ref a1)] [] := by first | (simp [entryFrame, mkF, argsToLocals, Value.category]; done) | rfl
theorem pn_16 : plainFor (⟨"java/lang/String", "isLatin1", "()Z"⟩ : MethodName) = true := plainFor_of_name (show plainName "java/lang/String" = true by first | (simp [plainName, overriddenIn]; done) | decide +kernel)
set_option maxRecDepth 65536 in
set_option maxHeartbeats 40000000 in
theorem rm_lat_0 (l : Launch) (Z : State) (a0 : Array Value) (hw : ∀ d ∈ tables_1, d.before a0 Z = true) (ws : List Jvm.Cond) (a1 : Addr) (b : Addr) (kb : ClassId) (vs : List Value) (zc : Int32) (h0 : Heap) (n0 : Nat) (hn : n0 ≤ h0.size) (X_a1 : Exa Z h0 a1 "java/lang/String") (F_value_a1 : Fld Z h0 a1 "java/lang/String" "value" "[B" (.ref b)) (F_coder_a1 : Fld Z h0 a1 "java/lang/String" "coder" "B" (.int (0 : Int32))) (V_b : Arl Z h0 b kb .byte vs) (hl : vs.length = 0) (S_C : Sta Z h0 "java/lang/String" "COMPACT_STRINGS" "Z" (.int zc)) (hz : ¬ zc = 0) :
    Met own_EL l Z (⟨"java/lang/String", "isLatin1", "()Z"⟩ : MethodName) jdk_42_method_154_code 1 (some .boolean) ({ frames := 0, cells := 0, slots := 0, locals := 0 } : Room) ws #[(.ref a1)] h0 n0 [] (Pur (.int (1 : Int32)) h0) := by
  refine Met.of pn_16 (fun m => ef_rm_lat_0 m a1) ?_
  refine Own.getS_ (host := "") (Or.inl (hw _ (List.mem_of_getElem? (i := 14) rfl))) Via.refl S_C d16_0 ?_
  refine Own.if_eq 17 d16_3 (by decide) rfl (fun q => absurd q hz) (fun _ => ?_)
  refine Own.aloadN d16_6 rfl rfl ?_
  refine Own.getF_ (host := "") (Or.inl (hw _ (List.mem_of_getElem? (i := 26) rfl))) Via.refl F_coder_a1 d16_7 ?_
  refine Own.if_ne 17 d16_10 (by decide) rfl (fun q => absurd (by decide) q) (fun _ => ?_)
  refine Own.iconst (1 : Int32) d16_13 rfl ?_
  refine Own.goto_ 18 d16_14 (by decide) rfl ?_
  refine Own.ret_nar (t := .boolean) (by simp) rfl d16_18 (by decide) (by decide) (fun Sf hSf => ?_)
  exact ⟨rfl, rfl⟩
theorem d18_0 : decode jdk_42_method_55_code 0 = .ok (.aload_n 0, 1) := by decide +kernel
theorem d18_1 : decode jdk_42_method_55_code 1 = .ok (.getfield 9, 3) := by decide +kernel
theorem d18_4 : decode jdk_42_method_55_code 4 = .ok (.arraylength, 1) := by decide +kernel
theorem d18_5 : decode jdk_42_method_55_code 5 = .ok (.ifCond .ne 7, 3) := by decide +kernel
theorem d18_8 : decode jdk_42_method_55_code 8 = .ok (.iconst 1, 1) := by decide +kernel
theorem d18_9 : decode jdk_42_method_55_code 9 = .ok (.goto 4, 3) := by decide +kernel
theorem d18_13 : decode jdk_42_method_55_code 13 = .ok (.ireturn, 1) := by decide +kernel
theorem ef_rm_empty_0 (m : MethodId) (a1 : Addr)  : entryFrame m #[(.ref a1)] 1 = mkF m 0 #[.val (.ref a1)] [] := by first | (simp [entryFrame, mkF, argsToLocals, Value.category]; done) | rfl
theorem pn_18 : plainFor (⟨"java/lang/String", "isEmpty", "()Z"⟩ : MethodName) = true := plainFor_of_name (show plainName "java/lang/String" = true by first | (simp [plainName, overriddenIn]; done) | decide +kernel)
set_option maxRecDepth 65536 in
set_option maxHeartbeats 40000000 in
theorem rm_empty_0 (l : Launch) (Z : State) (a0 : Array Value) (hw : ∀ d ∈ tables_1, d.before a0 Z = true) (ws : List Jvm.Cond) (a1 : Addr) (b : Addr) (kb : ClassId) (vs : List Value) (zc : Int32) (h0 : Heap) (n0 : Nat) (hn : n0 ≤ h0.size) (X_a1 : Exa Z h0 a1 "java/lang/String") (F_value_a1 : Fld Z h0 a1 "java/lang/String" "value" "[B" (.ref b)) (F_coder_a1 : Fld Z h0 a1 "java/lang/String" "coder" "B" (.int (0 : Int32))) (V_b : Arl Z h0 b kb .byte vs) (hl : vs.length = 0) (S_C : Sta Z h0 "java/lang/String" "COMPACT_STRINGS" "Z" (.int zc)) (hz : ¬ zc = 0) :
    Met own_EL l Z (⟨"java/lang/String", "isEmpty", "()Z"⟩ : MethodName) jdk_42_method_55_code 1 (some .boolean) ({ frames := 0, cells := 0, slots := 0, locals := 0 } : Room) ws #[(.ref a1)] h0 n0 [] (Pur (.int (1 : Int32)) h0) := by
  refine Met.of pn_18 (fun m => ef_rm_empty_0 m a1) ?_
  refine Own.aloadN d18_0 rfl rfl ?_
  refine Own.getF_ (host := "") (Or.inl (hw _ (List.mem_of_getElem? (i := 28) rfl))) Via.refl F_value_a1 d18_1 ?_
  refine Own.arraylength_ (0 : Int32) V_b (by rw [hl]; rfl) d18_4 ?_
  refine Own.if_ne 12 d18_5 (by decide) rfl (fun q => absurd (by decide) q) (fun _ => ?_)
  refine Own.iconst (1 : Int32) d18_8 rfl ?_
  refine Own.goto_ 13 d18_9 (by decide) rfl ?_
  refine Own.ret_nar (t := .boolean) (by simp) rfl d18_13 (by decide) (by decide) (fun Sf hSf => ?_)
  exact ⟨rfl, rfl⟩
theorem ef_rm_coder_1 (m : MethodId) (a1 : Addr)  : entryFrame m #[(.ref a1)] 1 = mkF m 0 #[.val (.ref a1)] [] := by first | (simp [entryFrame, mkF, argsToLocals, Value.category]; done) | rfl
set_option maxRecDepth 65536 in
set_option maxHeartbeats 40000000 in
theorem rm_coder_1 (l : Launch) (Z : State) (a0 : Array Value) (hw : ∀ d ∈ tables_1, d.before a0 Z = true) (ws : List Jvm.Cond) (a1 : Addr) (b : Addr) (kb : ClassId) (vs : List Value) (zc : Int32) (h0 : Heap) (n0 : Nat) (hn : n0 ≤ h0.size) (X_a1 : Exa Z h0 a1 "java/lang/String") (F_value_a1 : Fld Z h0 a1 "java/lang/String" "value" "[B" (.ref b)) (F_coder_a1 : Fld Z h0 a1 "java/lang/String" "coder" "B" (.int (0 : Int32))) (V_b : Arl Z h0 b kb .byte vs) (hl : vs.length = 1) (S_C : Sta Z h0 "java/lang/String" "COMPACT_STRINGS" "Z" (.int zc)) (hz : ¬ zc = 0) :
    Met own_EL l Z (⟨"java/lang/String", "coder", "()B"⟩ : MethodName) jdk_42_method_152_code 1 (some .byte) ({ frames := 0, cells := 0, slots := 0, locals := 0 } : Room) ws #[(.ref a1)] h0 n0 [] (Pur (.int (0 : Int32)) h0) := by
  refine Met.of pn_13 (fun m => ef_rm_coder_1 m a1) ?_
  refine Own.getS_ (host := "") (Or.inl (hw _ (List.mem_of_getElem? (i := 14) rfl))) Via.refl S_C d13_0 ?_
  refine Own.if_eq 13 d13_3 (by decide) rfl (fun q => absurd q hz) (fun _ => ?_)
  refine Own.aloadN d13_6 rfl rfl ?_
  refine Own.getF_ (host := "") (Or.inl (hw _ (List.mem_of_getElem? (i := 26) rfl))) Via.refl F_coder_a1 d13_7 ?_
  refine Own.goto_ 14 d13_10 (by decide) rfl ?_
  refine Own.ret_nar (t := .byte) (by simp) rfl d13_14 (by decide) (by decide) (fun Sf hSf => ?_)
  exact ⟨rfl, rfl⟩
theorem ef_rm_len_1 (m : MethodId) (a1 : Addr)  : entryFrame m #[(.ref a1)] 1 = mkF m 0 #[.val (.ref a1)] [] := by first | (simp [entryFrame, mkF, argsToLocals, Value.category]; done) | rfl
set_option maxRecDepth 65536 in
set_option maxHeartbeats 40000000 in
theorem rm_len_1 (l : Launch) (Z : State) (a0 : Array Value) (hw : ∀ d ∈ tables_1, d.before a0 Z = true) (ws : List Jvm.Cond) (a1 : Addr) (b : Addr) (kb : ClassId) (vs : List Value) (zc : Int32) (h0 : Heap) (n0 : Nat) (hn : n0 ≤ h0.size) (X_a1 : Exa Z h0 a1 "java/lang/String") (F_value_a1 : Fld Z h0 a1 "java/lang/String" "value" "[B" (.ref b)) (F_coder_a1 : Fld Z h0 a1 "java/lang/String" "coder" "B" (.int (0 : Int32))) (V_b : Arl Z h0 b kb .byte vs) (hl : vs.length = 1) (S_C : Sta Z h0 "java/lang/String" "COMPACT_STRINGS" "Z" (.int zc)) (hz : ¬ zc = 0) :
    Met own_EL l Z (⟨"java/lang/String", "length", "()I"⟩ : MethodName) jdk_42_method_54_code 1 (some .int) ({ frames := 1, cells := 0, slots := 0, locals := 13 } : Room) ws #[(.ref a1)] h0 n0 [] (Pur (.int (1 : Int32)) h0) := by
  refine Met.of pn_12 (fun m => ef_rm_len_1 m a1) ?_
  refine Own.aloadN d12_0 rfl rfl ?_
  refine Own.getF_ (host := "") (Or.inl (hw _ (List.mem_of_getElem? (i := 28) rfl))) Via.refl F_value_a1 d12_1 ?_
  refine Own.arraylength_ (1 : Int32) V_b (by rw [hl]; rfl) d12_4 ?_
  refine Own.aloadN d12_5 rfl rfl ?_
  refine Own.callVP a1 [] [(.int (1 : Int32))] 1 (rm_coder_1 l Z a0 hw [] a1 b kb vs zc h0 n0 hn X_a1 F_value_a1 F_coder_a1 V_b hl S_C hz) (hw _ (List.mem_of_getElem? (i := 69) rfl)) (hw _ (List.mem_of_getElem? (i := 70) rfl)) (fun s hZ => notFace_of_selects (args := #[]) (mvT hZ (hw _ (List.mem_of_getElem? (i := 72) rfl)))) (hw _ (List.mem_of_getElem? (i := 72) rfl)) (hw _ (List.mem_of_getElem? (i := 71) rfl)) (hw _ (List.mem_of_getElem? (i := 3) rfl)) (hw _ (List.mem_of_getElem? (i := 73) rfl)) (by decide) X_a1 d12_6 pd_0 rfl rfl rfl rfl (by decide) (by decide) (by decide) (by decide) ?_
  refine Own.ishr d12_9 ?_
  refine OAt.cast (st' := [(.int (1 : Int32))]) rfl ?_
  refine Own.ret_int rfl d12_10 (by decide) (by decide) (fun Sf hSf => ?_)
  exact ⟨rfl, rfl⟩
theorem ef_rm_lat_1 (m : MethodId) (a1 : Addr)  : entryFrame m #[(.ref a1)] 1 = mkF m 0 #[.val (.ref a1)] [] := by first | (simp [entryFrame, mkF, argsToLocals, Value.category]; done) | rfl
set_option maxRecDepth 65536 in
set_option maxHeartbeats 40000000 in
theorem rm_lat_1 (l : Launch) (Z : State) (a0 : Array Value) (hw : ∀ d ∈ tables_1, d.before a0 Z = true) (ws : List Jvm.Cond) (a1 : Addr) (b : Addr) (kb : ClassId) (vs : List Value) (zc : Int32) (h0 : Heap) (n0 : Nat) (hn : n0 ≤ h0.size) (X_a1 : Exa Z h0 a1 "java/lang/String") (F_value_a1 : Fld Z h0 a1 "java/lang/String" "value" "[B" (.ref b)) (F_coder_a1 : Fld Z h0 a1 "java/lang/String" "coder" "B" (.int (0 : Int32))) (V_b : Arl Z h0 b kb .byte vs) (hl : vs.length = 1) (S_C : Sta Z h0 "java/lang/String" "COMPACT_STRINGS" "Z" (.int zc)) (hz : ¬ zc = 0) :
    Met own_EL l Z (⟨"java/lang/String", "isLatin1", "()Z"⟩ : MethodName) jdk_42_method_154_code 1 (some .boolean) ({ frames := 0, cells := 0, slots := 0, locals := 0 } : Room) ws #[(.ref a1)] h0 n0 [] (Pur (.int (1 : Int32)) h0) := by
  refine Met.of pn_16 (fun m => ef_rm_lat_1 m a1) ?_
  refine Own.getS_ (host := "") (Or.inl (hw _ (List.mem_of_getElem? (i := 14) rfl))) Via.refl S_C d16_0 ?_
  refine Own.if_eq 17 d16_3 (by decide) rfl (fun q => absurd q hz) (fun _ => ?_)
  refine Own.aloadN d16_6 rfl rfl ?_
  refine Own.getF_ (host := "") (Or.inl (hw _ (List.mem_of_getElem? (i := 26) rfl))) Via.refl F_coder_a1 d16_7 ?_
  refine Own.if_ne 17 d16_10 (by decide) rfl (fun q => absurd (by decide) q) (fun _ => ?_)
  refine Own.iconst (1 : Int32) d16_13 rfl ?_
  refine Own.goto_ 18 d16_14 (by decide) rfl ?_
  refine Own.ret_nar (t := .boolean) (by simp) rfl d16_18 (by decide) (by decide) (fun Sf hSf => ?_)
  exact ⟨rfl, rfl⟩
theorem d18_12 : decode jdk_42_method_55_code 12 = .ok (.iconst 0, 1) := by decide +kernel
theorem ef_rm_empty_1 (m : MethodId) (a1 : Addr)  : entryFrame m #[(.ref a1)] 1 = mkF m 0 #[.val (.ref a1)] [] := by first | (simp [entryFrame, mkF, argsToLocals, Value.category]; done) | rfl
set_option maxRecDepth 65536 in
set_option maxHeartbeats 40000000 in
theorem rm_empty_1 (l : Launch) (Z : State) (a0 : Array Value) (hw : ∀ d ∈ tables_1, d.before a0 Z = true) (ws : List Jvm.Cond) (a1 : Addr) (b : Addr) (kb : ClassId) (vs : List Value) (zc : Int32) (h0 : Heap) (n0 : Nat) (hn : n0 ≤ h0.size) (X_a1 : Exa Z h0 a1 "java/lang/String") (F_value_a1 : Fld Z h0 a1 "java/lang/String" "value" "[B" (.ref b)) (F_coder_a1 : Fld Z h0 a1 "java/lang/String" "coder" "B" (.int (0 : Int32))) (V_b : Arl Z h0 b kb .byte vs) (hl : vs.length = 1) (S_C : Sta Z h0 "java/lang/String" "COMPACT_STRINGS" "Z" (.int zc)) (hz : ¬ zc = 0) :
    Met own_EL l Z (⟨"java/lang/String", "isEmpty", "()Z"⟩ : MethodName) jdk_42_method_55_code 1 (some .boolean) ({ frames := 0, cells := 0, slots := 0, locals := 0 } : Room) ws #[(.ref a1)] h0 n0 [] (Pur (.int (0 : Int32)) h0) := by
  refine Met.of pn_18 (fun m => ef_rm_empty_1 m a1) ?_
  refine Own.aloadN d18_0 rfl rfl ?_
  refine Own.getF_ (host := "") (Or.inl (hw _ (List.mem_of_getElem? (i := 28) rfl))) Via.refl F_value_a1 d18_1 ?_
  refine Own.arraylength_ (1 : Int32) V_b (by rw [hl]; rfl) d18_4 ?_
  refine Own.if_ne 12 d18_5 (by decide) rfl (fun _ => ?_) (fun q => absurd q (by decide))
  refine Own.iconst (0 : Int32) d18_12 rfl ?_
  refine Own.ret_nar (t := .boolean) (by simp) rfl d18_13 (by decide) (by decide) (fun Sf hSf => ?_)
  exact ⟨rfl, rfl⟩
theorem ef_rm_coder_2 (m : MethodId) (a1 : Addr)  : entryFrame m #[(.ref a1)] 1 = mkF m 0 #[.val (.ref a1)] [] := by first | (simp [entryFrame, mkF, argsToLocals, Value.category]; done) | rfl
set_option maxRecDepth 65536 in
set_option maxHeartbeats 40000000 in
theorem rm_coder_2 (l : Launch) (Z : State) (a0 : Array Value) (hw : ∀ d ∈ tables_1, d.before a0 Z = true) (ws : List Jvm.Cond) (a1 : Addr) (b : Addr) (kb : ClassId) (vs : List Value) (zc : Int32) (h0 : Heap) (n0 : Nat) (hn : n0 ≤ h0.size) (X_a1 : Exa Z h0 a1 "java/lang/String") (F_value_a1 : Fld Z h0 a1 "java/lang/String" "value" "[B" (.ref b)) (F_coder_a1 : Fld Z h0 a1 "java/lang/String" "coder" "B" (.int (0 : Int32))) (V_b : Arl Z h0 b kb .byte vs) (hl : vs.length = 2) (S_C : Sta Z h0 "java/lang/String" "COMPACT_STRINGS" "Z" (.int zc)) (hz : ¬ zc = 0) :
    Met own_EL l Z (⟨"java/lang/String", "coder", "()B"⟩ : MethodName) jdk_42_method_152_code 1 (some .byte) ({ frames := 0, cells := 0, slots := 0, locals := 0 } : Room) ws #[(.ref a1)] h0 n0 [] (Pur (.int (0 : Int32)) h0) := by
  refine Met.of pn_13 (fun m => ef_rm_coder_2 m a1) ?_
  refine Own.getS_ (host := "") (Or.inl (hw _ (List.mem_of_getElem? (i := 14) rfl))) Via.refl S_C d13_0 ?_
  refine Own.if_eq 13 d13_3 (by decide) rfl (fun q => absurd q hz) (fun _ => ?_)
  refine Own.aloadN d13_6 rfl rfl ?_
  refine Own.getF_ (host := "") (Or.inl (hw _ (List.mem_of_getElem? (i := 26) rfl))) Via.refl F_coder_a1 d13_7 ?_
  refine Own.goto_ 14 d13_10 (by decide) rfl ?_
  refine Own.ret_nar (t := .byte) (by simp) rfl d13_14 (by decide) (by decide) (fun Sf hSf => ?_)
  exact ⟨rfl, rfl⟩
theorem ef_rm_len_2 (m : MethodId) (a1 : Addr)  : entryFrame m #[(.ref a1)] 1 = mkF m 0 #[.val (.ref a1)] [] := by first | (simp [entryFrame, mkF, argsToLocals, Value.category]; done) | rfl
set_option maxRecDepth 65536 in
set_option maxHeartbeats 40000000 in
theorem rm_len_2 (l : Launch) (Z : State) (a0 : Array Value) (hw : ∀ d ∈ tables_1, d.before a0 Z = true) (ws : List Jvm.Cond) (a1 : Addr) (b : Addr) (kb : ClassId) (vs : List Value) (zc : Int32) (h0 : Heap) (n0 : Nat) (hn : n0 ≤ h0.size) (X_a1 : Exa Z h0 a1 "java/lang/String") (F_value_a1 : Fld Z h0 a1 "java/lang/String" "value" "[B" (.ref b)) (F_coder_a1 : Fld Z h0 a1 "java/lang/String" "coder" "B" (.int (0 : Int32))) (V_b : Arl Z h0 b kb .byte vs) (hl : vs.length = 2) (S_C : Sta Z h0 "java/lang/String" "COMPACT_STRINGS" "Z" (.int zc)) (hz : ¬ zc = 0) :
    Met own_EL l Z (⟨"java/lang/String", "length", "()I"⟩ : MethodName) jdk_42_method_54_code 1 (some .int) ({ frames := 1, cells := 0, slots := 0, locals := 13 } : Room) ws #[(.ref a1)] h0 n0 [] (Pur (.int (2 : Int32)) h0) := by
  refine Met.of pn_12 (fun m => ef_rm_len_2 m a1) ?_
  refine Own.aloadN d12_0 rfl rfl ?_
  refine Own.getF_ (host := "") (Or.inl (hw _ (List.mem_of_getElem? (i := 28) rfl))) Via.refl F_value_a1 d12_1 ?_
  refine Own.arraylength_ (2 : Int32) V_b (by rw [hl]; rfl) d12_4 ?_
  refine Own.aloadN d12_5 rfl rfl ?_
  refine Own.callVP a1 [] [(.int (2 : Int32))] 1 (rm_coder_2 l Z a0 hw [] a1 b kb vs zc h0 n0 hn X_a1 F_value_a1 F_coder_a1 V_b hl S_C hz) (hw _ (List.mem_of_getElem? (i := 69) rfl)) (hw _ (List.mem_of_getElem? (i := 70) rfl)) (fun s hZ => notFace_of_selects (args := #[]) (mvT hZ (hw _ (List.mem_of_getElem? (i := 72) rfl)))) (hw _ (List.mem_of_getElem? (i := 72) rfl)) (hw _ (List.mem_of_getElem? (i := 71) rfl)) (hw _ (List.mem_of_getElem? (i := 3) rfl)) (hw _ (List.mem_of_getElem? (i := 73) rfl)) (by decide) X_a1 d12_6 pd_0 rfl rfl rfl rfl (by decide) (by decide) (by decide) (by decide) ?_
  refine Own.ishr d12_9 ?_
  refine OAt.cast (st' := [(.int (2 : Int32))]) rfl ?_
  refine Own.ret_int rfl d12_10 (by decide) (by decide) (fun Sf hSf => ?_)
  exact ⟨rfl, rfl⟩
theorem ef_rm_lat_2 (m : MethodId) (a1 : Addr)  : entryFrame m #[(.ref a1)] 1 = mkF m 0 #[.val (.ref a1)] [] := by first | (simp [entryFrame, mkF, argsToLocals, Value.category]; done) | rfl
set_option maxRecDepth 65536 in
set_option maxHeartbeats 40000000 in
theorem rm_lat_2 (l : Launch) (Z : State) (a0 : Array Value) (hw : ∀ d ∈ tables_1, d.before a0 Z = true) (ws : List Jvm.Cond) (a1 : Addr) (b : Addr) (kb : ClassId) (vs : List Value) (zc : Int32) (h0 : Heap) (n0 : Nat) (hn : n0 ≤ h0.size) (X_a1 : Exa Z h0 a1 "java/lang/String") (F_value_a1 : Fld Z h0 a1 "java/lang/String" "value" "[B" (.ref b)) (F_coder_a1 : Fld Z h0 a1 "java/lang/String" "coder" "B" (.int (0 : Int32))) (V_b : Arl Z h0 b kb .byte vs) (hl : vs.length = 2) (S_C : Sta Z h0 "java/lang/String" "COMPACT_STRINGS" "Z" (.int zc)) (hz : ¬ zc = 0) :
    Met own_EL l Z (⟨"java/lang/String", "isLatin1", "()Z"⟩ : MethodName) jdk_42_method_154_code 1 (some .boolean) ({ frames := 0, cells := 0, slots := 0, locals := 0 } : Room) ws #[(.ref a1)] h0 n0 [] (Pur (.int (1 : Int32)) h0) := by
  refine Met.of pn_16 (fun m => ef_rm_lat_2 m a1) ?_
  refine Own.getS_ (host := "") (Or.inl (hw _ (List.mem_of_getElem? (i := 14) rfl))) Via.refl S_C d16_0 ?_
  refine Own.if_eq 17 d16_3 (by decide) rfl (fun q => absurd q hz) (fun _ => ?_)
  refine Own.aloadN d16_6 rfl rfl ?_
  refine Own.getF_ (host := "") (Or.inl (hw _ (List.mem_of_getElem? (i := 26) rfl))) Via.refl F_coder_a1 d16_7 ?_
  refine Own.if_ne 17 d16_10 (by decide) rfl (fun q => absurd (by decide) q) (fun _ => ?_)
  refine Own.iconst (1 : Int32) d16_13 rfl ?_
  refine Own.goto_ 18 d16_14 (by decide) rfl ?_
  refine Own.ret_nar (t := .boolean) (by simp) rfl d16_18 (by decide) (by decide) (fun Sf hSf => ?_)
  exact ⟨rfl, rfl⟩
theorem ef_rm_empty_2 (m : MethodId) (a1 : Addr)  : entryFrame m #[(.ref a1)] 1 = mkF m 0 #[.val (.ref a1)] [] := by first | (simp [entryFrame, mkF, argsToLocals, Value.category]; done) | rfl
set_option maxRecDepth 65536 in
set_option maxHeartbeats 40000000 in
theorem rm_empty_2 (l : Launch) (Z : State) (a0 : Array Value) (hw : ∀ d ∈ tables_1, d.before a0 Z = true) (ws : List Jvm.Cond) (a1 : Addr) (b : Addr) (kb : ClassId) (vs : List Value) (zc : Int32) (h0 : Heap) (n0 : Nat) (hn : n0 ≤ h0.size) (X_a1 : Exa Z h0 a1 "java/lang/String") (F_value_a1 : Fld Z h0 a1 "java/lang/String" "value" "[B" (.ref b)) (F_coder_a1 : Fld Z h0 a1 "java/lang/String" "coder" "B" (.int (0 : Int32))) (V_b : Arl Z h0 b kb .byte vs) (hl : vs.length = 2) (S_C : Sta Z h0 "java/lang/String" "COMPACT_STRINGS" "Z" (.int zc)) (hz : ¬ zc = 0) :
    Met own_EL l Z (⟨"java/lang/String", "isEmpty", "()Z"⟩ : MethodName) jdk_42_method_55_code 1 (some .boolean) ({ frames := 0, cells := 0, slots := 0, locals := 0 } : Room) ws #[(.ref a1)] h0 n0 [] (Pur (.int (0 : Int32)) h0) := by
  refine Met.of pn_18 (fun m => ef_rm_empty_2 m a1) ?_
  refine Own.aloadN d18_0 rfl rfl ?_
  refine Own.getF_ (host := "") (Or.inl (hw _ (List.mem_of_getElem? (i := 28) rfl))) Via.refl F_value_a1 d18_1 ?_
  refine Own.arraylength_ (2 : Int32) V_b (by rw [hl]; rfl) d18_4 ?_
  refine Own.if_ne 12 d18_5 (by decide) rfl (fun _ => ?_) (fun q => absurd q (by decide))
  refine Own.iconst (0 : Int32) d18_12 rfl ?_
  refine Own.ret_nar (t := .boolean) (by simp) rfl d18_13 (by decide) (by decide) (fun Sf hSf => ?_)
  exact ⟨rfl, rfl⟩
theorem ef_rm_coder_3 (m : MethodId) (a1 : Addr)  : entryFrame m #[(.ref a1)] 1 = mkF m 0 #[.val (.ref a1)] [] := by first | (simp [entryFrame, mkF, argsToLocals, Value.category]; done) | rfl
set_option maxRecDepth 65536 in
set_option maxHeartbeats 40000000 in
theorem rm_coder_3 (l : Launch) (Z : State) (a0 : Array Value) (hw : ∀ d ∈ tables_1, d.before a0 Z = true) (ws : List Jvm.Cond) (a1 : Addr) (b : Addr) (kb : ClassId) (vs : List Value) (zc : Int32) (h0 : Heap) (n0 : Nat) (hn : n0 ≤ h0.size) (X_a1 : Exa Z h0 a1 "java/lang/String") (F_value_a1 : Fld Z h0 a1 "java/lang/String" "value" "[B" (.ref b)) (F_coder_a1 : Fld Z h0 a1 "java/lang/String" "coder" "B" (.int (0 : Int32))) (V_b : Arl Z h0 b kb .byte vs) (hl : vs.length = 3) (S_C : Sta Z h0 "java/lang/String" "COMPACT_STRINGS" "Z" (.int zc)) (hz : ¬ zc = 0) :
    Met own_EL l Z (⟨"java/lang/String", "coder", "()B"⟩ : MethodName) jdk_42_method_152_code 1 (some .byte) ({ frames := 0, cells := 0, slots := 0, locals := 0 } : Room) ws #[(.ref a1)] h0 n0 [] (Pur (.int (0 : Int32)) h0) := by
  refine Met.of pn_13 (fun m => ef_rm_coder_3 m a1) ?_
  refine Own.getS_ (host := "") (Or.inl (hw _ (List.mem_of_getElem? (i := 14) rfl))) Via.refl S_C d13_0 ?_
  refine Own.if_eq 13 d13_3 (by decide) rfl (fun q => absurd q hz) (fun _ => ?_)
  refine Own.aloadN d13_6 rfl rfl ?_
  refine Own.getF_ (host := "") (Or.inl (hw _ (List.mem_of_getElem? (i := 26) rfl))) Via.refl F_coder_a1 d13_7 ?_
  refine Own.goto_ 14 d13_10 (by decide) rfl ?_
  refine Own.ret_nar (t := .byte) (by simp) rfl d13_14 (by decide) (by decide) (fun Sf hSf => ?_)
  exact ⟨rfl, rfl⟩
theorem ef_rm_len_3 (m : MethodId) (a1 : Addr)  : entryFrame m #[(.ref a1)] 1 = mkF m 0 #[.val (.ref a1)] [] := by first | (simp [entryFrame, mkF, argsToLocals, Value.category]; done) | rfl
set_option maxRecDepth 65536 in
set_option maxHeartbeats 40000000 in
theorem rm_len_3 (l : Launch) (Z : State) (a0 : Array Value) (hw : ∀ d ∈ tables_1, d.before a0 Z = true) (ws : List Jvm.Cond) (a1 : Addr) (b : Addr) (kb : ClassId) (vs : List Value) (zc : Int32) (h0 : Heap) (n0 : Nat) (hn : n0 ≤ h0.size) (X_a1 : Exa Z h0 a1 "java/lang/String") (F_value_a1 : Fld Z h0 a1 "java/lang/String" "value" "[B" (.ref b)) (F_coder_a1 : Fld Z h0 a1 "java/lang/String" "coder" "B" (.int (0 : Int32))) (V_b : Arl Z h0 b kb .byte vs) (hl : vs.length = 3) (S_C : Sta Z h0 "java/lang/String" "COMPACT_STRINGS" "Z" (.int zc)) (hz : ¬ zc = 0) :
    Met own_EL l Z (⟨"java/lang/String", "length", "()I"⟩ : MethodName) jdk_42_method_54_code 1 (some .int) ({ frames := 1, cells := 0, slots := 0, locals := 13 } : Room) ws #[(.ref a1)] h0 n0 [] (Pur (.int (3 : Int32)) h0) := by
  refine Met.of pn_12 (fun m => ef_rm_len_3 m a1) ?_
  refine Own.aloadN d12_0 rfl rfl ?_
  refine Own.getF_ (host := "") (Or.inl (hw _ (List.mem_of_getElem? (i := 28) rfl))) Via.refl F_value_a1 d12_1 ?_
  refine Own.arraylength_ (3 : Int32) V_b (by rw [hl]; rfl) d12_4 ?_
  refine Own.aloadN d12_5 rfl rfl ?_
  refine Own.callVP a1 [] [(.int (3 : Int32))] 1 (rm_coder_3 l Z a0 hw [] a1 b kb vs zc h0 n0 hn X_a1 F_value_a1 F_coder_a1 V_b hl S_C hz) (hw _ (List.mem_of_getElem? (i := 69) rfl)) (hw _ (List.mem_of_getElem? (i := 70) rfl)) (fun s hZ => notFace_of_selects (args := #[]) (mvT hZ (hw _ (List.mem_of_getElem? (i := 72) rfl)))) (hw _ (List.mem_of_getElem? (i := 72) rfl)) (hw _ (List.mem_of_getElem? (i := 71) rfl)) (hw _ (List.mem_of_getElem? (i := 3) rfl)) (hw _ (List.mem_of_getElem? (i := 73) rfl)) (by decide) X_a1 d12_6 pd_0 rfl rfl rfl rfl (by decide) (by decide) (by decide) (by decide) ?_
  refine Own.ishr d12_9 ?_
  refine OAt.cast (st' := [(.int (3 : Int32))]) rfl ?_
  refine Own.ret_int rfl d12_10 (by decide) (by decide) (fun Sf hSf => ?_)
  exact ⟨rfl, rfl⟩
theorem ef_rm_lat_3 (m : MethodId) (a1 : Addr)  : entryFrame m #[(.ref a1)] 1 = mkF m 0 #[.val (.ref a1)] [] := by first | (simp [entryFrame, mkF, argsToLocals, Value.category]; done) | rfl
set_option maxRecDepth 65536 in
set_option maxHeartbeats 40000000 in
theorem rm_lat_3 (l : Launch) (Z : State) (a0 : Array Value) (hw : ∀ d ∈ tables_1, d.before a0 Z = true) (ws : List Jvm.Cond) (a1 : Addr) (b : Addr) (kb : ClassId) (vs : List Value) (zc : Int32) (h0 : Heap) (n0 : Nat) (hn : n0 ≤ h0.size) (X_a1 : Exa Z h0 a1 "java/lang/String") (F_value_a1 : Fld Z h0 a1 "java/lang/String" "value" "[B" (.ref b)) (F_coder_a1 : Fld Z h0 a1 "java/lang/String" "coder" "B" (.int (0 : Int32))) (V_b : Arl Z h0 b kb .byte vs) (hl : vs.length = 3) (S_C : Sta Z h0 "java/lang/String" "COMPACT_STRINGS" "Z" (.int zc)) (hz : ¬ zc = 0) :
    Met own_EL l Z (⟨"java/lang/String", "isLatin1", "()Z"⟩ : MethodName) jdk_42_method_154_code 1 (some .boolean) ({ frames := 0, cells := 0, slots := 0, locals := 0 } : Room) ws #[(.ref a1)] h0 n0 [] (Pur (.int (1 : Int32)) h0) := by
  refine Met.of pn_16 (fun m => ef_rm_lat_3 m a1) ?_
  refine Own.getS_ (host := "") (Or.inl (hw _ (List.mem_of_getElem? (i := 14) rfl))) Via.refl S_C d16_0 ?_
  refine Own.if_eq 17 d16_3 (by decide) rfl (fun q => absurd q hz) (fun _ => ?_)
  refine Own.aloadN d16_6 rfl rfl ?_
  refine Own.getF_ (host := "") (Or.inl (hw _ (List.mem_of_getElem? (i := 26) rfl))) Via.refl F_coder_a1 d16_7 ?_
  refine Own.if_ne 17 d16_10 (by decide) rfl (fun q => absurd (by decide) q) (fun _ => ?_)
  refine Own.iconst (1 : Int32) d16_13 rfl ?_
  refine Own.goto_ 18 d16_14 (by decide) rfl ?_
  refine Own.ret_nar (t := .boolean) (by simp) rfl d16_18 (by decide) (by decide) (fun Sf hSf => ?_)
  exact ⟨rfl, rfl⟩
theorem ef_rm_empty_3 (m : MethodId) (a1 : Addr)  : entryFrame m #[(.ref a1)] 1 = mkF m 0 #[.val (.ref a1)] [] := by first | (simp [entryFrame, mkF, argsToLocals, Value.category]; done) | rfl
set_option maxRecDepth 65536 in
set_option maxHeartbeats 40000000 in
theorem rm_empty_3 (l : Launch) (Z : State) (a0 : Array Value) (hw : ∀ d ∈ tables_1, d.before a0 Z = true) (ws : List Jvm.Cond) (a1 : Addr) (b : Addr) (kb : ClassId) (vs : List Value) (zc : Int32) (h0 : Heap) (n0 : Nat) (hn : n0 ≤ h0.size) (X_a1 : Exa Z h0 a1 "java/lang/String") (F_value_a1 : Fld Z h0 a1 "java/lang/String" "value" "[B" (.ref b)) (F_coder_a1 : Fld Z h0 a1 "java/lang/String" "coder" "B" (.int (0 : Int32))) (V_b : Arl Z h0 b kb .byte vs) (hl : vs.length = 3) (S_C : Sta Z h0 "java/lang/String" "COMPACT_STRINGS" "Z" (.int zc)) (hz : ¬ zc = 0) :
    Met own_EL l Z (⟨"java/lang/String", "isEmpty", "()Z"⟩ : MethodName) jdk_42_method_55_code 1 (some .boolean) ({ frames := 0, cells := 0, slots := 0, locals := 0 } : Room) ws #[(.ref a1)] h0 n0 [] (Pur (.int (0 : Int32)) h0) := by
  refine Met.of pn_18 (fun m => ef_rm_empty_3 m a1) ?_
  refine Own.aloadN d18_0 rfl rfl ?_
  refine Own.getF_ (host := "") (Or.inl (hw _ (List.mem_of_getElem? (i := 28) rfl))) Via.refl F_value_a1 d18_1 ?_
  refine Own.arraylength_ (3 : Int32) V_b (by rw [hl]; rfl) d18_4 ?_
  refine Own.if_ne 12 d18_5 (by decide) rfl (fun _ => ?_) (fun q => absurd q (by decide))
  refine Own.iconst (0 : Int32) d18_12 rfl ?_
  refine Own.ret_nar (t := .boolean) (by simp) rfl d18_13 (by decide) (by decide) (fun Sf hSf => ?_)
  exact ⟨rfl, rfl⟩
theorem ef_rm_coder_4 (m : MethodId) (a1 : Addr)  : entryFrame m #[(.ref a1)] 1 = mkF m 0 #[.val (.ref a1)] [] := by first | (simp [entryFrame, mkF, argsToLocals, Value.category]; done) | rfl
set_option maxRecDepth 65536 in
set_option maxHeartbeats 40000000 in
theorem rm_coder_4 (l : Launch) (Z : State) (a0 : Array Value) (hw : ∀ d ∈ tables_1, d.before a0 Z = true) (ws : List Jvm.Cond) (a1 : Addr) (b : Addr) (kb : ClassId) (vs : List Value) (zc : Int32) (h0 : Heap) (n0 : Nat) (hn : n0 ≤ h0.size) (X_a1 : Exa Z h0 a1 "java/lang/String") (F_value_a1 : Fld Z h0 a1 "java/lang/String" "value" "[B" (.ref b)) (F_coder_a1 : Fld Z h0 a1 "java/lang/String" "coder" "B" (.int (0 : Int32))) (V_b : Arl Z h0 b kb .byte vs) (hl : vs.length = 4) (S_C : Sta Z h0 "java/lang/String" "COMPACT_STRINGS" "Z" (.int zc)) (hz : ¬ zc = 0) :
    Met own_EL l Z (⟨"java/lang/String", "coder", "()B"⟩ : MethodName) jdk_42_method_152_code 1 (some .byte) ({ frames := 0, cells := 0, slots := 0, locals := 0 } : Room) ws #[(.ref a1)] h0 n0 [] (Pur (.int (0 : Int32)) h0) := by
  refine Met.of pn_13 (fun m => ef_rm_coder_4 m a1) ?_
  refine Own.getS_ (host := "") (Or.inl (hw _ (List.mem_of_getElem? (i := 14) rfl))) Via.refl S_C d13_0 ?_
  refine Own.if_eq 13 d13_3 (by decide) rfl (fun q => absurd q hz) (fun _ => ?_)
  refine Own.aloadN d13_6 rfl rfl ?_
  refine Own.getF_ (host := "") (Or.inl (hw _ (List.mem_of_getElem? (i := 26) rfl))) Via.refl F_coder_a1 d13_7 ?_
  refine Own.goto_ 14 d13_10 (by decide) rfl ?_
  refine Own.ret_nar (t := .byte) (by simp) rfl d13_14 (by decide) (by decide) (fun Sf hSf => ?_)
  exact ⟨rfl, rfl⟩
theorem ef_rm_len_4 (m : MethodId) (a1 : Addr)  : entryFrame m #[(.ref a1)] 1 = mkF m 0 #[.val (.ref a1)] [] := by first | (simp [entryFrame, mkF, argsToLocals, Value.category]; done) | rfl
set_option maxRecDepth 65536 in
set_option maxHeartbeats 40000000 in
theorem rm_len_4 (l : Launch) (Z : State) (a0 : Array Value) (hw : ∀ d ∈ tables_1, d.before a0 Z = true) (ws : List Jvm.Cond) (a1 : Addr) (b : Addr) (kb : ClassId) (vs : List Value) (zc : Int32) (h0 : Heap) (n0 : Nat) (hn : n0 ≤ h0.size) (X_a1 : Exa Z h0 a1 "java/lang/String") (F_value_a1 : Fld Z h0 a1 "java/lang/String" "value" "[B" (.ref b)) (F_coder_a1 : Fld Z h0 a1 "java/lang/String" "coder" "B" (.int (0 : Int32))) (V_b : Arl Z h0 b kb .byte vs) (hl : vs.length = 4) (S_C : Sta Z h0 "java/lang/String" "COMPACT_STRINGS" "Z" (.int zc)) (hz : ¬ zc = 0) :
    Met own_EL l Z (⟨"java/lang/String", "length", "()I"⟩ : MethodName) jdk_42_method_54_code 1 (some .int) ({ frames := 1, cells := 0, slots := 0, locals := 13 } : Room) ws #[(.ref a1)] h0 n0 [] (Pur (.int (4 : Int32)) h0) := by
  refine Met.of pn_12 (fun m => ef_rm_len_4 m a1) ?_
  refine Own.aloadN d12_0 rfl rfl ?_
  refine Own.getF_ (host := "") (Or.inl (hw _ (List.mem_of_getElem? (i := 28) rfl))) Via.refl F_value_a1 d12_1 ?_
  refine Own.arraylength_ (4 : Int32) V_b (by rw [hl]; rfl) d12_4 ?_
  refine Own.aloadN d12_5 rfl rfl ?_
  refine Own.callVP a1 [] [(.int (4 : Int32))] 1 (rm_coder_4 l Z a0 hw [] a1 b kb vs zc h0 n0 hn X_a1 F_value_a1 F_coder_a1 V_b hl S_C hz) (hw _ (List.mem_of_getElem? (i := 69) rfl)) (hw _ (List.mem_of_getElem? (i := 70) rfl)) (fun s hZ => notFace_of_selects (args := #[]) (mvT hZ (hw _ (List.mem_of_getElem? (i := 72) rfl)))) (hw _ (List.mem_of_getElem? (i := 72) rfl)) (hw _ (List.mem_of_getElem? (i := 71) rfl)) (hw _ (List.mem_of_getElem? (i := 3) rfl)) (hw _ (List.mem_of_getElem? (i := 73) rfl)) (by decide) X_a1 d12_6 pd_0 rfl rfl rfl rfl (by decide) (by decide) (by decide) (by decide) ?_
  refine Own.ishr d12_9 ?_
  refine OAt.cast (st' := [(.int (4 : Int32))]) rfl ?_
  refine Own.ret_int rfl d12_10 (by decide) (by decide) (fun Sf hSf => ?_)
  exact ⟨rfl, rfl⟩
theorem ef_rm_lat_4 (m : MethodId) (a1 : Addr)  : entryFrame m #[(.ref a1)] 1 = mkF m 0 #[.val (.ref a1)] [] := by first | (simp [entryFrame, mkF, argsToLocals, Value.category]; done) | rfl
set_option maxRecDepth 65536 in
set_option maxHeartbeats 40000000 in
theorem rm_lat_4 (l : Launch) (Z : State) (a0 : Array Value) (hw : ∀ d ∈ tables_1, d.before a0 Z = true) (ws : List Jvm.Cond) (a1 : Addr) (b : Addr) (kb : ClassId) (vs : List Value) (zc : Int32) (h0 : Heap) (n0 : Nat) (hn : n0 ≤ h0.size) (X_a1 : Exa Z h0 a1 "java/lang/String") (F_value_a1 : Fld Z h0 a1 "java/lang/String" "value" "[B" (.ref b)) (F_coder_a1 : Fld Z h0 a1 "java/lang/String" "coder" "B" (.int (0 : Int32))) (V_b : Arl Z h0 b kb .byte vs) (hl : vs.length = 4) (S_C : Sta Z h0 "java/lang/String" "COMPACT_STRINGS" "Z" (.int zc)) (hz : ¬ zc = 0) :
    Met own_EL l Z (⟨"java/lang/String", "isLatin1", "()Z"⟩ : MethodName) jdk_42_method_154_code 1 (some .boolean) ({ frames := 0, cells := 0, slots := 0, locals := 0 } : Room) ws #[(.ref a1)] h0 n0 [] (Pur (.int (1 : Int32)) h0) := by
  refine Met.of pn_16 (fun m => ef_rm_lat_4 m a1) ?_
  refine Own.getS_ (host := "") (Or.inl (hw _ (List.mem_of_getElem? (i := 14) rfl))) Via.refl S_C d16_0 ?_
  refine Own.if_eq 17 d16_3 (by decide) rfl (fun q => absurd q hz) (fun _ => ?_)
  refine Own.aloadN d16_6 rfl rfl ?_
  refine Own.getF_ (host := "") (Or.inl (hw _ (List.mem_of_getElem? (i := 26) rfl))) Via.refl F_coder_a1 d16_7 ?_
  refine Own.if_ne 17 d16_10 (by decide) rfl (fun q => absurd (by decide) q) (fun _ => ?_)
  refine Own.iconst (1 : Int32) d16_13 rfl ?_
  refine Own.goto_ 18 d16_14 (by decide) rfl ?_
  refine Own.ret_nar (t := .boolean) (by simp) rfl d16_18 (by decide) (by decide) (fun Sf hSf => ?_)
  exact ⟨rfl, rfl⟩
theorem ef_rm_empty_4 (m : MethodId) (a1 : Addr)  : entryFrame m #[(.ref a1)] 1 = mkF m 0 #[.val (.ref a1)] [] := by first | (simp [entryFrame, mkF, argsToLocals, Value.category]; done) | rfl
set_option maxRecDepth 65536 in
set_option maxHeartbeats 40000000 in
theorem rm_empty_4 (l : Launch) (Z : State) (a0 : Array Value) (hw : ∀ d ∈ tables_1, d.before a0 Z = true) (ws : List Jvm.Cond) (a1 : Addr) (b : Addr) (kb : ClassId) (vs : List Value) (zc : Int32) (h0 : Heap) (n0 : Nat) (hn : n0 ≤ h0.size) (X_a1 : Exa Z h0 a1 "java/lang/String") (F_value_a1 : Fld Z h0 a1 "java/lang/String" "value" "[B" (.ref b)) (F_coder_a1 : Fld Z h0 a1 "java/lang/String" "coder" "B" (.int (0 : Int32))) (V_b : Arl Z h0 b kb .byte vs) (hl : vs.length = 4) (S_C : Sta Z h0 "java/lang/String" "COMPACT_STRINGS" "Z" (.int zc)) (hz : ¬ zc = 0) :
    Met own_EL l Z (⟨"java/lang/String", "isEmpty", "()Z"⟩ : MethodName) jdk_42_method_55_code 1 (some .boolean) ({ frames := 0, cells := 0, slots := 0, locals := 0 } : Room) ws #[(.ref a1)] h0 n0 [] (Pur (.int (0 : Int32)) h0) := by
  refine Met.of pn_18 (fun m => ef_rm_empty_4 m a1) ?_
  refine Own.aloadN d18_0 rfl rfl ?_
  refine Own.getF_ (host := "") (Or.inl (hw _ (List.mem_of_getElem? (i := 28) rfl))) Via.refl F_value_a1 d18_1 ?_
  refine Own.arraylength_ (4 : Int32) V_b (by rw [hl]; rfl) d18_4 ?_
  refine Own.if_ne 12 d18_5 (by decide) rfl (fun _ => ?_) (fun q => absurd q (by decide))
  refine Own.iconst (0 : Int32) d18_12 rfl ?_
  refine Own.ret_nar (t := .boolean) (by simp) rfl d18_13 (by decide) (by decide) (fun Sf hSf => ?_)
  exact ⟨rfl, rfl⟩
theorem d8_0 : decode jdk_30_method_1_code 0 = .ok (.aload_n 0, 1) := by decide +kernel
theorem d8_1 : decode jdk_30_method_1_code 1 = .ok (.invokespecial 1, 3) := by decide +kernel
theorem d8_4 : decode jdk_30_method_1_code 4 = .ok (.return_, 1) := by decide +kernel
theorem ef_rmR (m : MethodId) (a1 : Addr)  : entryFrame m #[(.ref a1)] 1 = mkF m 0 #[.val (.ref a1)] [] := by first | (simp [entryFrame, mkF, argsToLocals, Value.category]; done) | rfl
theorem pn_8 : plainFor (⟨"java/lang/Record", "<init>", "()V"⟩ : MethodName) = true := plainFor_of_name (show plainName "java/lang/Record" = true by first | (simp [plainName, overriddenIn]; done) | decide +kernel)
set_option maxRecDepth 65536 in
set_option maxHeartbeats 40000000 in
theorem rmR (l : Launch) (Z : State) (a0 : Array Value) (hw : ∀ d ∈ tables_1, d.before a0 Z = true) (ws : List Jvm.Cond) (a1 : Addr) (h0 : Heap) (n0 : Nat) (hn : n0 ≤ h0.size) :
    Met own_EL l Z (⟨"java/lang/Record", "<init>", "()V"⟩ : MethodName) jdk_30_method_1_code 1 none ({ frames := 1, cells := 0, slots := 0, locals := 12 } : Room) ws #[(.ref a1)] h0 n0 [] (Pur0 h0) := by
  refine Met.of pn_8 (fun m => ef_rmR m a1) ?_
  refine Own.aloadN d8_0 rfl rfl ?_
  refine Own.initO_ (hw _ (List.mem_of_getElem? (i := 42) rfl)) (hw _ (List.mem_of_getElem? (i := 12) rfl)) (hw _ (List.mem_of_getElem? (i := 13) rfl)) d8_1 rfl (by decide) 0 rfl (by decide) ?_
  refine Own.ret_void rfl d8_4 (by decide) (by decide) (fun Sf hSf => ?_)
  exact ⟨rfl, rfl⟩
theorem d7_0 : decode prog_32_method_1_code 0 = .ok (.aload_n 0, 1) := by decide +kernel
theorem d7_1 : decode prog_32_method_1_code 1 = .ok (.invokespecial 3, 3) := by decide +kernel
theorem pd_3 : parseMethodDescriptor "()V" = some ⟨[], none⟩ := by decide +kernel
theorem d7_4 : decode prog_32_method_1_code 4 = .ok (.aload_n 0, 1) := by decide +kernel
theorem d7_5 : decode prog_32_method_1_code 5 = .ok (.aload_n 1, 1) := by decide +kernel
theorem d7_6 : decode prog_32_method_1_code 6 = .ok (.putfield 9, 3) := by decide +kernel
theorem d7_9 : decode prog_32_method_1_code 9 = .ok (.aload_n 0, 1) := by decide +kernel
theorem d7_10 : decode prog_32_method_1_code 10 = .ok (.iload_n 2, 1) := by decide +kernel
theorem d7_11 : decode prog_32_method_1_code 11 = .ok (.putfield 15, 3) := by decide +kernel
theorem d7_14 : decode prog_32_method_1_code 14 = .ok (.aload_n 0, 1) := by decide +kernel
theorem d7_15 : decode prog_32_method_1_code 15 = .ok (.iload_n 3, 1) := by decide +kernel
theorem d7_16 : decode prog_32_method_1_code 16 = .ok (.putfield 19, 3) := by decide +kernel
theorem d7_19 : decode prog_32_method_1_code 19 = .ok (.return_, 1) := by decide +kernel
def Q_rmSP (Z : State) (a1 : Addr) (a2 : Addr) (p3 : Int32) (p4 : Int32) (h0 : Heap) (n0 : Nat) (v : Option Value) (h : Heap) (Sf : Addr → Prop) : Prop := v = none ∧ Keep h0 h [a1] ∧ Fld Z h a1 "com/example/cytorelay/cytorelay/core/Hl7Syntax$Span" "text" "Ljava/lang/String;" (.ref a2) ∧ Fld Z h a1 "com/example/cytorelay/cytorelay/core/Hl7Syntax$Span" "from" "I" (.int p3) ∧ Fld Z h a1 "com/example/cytorelay/cytorelay/core/Hl7Syntax$Span" "to" "I" (.int p4)
theorem ef_rmSP (m : MethodId) (a1 : Addr) (a2 : Addr) (p3 : Int32) (p4 : Int32)  : entryFrame m #[(.ref a1), (.ref a2), (.int p3), (.int p4)] 4 = mkF m 0 #[.val (.ref a1), .val (.ref a2), .val (.int p3), .val (.int p4)] [] := by first | (simp [entryFrame, mkF, argsToLocals, Value.category]; done) | rfl
theorem pn_7 : plainFor (⟨"com/example/cytorelay/cytorelay/core/Hl7Syntax$Span", "<init>", "(Ljava/lang/String;II)V"⟩ : MethodName) = true := plainFor_of_name (show plainName "com/example/cytorelay/cytorelay/core/Hl7Syntax$Span" = true by first | (simp [plainName, overriddenIn]; done) | decide +kernel)
set_option maxRecDepth 65536 in
set_option maxHeartbeats 40000000 in
theorem rmSP (l : Launch) (Z : State) (a0 : Array Value) (hw : ∀ d ∈ tables_1, d.before a0 Z = true) (ws : List Jvm.Cond) (a1 : Addr) (a2 : Addr) (p3 : Int32) (p4 : Int32) (h0 : Heap) (n0 : Nat) (hn : n0 ≤ h0.size) (g_a1 : n0 ≤ a1) (X_a1 : Exa Z h0 a1 "com/example/cytorelay/cytorelay/core/Hl7Syntax$Span") (F_text_a1 : Fld Z h0 a1 "com/example/cytorelay/cytorelay/core/Hl7Syntax$Span" "text" "Ljava/lang/String;" .null) (F_from_a1 : Fld Z h0 a1 "com/example/cytorelay/cytorelay/core/Hl7Syntax$Span" "from" "I" (.int (0 : Int32))) (F_to_a1 : Fld Z h0 a1 "com/example/cytorelay/cytorelay/core/Hl7Syntax$Span" "to" "I" (.int (0 : Int32))) :
    Met own_EL l Z (⟨"com/example/cytorelay/cytorelay/core/Hl7Syntax$Span", "<init>", "(Ljava/lang/String;II)V"⟩ : MethodName) prog_32_method_1_code 4 none ({ frames := 2, cells := 0, slots := 0, locals := 24 } : Room) ws #[(.ref a1), (.ref a2), (.int p3), (.int p4)] h0 n0 [a1] (Q_rmSP Z a1 a2 p3 p4 h0 n0) := by
  refine Met.of pn_7 (fun m => ef_rmSP m a1 a2 p3 p4) ?_
  have K := Keep.refl h0 [a1]
  refine Own.aloadN d7_0 rfl rfl ?_
  refine Own.callIP a1 [] [] 0 (rmR l Z a0 hw [] a1 h0 n0 hn) (hw _ (List.mem_of_getElem? (i := 37) rfl)) (hw _ (List.mem_of_getElem? (i := 38) rfl)) (hw _ (List.mem_of_getElem? (i := 40) rfl)) (hw _ (List.mem_of_getElem? (i := 41) rfl)) rfl (by decide) d7_1 pd_3 rfl rfl rfl rfl (by decide) (by decide) (by decide) (by decide) ?_
  refine Own.aloadN d7_4 rfl rfl ?_
  refine Own.aloadN d7_5 rfl rfl ?_
  refine Own.putF_ (host := "") (Or.inl (hw _ (List.mem_of_getElem? (i := 43) rfl))) Via.refl F_text_a1 X_a1 (Or.inr ⟨(hw _ (List.mem_of_getElem? (i := 44) rfl)), rfl, rfl⟩) (hw _ (List.mem_of_getElem? (i := 32) rfl)) (ty := (.object "java/lang/String")) (by decide) rfl rfl g_a1 (List.mem_of_getElem? (i := 0) rfl) d7_6 (fun h15 W16 => ?_)
  replace F_text_a1 := F_text_a1.same W16
  have hn : n0 ≤ h15.size := by rw [W16.size]; exact hn
  replace X_a1 := X_a1.wr W16
  replace F_from_a1 := F_from_a1.other W16 (Or.inr (slot_ne (Or.inr (hw _ (List.mem_of_getElem? (i := 46) rfl))) (Or.inr (hw _ (List.mem_of_getElem? (i := 44) rfl))) (by decide) (t := .int) (t' := (.object "java/lang/String")) (by decide) (by decide)))
  replace F_to_a1 := F_to_a1.other W16 (Or.inr (slot_ne (Or.inr (hw _ (List.mem_of_getElem? (i := 48) rfl))) (Or.inr (hw _ (List.mem_of_getElem? (i := 44) rfl))) (by decide) (t := .int) (t' := (.object "java/lang/String")) (by decide) (by decide)))
  have K := K.wr W16 (Or.inl (List.mem_of_getElem? (i := 0) rfl))
  refine Own.aloadN d7_9 rfl rfl ?_
  refine Own.iloadN d7_10 rfl ?_
  refine Own.putF_ (host := "") (Or.inl (hw _ (List.mem_of_getElem? (i := 45) rfl))) Via.refl F_from_a1 X_a1 (Or.inr ⟨(hw _ (List.mem_of_getElem? (i := 46) rfl)), rfl, rfl⟩) (hw _ (List.mem_of_getElem? (i := 32) rfl)) (ty := .int) (by decide) rfl rfl g_a1 (List.mem_of_getElem? (i := 0) rfl) d7_11 (fun h17 W18 => ?_)
  replace F_from_a1 := F_from_a1.same W18
  have hn : n0 ≤ h17.size := by rw [W18.size]; exact hn
  replace X_a1 := X_a1.wr W18
  replace F_text_a1 := F_text_a1.other W18 (Or.inr (slot_ne (Or.inr (hw _ (List.mem_of_getElem? (i := 44) rfl))) (Or.inr (hw _ (List.mem_of_getElem? (i := 46) rfl))) (by decide) (t := (.object "java/lang/String")) (t' := .int) (by decide) (by decide)))
  replace F_to_a1 := F_to_a1.other W18 (Or.inr (slot_ne (Or.inr (hw _ (List.mem_of_getElem? (i := 48) rfl))) (Or.inr (hw _ (List.mem_of_getElem? (i := 46) rfl))) (by decide) (t := .int) (t' := .int) (by decide) (by decide)))
  have K := K.wr W18 (Or.inl (List.mem_of_getElem? (i := 0) rfl))
  refine Own.aloadN d7_14 rfl rfl ?_
  refine Own.iloadN d7_15 rfl ?_
  refine Own.putF_ (host := "") (Or.inl (hw _ (List.mem_of_getElem? (i := 47) rfl))) Via.refl F_to_a1 X_a1 (Or.inr ⟨(hw _ (List.mem_of_getElem? (i := 48) rfl)), rfl, rfl⟩) (hw _ (List.mem_of_getElem? (i := 32) rfl)) (ty := .int) (by decide) rfl rfl g_a1 (List.mem_of_getElem? (i := 0) rfl) d7_16 (fun h19 W20 => ?_)
  replace F_to_a1 := F_to_a1.same W20
  have hn : n0 ≤ h19.size := by rw [W20.size]; exact hn
  replace X_a1 := X_a1.wr W20
  replace F_text_a1 := F_text_a1.other W20 (Or.inr (slot_ne (Or.inr (hw _ (List.mem_of_getElem? (i := 44) rfl))) (Or.inr (hw _ (List.mem_of_getElem? (i := 48) rfl))) (by decide) (t := (.object "java/lang/String")) (t' := .int) (by decide) (by decide)))
  replace F_from_a1 := F_from_a1.other W20 (Or.inr (slot_ne (Or.inr (hw _ (List.mem_of_getElem? (i := 46) rfl))) (Or.inr (hw _ (List.mem_of_getElem? (i := 48) rfl))) (by decide) (t := .int) (t' := .int) (by decide) (by decide)))
  have K := K.wr W20 (Or.inl (List.mem_of_getElem? (i := 0) rfl))
  refine Own.ret_void rfl d7_19 (by decide) (by decide) (fun Sf hSf => ?_)
  exact ⟨rfl, K, F_text_a1, F_from_a1, F_to_a1⟩
theorem d9_0 : decode prog_32_method_3_code 0 = .ok (.aload_n 0, 1) := by decide +kernel
theorem d9_1 : decode prog_32_method_3_code 1 = .ok (.getfield 15, 3) := by decide +kernel
theorem d9_4 : decode prog_32_method_3_code 4 = .ok (.aload_n 0, 1) := by decide +kernel
theorem d9_5 : decode prog_32_method_3_code 5 = .ok (.getfield 19, 3) := by decide +kernel
theorem d9_8 : decode prog_32_method_3_code 8 = .ok (.if_icmp .ne 7, 3) := by decide +kernel
theorem d9_11 : decode prog_32_method_3_code 11 = .ok (.iconst 1, 1) := by decide +kernel
theorem d9_12 : decode prog_32_method_3_code 12 = .ok (.goto 4, 3) := by decide +kernel
theorem d9_16 : decode prog_32_method_3_code 16 = .ok (.ireturn, 1) := by decide +kernel
theorem ef_rmSEq (m : MethodId) (a1 : Addr)  : entryFrame m #[(.ref a1)] 1 = mkF m 0 #[.val (.ref a1)] [] := by first | (simp [entryFrame, mkF, argsToLocals, Value.category]; done) | rfl
theorem pn_9 : plainFor (⟨"com/example/cytorelay/cytorelay/core/Hl7Syntax$Span", "isEmpty", "()Z"⟩ : MethodName) = true := plainFor_of_name (show plainName "com/example/cytorelay/cytorelay/core/Hl7Syntax$Span" = true by first | (simp [plainName, overriddenIn]; done) | decide +kernel)
set_option maxRecDepth 65536 in
set_option maxHeartbeats 40000000 in
theorem rmSEq (l : Launch) (Z : State) (a0 : Array Value) (hw : ∀ d ∈ tables_1, d.before a0 Z = true) (ws : List Jvm.Cond) (a1 : Addr) (p3 : Int32) (h0 : Heap) (n0 : Nat) (hn : n0 ≤ h0.size) (F_from : Fld Z h0 a1 "com/example/cytorelay/cytorelay/core/Hl7Syntax$Span" "from" "I" (.int p3)) (F_to : Fld Z h0 a1 "com/example/cytorelay/cytorelay/core/Hl7Syntax$Span" "to" "I" (.int p3)) :
    Met own_EL l Z (⟨"com/example/cytorelay/cytorelay/core/Hl7Syntax$Span", "isEmpty", "()Z"⟩ : MethodName) prog_32_method_3_code 1 (some .boolean) ({ frames := 0, cells := 0, slots := 0, locals := 0 } : Room) ws #[(.ref a1)] h0 n0 [] (Pur (.int (1 : Int32)) h0) := by
  refine Met.of pn_9 (fun m => ef_rmSEq m a1) ?_
  refine Own.aloadN d9_0 rfl rfl ?_
  refine Own.getF_ (host := "") (Or.inl (hw _ (List.mem_of_getElem? (i := 45) rfl))) Via.refl F_from d9_1 ?_
  refine Own.aloadN d9_4 rfl rfl ?_
  refine Own.getF_ (host := "") (Or.inl (hw _ (List.mem_of_getElem? (i := 47) rfl))) Via.refl F_to d9_5 ?_
  refine Own.icmp_ne 15 d9_8 (by decide) rfl (fun q => absurd rfl q) (fun _ => ?_)
  refine Own.iconst (1 : Int32) d9_11 rfl ?_
  refine Own.goto_ 16 d9_12 (by decide) rfl ?_
  refine Own.ret_nar (t := .boolean) (by simp) rfl d9_16 (by decide) (by decide) (fun Sf hSf => ?_)
  exact ⟨rfl, rfl⟩
theorem d23_0 : decode jdk_42_method_151_code 0 = .ok (.aload_n 0, 1) := by decide +kernel
theorem d23_1 : decode jdk_42_method_151_code 1 = .ok (.invokespecial 1, 3) := by decide +kernel
theorem d23_4 : decode jdk_42_method_151_code 4 = .ok (.aload_n 0, 1) := by decide +kernel
theorem d23_5 : decode jdk_42_method_151_code 5 = .ok (.aload_n 1, 1) := by decide +kernel
theorem d23_6 : decode jdk_42_method_151_code 6 = .ok (.putfield 9, 3) := by decide +kernel
theorem d23_9 : decode jdk_42_method_151_code 9 = .ok (.aload_n 0, 1) := by decide +kernel
theorem d23_10 : decode jdk_42_method_151_code 10 = .ok (.iload_n 2, 1) := by decide +kernel
theorem d23_11 : decode jdk_42_method_151_code 11 = .ok (.putfield 15, 3) := by decide +kernel
theorem d23_14 : decode jdk_42_method_151_code 14 = .ok (.return_, 1) := by decide +kernel
def Q_rmBB (Z : State) (a1 : Addr) (a2 : Addr) (h0 : Heap) (n0 : Nat) (v : Option Value) (h : Heap) (Sf : Addr → Prop) : Prop := v = none ∧ Keep h0 h [a1] ∧ Fld Z h a1 "java/lang/String" "value" "[B" (.ref a2) ∧ Fld Z h a1 "java/lang/String" "coder" "B" (.int (0 : Int32))
theorem ef_rmBB (m : MethodId) (a1 : Addr) (a2 : Addr)  : entryFrame m #[(.ref a1), (.ref a2), (.int (0 : Int32))] 3 = mkF m 0 #[.val (.ref a1), .val (.ref a2), .val (.int (0 : Int32))] [] := by first | (simp [entryFrame, mkF, argsToLocals, Value.category]; done) | rfl
theorem pn_23 : plainFor (⟨"java/lang/String", "<init>", "([BB)V"⟩ : MethodName) = true := plainFor_of_name (show plainName "java/lang/String" = true by first | (simp [plainName, overriddenIn]; done) | decide +kernel)
set_option maxRecDepth 65536 in
set_option maxHeartbeats 40000000 in
theorem rmBB (l : Launch) (Z : State) (a0 : Array Value) (hw : ∀ d ∈ tables_1, d.before a0 Z = true) (ws : List Jvm.Cond) (a1 : Addr) (a2 : Addr) (h0 : Heap) (n0 : Nat) (hn : n0 ≤ h0.size) (X_a1 : Exa Z h0 a1 "java/lang/String") (g_a1 : n0 ≤ a1) (F_value_a1 : Fld Z h0 a1 "java/lang/String" "value" "[B" .null) (F_coder_a1 : Fld Z h0 a1 "java/lang/String" "coder" "B" (.int (0 : Int32))) :
    Met own_EL l Z (⟨"java/lang/String", "<init>", "([BB)V"⟩ : MethodName) jdk_42_method_151_code 3 none ({ frames := 1, cells := 0, slots := 0, locals := 12 } : Room) ws #[(.ref a1), (.ref a2), (.int (0 : Int32))] h0 n0 [a1] (Q_rmBB Z a1 a2 h0 n0) := by
  refine Met.of pn_23 (fun m => ef_rmBB m a1 a2) ?_
  have K := Keep.refl h0 [a1]
  refine Own.aloadN d23_0 rfl rfl ?_
  refine Own.initO_ (hw _ (List.mem_of_getElem? (i := 11) rfl)) (hw _ (List.mem_of_getElem? (i := 12) rfl)) (hw _ (List.mem_of_getElem? (i := 13) rfl)) d23_1 rfl (by decide) 0 rfl (by decide) ?_
  refine Own.aloadN d23_4 rfl rfl ?_
  refine Own.aloadN d23_5 rfl rfl ?_
  refine Own.putF_ (host := "") (Or.inl (hw _ (List.mem_of_getElem? (i := 28) rfl))) Via.refl F_value_a1 X_a1 (Or.inr ⟨(hw _ (List.mem_of_getElem? (i := 29) rfl)), rfl, rfl⟩) (hw _ (List.mem_of_getElem? (i := 2) rfl)) (ty := (.array .byte)) (by decide) rfl rfl g_a1 (List.mem_of_getElem? (i := 0) rfl) d23_6 (fun h21 W22 => ?_)
  replace F_value_a1 := F_value_a1.same W22
  have hn : n0 ≤ h21.size := by rw [W22.size]; exact hn
  replace X_a1 := X_a1.wr W22
  replace F_coder_a1 := F_coder_a1.other W22 (Or.inr (slot_ne (Or.inr (hw _ (List.mem_of_getElem? (i := 27) rfl))) (Or.inr (hw _ (List.mem_of_getElem? (i := 29) rfl))) (by decide) (t := .byte) (t' := (.array .byte)) (by decide) (by decide)))
  have K := K.wr W22 (Or.inl (List.mem_of_getElem? (i := 0) rfl))
  refine Own.aloadN d23_9 rfl rfl ?_
  refine Own.iloadN d23_10 rfl ?_
  refine Own.putFN_ (hw _ (List.mem_of_getElem? (i := 26) rfl)) Via.refl F_coder_a1 X_a1 (Or.inr ⟨(hw _ (List.mem_of_getElem? (i := 27) rfl)), rfl, rfl⟩) (hw _ (List.mem_of_getElem? (i := 2) rfl)) (ty := .byte) (v' := (.int (nar .byte (0 : Int32)))) (by decide) rfl (fits_nar_byte _) g_a1 (List.mem_of_getElem? (i := 0) rfl) d23_11 (fun h23 W24 => ?_)
  replace F_coder_a1 := F_coder_a1.same W24
  have hn : n0 ≤ h23.size := by rw [W24.size]; exact hn
  replace X_a1 := X_a1.wr W24
  replace F_value_a1 := F_value_a1.other W24 (Or.inr (slot_ne (Or.inr (hw _ (List.mem_of_getElem? (i := 29) rfl))) (Or.inr (hw _ (List.mem_of_getElem? (i := 27) rfl))) (by decide) (t := (.array .byte)) (t' := .byte) (by decide) (by decide)))
  rw [show nar .byte (0 : Int32) = 0 from rfl] at F_coder_a1
  have K := K.wr W24 (Or.inl (List.mem_of_getElem? (i := 0) rfl))
  refine Own.ret_void rfl d23_14 (by decide) (by decide) (fun Sf hSf => ?_)
  exact ⟨rfl, K, F_value_a1, F_coder_a1⟩
theorem ef_rmSE0_0 (m : MethodId) (a1 : Addr)  : entryFrame m #[(.ref a1)] 1 = mkF m 0 #[.val (.ref a1)] [] := by first | (simp [entryFrame, mkF, argsToLocals, Value.category]; done) | rfl
set_option maxRecDepth 65536 in
set_option maxHeartbeats 40000000 in
theorem rmSE0_0 (l : Launch) (Z : State) (a0 : Array Value) (hw : ∀ d ∈ tables_1, d.before a0 Z = true) (ws : List Jvm.Cond) (a1 : Addr) (h0 : Heap) (n0 : Nat) (hn : n0 ≤ h0.size) (F_from : Fld Z h0 a1 "com/example/cytorelay/cytorelay/core/Hl7Syntax$Span" "from" "I" (.int (0 : Int32))) (F_to : Fld Z h0 a1 "com/example/cytorelay/cytorelay/core/Hl7Syntax$Span" "to" "I" (.int (0 : Int32))) :
    Met own_EL l Z (⟨"com/example/cytorelay/cytorelay/core/Hl7Syntax$Span", "isEmpty", "()Z"⟩ : MethodName) prog_32_method_3_code 1 (some .boolean) ({ frames := 0, cells := 0, slots := 0, locals := 0 } : Room) ws #[(.ref a1)] h0 n0 [] (Pur (.int (1 : Int32)) h0) := by
  refine Met.of pn_9 (fun m => ef_rmSE0_0 m a1) ?_
  refine Own.aloadN d9_0 rfl rfl ?_
  refine Own.getF_ (host := "") (Or.inl (hw _ (List.mem_of_getElem? (i := 45) rfl))) Via.refl F_from d9_1 ?_
  refine Own.aloadN d9_4 rfl rfl ?_
  refine Own.getF_ (host := "") (Or.inl (hw _ (List.mem_of_getElem? (i := 47) rfl))) Via.refl F_to d9_5 ?_
  refine Own.icmp_ne 15 d9_8 (by decide) rfl (fun q => absurd (by decide) q) (fun _ => ?_)
  refine Own.iconst (1 : Int32) d9_11 rfl ?_
  refine Own.goto_ 16 d9_12 (by decide) rfl ?_
  refine Own.ret_nar (t := .boolean) (by simp) rfl d9_16 (by decide) (by decide) (fun Sf hSf => ?_)
  exact ⟨rfl, rfl⟩
theorem d15_0 : decode jdk_41_method_12_code 0 = .ok (.iload_n 0, 1) := by decide +kernel
theorem d15_1 : decode jdk_41_method_12_code 1 = .ok (.ifCond .lt 13, 3) := by decide +kernel
theorem d15_4 : decode jdk_41_method_12_code 4 = .ok (.iload_n 0, 1) := by decide +kernel
theorem d15_5 : decode jdk_41_method_12_code 5 = .ok (.iload_n 1, 1) := by decide +kernel
theorem d15_6 : decode jdk_41_method_12_code 6 = .ok (.if_icmp .gt 8, 3) := by decide +kernel
theorem d15_9 : decode jdk_41_method_12_code 9 = .ok (.iload_n 1, 1) := by decide +kernel
theorem d15_10 : decode jdk_41_method_12_code 10 = .ok (.iload_n 2, 1) := by decide +kernel
theorem d15_11 : decode jdk_41_method_12_code 11 = .ok (.if_icmp .le 11, 3) := by decide +kernel
theorem d15_22 : decode jdk_41_method_12_code 22 = .ok (.iload_n 0, 1) := by decide +kernel
theorem d15_23 : decode jdk_41_method_12_code 23 = .ok (.ireturn, 1) := by decide +kernel
theorem ef_rmPF0_0 (m : MethodId) (vf : Value) (hr_3 : (vf).isRef = true) : entryFrame m #[(.int (0 : Int32)), (.int (0 : Int32)), (.int (4 : Int32)), vf] 4 = mkF m 0 #[.val (.int (0 : Int32)), .val (.int (0 : Int32)), .val (.int (4 : Int32)), .val vf] [] := by rcases ref_cases hr_3 with rfl | ⟨z3, rfl⟩ <;> first | (simp [entryFrame, mkF, argsToLocals, Value.category]; done) | rfl
theorem pn_15 : plainFor (⟨"jdk/internal/util/Preconditions", "checkFromToIndex", "(IIILjava/util/function/BiFunction;)I"⟩ : MethodName) = true := plainFor_of_name (show plainName "jdk/internal/util/Preconditions" = true by first | (simp [plainName, overriddenIn]; done) | decide +kernel)
set_option maxRecDepth 65536 in
set_option maxHeartbeats 40000000 in
theorem rmPF0_0 (l : Launch) (Z : State) (a0 : Array Value) (hw : ∀ d ∈ tables_1, d.before a0 Z = true) (ws : List Jvm.Cond) (vf : Value) (h0 : Heap) (n0 : Nat) (hn : n0 ≤ h0.size) (hvf : vf.isRef = true) :
    Met own_EL l Z (⟨"jdk/internal/util/Preconditions", "checkFromToIndex", "(IIILjava/util/function/BiFunction;)I"⟩ : MethodName) jdk_41_method_12_code 4 (some .int) ({ frames := 0, cells := 0, slots := 0, locals := 0 } : Room) ws #[(.int (0 : Int32)), (.int (0 : Int32)), (.int (4 : Int32)), vf] h0 n0 [] (Pur (.int (0 : Int32)) h0) := by
  refine Met.of pn_15 (fun m => ef_rmPF0_0 m vf hvf) ?_
  refine Own.iloadN d15_0 rfl ?_
  refine Own.if_lt 14 d15_1 (by decide) rfl (fun q => absurd q (by decide)) (fun _ => ?_)
  refine Own.iloadN d15_4 rfl ?_
  refine Own.iloadN d15_5 rfl ?_
  refine Own.icmp_gt 14 d15_6 (by decide) rfl (fun q => absurd q (by decide)) (fun _ => ?_)
  refine Own.iloadN d15_9 rfl ?_
  refine Own.iloadN d15_10 rfl ?_
  refine Own.icmp_le 22 d15_11 (by decide) rfl (fun _ => ?_) (fun q => absurd q (by decide))
  refine Own.iloadN d15_22 rfl ?_
  refine Own.ret_int rfl d15_23 (by decide) (by decide) (fun Sf hSf => ?_)
  exact ⟨rfl, rfl⟩
theorem d14_0 : decode jdk_42_method_158_code 0 = .ok (.iload_n 0, 1) := by decide +kernel
theorem d14_1 : decode jdk_42_method_158_code 1 = .ok (.iload_n 1, 1) := by decide +kernel
theorem d14_2 : decode jdk_42_method_158_code 2 = .ok (.iload_n 2, 1) := by decide +kernel
theorem d14_3 : decode jdk_42_method_158_code 3 = .ok (.getstatic 1053, 3) := by decide +kernel
theorem d14_6 : decode jdk_42_method_158_code 6 = .ok (.invokestatic 1062, 3) := by decide +kernel
theorem pd_9 : parseMethodDescriptor "(IIILjava/util/function/BiFunction;)I" = some ⟨[.int, .int, .int, (.object "java/util/function/BiFunction")], some .int⟩ := by decide +kernel
theorem d14_9 : decode jdk_42_method_158_code 9 = .ok (.pop, 1) := by decide +kernel
theorem d14_10 : decode jdk_42_method_158_code 10 = .ok (.return_, 1) := by decide +kernel
theorem ef_rmCB0_0 (m : MethodId)   : entryFrame m #[(.int (0 : Int32)), (.int (0 : Int32)), (.int (4 : Int32))] 3 = mkF m 0 #[.val (.int (0 : Int32)), .val (.int (0 : Int32)), .val (.int (4 : Int32))] [] := by first | (simp [entryFrame, mkF, argsToLocals, Value.category]; done) | rfl
theorem pn_14 : plainFor (⟨"java/lang/String", "checkBoundsBeginEnd", "(III)V"⟩ : MethodName) = true := plainFor_of_name (show plainName "java/lang/String" = true by first | (simp [plainName, overriddenIn]; done) | decide +kernel)
set_option maxRecDepth 65536 in
set_option maxHeartbeats 40000000 in
theorem rmCB0_0 (l : Launch) (Z : State) (a0 : Array Value) (hw : ∀ d ∈ tables_1, d.before a0 Z = true) (ws : List Jvm.Cond) (vf : Value) (h0 : Heap) (n0 : Nat) (hn : n0 ≤ h0.size) (S_F : Sta Z h0 "jdk/internal/util/Preconditions" "SIOOBE_FORMATTER" "Ljava/util/function/BiFunction;" vf) (hvf : vf.isRef = true) :
    Met own_EL l Z (⟨"java/lang/String", "checkBoundsBeginEnd", "(III)V"⟩ : MethodName) jdk_42_method_158_code 3 none ({ frames := 1, cells := 0, slots := 0, locals := 15 } : Room) ws #[(.int (0 : Int32)), (.int (0 : Int32)), (.int (4 : Int32))] h0 n0 [] (Pur0 h0) := by
  refine Met.of pn_14 (fun m => ef_rmCB0_0 m ) ?_
  refine Own.iloadN d14_0 rfl ?_
  refine Own.iloadN d14_1 rfl ?_
  refine Own.iloadN d14_2 rfl ?_
  refine Own.getS_ (host := "") (Or.inl (hw _ (List.mem_of_getElem? (i := 77) rfl))) Via.refl S_F d14_3 ?_
  refine Own.callSP [(.int (0 : Int32)), (.int (0 : Int32)), (.int (4 : Int32)), vf] [] 0 (rmPF0_0 l Z a0 hw [] vf h0 n0 hn hvf) (hw _ (List.mem_of_getElem? (i := 79) rfl)) (hw _ (List.mem_of_getElem? (i := 80) rfl)) (hw _ (List.mem_of_getElem? (i := 78) rfl)) (hw _ (List.mem_of_getElem? (i := 81) rfl)) (by decide) d14_6 pd_9 rfl rfl rfl rfl (by decide) (by decide) (by decide) (by decide) ?_
  refine Own.pop d14_9 rfl ?_
  refine Own.ret_void rfl d14_10 (by decide) (by decide) (fun Sf hSf => ?_)
  exact ⟨rfl, rfl⟩
theorem d17_0 : decode jdk_43_method_47_code 0 = .ok (.iload_n 2, 1) := by decide +kernel
theorem d17_1 : decode jdk_43_method_47_code 1 = .ok (.ifCond .ne 6, 3) := by decide +kernel
theorem d17_4 : decode jdk_43_method_47_code 4 = .ok (.ldc 151, 2) := by decide +kernel
theorem d17_6 : decode jdk_43_method_47_code 6 = .ok (.areturn, 1) := by decide +kernel
def Q_rmNS0_0 (Z : State)  (h0 : Heap) (n0 : Nat) (v : Option Value) (h : Heap) (Sf : Addr → Prop) : Prop := Keep h0 h [] ∧ ∃ (a b : Addr) (kb : ClassId), v = some (.ref a) ∧ Exa Z h a "java/lang/String" ∧ Fld Z h a "java/lang/String" "value" "[B" (.ref b) ∧ Fld Z h a "java/lang/String" "coder" "B" (.int (0 : Int32)) ∧ Arl Z h b kb .byte []
theorem ef_rmNS0_0 (m : MethodId) (a1 : Addr)  : entryFrame m #[(.ref a1), (.int (0 : Int32)), (.int (0 : Int32))] 3 = mkF m 0 #[.val (.ref a1), .val (.int (0 : Int32)), .val (.int (0 : Int32))] [] := by first | (simp [entryFrame, mkF, argsToLocals, Value.category]; done) | rfl
theorem pn_17 : plainFor (⟨"java/lang/StringLatin1", "newString", "([BII)Ljava/lang/String;"⟩ : MethodName) = true := plainFor_of_name (show plainName "java/lang/StringLatin1" = true by first | (simp [plainName, overriddenIn]; done) | decide +kernel)
set_option maxRecDepth 65536 in
set_option maxHeartbeats 40000000 in
theorem rmNS0_0 (l : Launch) (Z : State) (a0 : Array Value) (hw : ∀ d ∈ tables_1, d.before a0 Z = true) (ws : List Jvm.Cond) (a1 : Addr) (ka : ClassId) (x0 : Int32) (x1 : Int32) (x2 : Int32) (x3 : Int32) (h0 : Heap) (n0 : Nat) (hn : n0 ≤ h0.size) (V_a1 : Arl Z h0 a1 ka .byte [(.int x0), (.int x1), (.int x2), (.int x3)]) :
    Met own_EL l Z (⟨"java/lang/StringLatin1", "newString", "([BII)Ljava/lang/String;"⟩ : MethodName) jdk_43_method_47_code 3 (some (.object "java/lang/String")) ({ frames := 5, cells := 3, slots := 16, locals := 90 } : Room) ws #[(.ref a1), (.int (0 : Int32)), (.int (0 : Int32))] h0 n0 [] (Q_rmNS0_0 Z  h0 n0) := by
  refine Met.of pn_17 (fun m => ef_rmNS0_0 m a1) ?_
  have K := Keep.refl h0 []
  refine Own.iloadN d17_0 rfl ?_
  refine Own.if_ne 7 d17_1 (by decide) rfl (fun q => absurd (by decide) q) (fun _ => ?_)
  refine Own.ldcC_ (vs := []) (z := (0 : Int32)) 0 (hw _ (List.mem_of_getElem? (i := 91) rfl)) (own_wS hw) (List.mem_of_getElem? (i := 0) rfl) (own_EW hw) ⟨by decide, by decide⟩ rfl d17_4 (by decide) (by decide) (by decide) (by decide) (fun h25 b25 t25 kt25 E25 X_b25 F_coder_b25 F_value_b25 V_t25 hne25 => ?_)
  have hn := Nat.le_trans hn E25.1
  replace V_a1 := V_a1.ext E25
  have K := K.ext E25
  refine Own.ret_ref (t := (.object "java/lang/String")) rfl rfl rfl d17_6 (by decide) (by decide) (fun Sf hSf => ?_)
  exact ⟨K, b25, t25, kt25, rfl, X_b25, F_value_b25, F_coder_b25, V_t25⟩
theorem d11_0 : decode jdk_42_method_92_code 0 = .ok (.aload_n 0, 1) := by decide +kernel
theorem d11_1 : decode jdk_42_method_92_code 1 = .ok (.invokevirtual 505, 3) := by decide +kernel
theorem pd_1 : parseMethodDescriptor "()I" = some ⟨[], some .int⟩ := by decide +kernel
theorem d11_4 : decode jdk_42_method_92_code 4 = .ok (.istore_n 3, 1) := by decide +kernel
theorem d11_5 : decode jdk_42_method_92_code 5 = .ok (.iload_n 1, 1) := by decide +kernel
theorem d11_6 : decode jdk_42_method_92_code 6 = .ok (.iload_n 2, 1) := by decide +kernel
theorem d11_7 : decode jdk_42_method_92_code 7 = .ok (.iload_n 3, 1) := by decide +kernel
theorem d11_8 : decode jdk_42_method_92_code 8 = .ok (.invokestatic 521, 3) := by decide +kernel
theorem pd_8 : parseMethodDescriptor "(III)V" = some ⟨[.int, .int, .int], none⟩ := by decide +kernel
theorem d11_11 : decode jdk_42_method_92_code 11 = .ok (.iload_n 1, 1) := by decide +kernel
theorem d11_12 : decode jdk_42_method_92_code 12 = .ok (.ifCond .ne 10, 3) := by decide +kernel
theorem d11_15 : decode jdk_42_method_92_code 15 = .ok (.iload_n 2, 1) := by decide +kernel
theorem d11_16 : decode jdk_42_method_92_code 16 = .ok (.iload_n 3, 1) := by decide +kernel
theorem d11_17 : decode jdk_42_method_92_code 17 = .ok (.if_icmp .ne 5, 3) := by decide +kernel
theorem d11_22 : decode jdk_42_method_92_code 22 = .ok (.iload_n 2, 1) := by decide +kernel
theorem d11_23 : decode jdk_42_method_92_code 23 = .ok (.iload_n 1, 1) := by decide +kernel
theorem d11_24 : decode jdk_42_method_92_code 24 = .ok (.isub, 1) := by decide +kernel
theorem d11_25 : decode jdk_42_method_92_code 25 = .ok (.istore 4, 2) := by decide +kernel
theorem d11_27 : decode jdk_42_method_92_code 27 = .ok (.aload_n 0, 1) := by decide +kernel
theorem d11_28 : decode jdk_42_method_92_code 28 = .ok (.invokevirtual 492, 3) := by decide +kernel
theorem pd_4 : parseMethodDescriptor "()Z" = some ⟨[], some .boolean⟩ := by decide +kernel
theorem d11_31 : decode jdk_42_method_92_code 31 = .ok (.ifCond .eq 16, 3) := by decide +kernel
theorem d11_34 : decode jdk_42_method_92_code 34 = .ok (.aload_n 0, 1) := by decide +kernel
theorem d11_35 : decode jdk_42_method_92_code 35 = .ok (.getfield 9, 3) := by decide +kernel
theorem d11_38 : decode jdk_42_method_92_code 38 = .ok (.iload_n 1, 1) := by decide +kernel
theorem d11_39 : decode jdk_42_method_92_code 39 = .ok (.iload 4, 2) := by decide +kernel
theorem d11_41 : decode jdk_42_method_92_code 41 = .ok (.invokestatic 685, 3) := by decide +kernel
theorem pd_14 : parseMethodDescriptor "([BII)Ljava/lang/String;" = some ⟨[(.array .byte), .int, .int], some (.object "java/lang/String")⟩ := by decide +kernel
theorem d11_44 : decode jdk_42_method_92_code 44 = .ok (.goto 13, 3) := by decide +kernel
theorem d11_57 : decode jdk_42_method_92_code 57 = .ok (.areturn, 1) := by decide +kernel
def Q_rmSub0_0 (Z : State) (a1 : Addr) (b : Addr) (kb : ClassId) (zc : Int32) (vf : Value) (x0 : Int32) (x1 : Int32) (x2 : Int32) (x3 : Int32) (h0 : Heap) (n0 : Nat) (v : Option Value) (h : Heap) (Sf : Addr → Prop) : Prop := Keep h0 h [] ∧ ∃ (a b : Addr) (kb : ClassId), v = some (.ref a) ∧ Exa Z h a "java/lang/String" ∧ Fld Z h a "java/lang/String" "value" "[B" (.ref b) ∧ Fld Z h a "java/lang/String" "coder" "B" (.int (0 : Int32)) ∧ Arl Z h b kb .byte []
theorem ef_rmSub0_0 (m : MethodId) (a1 : Addr)  : entryFrame m #[(.ref a1), (.int (0 : Int32)), (.int (0 : Int32))] 5 = mkF m 0 #[.val (.ref a1), .val (.int (0 : Int32)), .val (.int (0 : Int32)), .unset, .unset] [] := by first | (simp [entryFrame, mkF, argsToLocals, Value.category]; done) | rfl
theorem pn_11 : plainFor (⟨"java/lang/String", "substring", "(II)Ljava/lang/String;"⟩ : MethodName) = true := plainFor_of_name (show plainName "java/lang/String" = true by first | (simp [plainName, overriddenIn]; done) | decide +kernel)
set_option maxRecDepth 65536 in
set_option maxHeartbeats 40000000 in
theorem rmSub0_0 (l : Launch) (Z : State) (a0 : Array Value) (hw : ∀ d ∈ tables_1, d.before a0 Z = true) (ws : List Jvm.Cond) (a1 : Addr) (b : Addr) (kb : ClassId) (zc : Int32) (vf : Value) (x0 : Int32) (x1 : Int32) (x2 : Int32) (x3 : Int32) (h0 : Heap) (n0 : Nat) (hn : n0 ≤ h0.size) (X_a1 : Exa Z h0 a1 "java/lang/String") (F_value_a1 : Fld Z h0 a1 "java/lang/String" "value" "[B" (.ref b)) (F_coder_a1 : Fld Z h0 a1 "java/lang/String" "coder" "B" (.int (0 : Int32))) (V_b : Arl Z h0 b kb .byte [(.int x0), (.int x1), (.int x2), (.int x3)]) (S_C : Sta Z h0 "java/lang/String" "COMPACT_STRINGS" "Z" (.int zc)) (S_F : Sta Z h0 "jdk/internal/util/Preconditions" "SIOOBE_FORMATTER" "Ljava/util/function/BiFunction;" vf) (hz : ¬ zc = 0) (hvf : vf.isRef = true) :
    Met own_EL l Z (⟨"java/lang/String", "substring", "(II)Ljava/lang/String;"⟩ : MethodName) jdk_42_method_92_code 5 (some (.object "java/lang/String")) ({ frames := 6, cells := 3, slots := 16, locals := 110 } : Room) ws #[(.ref a1), (.int (0 : Int32)), (.int (0 : Int32))] h0 n0 [] (Q_rmSub0_0 Z a1 b kb zc vf x0 x1 x2 x3 h0 n0) := by
  refine Met.of pn_11 (fun m => ef_rmSub0_0 m a1) ?_
  have K := Keep.refl h0 []
  refine Own.aloadN d11_0 rfl rfl ?_
  refine Own.callVP a1 [] [] 0 (rm_len_4 l Z a0 hw [] a1 b kb _ zc h0 n0 hn X_a1 F_value_a1 F_coder_a1 V_b rfl S_C hz) (hw _ (List.mem_of_getElem? (i := 64) rfl)) (hw _ (List.mem_of_getElem? (i := 65) rfl)) (fun s hZ => notFace_of_selects (args := #[]) (mvT hZ (hw _ (List.mem_of_getElem? (i := 67) rfl)))) (hw _ (List.mem_of_getElem? (i := 67) rfl)) (hw _ (List.mem_of_getElem? (i := 66) rfl)) (hw _ (List.mem_of_getElem? (i := 3) rfl)) (hw _ (List.mem_of_getElem? (i := 68) rfl)) (by decide) X_a1 d11_1 pd_1 rfl rfl rfl rfl (by decide) (by decide) (by decide) (by decide) ?_
  refine Own.istoreN #[.val (.ref a1), .val (.int (0 : Int32)), .val (.int (0 : Int32)), .val (.int (4 : Int32)), .unset] d11_4 rfl ?_
  refine Own.iloadN d11_5 rfl ?_
  refine Own.iloadN d11_6 rfl ?_
  refine Own.iloadN d11_7 rfl ?_
  refine Own.callS0 [(.int (0 : Int32)), (.int (0 : Int32)), (.int (4 : Int32))] [] 0 (rmCB0_0 l Z a0 hw [] vf h0 n0 hn S_F hvf) (hw _ (List.mem_of_getElem? (i := 74) rfl)) (hw _ (List.mem_of_getElem? (i := 75) rfl)) (hw _ (List.mem_of_getElem? (i := 3) rfl)) (hw _ (List.mem_of_getElem? (i := 76) rfl)) (by decide) d11_8 pd_8 rfl rfl rfl rfl (by decide) (by decide) (by decide) (by decide) ?_
  refine Own.iloadN d11_11 rfl ?_
  refine Own.if_ne 22 d11_12 (by decide) rfl (fun q => absurd (by decide) q) (fun _ => ?_)
  refine Own.iloadN d11_15 rfl ?_
  refine Own.iloadN d11_16 rfl ?_
  refine Own.icmp_ne 22 d11_17 (by decide) rfl (fun _ => ?_) (fun q => absurd q (by decide))
  refine Own.iloadN d11_22 rfl ?_
  refine Own.iloadN d11_23 rfl ?_
  refine Own.isub d11_24 ?_
  refine OAt.cast (st' := [(.int (0 : Int32))]) rfl ?_
  refine Own.istore #[.val (.ref a1), .val (.int (0 : Int32)), .val (.int (0 : Int32)), .val (.int (4 : Int32)), .val (.int (0 : Int32))] d11_25 rfl ?_
  refine Own.aloadN d11_27 rfl rfl ?_
  refine Own.callVP a1 [] [] 0 (rm_lat_4 l Z a0 hw [] a1 b kb _ zc h0 n0 hn X_a1 F_value_a1 F_coder_a1 V_b rfl S_C hz) (hw _ (List.mem_of_getElem? (i := 82) rfl)) (hw _ (List.mem_of_getElem? (i := 83) rfl)) (fun s hZ => notFace_of_selects (args := #[]) (mvT hZ (hw _ (List.mem_of_getElem? (i := 85) rfl)))) (hw _ (List.mem_of_getElem? (i := 85) rfl)) (hw _ (List.mem_of_getElem? (i := 84) rfl)) (hw _ (List.mem_of_getElem? (i := 3) rfl)) (hw _ (List.mem_of_getElem? (i := 86) rfl)) (by decide) X_a1 d11_28 pd_4 rfl rfl rfl rfl (by decide) (by decide) (by decide) (by decide) ?_
  refine Own.if_eq 47 d11_31 (by decide) rfl (fun q => absurd q (by decide)) (fun _ => ?_)
  refine Own.aloadN d11_34 rfl rfl ?_
  refine Own.getF_ (host := "") (Or.inl (hw _ (List.mem_of_getElem? (i := 28) rfl))) Via.refl F_value_a1 d11_35 ?_
  refine Own.iloadN d11_38 rfl ?_
  refine Own.iload d11_39 rfl ?_
  refine Own.callS_ [(.ref b), (.int (0 : Int32)), (.int (0 : Int32))] [] 0 (rmNS0_0 l Z a0 hw [] b kb x0 x1 x2 x3 h0 n0 hn V_b) all0 (hw _ (List.mem_of_getElem? (i := 87) rfl)) (hw _ (List.mem_of_getElem? (i := 88) rfl)) (hw _ (List.mem_of_getElem? (i := 89) rfl)) (hw _ (List.mem_of_getElem? (i := 90) rfl)) (by decide) d11_41 pd_14 rfl rfl rfl rfl (by decide) (by decide) (by decide) (by decide) (fun v26 h26 S26 hq26 => ?_)
  obtain ⟨K27, s27, t27, kt27, rfl, X_s27, F_value_s27, F_coder_s27, V_t27⟩ := hq26
  have hn := Nat.le_trans hn K27.1
  replace S_C := sta_keep S_C K27 ns0
  replace S_F := sta_keep S_F K27 ns0
  replace X_a1 := X_a1.keep K27
  replace F_value_a1 := F_value_a1.keep K27 nin0
  replace F_coder_a1 := F_coder_a1.keep K27 nin0
  replace V_b := V_b.keep K27 nin0
  have K := K.trans K27 all0
  refine ⟨[], all0, ?_⟩
  refine OAt.cast (st' := [(.ref s27)]) rfl ?_
  refine Own.goto_ 57 d11_44 (by decide) rfl ?_
  refine Own.ret_ref (t := (.object "java/lang/String")) rfl rfl rfl d11_57 (by decide) (by decide) (fun Sf hSf => ?_)
  exact ⟨K, s27, t27, kt27, rfl, X_s27, F_value_s27, F_coder_s27, V_t27⟩
theorem d10_0 : decode prog_32_method_4_code 0 = .ok (.aload_n 0, 1) := by decide +kernel
theorem d10_1 : decode prog_32_method_4_code 1 = .ok (.getfield 9, 3) := by decide +kernel
theorem d10_4 : decode prog_32_method_4_code 4 = .ok (.aload_n 0, 1) := by decide +kernel
theorem d10_5 : decode prog_32_method_4_code 5 = .ok (.getfield 15, 3) := by decide +kernel
theorem d10_8 : decode prog_32_method_4_code 8 = .ok (.aload_n 0, 1) := by decide +kernel
theorem d10_9 : decode prog_32_method_4_code 9 = .ok (.getfield 19, 3) := by decide +kernel
theorem d10_12 : decode prog_32_method_4_code 12 = .ok (.invokevirtual 31, 3) := by decide +kernel
theorem pd_6 : parseMethodDescriptor "(II)Ljava/lang/String;" = some ⟨[.int, .int], some (.object "java/lang/String")⟩ := by decide +kernel
theorem d10_15 : decode prog_32_method_4_code 15 = .ok (.areturn, 1) := by decide +kernel
def Q_rmCut0_0 (Z : State) (x0 : Int32) (x1 : Int32) (x2 : Int32) (x3 : Int32) (h0 : Heap) (n0 : Nat) (v : Option Value) (h : Heap) (Sf : Addr → Prop) : Prop := Keep h0 h [] ∧ ∃ (a b : Addr) (kb : ClassId), v = some (.ref a) ∧ Exa Z h a "java/lang/String" ∧ Fld Z h a "java/lang/String" "value" "[B" (.ref b) ∧ Fld Z h a "java/lang/String" "coder" "B" (.int (0 : Int32)) ∧ Arl Z h b kb .byte []
theorem ef_rmCut0_0 (m : MethodId) (a1 : Addr)  : entryFrame m #[(.ref a1)] 1 = mkF m 0 #[.val (.ref a1)] [] := by first | (simp [entryFrame, mkF, argsToLocals, Value.category]; done) | rfl
theorem pn_10 : plainFor (⟨"com/example/cytorelay/cytorelay/core/Hl7Syntax$Span", "cut", "()Ljava/lang/String;"⟩ : MethodName) = true := plainFor_of_name (show plainName "com/example/cytorelay/cytorelay/core/Hl7Syntax$Span" = true by first | (simp [plainName, overriddenIn]; done) | decide +kernel)
set_option maxRecDepth 65536 in
set_option maxHeartbeats 40000000 in
theorem rmCut0_0 (l : Launch) (Z : State) (a0 : Array Value) (hw : ∀ d ∈ tables_1, d.before a0 Z = true) (ws : List Jvm.Cond) (a1 : Addr) (a2 : Addr) (b : Addr) (kb : ClassId) (zc : Int32) (vf : Value) (x0 : Int32) (x1 : Int32) (x2 : Int32) (x3 : Int32) (h0 : Heap) (n0 : Nat) (hn : n0 ≤ h0.size) (X_a2 : Exa Z h0 a2 "java/lang/String") (F_value_a2 : Fld Z h0 a2 "java/lang/String" "value" "[B" (.ref b)) (F_coder_a2 : Fld Z h0 a2 "java/lang/String" "coder" "B" (.int (0 : Int32))) (V_b : Arl Z h0 b kb .byte [(.int x0), (.int x1), (.int x2), (.int x3)]) (S_C : Sta Z h0 "java/lang/String" "COMPACT_STRINGS" "Z" (.int zc)) (S_F : Sta Z h0 "jdk/internal/util/Preconditions" "SIOOBE_FORMATTER" "Ljava/util/function/BiFunction;" vf) (hz : ¬ zc = 0) (hvf : vf.isRef = true) (F_text_a1 : Fld Z h0 a1 "com/example/cytorelay/cytorelay/core/Hl7Syntax$Span" "text" "Ljava/lang/String;" (.ref a2)) (F_from_a1 : Fld Z h0 a1 "com/example/cytorelay/cytorelay/core/Hl7Syntax$Span" "from" "I" (.int (0 : Int32))) (F_to_a1 : Fld Z h0 a1 "com/example/cytorelay/cytorelay/core/Hl7Syntax$Span" "to" "I" (.int (0 : Int32))) :
    Met own_EL l Z (⟨"com/example/cytorelay/cytorelay/core/Hl7Syntax$Span", "cut", "()Ljava/lang/String;"⟩ : MethodName) prog_32_method_4_code 1 (some (.object "java/lang/String")) ({ frames := 7, cells := 3, slots := 16, locals := 130 } : Room) ws #[(.ref a1)] h0 n0 [] (Q_rmCut0_0 Z x0 x1 x2 x3 h0 n0) := by
  refine Met.of pn_10 (fun m => ef_rmCut0_0 m a1) ?_
  have K := Keep.refl h0 []
  refine Own.aloadN d10_0 rfl rfl ?_
  refine Own.getF_ (host := "") (Or.inl (hw _ (List.mem_of_getElem? (i := 43) rfl))) Via.refl F_text_a1 d10_1 ?_
  refine Own.aloadN d10_4 rfl rfl ?_
  refine Own.getF_ (host := "") (Or.inl (hw _ (List.mem_of_getElem? (i := 45) rfl))) Via.refl F_from_a1 d10_5 ?_
  refine Own.aloadN d10_8 rfl rfl ?_
  refine Own.getF_ (host := "") (Or.inl (hw _ (List.mem_of_getElem? (i := 47) rfl))) Via.refl F_to_a1 d10_9 ?_
  refine Own.callV_ a2 [(.int (0 : Int32)), (.int (0 : Int32))] [] 0 (rmSub0_0 l Z a0 hw [] a2 b kb zc vf x0 x1 x2 x3 h0 n0 hn X_a2 F_value_a2 F_coder_a2 V_b S_C S_F hz hvf) all0 (hw _ (List.mem_of_getElem? (i := 59) rfl)) (hw _ (List.mem_of_getElem? (i := 60) rfl)) (fun s hZ => notFace_of_selects (args := #[]) (mvT hZ (hw _ (List.mem_of_getElem? (i := 62) rfl)))) (hw _ (List.mem_of_getElem? (i := 62) rfl)) (hw _ (List.mem_of_getElem? (i := 61) rfl)) (hw _ (List.mem_of_getElem? (i := 3) rfl)) (hw _ (List.mem_of_getElem? (i := 63) rfl)) (by decide) X_a2 d10_12 pd_6 rfl rfl rfl rfl (by decide) (by decide) (by decide) (by decide) (fun v28 h28 S28 hq28 => ?_)
  obtain ⟨K29, s29, t29, kt29, rfl, X_s29, F_value_s29, F_coder_s29, V_t29⟩ := hq28
  have hn := Nat.le_trans hn K29.1
  replace S_C := sta_keep S_C K29 ns0
  replace S_F := sta_keep S_F K29 ns0
  replace X_a2 := X_a2.keep K29
  replace F_value_a2 := F_value_a2.keep K29 nin0
  replace F_coder_a2 := F_coder_a2.keep K29 nin0
  replace V_b := V_b.keep K29 nin0
  replace F_text_a1 := F_text_a1.keep K29 nin0
  replace F_from_a1 := F_from_a1.keep K29 nin0
  replace F_to_a1 := F_to_a1.keep K29 nin0
  have K := K.trans K29 all0
  refine ⟨[], all0, ?_⟩
  refine OAt.cast (st' := [(.ref s29)]) rfl ?_
  refine Own.ret_ref (t := (.object "java/lang/String")) rfl rfl rfl d10_15 (by decide) (by decide) (fun Sf hSf => ?_)
  exact ⟨K, s29, t29, kt29, rfl, X_s29, F_value_s29, F_coder_s29, V_t29⟩
theorem d9_15 : decode prog_32_method_3_code 15 = .ok (.iconst 0, 1) := by decide +kernel
theorem ef_rmSE0_1 (m : MethodId) (a1 : Addr)  : entryFrame m #[(.ref a1)] 1 = mkF m 0 #[.val (.ref a1)] [] := by first | (simp [entryFrame, mkF, argsToLocals, Value.category]; done) | rfl
set_option maxRecDepth 65536 in
set_option maxHeartbeats 40000000 in
theorem rmSE0_1 (l : Launch) (Z : State) (a0 : Array Value) (hw : ∀ d ∈ tables_1, d.before a0 Z = true) (ws : List Jvm.Cond) (a1 : Addr) (h0 : Heap) (n0 : Nat) (hn : n0 ≤ h0.size) (F_from : Fld Z h0 a1 "com/example/cytorelay/cytorelay/core/Hl7Syntax$Span" "from" "I" (.int (0 : Int32))) (F_to : Fld Z h0 a1 "com/example/cytorelay/cytorelay/core/Hl7Syntax$Span" "to" "I" (.int (1 : Int32))) :
    Met own_EL l Z (⟨"com/example/cytorelay/cytorelay/core/Hl7Syntax$Span", "isEmpty", "()Z"⟩ : MethodName) prog_32_method_3_code 1 (some .boolean) ({ frames := 0, cells := 0, slots := 0, locals := 0 } : Room) ws #[(.ref a1)] h0 n0 [] (Pur (.int (0 : Int32)) h0) := by
  refine Met.of pn_9 (fun m => ef_rmSE0_1 m a1) ?_
  refine Own.aloadN d9_0 rfl rfl ?_
  refine Own.getF_ (host := "") (Or.inl (hw _ (List.mem_of_getElem? (i := 45) rfl))) Via.refl F_from d9_1 ?_
  refine Own.aloadN d9_4 rfl rfl ?_
  refine Own.getF_ (host := "") (Or.inl (hw _ (List.mem_of_getElem? (i := 47) rfl))) Via.refl F_to d9_5 ?_
  refine Own.icmp_ne 15 d9_8 (by decide) rfl (fun _ => ?_) (fun q => absurd q (by decide))
  refine Own.iconst (0 : Int32) d9_15 rfl ?_
  refine Own.ret_nar (t := .boolean) (by simp) rfl d9_16 (by decide) (by decide) (fun Sf hSf => ?_)
  exact ⟨rfl, rfl⟩
theorem ef_rmPF0_1 (m : MethodId) (vf : Value) (hr_3 : (vf).isRef = true) : entryFrame m #[(.int (0 : Int32)), (.int (1 : Int32)), (.int (4 : Int32)), vf] 4 = mkF m 0 #[.val (.int (0 : Int32)), .val (.int (1 : Int32)), .val (.int (4 : Int32)), .val vf] [] := by rcases ref_cases hr_3 with rfl | ⟨z3, rfl⟩ <;> first | (simp [entryFrame, mkF, argsToLocals, Value.category]; done) | rfl
set_option maxRecDepth 65536 in
set_option maxHeartbeats 40000000 in
theorem rmPF0_1 (l : Launch) (Z : State) (a0 : Array Value) (hw : ∀ d ∈ tables_1, d.before a0 Z = true) (ws : List Jvm.Cond) (vf : Value) (h0 : Heap) (n0 : Nat) (hn : n0 ≤ h0.size) (hvf : vf.isRef = true) :
    Met own_EL l Z (⟨"jdk/internal/util/Preconditions", "checkFromToIndex", "(IIILjava/util/function/BiFunction;)I"⟩ : MethodName) jdk_41_method_12_code 4 (some .int) ({ frames := 0, cells := 0, slots := 0, locals := 0 } : Room) ws #[(.int (0 : Int32)), (.int (1 : Int32)), (.int (4 : Int32)), vf] h0 n0 [] (Pur (.int (0 : Int32)) h0) := by
  refine Met.of pn_15 (fun m => ef_rmPF0_1 m vf hvf) ?_
  refine Own.iloadN d15_0 rfl ?_
  refine Own.if_lt 14 d15_1 (by decide) rfl (fun q => absurd q (by decide)) (fun _ => ?_)
  refine Own.iloadN d15_4 rfl ?_
  refine Own.iloadN d15_5 rfl ?_
  refine Own.icmp_gt 14 d15_6 (by decide) rfl (fun q => absurd q (by decide)) (fun _ => ?_)
  refine Own.iloadN d15_9 rfl ?_
  refine Own.iloadN d15_10 rfl ?_
  refine Own.icmp_le 22 d15_11 (by decide) rfl (fun _ => ?_) (fun q => absurd q (by decide))
  refine Own.iloadN d15_22 rfl ?_
  refine Own.ret_int rfl d15_23 (by decide) (by decide) (fun Sf hSf => ?_)
  exact ⟨rfl, rfl⟩
theorem ef_rmCB0_1 (m : MethodId)   : entryFrame m #[(.int (0 : Int32)), (.int (1 : Int32)), (.int (4 : Int32))] 3 = mkF m 0 #[.val (.int (0 : Int32)), .val (.int (1 : Int32)), .val (.int (4 : Int32))] [] := by first | (simp [entryFrame, mkF, argsToLocals, Value.category]; done) | rfl
set_option maxRecDepth 65536 in
set_option maxHeartbeats 40000000 in
theorem rmCB0_1 (l : Launch) (Z : State) (a0 : Array Value) (hw : ∀ d ∈ tables_1, d.before a0 Z = true) (ws : List Jvm.Cond) (vf : Value) (h0 : Heap) (n0 : Nat) (hn : n0 ≤ h0.size) (S_F : Sta Z h0 "jdk/internal/util/Preconditions" "SIOOBE_FORMATTER" "Ljava/util/function/BiFunction;" vf) (hvf : vf.isRef = true) :
    Met own_EL l Z (⟨"java/lang/String", "checkBoundsBeginEnd", "(III)V"⟩ : MethodName) jdk_42_method_158_code 3 none ({ frames := 1, cells := 0, slots := 0, locals := 15 } : Room) ws #[(.int (0 : Int32)), (.int (1 : Int32)), (.int (4 : Int32))] h0 n0 [] (Pur0 h0) := by
  refine Met.of pn_14 (fun m => ef_rmCB0_1 m ) ?_
  refine Own.iloadN d14_0 rfl ?_
  refine Own.iloadN d14_1 rfl ?_
  refine Own.iloadN d14_2 rfl ?_
  refine Own.getS_ (host := "") (Or.inl (hw _ (List.mem_of_getElem? (i := 77) rfl))) Via.refl S_F d14_3 ?_
  refine Own.callSP [(.int (0 : Int32)), (.int (1 : Int32)), (.int (4 : Int32)), vf] [] 0 (rmPF0_1 l Z a0 hw [] vf h0 n0 hn hvf) (hw _ (List.mem_of_getElem? (i := 79) rfl)) (hw _ (List.mem_of_getElem? (i := 80) rfl)) (hw _ (List.mem_of_getElem? (i := 78) rfl)) (hw _ (List.mem_of_getElem? (i := 81) rfl)) (by decide) d14_6 pd_9 rfl rfl rfl rfl (by decide) (by decide) (by decide) (by decide) ?_
  refine Own.pop d14_9 rfl ?_
  refine Own.ret_void rfl d14_10 (by decide) (by decide) (fun Sf hSf => ?_)
  exact ⟨rfl, rfl⟩
theorem d21_0 : decode jdk_65_method_131_code 0 = .ok (.iload_n 1, 1) := by decide +kernel
theorem d21_1 : decode jdk_65_method_131_code 1 = .ok (.iload_n 0, 1) := by decide +kernel
theorem d21_2 : decode jdk_65_method_131_code 2 = .ok (.if_icmp .ge 35, 3) := by decide +kernel
theorem d21_37 : decode jdk_65_method_131_code 37 = .ok (.return_, 1) := by decide +kernel
theorem ef_rmCL0_1 (m : MethodId)   : entryFrame m #[(.int (0 : Int32)), (.int (1 : Int32))] 2 = mkF m 0 #[.val (.int (0 : Int32)), .val (.int (1 : Int32))] [] := by first | (simp [entryFrame, mkF, argsToLocals, Value.category]; done) | rfl
theorem pn_21 : plainFor (⟨"java/util/Arrays", "checkLength", "(II)V"⟩ : MethodName) = true := plainFor_of_name (show plainName "java/util/Arrays" = true by first | (simp [plainName, overriddenIn]; done) | decide +kernel)
set_option maxRecDepth 65536 in
set_option maxHeartbeats 40000000 in
theorem rmCL0_1 (l : Launch) (Z : State) (a0 : Array Value) (hw : ∀ d ∈ tables_1, d.before a0 Z = true) (ws : List Jvm.Cond)  (h0 : Heap) (n0 : Nat) (hn : n0 ≤ h0.size) :
    Met own_EL l Z (⟨"java/util/Arrays", "checkLength", "(II)V"⟩ : MethodName) jdk_65_method_131_code 2 none ({ frames := 0, cells := 0, slots := 0, locals := 0 } : Room) ws #[(.int (0 : Int32)), (.int (1 : Int32))] h0 n0 [] (Pur0 h0) := by
  refine Met.of pn_21 (fun m => ef_rmCL0_1 m ) ?_
  refine Own.iloadN d21_0 rfl ?_
  refine Own.iloadN d21_1 rfl ?_
  refine Own.icmp_ge 37 d21_2 (by decide) rfl (fun _ => ?_) (fun q => absurd q (by decide))
  refine Own.ret_void rfl d21_37 (by decide) (by decide) (fun Sf hSf => ?_)
  exact ⟨rfl, rfl⟩
theorem d22_0 : decode jdk_29_method_69_code 0 = .ok (.iload_n 0, 1) := by decide +kernel
theorem d22_1 : decode jdk_29_method_69_code 1 = .ok (.iload_n 1, 1) := by decide +kernel
theorem d22_2 : decode jdk_29_method_69_code 2 = .ok (.if_icmp .gt 7, 3) := by decide +kernel
theorem d22_9 : decode jdk_29_method_69_code 9 = .ok (.iload_n 1, 1) := by decide +kernel
theorem d22_10 : decode jdk_29_method_69_code 10 = .ok (.ireturn, 1) := by decide +kernel
theorem ef_rmMM0_1 (m : MethodId)   : entryFrame m #[(.int (4 : Int32)), (.int (1 : Int32))] 2 = mkF m 0 #[.val (.int (4 : Int32)), .val (.int (1 : Int32))] [] := by first | (simp [entryFrame, mkF, argsToLocals, Value.category]; done) | rfl
theorem pn_22 : plainFor (⟨"java/lang/Math", "min", "(II)I"⟩ : MethodName) = true := Jvm.Free.JP.mathPlain rfl (by decide +kernel)
set_option maxRecDepth 65536 in
set_option maxHeartbeats 40000000 in
theorem rmMM0_1 (l : Launch) (Z : State) (a0 : Array Value) (hw : ∀ d ∈ tables_1, d.before a0 Z = true) (ws : List Jvm.Cond)  (h0 : Heap) (n0 : Nat) (hn : n0 ≤ h0.size) :
    Met own_EL l Z (⟨"java/lang/Math", "min", "(II)I"⟩ : MethodName) jdk_29_method_69_code 2 (some .int) ({ frames := 0, cells := 0, slots := 0, locals := 0 } : Room) ws #[(.int (4 : Int32)), (.int (1 : Int32))] h0 n0 [] (Pur (.int (1 : Int32)) h0) := by
  refine Met.of pn_22 (fun m => ef_rmMM0_1 m ) ?_
  refine Own.iloadN d22_0 rfl ?_
  refine Own.iloadN d22_1 rfl ?_
  refine Own.icmp_gt 9 d22_2 (by decide) rfl (fun _ => ?_) (fun q => absurd (by decide) q)
  refine Own.iloadN d22_9 rfl ?_
  refine Own.ret_int rfl d22_10 (by decide) (by decide) (fun Sf hSf => ?_)
  exact ⟨rfl, rfl⟩
theorem d20_0 : decode jdk_65_method_133_code 0 = .ok (.iload_n 1, 1) := by decide +kernel
theorem d20_1 : decode jdk_65_method_133_code 1 = .ok (.iload_n 2, 1) := by decide +kernel
theorem d20_2 : decode jdk_65_method_133_code 2 = .ok (.invokestatic 343, 3) := by decide +kernel
theorem pd_7 : parseMethodDescriptor "(II)V" = some ⟨[.int, .int], none⟩ := by decide +kernel
theorem d20_5 : decode jdk_65_method_133_code 5 = .ok (.iload_n 2, 1) := by decide +kernel
theorem d20_6 : decode jdk_65_method_133_code 6 = .ok (.iload_n 1, 1) := by decide +kernel
theorem d20_7 : decode jdk_65_method_133_code 7 = .ok (.isub, 1) := by decide +kernel
theorem d20_8 : decode jdk_65_method_133_code 8 = .ok (.istore_n 3, 1) := by decide +kernel
theorem d20_9 : decode jdk_65_method_133_code 9 = .ok (.iload_n 3, 1) := by decide +kernel
theorem d20_10 : decode jdk_65_method_133_code 10 = .ok (.newarray .byte, 2) := by decide +kernel
theorem d20_12 : decode jdk_65_method_133_code 12 = .ok (.astore 4, 2) := by decide +kernel
theorem d20_14 : decode jdk_65_method_133_code 14 = .ok (.aload_n 0, 1) := by decide +kernel
theorem d20_15 : decode jdk_65_method_133_code 15 = .ok (.iload_n 1, 1) := by decide +kernel
theorem d20_16 : decode jdk_65_method_133_code 16 = .ok (.aload 4, 2) := by decide +kernel
theorem d20_18 : decode jdk_65_method_133_code 18 = .ok (.iconst 0, 1) := by decide +kernel
theorem d20_19 : decode jdk_65_method_133_code 19 = .ok (.aload_n 0, 1) := by decide +kernel
theorem d20_20 : decode jdk_65_method_133_code 20 = .ok (.arraylength, 1) := by decide +kernel
theorem d20_21 : decode jdk_65_method_133_code 21 = .ok (.iload_n 1, 1) := by decide +kernel
theorem d20_22 : decode jdk_65_method_133_code 22 = .ok (.isub, 1) := by decide +kernel
theorem d20_23 : decode jdk_65_method_133_code 23 = .ok (.iload_n 3, 1) := by decide +kernel
theorem d20_24 : decode jdk_65_method_133_code 24 = .ok (.invokestatic 304, 3) := by decide +kernel
theorem pd_5 : parseMethodDescriptor "(II)I" = some ⟨[.int, .int], some .int⟩ := by decide +kernel
theorem d20_27 : decode jdk_65_method_133_code 27 = .ok (.invokestatic 150, 3) := by decide +kernel
theorem d20_30 : decode jdk_65_method_133_code 30 = .ok (.aload 4, 2) := by decide +kernel
theorem d20_32 : decode jdk_65_method_133_code 32 = .ok (.areturn, 1) := by decide +kernel
def Q_rmRB0_1 (Z : State) (x0 : Int32) (x1 : Int32) (x2 : Int32) (x3 : Int32) (h0 : Heap) (n0 : Nat) (v : Option Value) (h : Heap) (Sf : Addr → Prop) : Prop := ∃ (a : Addr) (ka : ClassId), v = some (.ref a) ∧ h0.size ≤ a ∧ Keep h0 h [] ∧ Arl Z h a ka .byte [(.int x0)]
theorem ef_rmRB0_1 (m : MethodId) (a1 : Addr)  : entryFrame m #[(.ref a1), (.int (0 : Int32)), (.int (1 : Int32))] 5 = mkF m 0 #[.val (.ref a1), .val (.int (0 : Int32)), .val (.int (1 : Int32)), .unset, .unset] [] := by first | (simp [entryFrame, mkF, argsToLocals, Value.category]; done) | rfl
theorem pn_20 : plainFor (⟨"java/util/Arrays", "copyOfRangeByte", "([BII)[B"⟩ : MethodName) = true := plainFor_of_name (show plainName "java/util/Arrays" = true by first | (simp [plainName, overriddenIn]; done) | decide +kernel)
set_option maxRecDepth 65536 in
set_option maxHeartbeats 40000000 in
theorem rmRB0_1 (l : Launch) (Z : State) (a0 : Array Value) (hw : ∀ d ∈ tables_1, d.before a0 Z = true) (ws : List Jvm.Cond) (a1 : Addr) (ka : ClassId) (x0 : Int32) (x1 : Int32) (x2 : Int32) (x3 : Int32) (h0 : Heap) (n0 : Nat) (hn : n0 ≤ h0.size) (V_a1 : Arl Z h0 a1 ka .byte [(.int x0), (.int x1), (.int x2), (.int x3)]) :
    Met own_EL l Z (⟨"java/util/Arrays", "copyOfRangeByte", "([BII)[B"⟩ : MethodName) jdk_65_method_133_code 5 (some (.array .byte)) ({ frames := 1, cells := 1, slots := 1, locals := 51 } : Room) ws #[(.ref a1), (.int (0 : Int32)), (.int (1 : Int32))] h0 n0 [] (Q_rmRB0_1 Z x0 x1 x2 x3 h0 n0) := by
  refine Met.of pn_20 (fun m => ef_rmRB0_1 m a1) ?_
  have K := Keep.refl h0 []
  refine Own.iloadN d20_0 rfl ?_
  refine Own.iloadN d20_1 rfl ?_
  refine Own.callS0 [(.int (0 : Int32)), (.int (1 : Int32))] [] 0 (rmCL0_1 l Z a0 hw [] h0 n0 hn) (hw _ (List.mem_of_getElem? (i := 107) rfl)) (hw _ (List.mem_of_getElem? (i := 108) rfl)) (hw _ (List.mem_of_getElem? (i := 102) rfl)) (hw _ (List.mem_of_getElem? (i := 109) rfl)) (by decide) d20_2 pd_7 rfl rfl rfl rfl (by decide) (by decide) (by decide) (by decide) ?_
  refine Own.iloadN d20_5 rfl ?_
  refine Own.iloadN d20_6 rfl ?_
  refine Own.isub d20_7 ?_
  refine OAt.cast (st' := [(.int (1 : Int32))]) rfl ?_
  refine Own.istoreN #[.val (.ref a1), .val (.int (0 : Int32)), .val (.int (1 : Int32)), .val (.int (1 : Int32)), .unset] d20_8 rfl ?_
  refine Own.iloadN d20_9 rfl ?_
  refine Own.newarray_ 1 .byte rfl (hw _ (List.mem_of_getElem? (i := 19) rfl)) d20_10 (N := 1) rfl (by decide) (by decide) (by decide) (by decide) rfl (fun h30 b30 k30 gb30 E30 V30 => ?_)
  have g_b30 : n0 ≤ b30 := by rw [gb30]; exact hn
  have ne_a1_b30 : a1 ≠ b30 := fun q => Nat.ne_of_lt V_a1.lt (q.trans gb30)
  have ne_b30_a1 := Ne.symm ne_a1_b30
  have hn := Nat.le_trans hn E30.1
  replace V_a1 := V_a1.ext E30
  replace V30 : Arl Z h30 b30 k30 .byte [(.int (0 : Int32))] := V30
  have sz_b30 : h0.size ≤ b30 := by rw [gb30]; exact K.1
  have K := K.ext E30
  refine Own.astore #[.val (.ref a1), .val (.int (0 : Int32)), .val (.int (1 : Int32)), .val (.int (1 : Int32)), .val (.ref b30)] d20_12 rfl rfl ?_
  refine Own.aloadN d20_14 rfl rfl ?_
  refine Own.iloadN d20_15 rfl ?_
  refine Own.aload d20_16 rfl rfl ?_
  refine Own.iconst (0 : Int32) d20_18 rfl ?_
  refine Own.aloadN d20_19 rfl rfl ?_
  refine Own.arraylength_ (4 : Int32) V_a1 rfl d20_20 ?_
  refine Own.iloadN d20_21 rfl ?_
  refine Own.isub d20_22 ?_
  refine OAt.cast (st' := [(.int (4 : Int32)), (.int (0 : Int32)), (.ref b30), (.int (0 : Int32)), (.ref a1)]) rfl ?_
  refine Own.iloadN d20_23 rfl ?_
  refine Own.callSP [(.int (4 : Int32)), (.int (1 : Int32))] [(.int (0 : Int32)), (.ref b30), (.int (0 : Int32)), (.ref a1)] 4 (rmMM0_1 l Z a0 hw [] h30 n0 hn) (hw _ (List.mem_of_getElem? (i := 110) rfl)) (hw _ (List.mem_of_getElem? (i := 111) rfl)) (hw _ (List.mem_of_getElem? (i := 112) rfl)) (hw _ (List.mem_of_getElem? (i := 113) rfl)) (by decide) d20_24 pd_5 rfl rfl rfl rfl (by decide) (by decide) (by decide) (by decide) ?_
  refine Own.arraycopy_ (i := 0) (j := 0) (n := 1) 0 (hw _ (List.mem_of_getElem? (i := 114) rfl)) (hw _ (List.mem_of_getElem? (i := 117) rfl)) (hw _ (List.mem_of_getElem? (i := 115) rfl)) (hw _ (List.mem_of_getElem? (i := 116) rfl)) V_a1 V30 rfl rfl rfl rfl (Nat.le_of_ble_eq_true rfl) (Nat.le_of_ble_eq_true rfl) g_b30 (List.mem_of_getElem? (i := 0) rfl) rfl d20_27 (by decide) rfl (by decide) (fun h31 K31 V31 => ?_)
  have hn := Nat.le_trans hn K31.1
  replace V_a1 := V_a1.keep K31 (ninS ne_a1_b30 nin0)
  clear V30
  replace V31 : Arl Z h31 b30 k30 .byte [(.int x0)] := V31
  have K := K.trans K31 (allS (Or.inr sz_b30) all0)
  refine Own.aload d20_30 rfl rfl ?_
  refine Own.ret_ref (t := (.array .byte)) rfl rfl rfl d20_32 (by decide) (by decide) (fun Sf hSf => ?_)
  exact ⟨b30, k30, rfl, sz_b30, K, V31⟩
theorem d19_0 : decode jdk_65_method_132_code 0 = .ok (.iload_n 1, 1) := by decide +kernel
theorem d19_1 : decode jdk_65_method_132_code 1 = .ok (.ifCond .ne 9, 3) := by decide +kernel
theorem d19_4 : decode jdk_65_method_132_code 4 = .ok (.iload_n 2, 1) := by decide +kernel
theorem d19_5 : decode jdk_65_method_132_code 5 = .ok (.aload_n 0, 1) := by decide +kernel
theorem d19_6 : decode jdk_65_method_132_code 6 = .ok (.arraylength, 1) := by decide +kernel
theorem d19_7 : decode jdk_65_method_132_code 7 = .ok (.if_icmp .eq 10, 3) := by decide +kernel
theorem d19_10 : decode jdk_65_method_132_code 10 = .ok (.aload_n 0, 1) := by decide +kernel
theorem d19_11 : decode jdk_65_method_132_code 11 = .ok (.iload_n 1, 1) := by decide +kernel
theorem d19_12 : decode jdk_65_method_132_code 12 = .ok (.iload_n 2, 1) := by decide +kernel
theorem d19_13 : decode jdk_65_method_132_code 13 = .ok (.invokestatic 339, 3) := by decide +kernel
theorem pd_15 : parseMethodDescriptor "([BII)[B" = some ⟨[(.array .byte), .int, .int], some (.array .byte)⟩ := by decide +kernel
theorem d19_16 : decode jdk_65_method_132_code 16 = .ok (.areturn, 1) := by decide +kernel
def Q_rmRG0_1 (Z : State) (x0 : Int32) (x1 : Int32) (x2 : Int32) (x3 : Int32) (h0 : Heap) (n0 : Nat) (v : Option Value) (h : Heap) (Sf : Addr → Prop) : Prop := ∃ (a : Addr) (ka : ClassId), v = some (.ref a) ∧ h0.size ≤ a ∧ Keep h0 h [] ∧ Arl Z h a ka .byte [(.int x0)]
theorem ef_rmRG0_1 (m : MethodId) (a1 : Addr)  : entryFrame m #[(.ref a1), (.int (0 : Int32)), (.int (1 : Int32))] 3 = mkF m 0 #[.val (.ref a1), .val (.int (0 : Int32)), .val (.int (1 : Int32))] [] := by first | (simp [entryFrame, mkF, argsToLocals, Value.category]; done) | rfl
theorem pn_19 : plainFor (⟨"java/util/Arrays", "copyOfRange", "([BII)[B"⟩ : MethodName) = true := plainFor_of_name (show plainName "java/util/Arrays" = true by first | (simp [plainName, overriddenIn]; done) | decide +kernel)
set_option maxRecDepth 65536 in
set_option maxHeartbeats 40000000 in
theorem rmRG0_1 (l : Launch) (Z : State) (a0 : Array Value) (hw : ∀ d ∈ tables_1, d.before a0 Z = true) (ws : List Jvm.Cond) (a1 : Addr) (ka : ClassId) (x0 : Int32) (x1 : Int32) (x2 : Int32) (x3 : Int32) (h0 : Heap) (n0 : Nat) (hn : n0 ≤ h0.size) (V_a1 : Arl Z h0 a1 ka .byte [(.int x0), (.int x1), (.int x2), (.int x3)]) :
    Met own_EL l Z (⟨"java/util/Arrays", "copyOfRange", "([BII)[B"⟩ : MethodName) jdk_65_method_132_code 3 (some (.array .byte)) ({ frames := 2, cells := 1, slots := 1, locals := 67 } : Room) ws #[(.ref a1), (.int (0 : Int32)), (.int (1 : Int32))] h0 n0 [] (Q_rmRG0_1 Z x0 x1 x2 x3 h0 n0) := by
  refine Met.of pn_19 (fun m => ef_rmRG0_1 m a1) ?_
  have K := Keep.refl h0 []
  refine Own.iloadN d19_0 rfl ?_
  refine Own.if_ne 10 d19_1 (by decide) rfl (fun q => absurd (by decide) q) (fun _ => ?_)
  refine Own.iloadN d19_4 rfl ?_
  refine Own.aloadN d19_5 rfl rfl ?_
  refine Own.arraylength_ (4 : Int32) V_a1 rfl d19_6 ?_
  refine Own.icmp_eq 17 d19_7 (by decide) rfl (fun q => absurd q (by decide)) (fun _ => ?_)
  refine Own.aloadN d19_10 rfl rfl ?_
  refine Own.iloadN d19_11 rfl ?_
  refine Own.iloadN d19_12 rfl ?_
  refine Own.callS_ [(.ref a1), (.int (0 : Int32)), (.int (1 : Int32))] [] 0 (rmRB0_1 l Z a0 hw [] a1 ka x0 x1 x2 x3 h0 n0 hn V_a1) all0 (hw _ (List.mem_of_getElem? (i := 104) rfl)) (hw _ (List.mem_of_getElem? (i := 105) rfl)) (hw _ (List.mem_of_getElem? (i := 102) rfl)) (hw _ (List.mem_of_getElem? (i := 106) rfl)) (by decide) d19_13 pd_15 rfl rfl rfl rfl (by decide) (by decide) (by decide) (by decide) (fun v32 h32 S32 hq32 => ?_)
  obtain ⟨b33, k33, rfl, z33, K33, V33⟩ := hq32
  have g_b33 : n0 ≤ b33 := Nat.le_trans hn z33
  have ne_a1_b33 : a1 ≠ b33 := Nat.ne_of_lt (Nat.lt_of_lt_of_le V_a1.lt z33)
  have ne_b33_a1 := Ne.symm ne_a1_b33
  have sz_b33 : h0.size ≤ b33 := Nat.le_trans K.1 z33
  have hn := Nat.le_trans hn K33.1
  replace V_a1 := V_a1.keep K33 nin0
  have K := K.trans K33 all0
  refine ⟨[], all0, ?_⟩
  refine OAt.cast (st' := [(.ref b33)]) rfl ?_
  refine Own.ret_ref (t := (.array .byte)) rfl rfl rfl d19_16 (by decide) (by decide) (fun Sf hSf => ?_)
  exact ⟨b33, k33, rfl, sz_b33, K, V33⟩
theorem d17_7 : decode jdk_43_method_47_code 7 = .ok (.new 1, 3) := by decide +kernel
theorem d17_10 : decode jdk_43_method_47_code 10 = .ok (.dup, 1) := by decide +kernel
theorem d17_11 : decode jdk_43_method_47_code 11 = .ok (.aload_n 0, 1) := by decide +kernel
theorem d17_12 : decode jdk_43_method_47_code 12 = .ok (.iload_n 1, 1) := by decide +kernel
theorem d17_13 : decode jdk_43_method_47_code 13 = .ok (.iload_n 1, 1) := by decide +kernel
theorem d17_14 : decode jdk_43_method_47_code 14 = .ok (.iload_n 2, 1) := by decide +kernel
theorem d17_15 : decode jdk_43_method_47_code 15 = .ok (.iadd, 1) := by decide +kernel
theorem d17_16 : decode jdk_43_method_47_code 16 = .ok (.invokestatic 232, 3) := by decide +kernel
theorem d17_19 : decode jdk_43_method_47_code 19 = .ok (.iconst 0, 1) := by decide +kernel
theorem d17_20 : decode jdk_43_method_47_code 20 = .ok (.invokespecial 112, 3) := by decide +kernel
theorem pd_12 : parseMethodDescriptor "([BB)V" = some ⟨[(.array .byte), .byte], none⟩ := by decide +kernel
theorem d17_23 : decode jdk_43_method_47_code 23 = .ok (.areturn, 1) := by decide +kernel
def Q_rmNS0_1 (Z : State) (x0 : Int32) (x1 : Int32) (x2 : Int32) (x3 : Int32) (h0 : Heap) (n0 : Nat) (v : Option Value) (h : Heap) (Sf : Addr → Prop) : Prop := Keep h0 h [] ∧ ∃ (a b : Addr) (kb : ClassId), v = some (.ref a) ∧ Exa Z h a "java/lang/String" ∧ Fld Z h a "java/lang/String" "value" "[B" (.ref b) ∧ Fld Z h a "java/lang/String" "coder" "B" (.int (0 : Int32)) ∧ Arl Z h b kb .byte [(.int x0)]
theorem ef_rmNS0_1 (m : MethodId) (a1 : Addr)  : entryFrame m #[(.ref a1), (.int (0 : Int32)), (.int (1 : Int32))] 3 = mkF m 0 #[.val (.ref a1), .val (.int (0 : Int32)), .val (.int (1 : Int32))] [] := by first | (simp [entryFrame, mkF, argsToLocals, Value.category]; done) | rfl
set_option maxRecDepth 65536 in
set_option maxHeartbeats 40000000 in
theorem rmNS0_1 (l : Launch) (Z : State) (a0 : Array Value) (hw : ∀ d ∈ tables_1, d.before a0 Z = true) (ws : List Jvm.Cond) (a1 : Addr) (ka : ClassId) (x0 : Int32) (x1 : Int32) (x2 : Int32) (x3 : Int32) (h0 : Heap) (n0 : Nat) (hn : n0 ≤ h0.size) (V_a1 : Arl Z h0 a1 ka .byte [(.int x0), (.int x1), (.int x2), (.int x3)]) :
    Met own_EL l Z (⟨"java/lang/StringLatin1", "newString", "([BII)Ljava/lang/String;"⟩ : MethodName) jdk_43_method_47_code 3 (some (.object "java/lang/String")) ({ frames := 5, cells := 3, slots := 16, locals := 90 } : Room) ws #[(.ref a1), (.int (0 : Int32)), (.int (1 : Int32))] h0 n0 [] (Q_rmNS0_1 Z x0 x1 x2 x3 h0 n0) := by
  refine Met.of pn_17 (fun m => ef_rmNS0_1 m a1) ?_
  have K := Keep.refl h0 []
  refine Own.iloadN d17_0 rfl ?_
  refine Own.if_ne 7 d17_1 (by decide) rfl (fun _ => ?_) (fun q => absurd q (by decide))
  refine Own.new_ (hw _ (List.mem_of_getElem? (i := 99) rfl)) (hw _ (List.mem_of_getElem? (i := 2) rfl)) (hw _ (List.mem_of_getElem? (i := 3) rfl)) d17_7 (by decide) (by decide) (fun h34 b34 gb34 E34 X34 D34 => ?_)
  have g_b34 : n0 ≤ b34 := by rw [gb34]; exact hn
  have ne_a1_b34 : a1 ≠ b34 := fun q => Nat.ne_of_lt V_a1.lt (q.trans gb34)
  have ne_b34_a1 := Ne.symm ne_a1_b34
  have hn := Nat.le_trans hn E34.1
  replace V_a1 := V_a1.ext E34
  have X_b34 := X34
  have F_coder_b34 : Fld Z h34 b34 "java/lang/String" "coder" "B" (.int (0 : Int32)) := D34 (Or.inr (hw _ (List.mem_of_getElem? (i := 27) rfl))) (ty := .byte) (by decide)
  have F_value_b34 : Fld Z h34 b34 "java/lang/String" "value" "[B" .null := D34 (Or.inr (hw _ (List.mem_of_getElem? (i := 29) rfl))) (ty := (.array .byte)) (by decide)
  have sz_b34 : h0.size ≤ b34 := by rw [gb34]; exact K.1
  have K := K.ext E34
  refine Own.dup d17_10 rfl ?_
  refine Own.aloadN d17_11 rfl rfl ?_
  refine Own.iloadN d17_12 rfl ?_
  refine Own.iloadN d17_13 rfl ?_
  refine Own.iloadN d17_14 rfl ?_
  refine Own.iadd d17_15 ?_
  refine OAt.cast (st' := [(.int (1 : Int32)), (.int (0 : Int32)), (.ref a1), (.ref b34), (.ref b34)]) rfl ?_
  refine Own.callS_ [(.ref a1), (.int (0 : Int32)), (.int (1 : Int32))] [(.ref b34), (.ref b34)] 2 (rmRG0_1 l Z a0 hw [] a1 ka x0 x1 x2 x3 h34 n0 hn V_a1) all0 (hw _ (List.mem_of_getElem? (i := 100) rfl)) (hw _ (List.mem_of_getElem? (i := 101) rfl)) (hw _ (List.mem_of_getElem? (i := 102) rfl)) (hw _ (List.mem_of_getElem? (i := 103) rfl)) (by decide) d17_16 pd_15 rfl rfl rfl rfl (by decide) (by decide) (by decide) (by decide) (fun v35 h35 S35 hq35 => ?_)
  obtain ⟨b36, k36, rfl, z36, K36, V36⟩ := hq35
  have g_b36 : n0 ≤ b36 := Nat.le_trans hn z36
  have ne_a1_b36 : a1 ≠ b36 := Nat.ne_of_lt (Nat.lt_of_lt_of_le V_a1.lt z36)
  have ne_b36_a1 := Ne.symm ne_a1_b36
  have ne_b34_b36 : b34 ≠ b36 := Nat.ne_of_lt (Nat.lt_of_lt_of_le X_b34.lt z36)
  have ne_b36_b34 := Ne.symm ne_b34_b36
  have sz_b36 : h0.size ≤ b36 := Nat.le_trans K.1 z36
  have hn := Nat.le_trans hn K36.1
  replace V_a1 := V_a1.keep K36 nin0
  replace X_b34 := X_b34.keep K36
  replace F_coder_b34 := F_coder_b34.keep K36 nin0
  replace F_value_b34 := F_value_b34.keep K36 nin0
  have K := K.trans K36 all0
  refine ⟨[], all0, ?_⟩
  refine OAt.cast (st' := [(.ref b36), (.ref b34), (.ref b34)]) rfl ?_
  refine Own.iconst (0 : Int32) d17_19 rfl ?_
  refine Own.callI_ b34 [(.ref b36), (.int (0 : Int32))] [(.ref b34)] 1 (rmBB l Z a0 hw [] b34 b36 h35 n0 hn X_b34 g_b34 F_value_b34 F_coder_b34) (allS (List.mem_of_getElem? (i := 0) rfl) all0) (hw _ (List.mem_of_getElem? (i := 118) rfl)) (hw _ (List.mem_of_getElem? (i := 119) rfl)) (hw _ (List.mem_of_getElem? (i := 3) rfl)) (hw _ (List.mem_of_getElem? (i := 120) rfl)) rfl (by decide) d17_20 pd_12 rfl rfl rfl rfl (by decide) (by decide) (by decide) (by decide) (fun v37 h37 S37 hq37 => ?_)
  obtain ⟨rfl, K38, G1, G2⟩ := hq37
  have hn := Nat.le_trans hn K38.1
  replace V_a1 := V_a1.keep K38 (ninS ne_a1_b34 nin0)
  replace X_b34 := X_b34.keep K38
  replace V36 := V36.keep K38 (ninS ne_b36_b34 nin0)
  have K := K.trans K38 (allS (Or.inr sz_b34) all0)
  have F_value_b34 := G1
  have F_coder_b34 := G2
  refine ⟨[], all0, ?_⟩
  refine OAt.cast (st' := [(.ref b34)]) rfl ?_
  refine Own.ret_ref (t := (.object "java/lang/String")) rfl rfl rfl d17_23 (by decide) (by decide) (fun Sf hSf => ?_)
  exact ⟨K, b34, b36, k36, rfl, X_b34, F_value_b34, F_coder_b34, V36⟩
def Q_rmSub0_1 (Z : State) (a1 : Addr) (b : Addr) (kb : ClassId) (zc : Int32) (vf : Value) (x0 : Int32) (x1 : Int32) (x2 : Int32) (x3 : Int32) (h0 : Heap) (n0 : Nat) (v : Option Value) (h : Heap) (Sf : Addr → Prop) : Prop := Keep h0 h [] ∧ ∃ (a b : Addr) (kb : ClassId), v = some (.ref a) ∧ Exa Z h a "java/lang/String" ∧ Fld Z h a "java/lang/String" "value" "[B" (.ref b) ∧ Fld Z h a "java/lang/String" "coder" "B" (.int (0 : Int32)) ∧ Arl Z h b kb .byte [(.int x0)]
theorem ef_rmSub0_1 (m : MethodId) (a1 : Addr)  : entryFrame m #[(.ref a1), (.int (0 : Int32)), (.int (1 : Int32))] 5 = mkF m 0 #[.val (.ref a1), .val (.int (0 : Int32)), .val (.int (1 : Int32)), .unset, .unset] [] := by first | (simp [entryFrame, mkF, argsToLocals, Value.category]; done) | rfl
set_option maxRecDepth 65536 in
set_option maxHeartbeats 40000000 in
theorem rmSub0_1 (l : Launch) (Z : State) (a0 : Array Value) (hw : ∀ d ∈ tables_1, d.before a0 Z = true) (ws : List Jvm.Cond) (a1 : Addr) (b : Addr) (kb : ClassId) (zc : Int32) (vf : Value) (x0 : Int32) (x1 : Int32) (x2 : Int32) (x3 : Int32) (h0 : Heap) (n0 : Nat) (hn : n0 ≤ h0.size) (X_a1 : Exa Z h0 a1 "java/lang/String") (F_value_a1 : Fld Z h0 a1 "java/lang/String" "value" "[B" (.ref b)) (F_coder_a1 : Fld Z h0 a1 "java/lang/String" "coder" "B" (.int (0 : Int32))) (V_b : Arl Z h0 b kb .byte [(.int x0), (.int x1), (.int x2), (.int x3)]) (S_C : Sta Z h0 "java/lang/String" "COMPACT_STRINGS" "Z" (.int zc)) (S_F : Sta Z h0 "jdk/internal/util/Preconditions" "SIOOBE_FORMATTER" "Ljava/util/function/BiFunction;" vf) (hz : ¬ zc = 0) (hvf : vf.isRef = true) :
    Met own_EL l Z (⟨"java/lang/String", "substring", "(II)Ljava/lang/String;"⟩ : MethodName) jdk_42_method_92_code 5 (some (.object "java/lang/String")) ({ frames := 6, cells := 3, slots := 16, locals := 110 } : Room) ws #[(.ref a1), (.int (0 : Int32)), (.int (1 : Int32))] h0 n0 [] (Q_rmSub0_1 Z a1 b kb zc vf x0 x1 x2 x3 h0 n0) := by
  refine Met.of pn_11 (fun m => ef_rmSub0_1 m a1) ?_
  have K := Keep.refl h0 []
  refine Own.aloadN d11_0 rfl rfl ?_
  refine Own.callVP a1 [] [] 0 (rm_len_4 l Z a0 hw [] a1 b kb _ zc h0 n0 hn X_a1 F_value_a1 F_coder_a1 V_b rfl S_C hz) (hw _ (List.mem_of_getElem? (i := 64) rfl)) (hw _ (List.mem_of_getElem? (i := 65) rfl)) (fun s hZ => notFace_of_selects (args := #[]) (mvT hZ (hw _ (List.mem_of_getElem? (i := 67) rfl)))) (hw _ (List.mem_of_getElem? (i := 67) rfl)) (hw _ (List.mem_of_getElem? (i := 66) rfl)) (hw _ (List.mem_of_getElem? (i := 3) rfl)) (hw _ (List.mem_of_getElem? (i := 68) rfl)) (by decide) X_a1 d11_1 pd_1 rfl rfl rfl rfl (by decide) (by decide) (by decide) (by decide) ?_
  refine Own.istoreN #[.val (.ref a1), .val (.int (0 : Int32)), .val (.int (1 : Int32)), .val (.int (4 : Int32)), .unset] d11_4 rfl ?_
  refine Own.iloadN d11_5 rfl ?_
  refine Own.iloadN d11_6 rfl ?_
  refine Own.iloadN d11_7 rfl ?_
  refine Own.callS0 [(.int (0 : Int32)), (.int (1 : Int32)), (.int (4 : Int32))] [] 0 (rmCB0_1 l Z a0 hw [] vf h0 n0 hn S_F hvf) (hw _ (List.mem_of_getElem? (i := 74) rfl)) (hw _ (List.mem_of_getElem? (i := 75) rfl)) (hw _ (List.mem_of_getElem? (i := 3) rfl)) (hw _ (List.mem_of_getElem? (i := 76) rfl)) (by decide) d11_8 pd_8 rfl rfl rfl rfl (by decide) (by decide) (by decide) (by decide) ?_
  refine Own.iloadN d11_11 rfl ?_
  refine Own.if_ne 22 d11_12 (by decide) rfl (fun q => absurd (by decide) q) (fun _ => ?_)
  refine Own.iloadN d11_15 rfl ?_
  refine Own.iloadN d11_16 rfl ?_
  refine Own.icmp_ne 22 d11_17 (by decide) rfl (fun _ => ?_) (fun q => absurd q (by decide))
  refine Own.iloadN d11_22 rfl ?_
  refine Own.iloadN d11_23 rfl ?_
  refine Own.isub d11_24 ?_
  refine OAt.cast (st' := [(.int (1 : Int32))]) rfl ?_
  refine Own.istore #[.val (.ref a1), .val (.int (0 : Int32)), .val (.int (1 : Int32)), .val (.int (4 : Int32)), .val (.int (1 : Int32))] d11_25 rfl ?_
  refine Own.aloadN d11_27 rfl rfl ?_
  refine Own.callVP a1 [] [] 0 (rm_lat_4 l Z a0 hw [] a1 b kb _ zc h0 n0 hn X_a1 F_value_a1 F_coder_a1 V_b rfl S_C hz) (hw _ (List.mem_of_getElem? (i := 82) rfl)) (hw _ (List.mem_of_getElem? (i := 83) rfl)) (fun s hZ => notFace_of_selects (args := #[]) (mvT hZ (hw _ (List.mem_of_getElem? (i := 85) rfl)))) (hw _ (List.mem_of_getElem? (i := 85) rfl)) (hw _ (List.mem_of_getElem? (i := 84) rfl)) (hw _ (List.mem_of_getElem? (i := 3) rfl)) (hw _ (List.mem_of_getElem? (i := 86) rfl)) (by decide) X_a1 d11_28 pd_4 rfl rfl rfl rfl (by decide) (by decide) (by decide) (by decide) ?_
  refine Own.if_eq 47 d11_31 (by decide) rfl (fun q => absurd q (by decide)) (fun _ => ?_)
  refine Own.aloadN d11_34 rfl rfl ?_
  refine Own.getF_ (host := "") (Or.inl (hw _ (List.mem_of_getElem? (i := 28) rfl))) Via.refl F_value_a1 d11_35 ?_
  refine Own.iloadN d11_38 rfl ?_
  refine Own.iload d11_39 rfl ?_
  refine Own.callS_ [(.ref b), (.int (0 : Int32)), (.int (1 : Int32))] [] 0 (rmNS0_1 l Z a0 hw [] b kb x0 x1 x2 x3 h0 n0 hn V_b) all0 (hw _ (List.mem_of_getElem? (i := 87) rfl)) (hw _ (List.mem_of_getElem? (i := 88) rfl)) (hw _ (List.mem_of_getElem? (i := 89) rfl)) (hw _ (List.mem_of_getElem? (i := 90) rfl)) (by decide) d11_41 pd_14 rfl rfl rfl rfl (by decide) (by decide) (by decide) (by decide) (fun v39 h39 S39 hq39 => ?_)
  obtain ⟨K40, s40, t40, kt40, rfl, X_s40, F_value_s40, F_coder_s40, V_t40⟩ := hq39
  have hn := Nat.le_trans hn K40.1
  replace S_C := sta_keep S_C K40 ns0
  replace S_F := sta_keep S_F K40 ns0
  replace X_a1 := X_a1.keep K40
  replace F_value_a1 := F_value_a1.keep K40 nin0
  replace F_coder_a1 := F_coder_a1.keep K40 nin0
  replace V_b := V_b.keep K40 nin0
  have K := K.trans K40 all0
  refine ⟨[], all0, ?_⟩
  refine OAt.cast (st' := [(.ref s40)]) rfl ?_
  refine Own.goto_ 57 d11_44 (by decide) rfl ?_
  refine Own.ret_ref (t := (.object "java/lang/String")) rfl rfl rfl d11_57 (by decide) (by decide) (fun Sf hSf => ?_)
  exact ⟨K, s40, t40, kt40, rfl, X_s40, F_value_s40, F_coder_s40, V_t40⟩
def Q_rmCut0_1 (Z : State) (x0 : Int32) (x1 : Int32) (x2 : Int32) (x3 : Int32) (h0 : Heap) (n0 : Nat) (v : Option Value) (h : Heap) (Sf : Addr → Prop) : Prop := Keep h0 h [] ∧ ∃ (a b : Addr) (kb : ClassId), v = some (.ref a) ∧ Exa Z h a "java/lang/String" ∧ Fld Z h a "java/lang/String" "value" "[B" (.ref b) ∧ Fld Z h a "java/lang/String" "coder" "B" (.int (0 : Int32)) ∧ Arl Z h b kb .byte [(.int x0)]
theorem ef_rmCut0_1 (m : MethodId) (a1 : Addr)  : entryFrame m #[(.ref a1)] 1 = mkF m 0 #[.val (.ref a1)] [] := by first | (simp [entryFrame, mkF, argsToLocals, Value.category]; done) | rfl
set_option maxRecDepth 65536 in
set_option maxHeartbeats 40000000 in
theorem rmCut0_1 (l : Launch) (Z : State) (a0 : Array Value) (hw : ∀ d ∈ tables_1, d.before a0 Z = true) (ws : List Jvm.Cond) (a1 : Addr) (a2 : Addr) (b : Addr) (kb : ClassId) (zc : Int32) (vf : Value) (x0 : Int32) (x1 : Int32) (x2 : Int32) (x3 : Int32) (h0 : Heap) (n0 : Nat) (hn : n0 ≤ h0.size) (X_a2 : Exa Z h0 a2 "java/lang/String") (F_value_a2 : Fld Z h0 a2 "java/lang/String" "value" "[B" (.ref b)) (F_coder_a2 : Fld Z h0 a2 "java/lang/String" "coder" "B" (.int (0 : Int32))) (V_b : Arl Z h0 b kb .byte [(.int x0), (.int x1), (.int x2), (.int x3)]) (S_C : Sta Z h0 "java/lang/String" "COMPACT_STRINGS" "Z" (.int zc)) (S_F : Sta Z h0 "jdk/internal/util/Preconditions" "SIOOBE_FORMATTER" "Ljava/util/function/BiFunction;" vf) (hz : ¬ zc = 0) (hvf : vf.isRef = true) (F_text_a1 : Fld Z h0 a1 "com/example/cytorelay/cytorelay/core/Hl7Syntax$Span" "text" "Ljava/lang/String;" (.ref a2)) (F_from_a1 : Fld Z h0 a1 "com/example/cytorelay/cytorelay/core/Hl7Syntax$Span" "from" "I" (.int (0 : Int32))) (F_to_a1 : Fld Z h0 a1 "com/example/cytorelay/cytorelay/core/Hl7Syntax$Span" "to" "I" (.int (1 : Int32))) :
    Met own_EL l Z (⟨"com/example/cytorelay/cytorelay/core/Hl7Syntax$Span", "cut", "()Ljava/lang/String;"⟩ : MethodName) prog_32_method_4_code 1 (some (.object "java/lang/String")) ({ frames := 7, cells := 3, slots := 16, locals := 130 } : Room) ws #[(.ref a1)] h0 n0 [] (Q_rmCut0_1 Z x0 x1 x2 x3 h0 n0) := by
  refine Met.of pn_10 (fun m => ef_rmCut0_1 m a1) ?_
  have K := Keep.refl h0 []
  refine Own.aloadN d10_0 rfl rfl ?_
  refine Own.getF_ (host := "") (Or.inl (hw _ (List.mem_of_getElem? (i := 43) rfl))) Via.refl F_text_a1 d10_1 ?_
  refine Own.aloadN d10_4 rfl rfl ?_
  refine Own.getF_ (host := "") (Or.inl (hw _ (List.mem_of_getElem? (i := 45) rfl))) Via.refl F_from_a1 d10_5 ?_
  refine Own.aloadN d10_8 rfl rfl ?_
  refine Own.getF_ (host := "") (Or.inl (hw _ (List.mem_of_getElem? (i := 47) rfl))) Via.refl F_to_a1 d10_9 ?_
  refine Own.callV_ a2 [(.int (0 : Int32)), (.int (1 : Int32))] [] 0 (rmSub0_1 l Z a0 hw [] a2 b kb zc vf x0 x1 x2 x3 h0 n0 hn X_a2 F_value_a2 F_coder_a2 V_b S_C S_F hz hvf) all0 (hw _ (List.mem_of_getElem? (i := 59) rfl)) (hw _ (List.mem_of_getElem? (i := 60) rfl)) (fun s hZ => notFace_of_selects (args := #[]) (mvT hZ (hw _ (List.mem_of_getElem? (i := 62) rfl)))) (hw _ (List.mem_of_getElem? (i := 62) rfl)) (hw _ (List.mem_of_getElem? (i := 61) rfl)) (hw _ (List.mem_of_getElem? (i := 3) rfl)) (hw _ (List.mem_of_getElem? (i := 63) rfl)) (by decide) X_a2 d10_12 pd_6 rfl rfl rfl rfl (by decide) (by decide) (by decide) (by decide) (fun v41 h41 S41 hq41 => ?_)
  obtain ⟨K42, s42, t42, kt42, rfl, X_s42, F_value_s42, F_coder_s42, V_t42⟩ := hq41
  have hn := Nat.le_trans hn K42.1
  replace S_C := sta_keep S_C K42 ns0
  replace S_F := sta_keep S_F K42 ns0
  replace X_a2 := X_a2.keep K42
  replace F_value_a2 := F_value_a2.keep K42 nin0
  replace F_coder_a2 := F_coder_a2.keep K42 nin0
  replace V_b := V_b.keep K42 nin0
  replace F_text_a1 := F_text_a1.keep K42 nin0
  replace F_from_a1 := F_from_a1.keep K42 nin0
  replace F_to_a1 := F_to_a1.keep K42 nin0
  have K := K.trans K42 all0
  refine ⟨[], all0, ?_⟩
  refine OAt.cast (st' := [(.ref s42)]) rfl ?_
  refine Own.ret_ref (t := (.object "java/lang/String")) rfl rfl rfl d10_15 (by decide) (by decide) (fun Sf hSf => ?_)
  exact ⟨K, s42, t42, kt42, rfl, X_s42, F_value_s42, F_coder_s42, V_t42⟩
theorem ef_rmSE0_2 (m : MethodId) (a1 : Addr)  : entryFrame m #[(.ref a1)] 1 = mkF m 0 #[.val (.ref a1)] [] := by first | (simp [entryFrame, mkF, argsToLocals, Value.category]; done) | rfl
set_option maxRecDepth 65536 in
set_option maxHeartbeats 40000000 in
theorem rmSE0_2 (l : Launch) (Z : State) (a0 : Array Value) (hw : ∀ d ∈ tables_1, d.before a0 Z = true) (ws : List Jvm.Cond) (a1 : Addr) (h0 : Heap) (n0 : Nat) (hn : n0 ≤ h0.size) (F_from : Fld Z h0 a1 "com/example/cytorelay/cytorelay/core/Hl7Syntax$Span" "from" "I" (.int (0 : Int32))) (F_to : Fld Z h0 a1 "com/example/cytorelay/cytorelay/core/Hl7Syntax$Span" "to" "I" (.int (2 : Int32))) :
    Met own_EL l Z (⟨"com/example/cytorelay/cytorelay/core/Hl7Syntax$Span", "isEmpty", "()Z"⟩ : MethodName) prog_32_method_3_code 1 (some .boolean) ({ frames := 0, cells := 0, slots := 0, locals := 0 } : Room) ws #[(.ref a1)] h0 n0 [] (Pur (.int (0 : Int32)) h0) := by
  refine Met.of pn_9 (fun m => ef_rmSE0_2 m a1) ?_
  refine Own.aloadN d9_0 rfl rfl ?_
  refine Own.getF_ (host := "") (Or.inl (hw _ (List.mem_of_getElem? (i := 45) rfl))) Via.refl F_from d9_1 ?_
  refine Own.aloadN d9_4 rfl rfl ?_
  refine Own.getF_ (host := "") (Or.inl (hw _ (List.mem_of_getElem? (i := 47) rfl))) Via.refl F_to d9_5 ?_
  refine Own.icmp_ne 15 d9_8 (by decide) rfl (fun _ => ?_) (fun q => absurd q (by decide))
  refine Own.iconst (0 : Int32) d9_15 rfl ?_
  refine Own.ret_nar (t := .boolean) (by simp) rfl d9_16 (by decide) (by decide) (fun Sf hSf => ?_)
  exact ⟨rfl, rfl⟩
theorem ef_rmPF0_2 (m : MethodId) (vf : Value) (hr_3 : (vf).isRef = true) : entryFrame m #[(.int (0 : Int32)), (.int (2 : Int32)), (.int (4 : Int32)), vf] 4 = mkF m 0 #[.val (.int (0 : Int32)), .val (.int (2 : Int32)), .val (.int (4 : Int32)), .val vf] [] := by rcases ref_cases hr_3 with rfl | ⟨z3, rfl⟩ <;> first | (simp [entryFrame, mkF, argsToLocals, Value.category]; done) | rfl
set_option maxRecDepth 65536 in
set_option maxHeartbeats 40000000 in
theorem rmPF0_2 (l : Launch) (Z : State) (a0 : Array Value) (hw : ∀ d ∈ tables_1, d.before a0 Z = true) (ws : List Jvm.Cond) (vf : Value) (h0 : Heap) (n0 : Nat) (hn : n0 ≤ h0.size) (hvf : vf.isRef = true) :
    Met own_EL l Z (⟨"jdk/internal/util/Preconditions", "checkFromToIndex", "(IIILjava/util/function/BiFunction;)I"⟩ : MethodName) jdk_41_method_12_code 4 (some .int) ({ frames := 0, cells := 0, slots := 0, locals := 0 } : Room) ws #[(.int (0 : Int32)), (.int (2 : Int32)), (.int (4 : Int32)), vf] h0 n0 [] (Pur (.int (0 : Int32)) h0) := by
  refine Met.of pn_15 (fun m => ef_rmPF0_2 m vf hvf) ?_
  refine Own.iloadN d15_0 rfl ?_
  refine Own.if_lt 14 d15_1 (by decide) rfl (fun q => absurd q (by decide)) (fun _ => ?_)
  refine Own.iloadN d15_4 rfl ?_
  refine Own.iloadN d15_5 rfl ?_
  refine Own.icmp_gt 14 d15_6 (by decide) rfl (fun q => absurd q (by decide)) (fun _ => ?_)
  refine Own.iloadN d15_9 rfl ?_
  refine Own.iloadN d15_10 rfl ?_
  refine Own.icmp_le 22 d15_11 (by decide) rfl (fun _ => ?_) (fun q => absurd q (by decide))
  refine Own.iloadN d15_22 rfl ?_
  refine Own.ret_int rfl d15_23 (by decide) (by decide) (fun Sf hSf => ?_)
  exact ⟨rfl, rfl⟩
theorem ef_rmCB0_2 (m : MethodId)   : entryFrame m #[(.int (0 : Int32)), (.int (2 : Int32)), (.int (4 : Int32))] 3 = mkF m 0 #[.val (.int (0 : Int32)), .val (.int (2 : Int32)), .val (.int (4 : Int32))] [] := by first | (simp [entryFrame, mkF, argsToLocals, Value.category]; done) | rfl
set_option maxRecDepth 65536 in
set_option maxHeartbeats 40000000 in
theorem rmCB0_2 (l : Launch) (Z : State) (a0 : Array Value) (hw : ∀ d ∈ tables_1, d.before a0 Z = true) (ws : List Jvm.Cond) (vf : Value) (h0 : Heap) (n0 : Nat) (hn : n0 ≤ h0.size) (S_F : Sta Z h0 "jdk/internal/util/Preconditions" "SIOOBE_FORMATTER" "Ljava/util/function/BiFunction;" vf) (hvf : vf.isRef = true) :
    Met own_EL l Z (⟨"java/lang/String", "checkBoundsBeginEnd", "(III)V"⟩ : MethodName) jdk_42_method_158_code 3 none ({ frames := 1, cells := 0, slots := 0, locals := 15 } : Room) ws #[(.int (0 : Int32)), (.int (2 : Int32)), (.int (4 : Int32))] h0 n0 [] (Pur0 h0) := by
  refine Met.of pn_14 (fun m => ef_rmCB0_2 m ) ?_
  refine Own.iloadN d14_0 rfl ?_
  refine Own.iloadN d14_1 rfl ?_
  refine Own.iloadN d14_2 rfl ?_
  refine Own.getS_ (host := "") (Or.inl (hw _ (List.mem_of_getElem? (i := 77) rfl))) Via.refl S_F d14_3 ?_
  refine Own.callSP [(.int (0 : Int32)), (.int (2 : Int32)), (.int (4 : Int32)), vf] [] 0 (rmPF0_2 l Z a0 hw [] vf h0 n0 hn hvf) (hw _ (List.mem_of_getElem? (i := 79) rfl)) (hw _ (List.mem_of_getElem? (i := 80) rfl)) (hw _ (List.mem_of_getElem? (i := 78) rfl)) (hw _ (List.mem_of_getElem? (i := 81) rfl)) (by decide) d14_6 pd_9 rfl rfl rfl rfl (by decide) (by decide) (by decide) (by decide) ?_
  refine Own.pop d14_9 rfl ?_
  refine Own.ret_void rfl d14_10 (by decide) (by decide) (fun Sf hSf => ?_)
  exact ⟨rfl, rfl⟩
theorem ef_rmCL0_2 (m : MethodId)   : entryFrame m #[(.int (0 : Int32)), (.int (2 : Int32))] 2 = mkF m 0 #[.val (.int (0 : Int32)), .val (.int (2 : Int32))] [] := by first | (simp [entryFrame, mkF, argsToLocals, Value.category]; done) | rfl
set_option maxRecDepth 65536 in
set_option maxHeartbeats 40000000 in
theorem rmCL0_2 (l : Launch) (Z : State) (a0 : Array Value) (hw : ∀ d ∈ tables_1, d.before a0 Z = true) (ws : List Jvm.Cond)  (h0 : Heap) (n0 : Nat) (hn : n0 ≤ h0.size) :
    Met own_EL l Z (⟨"java/util/Arrays", "checkLength", "(II)V"⟩ : MethodName) jdk_65_method_131_code 2 none ({ frames := 0, cells := 0, slots := 0, locals := 0 } : Room) ws #[(.int (0 : Int32)), (.int (2 : Int32))] h0 n0 [] (Pur0 h0) := by
  refine Met.of pn_21 (fun m => ef_rmCL0_2 m ) ?_
  refine Own.iloadN d21_0 rfl ?_
  refine Own.iloadN d21_1 rfl ?_
  refine Own.icmp_ge 37 d21_2 (by decide) rfl (fun _ => ?_) (fun q => absurd q (by decide))
  refine Own.ret_void rfl d21_37 (by decide) (by decide) (fun Sf hSf => ?_)
  exact ⟨rfl, rfl⟩
theorem ef_rmMM0_2 (m : MethodId)   : entryFrame m #[(.int (4 : Int32)), (.int (2 : Int32))] 2 = mkF m 0 #[.val (.int (4 : Int32)), .val (.int (2 : Int32))] [] := by first | (simp [entryFrame, mkF, argsToLocals, Value.category]; done) | rfl
set_option maxRecDepth 65536 in
set_option maxHeartbeats 40000000 in
theorem rmMM0_2 (l : Launch) (Z : State) (a0 : Array Value) (hw : ∀ d ∈ tables_1, d.before a0 Z = true) (ws : List Jvm.Cond)  (h0 : Heap) (n0 : Nat) (hn : n0 ≤ h0.size) :
    Met own_EL l Z (⟨"java/lang/Math", "min", "(II)I"⟩ : MethodName) jdk_29_method_69_code 2 (some .int) ({ frames := 0, cells := 0, slots := 0, locals := 0 } : Room) ws #[(.int (4 : Int32)), (.int (2 : Int32))] h0 n0 [] (Pur (.int (2 : Int32)) h0) := by
  refine Met.of pn_22 (fun m => ef_rmMM0_2 m ) ?_
  refine Own.iloadN d22_0 rfl ?_
  refine Own.iloadN d22_1 rfl ?_
  refine Own.icmp_gt 9 d22_2 (by decide) rfl (fun _ => ?_) (fun q => absurd (by decide) q)
  refine Own.iloadN d22_9 rfl ?_
  refine Own.ret_int rfl d22_10 (by decide) (by decide) (fun Sf hSf => ?_)
  exact ⟨rfl, rfl⟩
def Q_rmRB0_2 (Z : State) (x0 : Int32) (x1 : Int32) (x2 : Int32) (x3 : Int32) (h0 : Heap) (n0 : Nat) (v : Option Value) (h : Heap) (Sf : Addr → Prop) : Prop := ∃ (a : Addr) (ka : ClassId), v = some (.ref a) ∧ h0.size ≤ a ∧ Keep h0 h [] ∧ Arl Z h a ka .byte [(.int x0), (.int x1)]
theorem ef_rmRB0_2 (m : MethodId) (a1 : Addr)  : entryFrame m #[(.ref a1), (.int (0 : Int32)), (.int (2 : Int32))] 5 = mkF m 0 #[.val (.ref a1), .val (.int (0 : Int32)), .val (.int (2 : Int32)), .unset, .unset] [] := by first | (simp [entryFrame, mkF, argsToLocals, Value.category]; done) | rfl
set_option maxRecDepth 65536 in
set_option maxHeartbeats 40000000 in
theorem rmRB0_2 (l : Launch) (Z : State) (a0 : Array Value) (hw : ∀ d ∈ tables_1, d.before a0 Z = true) (ws : List Jvm.Cond) (a1 : Addr) (ka : ClassId) (x0 : Int32) (x1 : Int32) (x2 : Int32) (x3 : Int32) (h0 : Heap) (n0 : Nat) (hn : n0 ≤ h0.size) (V_a1 : Arl Z h0 a1 ka .byte [(.int x0), (.int x1), (.int x2), (.int x3)]) :
    Met own_EL l Z (⟨"java/util/Arrays", "copyOfRangeByte", "([BII)[B"⟩ : MethodName) jdk_65_method_133_code 5 (some (.array .byte)) ({ frames := 1, cells := 1, slots := 2, locals := 51 } : Room) ws #[(.ref a1), (.int (0 : Int32)), (.int (2 : Int32))] h0 n0 [] (Q_rmRB0_2 Z x0 x1 x2 x3 h0 n0) := by
  refine Met.of pn_20 (fun m => ef_rmRB0_2 m a1) ?_
  have K := Keep.refl h0 []
  refine Own.iloadN d20_0 rfl ?_
  refine Own.iloadN d20_1 rfl ?_
  refine Own.callS0 [(.int (0 : Int32)), (.int (2 : Int32))] [] 0 (rmCL0_2 l Z a0 hw [] h0 n0 hn) (hw _ (List.mem_of_getElem? (i := 107) rfl)) (hw _ (List.mem_of_getElem? (i := 108) rfl)) (hw _ (List.mem_of_getElem? (i := 102) rfl)) (hw _ (List.mem_of_getElem? (i := 109) rfl)) (by decide) d20_2 pd_7 rfl rfl rfl rfl (by decide) (by decide) (by decide) (by decide) ?_
  refine Own.iloadN d20_5 rfl ?_
  refine Own.iloadN d20_6 rfl ?_
  refine Own.isub d20_7 ?_
  refine OAt.cast (st' := [(.int (2 : Int32))]) rfl ?_
  refine Own.istoreN #[.val (.ref a1), .val (.int (0 : Int32)), .val (.int (2 : Int32)), .val (.int (2 : Int32)), .unset] d20_8 rfl ?_
  refine Own.iloadN d20_9 rfl ?_
  refine Own.newarray_ 2 .byte rfl (hw _ (List.mem_of_getElem? (i := 19) rfl)) d20_10 (N := 2) rfl (by decide) (by decide) (by decide) (by decide) rfl (fun h43 b43 k43 gb43 E43 V43 => ?_)
  have g_b43 : n0 ≤ b43 := by rw [gb43]; exact hn
  have ne_a1_b43 : a1 ≠ b43 := fun q => Nat.ne_of_lt V_a1.lt (q.trans gb43)
  have ne_b43_a1 := Ne.symm ne_a1_b43
  have hn := Nat.le_trans hn E43.1
  replace V_a1 := V_a1.ext E43
  replace V43 : Arl Z h43 b43 k43 .byte [(.int (0 : Int32)), (.int (0 : Int32))] := V43
  have sz_b43 : h0.size ≤ b43 := by rw [gb43]; exact K.1
  have K := K.ext E43
  refine Own.astore #[.val (.ref a1), .val (.int (0 : Int32)), .val (.int (2 : Int32)), .val (.int (2 : Int32)), .val (.ref b43)] d20_12 rfl rfl ?_
  refine Own.aloadN d20_14 rfl rfl ?_
  refine Own.iloadN d20_15 rfl ?_
  refine Own.aload d20_16 rfl rfl ?_
  refine Own.iconst (0 : Int32) d20_18 rfl ?_
  refine Own.aloadN d20_19 rfl rfl ?_
  refine Own.arraylength_ (4 : Int32) V_a1 rfl d20_20 ?_
  refine Own.iloadN d20_21 rfl ?_
  refine Own.isub d20_22 ?_
  refine OAt.cast (st' := [(.int (4 : Int32)), (.int (0 : Int32)), (.ref b43), (.int (0 : Int32)), (.ref a1)]) rfl ?_
  refine Own.iloadN d20_23 rfl ?_
  refine Own.callSP [(.int (4 : Int32)), (.int (2 : Int32))] [(.int (0 : Int32)), (.ref b43), (.int (0 : Int32)), (.ref a1)] 4 (rmMM0_2 l Z a0 hw [] h43 n0 hn) (hw _ (List.mem_of_getElem? (i := 110) rfl)) (hw _ (List.mem_of_getElem? (i := 111) rfl)) (hw _ (List.mem_of_getElem? (i := 112) rfl)) (hw _ (List.mem_of_getElem? (i := 113) rfl)) (by decide) d20_24 pd_5 rfl rfl rfl rfl (by decide) (by decide) (by decide) (by decide) ?_
  refine Own.arraycopy_ (i := 0) (j := 0) (n := 2) 0 (hw _ (List.mem_of_getElem? (i := 114) rfl)) (hw _ (List.mem_of_getElem? (i := 117) rfl)) (hw _ (List.mem_of_getElem? (i := 115) rfl)) (hw _ (List.mem_of_getElem? (i := 116) rfl)) V_a1 V43 rfl rfl rfl rfl (Nat.le_of_ble_eq_true rfl) (Nat.le_of_ble_eq_true rfl) g_b43 (List.mem_of_getElem? (i := 0) rfl) rfl d20_27 (by decide) rfl (by decide) (fun h44 K44 V44 => ?_)
  have hn := Nat.le_trans hn K44.1
  replace V_a1 := V_a1.keep K44 (ninS ne_a1_b43 nin0)
  clear V43
  replace V44 : Arl Z h44 b43 k43 .byte [(.int x0), (.int x1)] := V44
  have K := K.trans K44 (allS (Or.inr sz_b43) all0)
  refine Own.aload d20_30 rfl rfl ?_
  refine Own.ret_ref (t := (.array .byte)) rfl rfl rfl d20_32 (by decide) (by decide) (fun Sf hSf => ?_)
  exact ⟨b43, k43, rfl, sz_b43, K, V44⟩
def Q_rmRG0_2 (Z : State) (x0 : Int32) (x1 : Int32) (x2 : Int32) (x3 : Int32) (h0 : Heap) (n0 : Nat) (v : Option Value) (h : Heap) (Sf : Addr → Prop) : Prop := ∃ (a : Addr) (ka : ClassId), v = some (.ref a) ∧ h0.size ≤ a ∧ Keep h0 h [] ∧ Arl Z h a ka .byte [(.int x0), (.int x1)]
theorem ef_rmRG0_2 (m : MethodId) (a1 : Addr)  : entryFrame m #[(.ref a1), (.int (0 : Int32)), (.int (2 : Int32))] 3 = mkF m 0 #[.val (.ref a1), .val (.int (0 : Int32)), .val (.int (2 : Int32))] [] := by first | (simp [entryFrame, mkF, argsToLocals, Value.category]; done) | rfl
set_option maxRecDepth 65536 in
set_option maxHeartbeats 40000000 in
theorem rmRG0_2 (l : Launch) (Z : State) (a0 : Array Value) (hw : ∀ d ∈ tables_1, d.before a0 Z = true) (ws : List Jvm.Cond) (a1 : Addr) (ka : ClassId) (x0 : Int32) (x1 : Int32) (x2 : Int32) (x3 : Int32) (h0 : Heap) (n0 : Nat) (hn : n0 ≤ h0.size) (V_a1 : Arl Z h0 a1 ka .byte [(.int x0), (.int x1), (.int x2), (.int x3)]) :
    Met own_EL l Z (⟨"java/util/Arrays", "copyOfRange", "([BII)[B"⟩ : MethodName) jdk_65_method_132_code 3 (some (.array .byte)) ({ frames := 2, cells := 1, slots := 2, locals := 67 } : Room) ws #[(.ref a1), (.int (0 : Int32)), (.int (2 : Int32))] h0 n0 [] (Q_rmRG0_2 Z x0 x1 x2 x3 h0 n0) := by
  refine Met.of pn_19 (fun m => ef_rmRG0_2 m a1) ?_
  have K := Keep.refl h0 []
  refine Own.iloadN d19_0 rfl ?_
  refine Own.if_ne 10 d19_1 (by decide) rfl (fun q => absurd (by decide) q) (fun _ => ?_)
  refine Own.iloadN d19_4 rfl ?_
  refine Own.aloadN d19_5 rfl rfl ?_
  refine Own.arraylength_ (4 : Int32) V_a1 rfl d19_6 ?_
  refine Own.icmp_eq 17 d19_7 (by decide) rfl (fun q => absurd q (by decide)) (fun _ => ?_)
  refine Own.aloadN d19_10 rfl rfl ?_
  refine Own.iloadN d19_11 rfl ?_
  refine Own.iloadN d19_12 rfl ?_
  refine Own.callS_ [(.ref a1), (.int (0 : Int32)), (.int (2 : Int32))] [] 0 (rmRB0_2 l Z a0 hw [] a1 ka x0 x1 x2 x3 h0 n0 hn V_a1) all0 (hw _ (List.mem_of_getElem? (i := 104) rfl)) (hw _ (List.mem_of_getElem? (i := 105) rfl)) (hw _ (List.mem_of_getElem? (i := 102) rfl)) (hw _ (List.mem_of_getElem? (i := 106) rfl)) (by decide) d19_13 pd_15 rfl rfl rfl rfl (by decide) (by decide) (by decide) (by decide) (fun v45 h45 S45 hq45 => ?_)
  obtain ⟨b46, k46, rfl, z46, K46, V46⟩ := hq45
  have g_b46 : n0 ≤ b46 := Nat.le_trans hn z46
  have ne_a1_b46 : a1 ≠ b46 := Nat.ne_of_lt (Nat.lt_of_lt_of_le V_a1.lt z46)
  have ne_b46_a1 := Ne.symm ne_a1_b46
  have sz_b46 : h0.size ≤ b46 := Nat.le_trans K.1 z46
  have hn := Nat.le_trans hn K46.1
  replace V_a1 := V_a1.keep K46 nin0
  have K := K.trans K46 all0
  refine ⟨[], all0, ?_⟩
  refine OAt.cast (st' := [(.ref b46)]) rfl ?_
  refine Own.ret_ref (t := (.array .byte)) rfl rfl rfl d19_16 (by decide) (by decide) (fun Sf hSf => ?_)
  exact ⟨b46, k46, rfl, sz_b46, K, V46⟩
def Q_rmNS0_2 (Z : State) (x0 : Int32) (x1 : Int32) (x2 : Int32) (x3 : Int32) (h0 : Heap) (n0 : Nat) (v : Option Value) (h : Heap) (Sf : Addr → Prop) : Prop := Keep h0 h [] ∧ ∃ (a b : Addr) (kb : ClassId), v = some (.ref a) ∧ Exa Z h a "java/lang/String" ∧ Fld Z h a "java/lang/String" "value" "[B" (.ref b) ∧ Fld Z h a "java/lang/String" "coder" "B" (.int (0 : Int32)) ∧ Arl Z h b kb .byte [(.int x0), (.int x1)]
theorem ef_rmNS0_2 (m : MethodId) (a1 : Addr)  : entryFrame m #[(.ref a1), (.int (0 : Int32)), (.int (2 : Int32))] 3 = mkF m 0 #[.val (.ref a1), .val (.int (0 : Int32)), .val (.int (2 : Int32))] [] := by first | (simp [entryFrame, mkF, argsToLocals, Value.category]; done) | rfl
set_option maxRecDepth 65536 in
set_option maxHeartbeats 40000000 in
theorem rmNS0_2 (l : Launch) (Z : State) (a0 : Array Value) (hw : ∀ d ∈ tables_1, d.before a0 Z = true) (ws : List Jvm.Cond) (a1 : Addr) (ka : ClassId) (x0 : Int32) (x1 : Int32) (x2 : Int32) (x3 : Int32) (h0 : Heap) (n0 : Nat) (hn : n0 ≤ h0.size) (V_a1 : Arl Z h0 a1 ka .byte [(.int x0), (.int x1), (.int x2), (.int x3)]) :
    Met own_EL l Z (⟨"java/lang/StringLatin1", "newString", "([BII)Ljava/lang/String;"⟩ : MethodName) jdk_43_method_47_code 3 (some (.object "java/lang/String")) ({ frames := 5, cells := 3, slots := 16, locals := 90 } : Room) ws #[(.ref a1), (.int (0 : Int32)), (.int (2 : Int32))] h0 n0 [] (Q_rmNS0_2 Z x0 x1 x2 x3 h0 n0) := by
  refine Met.of pn_17 (fun m => ef_rmNS0_2 m a1) ?_
  have K := Keep.refl h0 []
  refine Own.iloadN d17_0 rfl ?_
  refine Own.if_ne 7 d17_1 (by decide) rfl (fun _ => ?_) (fun q => absurd q (by decide))
  refine Own.new_ (hw _ (List.mem_of_getElem? (i := 99) rfl)) (hw _ (List.mem_of_getElem? (i := 2) rfl)) (hw _ (List.mem_of_getElem? (i := 3) rfl)) d17_7 (by decide) (by decide) (fun h47 b47 gb47 E47 X47 D47 => ?_)
  have g_b47 : n0 ≤ b47 := by rw [gb47]; exact hn
  have ne_a1_b47 : a1 ≠ b47 := fun q => Nat.ne_of_lt V_a1.lt (q.trans gb47)
  have ne_b47_a1 := Ne.symm ne_a1_b47
  have hn := Nat.le_trans hn E47.1
  replace V_a1 := V_a1.ext E47
  have X_b47 := X47
  have F_coder_b47 : Fld Z h47 b47 "java/lang/String" "coder" "B" (.int (0 : Int32)) := D47 (Or.inr (hw _ (List.mem_of_getElem? (i := 27) rfl))) (ty := .byte) (by decide)
  have F_value_b47 : Fld Z h47 b47 "java/lang/String" "value" "[B" .null := D47 (Or.inr (hw _ (List.mem_of_getElem? (i := 29) rfl))) (ty := (.array .byte)) (by decide)
  have sz_b47 : h0.size ≤ b47 := by rw [gb47]; exact K.1
  have K := K.ext E47
  refine Own.dup d17_10 rfl ?_
  refine Own.aloadN d17_11 rfl rfl ?_
  refine Own.iloadN d17_12 rfl ?_
  refine Own.iloadN d17_13 rfl ?_
  refine Own.iloadN d17_14 rfl ?_
  refine Own.iadd d17_15 ?_
  refine OAt.cast (st' := [(.int (2 : Int32)), (.int (0 : Int32)), (.ref a1), (.ref b47), (.ref b47)]) rfl ?_
  refine Own.callS_ [(.ref a1), (.int (0 : Int32)), (.int (2 : Int32))] [(.ref b47), (.ref b47)] 2 (rmRG0_2 l Z a0 hw [] a1 ka x0 x1 x2 x3 h47 n0 hn V_a1) all0 (hw _ (List.mem_of_getElem? (i := 100) rfl)) (hw _ (List.mem_of_getElem? (i := 101) rfl)) (hw _ (List.mem_of_getElem? (i := 102) rfl)) (hw _ (List.mem_of_getElem? (i := 103) rfl)) (by decide) d17_16 pd_15 rfl rfl rfl rfl (by decide) (by decide) (by decide) (by decide) (fun v48 h48 S48 hq48 => ?_)
  obtain ⟨b49, k49, rfl, z49, K49, V49⟩ := hq48
  have g_b49 : n0 ≤ b49 := Nat.le_trans hn z49
  have ne_a1_b49 : a1 ≠ b49 := Nat.ne_of_lt (Nat.lt_of_lt_of_le V_a1.lt z49)
  have ne_b49_a1 := Ne.symm ne_a1_b49
  have ne_b47_b49 : b47 ≠ b49 := Nat.ne_of_lt (Nat.lt_of_lt_of_le X_b47.lt z49)
  have ne_b49_b47 := Ne.symm ne_b47_b49
  have sz_b49 : h0.size ≤ b49 := Nat.le_trans K.1 z49
  have hn := Nat.le_trans hn K49.1
  replace V_a1 := V_a1.keep K49 nin0
  replace X_b47 := X_b47.keep K49
  replace F_coder_b47 := F_coder_b47.keep K49 nin0
  replace F_value_b47 := F_value_b47.keep K49 nin0
  have K := K.trans K49 all0
  refine ⟨[], all0, ?_⟩
  refine OAt.cast (st' := [(.ref b49), (.ref b47), (.ref b47)]) rfl ?_
  refine Own.iconst (0 : Int32) d17_19 rfl ?_
  refine Own.callI_ b47 [(.ref b49), (.int (0 : Int32))] [(.ref b47)] 1 (rmBB l Z a0 hw [] b47 b49 h48 n0 hn X_b47 g_b47 F_value_b47 F_coder_b47) (allS (List.mem_of_getElem? (i := 0) rfl) all0) (hw _ (List.mem_of_getElem? (i := 118) rfl)) (hw _ (List.mem_of_getElem? (i := 119) rfl)) (hw _ (List.mem_of_getElem? (i := 3) rfl)) (hw _ (List.mem_of_getElem? (i := 120) rfl)) rfl (by decide) d17_20 pd_12 rfl rfl rfl rfl (by decide) (by decide) (by decide) (by decide) (fun v50 h50 S50 hq50 => ?_)
  obtain ⟨rfl, K51, G1, G2⟩ := hq50
  have hn := Nat.le_trans hn K51.1
  replace V_a1 := V_a1.keep K51 (ninS ne_a1_b47 nin0)
  replace X_b47 := X_b47.keep K51
  replace V49 := V49.keep K51 (ninS ne_b49_b47 nin0)
  have K := K.trans K51 (allS (Or.inr sz_b47) all0)
  have F_value_b47 := G1
  have F_coder_b47 := G2
  refine ⟨[], all0, ?_⟩
  refine OAt.cast (st' := [(.ref b47)]) rfl ?_
  refine Own.ret_ref (t := (.object "java/lang/String")) rfl rfl rfl d17_23 (by decide) (by decide) (fun Sf hSf => ?_)
  exact ⟨K, b47, b49, k49, rfl, X_b47, F_value_b47, F_coder_b47, V49⟩
def Q_rmSub0_2 (Z : State) (a1 : Addr) (b : Addr) (kb : ClassId) (zc : Int32) (vf : Value) (x0 : Int32) (x1 : Int32) (x2 : Int32) (x3 : Int32) (h0 : Heap) (n0 : Nat) (v : Option Value) (h : Heap) (Sf : Addr → Prop) : Prop := Keep h0 h [] ∧ ∃ (a b : Addr) (kb : ClassId), v = some (.ref a) ∧ Exa Z h a "java/lang/String" ∧ Fld Z h a "java/lang/String" "value" "[B" (.ref b) ∧ Fld Z h a "java/lang/String" "coder" "B" (.int (0 : Int32)) ∧ Arl Z h b kb .byte [(.int x0), (.int x1)]
theorem ef_rmSub0_2 (m : MethodId) (a1 : Addr)  : entryFrame m #[(.ref a1), (.int (0 : Int32)), (.int (2 : Int32))] 5 = mkF m 0 #[.val (.ref a1), .val (.int (0 : Int32)), .val (.int (2 : Int32)), .unset, .unset] [] := by first | (simp [entryFrame, mkF, argsToLocals, Value.category]; done) | rfl
set_option maxRecDepth 65536 in
set_option maxHeartbeats 40000000 in
theorem rmSub0_2 (l : Launch) (Z : State) (a0 : Array Value) (hw : ∀ d ∈ tables_1, d.before a0 Z = true) (ws : List Jvm.Cond) (a1 : Addr) (b : Addr) (kb : ClassId) (zc : Int32) (vf : Value) (x0 : Int32) (x1 : Int32) (x2 : Int32) (x3 : Int32) (h0 : Heap) (n0 : Nat) (hn : n0 ≤ h0.size) (X_a1 : Exa Z h0 a1 "java/lang/String") (F_value_a1 : Fld Z h0 a1 "java/lang/String" "value" "[B" (.ref b)) (F_coder_a1 : Fld Z h0 a1 "java/lang/String" "coder" "B" (.int (0 : Int32))) (V_b : Arl Z h0 b kb .byte [(.int x0), (.int x1), (.int x2), (.int x3)]) (S_C : Sta Z h0 "java/lang/String" "COMPACT_STRINGS" "Z" (.int zc)) (S_F : Sta Z h0 "jdk/internal/util/Preconditions" "SIOOBE_FORMATTER" "Ljava/util/function/BiFunction;" vf) (hz : ¬ zc = 0) (hvf : vf.isRef = true) :
    Met own_EL l Z (⟨"java/lang/String", "substring", "(II)Ljava/lang/String;"⟩ : MethodName) jdk_42_method_92_code 5 (some (.object "java/lang/String")) ({ frames := 6, cells := 3, slots := 16, locals := 110 } : Room) ws #[(.ref a1), (.int (0 : Int32)), (.int (2 : Int32))] h0 n0 [] (Q_rmSub0_2 Z a1 b kb zc vf x0 x1 x2 x3 h0 n0) := by
  refine Met.of pn_11 (fun m => ef_rmSub0_2 m a1) ?_
  have K := Keep.refl h0 []
  refine Own.aloadN d11_0 rfl rfl ?_
  refine Own.callVP a1 [] [] 0 (rm_len_4 l Z a0 hw [] a1 b kb _ zc h0 n0 hn X_a1 F_value_a1 F_coder_a1 V_b rfl S_C hz) (hw _ (List.mem_of_getElem? (i := 64) rfl)) (hw _ (List.mem_of_getElem? (i := 65) rfl)) (fun s hZ => notFace_of_selects (args := #[]) (mvT hZ (hw _ (List.mem_of_getElem? (i := 67) rfl)))) (hw _ (List.mem_of_getElem? (i := 67) rfl)) (hw _ (List.mem_of_getElem? (i := 66) rfl)) (hw _ (List.mem_of_getElem? (i := 3) rfl)) (hw _ (List.mem_of_getElem? (i := 68) rfl)) (by decide) X_a1 d11_1 pd_1 rfl rfl rfl rfl (by decide) (by decide) (by decide) (by decide) ?_
  refine Own.istoreN #[.val (.ref a1), .val (.int (0 : Int32)), .val (.int (2 : Int32)), .val (.int (4 : Int32)), .unset] d11_4 rfl ?_
  refine Own.iloadN d11_5 rfl ?_
  refine Own.iloadN d11_6 rfl ?_
  refine Own.iloadN d11_7 rfl ?_
  refine Own.callS0 [(.int (0 : Int32)), (.int (2 : Int32)), (.int (4 : Int32))] [] 0 (rmCB0_2 l Z a0 hw [] vf h0 n0 hn S_F hvf) (hw _ (List.mem_of_getElem? (i := 74) rfl)) (hw _ (List.mem_of_getElem? (i := 75) rfl)) (hw _ (List.mem_of_getElem? (i := 3) rfl)) (hw _ (List.mem_of_getElem? (i := 76) rfl)) (by decide) d11_8 pd_8 rfl rfl rfl rfl (by decide) (by decide) (by decide) (by decide) ?_
  refine Own.iloadN d11_11 rfl ?_
  refine Own.if_ne 22 d11_12 (by decide) rfl (fun q => absurd (by decide) q) (fun _ => ?_)
  refine Own.iloadN d11_15 rfl ?_
  refine Own.iloadN d11_16 rfl ?_
  refine Own.icmp_ne 22 d11_17 (by decide) rfl (fun _ => ?_) (fun q => absurd q (by decide))
  refine Own.iloadN d11_22 rfl ?_
  refine Own.iloadN d11_23 rfl ?_
  refine Own.isub d11_24 ?_
  refine OAt.cast (st' := [(.int (2 : Int32))]) rfl ?_
  refine Own.istore #[.val (.ref a1), .val (.int (0 : Int32)), .val (.int (2 : Int32)), .val (.int (4 : Int32)), .val (.int (2 : Int32))] d11_25 rfl ?_
  refine Own.aloadN d11_27 rfl rfl ?_
  refine Own.callVP a1 [] [] 0 (rm_lat_4 l Z a0 hw [] a1 b kb _ zc h0 n0 hn X_a1 F_value_a1 F_coder_a1 V_b rfl S_C hz) (hw _ (List.mem_of_getElem? (i := 82) rfl)) (hw _ (List.mem_of_getElem? (i := 83) rfl)) (fun s hZ => notFace_of_selects (args := #[]) (mvT hZ (hw _ (List.mem_of_getElem? (i := 85) rfl)))) (hw _ (List.mem_of_getElem? (i := 85) rfl)) (hw _ (List.mem_of_getElem? (i := 84) rfl)) (hw _ (List.mem_of_getElem? (i := 3) rfl)) (hw _ (List.mem_of_getElem? (i := 86) rfl)) (by decide) X_a1 d11_28 pd_4 rfl rfl rfl rfl (by decide) (by decide) (by decide) (by decide) ?_
  refine Own.if_eq 47 d11_31 (by decide) rfl (fun q => absurd q (by decide)) (fun _ => ?_)
  refine Own.aloadN d11_34 rfl rfl ?_
  refine Own.getF_ (host := "") (Or.inl (hw _ (List.mem_of_getElem? (i := 28) rfl))) Via.refl F_value_a1 d11_35 ?_
  refine Own.iloadN d11_38 rfl ?_
  refine Own.iload d11_39 rfl ?_
  refine Own.callS_ [(.ref b), (.int (0 : Int32)), (.int (2 : Int32))] [] 0 (rmNS0_2 l Z a0 hw [] b kb x0 x1 x2 x3 h0 n0 hn V_b) all0 (hw _ (List.mem_of_getElem? (i := 87) rfl)) (hw _ (List.mem_of_getElem? (i := 88) rfl)) (hw _ (List.mem_of_getElem? (i := 89) rfl)) (hw _ (List.mem_of_getElem? (i := 90) rfl)) (by decide) d11_41 pd_14 rfl rfl rfl rfl (by decide) (by decide) (by decide) (by decide) (fun v52 h52 S52 hq52 => ?_)
  obtain ⟨K53, s53, t53, kt53, rfl, X_s53, F_value_s53, F_coder_s53, V_t53⟩ := hq52
  have hn := Nat.le_trans hn K53.1
  replace S_C := sta_keep S_C K53 ns0
  replace S_F := sta_keep S_F K53 ns0
  replace X_a1 := X_a1.keep K53
  replace F_value_a1 := F_value_a1.keep K53 nin0
  replace F_coder_a1 := F_coder_a1.keep K53 nin0
  replace V_b := V_b.keep K53 nin0
  have K := K.trans K53 all0
  refine ⟨[], all0, ?_⟩
  refine OAt.cast (st' := [(.ref s53)]) rfl ?_
  refine Own.goto_ 57 d11_44 (by decide) rfl ?_
  refine Own.ret_ref (t := (.object "java/lang/String")) rfl rfl rfl d11_57 (by decide) (by decide) (fun Sf hSf => ?_)
  exact ⟨K, s53, t53, kt53, rfl, X_s53, F_value_s53, F_coder_s53, V_t53⟩
def Q_rmCut0_2 (Z : State) (x0 : Int32) (x1 : Int32) (x2 : Int32) (x3 : Int32) (h0 : Heap) (n0 : Nat) (v : Option Value) (h : Heap) (Sf : Addr → Prop) : Prop := Keep h0 h [] ∧ ∃ (a b : Addr) (kb : ClassId), v = some (.ref a) ∧ Exa Z h a "java/lang/String" ∧ Fld Z h a "java/lang/String" "value" "[B" (.ref b) ∧ Fld Z h a "java/lang/String" "coder" "B" (.int (0 : Int32)) ∧ Arl Z h b kb .byte [(.int x0), (.int x1)]
theorem ef_rmCut0_2 (m : MethodId) (a1 : Addr)  : entryFrame m #[(.ref a1)] 1 = mkF m 0 #[.val (.ref a1)] [] := by first | (simp [entryFrame, mkF, argsToLocals, Value.category]; done) | rfl
set_option maxRecDepth 65536 in
set_option maxHeartbeats 40000000 in
theorem rmCut0_2 (l : Launch) (Z : State) (a0 : Array Value) (hw : ∀ d ∈ tables_1, d.before a0 Z = true) (ws : List Jvm.Cond) (a1 : Addr) (a2 : Addr) (b : Addr) (kb : ClassId) (zc : Int32) (vf : Value) (x0 : Int32) (x1 : Int32) (x2 : Int32) (x3 : Int32) (h0 : Heap) (n0 : Nat) (hn : n0 ≤ h0.size) (X_a2 : Exa Z h0 a2 "java/lang/String") (F_value_a2 : Fld Z h0 a2 "java/lang/String" "value" "[B" (.ref b)) (F_coder_a2 : Fld Z h0 a2 "java/lang/String" "coder" "B" (.int (0 : Int32))) (V_b : Arl Z h0 b kb .byte [(.int x0), (.int x1), (.int x2), (.int x3)]) (S_C : Sta Z h0 "java/lang/String" "COMPACT_STRINGS" "Z" (.int zc)) (S_F : Sta Z h0 "jdk/internal/util/Preconditions" "SIOOBE_FORMATTER" "Ljava/util/function/BiFunction;" vf) (hz : ¬ zc = 0) (hvf : vf.isRef = true) (F_text_a1 : Fld Z h0 a1 "com/example/cytorelay/cytorelay/core/Hl7Syntax$Span" "text" "Ljava/lang/String;" (.ref a2)) (F_from_a1 : Fld Z h0 a1 "com/example/cytorelay/cytorelay/core/Hl7Syntax$Span" "from" "I" (.int (0 : Int32))) (F_to_a1 : Fld Z h0 a1 "com/example/cytorelay/cytorelay/core/Hl7Syntax$Span" "to" "I" (.int (2 : Int32))) :
    Met own_EL l Z (⟨"com/example/cytorelay/cytorelay/core/Hl7Syntax$Span", "cut", "()Ljava/lang/String;"⟩ : MethodName) prog_32_method_4_code 1 (some (.object "java/lang/String")) ({ frames := 7, cells := 3, slots := 16, locals := 130 } : Room) ws #[(.ref a1)] h0 n0 [] (Q_rmCut0_2 Z x0 x1 x2 x3 h0 n0) := by
  refine Met.of pn_10 (fun m => ef_rmCut0_2 m a1) ?_
  have K := Keep.refl h0 []
  refine Own.aloadN d10_0 rfl rfl ?_
  refine Own.getF_ (host := "") (Or.inl (hw _ (List.mem_of_getElem? (i := 43) rfl))) Via.refl F_text_a1 d10_1 ?_
  refine Own.aloadN d10_4 rfl rfl ?_
  refine Own.getF_ (host := "") (Or.inl (hw _ (List.mem_of_getElem? (i := 45) rfl))) Via.refl F_from_a1 d10_5 ?_
  refine Own.aloadN d10_8 rfl rfl ?_
  refine Own.getF_ (host := "") (Or.inl (hw _ (List.mem_of_getElem? (i := 47) rfl))) Via.refl F_to_a1 d10_9 ?_
  refine Own.callV_ a2 [(.int (0 : Int32)), (.int (2 : Int32))] [] 0 (rmSub0_2 l Z a0 hw [] a2 b kb zc vf x0 x1 x2 x3 h0 n0 hn X_a2 F_value_a2 F_coder_a2 V_b S_C S_F hz hvf) all0 (hw _ (List.mem_of_getElem? (i := 59) rfl)) (hw _ (List.mem_of_getElem? (i := 60) rfl)) (fun s hZ => notFace_of_selects (args := #[]) (mvT hZ (hw _ (List.mem_of_getElem? (i := 62) rfl)))) (hw _ (List.mem_of_getElem? (i := 62) rfl)) (hw _ (List.mem_of_getElem? (i := 61) rfl)) (hw _ (List.mem_of_getElem? (i := 3) rfl)) (hw _ (List.mem_of_getElem? (i := 63) rfl)) (by decide) X_a2 d10_12 pd_6 rfl rfl rfl rfl (by decide) (by decide) (by decide) (by decide) (fun v54 h54 S54 hq54 => ?_)
  obtain ⟨K55, s55, t55, kt55, rfl, X_s55, F_value_s55, F_coder_s55, V_t55⟩ := hq54
  have hn := Nat.le_trans hn K55.1
  replace S_C := sta_keep S_C K55 ns0
  replace S_F := sta_keep S_F K55 ns0
  replace X_a2 := X_a2.keep K55
  replace F_value_a2 := F_value_a2.keep K55 nin0
  replace F_coder_a2 := F_coder_a2.keep K55 nin0
  replace V_b := V_b.keep K55 nin0
  replace F_text_a1 := F_text_a1.keep K55 nin0
  replace F_from_a1 := F_from_a1.keep K55 nin0
  replace F_to_a1 := F_to_a1.keep K55 nin0
  have K := K.trans K55 all0
  refine ⟨[], all0, ?_⟩
  refine OAt.cast (st' := [(.ref s55)]) rfl ?_
  refine Own.ret_ref (t := (.object "java/lang/String")) rfl rfl rfl d10_15 (by decide) (by decide) (fun Sf hSf => ?_)
  exact ⟨K, s55, t55, kt55, rfl, X_s55, F_value_s55, F_coder_s55, V_t55⟩
theorem ef_rmSE0_3 (m : MethodId) (a1 : Addr)  : entryFrame m #[(.ref a1)] 1 = mkF m 0 #[.val (.ref a1)] [] := by first | (simp [entryFrame, mkF, argsToLocals, Value.category]; done) | rfl
set_option maxRecDepth 65536 in
set_option maxHeartbeats 40000000 in
theorem rmSE0_3 (l : Launch) (Z : State) (a0 : Array Value) (hw : ∀ d ∈ tables_1, d.before a0 Z = true) (ws : List Jvm.Cond) (a1 : Addr) (h0 : Heap) (n0 : Nat) (hn : n0 ≤ h0.size) (F_from : Fld Z h0 a1 "com/example/cytorelay/cytorelay/core/Hl7Syntax$Span" "from" "I" (.int (0 : Int32))) (F_to : Fld Z h0 a1 "com/example/cytorelay/cytorelay/core/Hl7Syntax$Span" "to" "I" (.int (3 : Int32))) :
    Met own_EL l Z (⟨"com/example/cytorelay/cytorelay/core/Hl7Syntax$Span", "isEmpty", "()Z"⟩ : MethodName) prog_32_method_3_code 1 (some .boolean) ({ frames := 0, cells := 0, slots := 0, locals := 0 } : Room) ws #[(.ref a1)] h0 n0 [] (Pur (.int (0 : Int32)) h0) := by
  refine Met.of pn_9 (fun m => ef_rmSE0_3 m a1) ?_
  refine Own.aloadN d9_0 rfl rfl ?_
  refine Own.getF_ (host := "") (Or.inl (hw _ (List.mem_of_getElem? (i := 45) rfl))) Via.refl F_from d9_1 ?_
  refine Own.aloadN d9_4 rfl rfl ?_
  refine Own.getF_ (host := "") (Or.inl (hw _ (List.mem_of_getElem? (i := 47) rfl))) Via.refl F_to d9_5 ?_
  refine Own.icmp_ne 15 d9_8 (by decide) rfl (fun _ => ?_) (fun q => absurd q (by decide))
  refine Own.iconst (0 : Int32) d9_15 rfl ?_
  refine Own.ret_nar (t := .boolean) (by simp) rfl d9_16 (by decide) (by decide) (fun Sf hSf => ?_)
  exact ⟨rfl, rfl⟩
theorem ef_rmPF0_3 (m : MethodId) (vf : Value) (hr_3 : (vf).isRef = true) : entryFrame m #[(.int (0 : Int32)), (.int (3 : Int32)), (.int (4 : Int32)), vf] 4 = mkF m 0 #[.val (.int (0 : Int32)), .val (.int (3 : Int32)), .val (.int (4 : Int32)), .val vf] [] := by rcases ref_cases hr_3 with rfl | ⟨z3, rfl⟩ <;> first | (simp [entryFrame, mkF, argsToLocals, Value.category]; done) | rfl
set_option maxRecDepth 65536 in
set_option maxHeartbeats 40000000 in
theorem rmPF0_3 (l : Launch) (Z : State) (a0 : Array Value) (hw : ∀ d ∈ tables_1, d.before a0 Z = true) (ws : List Jvm.Cond) (vf : Value) (h0 : Heap) (n0 : Nat) (hn : n0 ≤ h0.size) (hvf : vf.isRef = true) :
    Met own_EL l Z (⟨"jdk/internal/util/Preconditions", "checkFromToIndex", "(IIILjava/util/function/BiFunction;)I"⟩ : MethodName) jdk_41_method_12_code 4 (some .int) ({ frames := 0, cells := 0, slots := 0, locals := 0 } : Room) ws #[(.int (0 : Int32)), (.int (3 : Int32)), (.int (4 : Int32)), vf] h0 n0 [] (Pur (.int (0 : Int32)) h0) := by
  refine Met.of pn_15 (fun m => ef_rmPF0_3 m vf hvf) ?_
  refine Own.iloadN d15_0 rfl ?_
  refine Own.if_lt 14 d15_1 (by decide) rfl (fun q => absurd q (by decide)) (fun _ => ?_)
  refine Own.iloadN d15_4 rfl ?_
  refine Own.iloadN d15_5 rfl ?_
  refine Own.icmp_gt 14 d15_6 (by decide) rfl (fun q => absurd q (by decide)) (fun _ => ?_)
  refine Own.iloadN d15_9 rfl ?_
  refine Own.iloadN d15_10 rfl ?_
  refine Own.icmp_le 22 d15_11 (by decide) rfl (fun _ => ?_) (fun q => absurd q (by decide))
  refine Own.iloadN d15_22 rfl ?_
  refine Own.ret_int rfl d15_23 (by decide) (by decide) (fun Sf hSf => ?_)
  exact ⟨rfl, rfl⟩
theorem ef_rmCB0_3 (m : MethodId)   : entryFrame m #[(.int (0 : Int32)), (.int (3 : Int32)), (.int (4 : Int32))] 3 = mkF m 0 #[.val (.int (0 : Int32)), .val (.int (3 : Int32)), .val (.int (4 : Int32))] [] := by first | (simp [entryFrame, mkF, argsToLocals, Value.category]; done) | rfl
set_option maxRecDepth 65536 in
set_option maxHeartbeats 40000000 in
theorem rmCB0_3 (l : Launch) (Z : State) (a0 : Array Value) (hw : ∀ d ∈ tables_1, d.before a0 Z = true) (ws : List Jvm.Cond) (vf : Value) (h0 : Heap) (n0 : Nat) (hn : n0 ≤ h0.size) (S_F : Sta Z h0 "jdk/internal/util/Preconditions" "SIOOBE_FORMATTER" "Ljava/util/function/BiFunction;" vf) (hvf : vf.isRef = true) :
    Met own_EL l Z (⟨"java/lang/String", "checkBoundsBeginEnd", "(III)V"⟩ : MethodName) jdk_42_method_158_code 3 none ({ frames := 1, cells := 0, slots := 0, locals := 15 } : Room) ws #[(.int (0 : Int32)), (.int (3 : Int32)), (.int (4 : Int32))] h0 n0 [] (Pur0 h0) := by
  refine Met.of pn_14 (fun m => ef_rmCB0_3 m ) ?_
  refine Own.iloadN d14_0 rfl ?_
  refine Own.iloadN d14_1 rfl ?_
  refine Own.iloadN d14_2 rfl ?_
  refine Own.getS_ (host := "") (Or.inl (hw _ (List.mem_of_getElem? (i := 77) rfl))) Via.refl S_F d14_3 ?_
  refine Own.callSP [(.int (0 : Int32)), (.int (3 : Int32)), (.int (4 : Int32)), vf] [] 0 (rmPF0_3 l Z a0 hw [] vf h0 n0 hn hvf) (hw _ (List.mem_of_getElem? (i := 79) rfl)) (hw _ (List.mem_of_getElem? (i := 80) rfl)) (hw _ (List.mem_of_getElem? (i := 78) rfl)) (hw _ (List.mem_of_getElem? (i := 81) rfl)) (by decide) d14_6 pd_9 rfl rfl rfl rfl (by decide) (by decide) (by decide) (by decide) ?_
  refine Own.pop d14_9 rfl ?_
  refine Own.ret_void rfl d14_10 (by decide) (by decide) (fun Sf hSf => ?_)
  exact ⟨rfl, rfl⟩
theorem ef_rmCL0_3 (m : MethodId)   : entryFrame m #[(.int (0 : Int32)), (.int (3 : Int32))] 2 = mkF m 0 #[.val (.int (0 : Int32)), .val (.int (3 : Int32))] [] := by first | (simp [entryFrame, mkF, argsToLocals, Value.category]; done) | rfl
set_option maxRecDepth 65536 in
set_option maxHeartbeats 40000000 in
theorem rmCL0_3 (l : Launch) (Z : State) (a0 : Array Value) (hw : ∀ d ∈ tables_1, d.before a0 Z = true) (ws : List Jvm.Cond)  (h0 : Heap) (n0 : Nat) (hn : n0 ≤ h0.size) :
    Met own_EL l Z (⟨"java/util/Arrays", "checkLength", "(II)V"⟩ : MethodName) jdk_65_method_131_code 2 none ({ frames := 0, cells := 0, slots := 0, locals := 0 } : Room) ws #[(.int (0 : Int32)), (.int (3 : Int32))] h0 n0 [] (Pur0 h0) := by
  refine Met.of pn_21 (fun m => ef_rmCL0_3 m ) ?_
  refine Own.iloadN d21_0 rfl ?_
  refine Own.iloadN d21_1 rfl ?_
  refine Own.icmp_ge 37 d21_2 (by decide) rfl (fun _ => ?_) (fun q => absurd q (by decide))
  refine Own.ret_void rfl d21_37 (by decide) (by decide) (fun Sf hSf => ?_)
  exact ⟨rfl, rfl⟩
theorem ef_rmMM0_3 (m : MethodId)   : entryFrame m #[(.int (4 : Int32)), (.int (3 : Int32))] 2 = mkF m 0 #[.val (.int (4 : Int32)), .val (.int (3 : Int32))] [] := by first | (simp [entryFrame, mkF, argsToLocals, Value.category]; done) | rfl
set_option maxRecDepth 65536 in
set_option maxHeartbeats 40000000 in
theorem rmMM0_3 (l : Launch) (Z : State) (a0 : Array Value) (hw : ∀ d ∈ tables_1, d.before a0 Z = true) (ws : List Jvm.Cond)  (h0 : Heap) (n0 : Nat) (hn : n0 ≤ h0.size) :
    Met own_EL l Z (⟨"java/lang/Math", "min", "(II)I"⟩ : MethodName) jdk_29_method_69_code 2 (some .int) ({ frames := 0, cells := 0, slots := 0, locals := 0 } : Room) ws #[(.int (4 : Int32)), (.int (3 : Int32))] h0 n0 [] (Pur (.int (3 : Int32)) h0) := by
  refine Met.of pn_22 (fun m => ef_rmMM0_3 m ) ?_
  refine Own.iloadN d22_0 rfl ?_
  refine Own.iloadN d22_1 rfl ?_
  refine Own.icmp_gt 9 d22_2 (by decide) rfl (fun _ => ?_) (fun q => absurd (by decide) q)
  refine Own.iloadN d22_9 rfl ?_
  refine Own.ret_int rfl d22_10 (by decide) (by decide) (fun Sf hSf => ?_)
  exact ⟨rfl, rfl⟩
def Q_rmRB0_3 (Z : State) (x0 : Int32) (x1 : Int32) (x2 : Int32) (x3 : Int32) (h0 : Heap) (n0 : Nat) (v : Option Value) (h : Heap) (Sf : Addr → Prop) : Prop := ∃ (a : Addr) (ka : ClassId), v = some (.ref a) ∧ h0.size ≤ a ∧ Keep h0 h [] ∧ Arl Z h a ka .byte [(.int x0), (.int x1), (.int x2)]
theorem ef_rmRB0_3 (m : MethodId) (a1 : Addr)  : entryFrame m #[(.ref a1), (.int (0 : Int32)), (.int (3 : Int32))] 5 = mkF m 0 #[.val (.ref a1), .val (.int (0 : Int32)), .val (.int (3 : Int32)), .unset, .unset] [] := by first | (simp [entryFrame, mkF, argsToLocals, Value.category]; done) | rfl
set_option maxRecDepth 65536 in
set_option maxHeartbeats 40000000 in
theorem rmRB0_3 (l : Launch) (Z : State) (a0 : Array Value) (hw : ∀ d ∈ tables_1, d.before a0 Z = true) (ws : List Jvm.Cond) (a1 : Addr) (ka : ClassId) (x0 : Int32) (x1 : Int32) (x2 : Int32) (x3 : Int32) (h0 : Heap) (n0 : Nat) (hn : n0 ≤ h0.size) (V_a1 : Arl Z h0 a1 ka .byte [(.int x0), (.int x1), (.int x2), (.int x3)]) :
    Met own_EL l Z (⟨"java/util/Arrays", "copyOfRangeByte", "([BII)[B"⟩ : MethodName) jdk_65_method_133_code 5 (some (.array .byte)) ({ frames := 1, cells := 1, slots := 3, locals := 51 } : Room) ws #[(.ref a1), (.int (0 : Int32)), (.int (3 : Int32))] h0 n0 [] (Q_rmRB0_3 Z x0 x1 x2 x3 h0 n0) := by
  refine Met.of pn_20 (fun m => ef_rmRB0_3 m a1) ?_
  have K := Keep.refl h0 []
  refine Own.iloadN d20_0 rfl ?_
  refine Own.iloadN d20_1 rfl ?_
  refine Own.callS0 [(.int (0 : Int32)), (.int (3 : Int32))] [] 0 (rmCL0_3 l Z a0 hw [] h0 n0 hn) (hw _ (List.mem_of_getElem? (i := 107) rfl)) (hw _ (List.mem_of_getElem? (i := 108) rfl)) (hw _ (List.mem_of_getElem? (i := 102) rfl)) (hw _ (List.mem_of_getElem? (i := 109) rfl)) (by decide) d20_2 pd_7 rfl rfl rfl rfl (by decide) (by decide) (by decide) (by decide) ?_
  refine Own.iloadN d20_5 rfl ?_
  refine Own.iloadN d20_6 rfl ?_
  refine Own.isub d20_7 ?_
  refine OAt.cast (st' := [(.int (3 : Int32))]) rfl ?_
  refine Own.istoreN #[.val (.ref a1), .val (.int (0 : Int32)), .val (.int (3 : Int32)), .val (.int (3 : Int32)), .unset] d20_8 rfl ?_
  refine Own.iloadN d20_9 rfl ?_
  refine Own.newarray_ 3 .byte rfl (hw _ (List.mem_of_getElem? (i := 19) rfl)) d20_10 (N := 3) rfl (by decide) (by decide) (by decide) (by decide) rfl (fun h56 b56 k56 gb56 E56 V56 => ?_)
  have g_b56 : n0 ≤ b56 := by rw [gb56]; exact hn
  have ne_a1_b56 : a1 ≠ b56 := fun q => Nat.ne_of_lt V_a1.lt (q.trans gb56)
  have ne_b56_a1 := Ne.symm ne_a1_b56
  have hn := Nat.le_trans hn E56.1
  replace V_a1 := V_a1.ext E56
  replace V56 : Arl Z h56 b56 k56 .byte [(.int (0 : Int32)), (.int (0 : Int32)), (.int (0 : Int32))] := V56
  have sz_b56 : h0.size ≤ b56 := by rw [gb56]; exact K.1
  have K := K.ext E56
  refine Own.astore #[.val (.ref a1), .val (.int (0 : Int32)), .val (.int (3 : Int32)), .val (.int (3 : Int32)), .val (.ref b56)] d20_12 rfl rfl ?_
  refine Own.aloadN d20_14 rfl rfl ?_
  refine Own.iloadN d20_15 rfl ?_
  refine Own.aload d20_16 rfl rfl ?_
  refine Own.iconst (0 : Int32) d20_18 rfl ?_
  refine Own.aloadN d20_19 rfl rfl ?_
  refine Own.arraylength_ (4 : Int32) V_a1 rfl d20_20 ?_
  refine Own.iloadN d20_21 rfl ?_
  refine Own.isub d20_22 ?_
  refine OAt.cast (st' := [(.int (4 : Int32)), (.int (0 : Int32)), (.ref b56), (.int (0 : Int32)), (.ref a1)]) rfl ?_
  refine Own.iloadN d20_23 rfl ?_
  refine Own.callSP [(.int (4 : Int32)), (.int (3 : Int32))] [(.int (0 : Int32)), (.ref b56), (.int (0 : Int32)), (.ref a1)] 4 (rmMM0_3 l Z a0 hw [] h56 n0 hn) (hw _ (List.mem_of_getElem? (i := 110) rfl)) (hw _ (List.mem_of_getElem? (i := 111) rfl)) (hw _ (List.mem_of_getElem? (i := 112) rfl)) (hw _ (List.mem_of_getElem? (i := 113) rfl)) (by decide) d20_24 pd_5 rfl rfl rfl rfl (by decide) (by decide) (by decide) (by decide) ?_
  refine Own.arraycopy_ (i := 0) (j := 0) (n := 3) 0 (hw _ (List.mem_of_getElem? (i := 114) rfl)) (hw _ (List.mem_of_getElem? (i := 117) rfl)) (hw _ (List.mem_of_getElem? (i := 115) rfl)) (hw _ (List.mem_of_getElem? (i := 116) rfl)) V_a1 V56 rfl rfl rfl rfl (Nat.le_of_ble_eq_true rfl) (Nat.le_of_ble_eq_true rfl) g_b56 (List.mem_of_getElem? (i := 0) rfl) rfl d20_27 (by decide) rfl (by decide) (fun h57 K57 V57 => ?_)
  have hn := Nat.le_trans hn K57.1
  replace V_a1 := V_a1.keep K57 (ninS ne_a1_b56 nin0)
  clear V56
  replace V57 : Arl Z h57 b56 k56 .byte [(.int x0), (.int x1), (.int x2)] := V57
  have K := K.trans K57 (allS (Or.inr sz_b56) all0)
  refine Own.aload d20_30 rfl rfl ?_
  refine Own.ret_ref (t := (.array .byte)) rfl rfl rfl d20_32 (by decide) (by decide) (fun Sf hSf => ?_)
  exact ⟨b56, k56, rfl, sz_b56, K, V57⟩
def Q_rmRG0_3 (Z : State) (x0 : Int32) (x1 : Int32) (x2 : Int32) (x3 : Int32) (h0 : Heap) (n0 : Nat) (v : Option Value) (h : Heap) (Sf : Addr → Prop) : Prop := ∃ (a : Addr) (ka : ClassId), v = some (.ref a) ∧ h0.size ≤ a ∧ Keep h0 h [] ∧ Arl Z h a ka .byte [(.int x0), (.int x1), (.int x2)]
theorem ef_rmRG0_3 (m : MethodId) (a1 : Addr)  : entryFrame m #[(.ref a1), (.int (0 : Int32)), (.int (3 : Int32))] 3 = mkF m 0 #[.val (.ref a1), .val (.int (0 : Int32)), .val (.int (3 : Int32))] [] := by first | (simp [entryFrame, mkF, argsToLocals, Value.category]; done) | rfl
set_option maxRecDepth 65536 in
set_option maxHeartbeats 40000000 in
theorem rmRG0_3 (l : Launch) (Z : State) (a0 : Array Value) (hw : ∀ d ∈ tables_1, d.before a0 Z = true) (ws : List Jvm.Cond) (a1 : Addr) (ka : ClassId) (x0 : Int32) (x1 : Int32) (x2 : Int32) (x3 : Int32) (h0 : Heap) (n0 : Nat) (hn : n0 ≤ h0.size) (V_a1 : Arl Z h0 a1 ka .byte [(.int x0), (.int x1), (.int x2), (.int x3)]) :
    Met own_EL l Z (⟨"java/util/Arrays", "copyOfRange", "([BII)[B"⟩ : MethodName) jdk_65_method_132_code 3 (some (.array .byte)) ({ frames := 2, cells := 1, slots := 3, locals := 67 } : Room) ws #[(.ref a1), (.int (0 : Int32)), (.int (3 : Int32))] h0 n0 [] (Q_rmRG0_3 Z x0 x1 x2 x3 h0 n0) := by
  refine Met.of pn_19 (fun m => ef_rmRG0_3 m a1) ?_
  have K := Keep.refl h0 []
  refine Own.iloadN d19_0 rfl ?_
  refine Own.if_ne 10 d19_1 (by decide) rfl (fun q => absurd (by decide) q) (fun _ => ?_)
  refine Own.iloadN d19_4 rfl ?_
  refine Own.aloadN d19_5 rfl rfl ?_
  refine Own.arraylength_ (4 : Int32) V_a1 rfl d19_6 ?_
  refine Own.icmp_eq 17 d19_7 (by decide) rfl (fun q => absurd q (by decide)) (fun _ => ?_)
  refine Own.aloadN d19_10 rfl rfl ?_
  refine Own.iloadN d19_11 rfl ?_
  refine Own.iloadN d19_12 rfl ?_
  refine Own.callS_ [(.ref a1), (.int (0 : Int32)), (.int (3 : Int32))] [] 0 (rmRB0_3 l Z a0 hw [] a1 ka x0 x1 x2 x3 h0 n0 hn V_a1) all0 (hw _ (List.mem_of_getElem? (i := 104) rfl)) (hw _ (List.mem_of_getElem? (i := 105) rfl)) (hw _ (List.mem_of_getElem? (i := 102) rfl)) (hw _ (List.mem_of_getElem? (i := 106) rfl)) (by decide) d19_13 pd_15 rfl rfl rfl rfl (by decide) (by decide) (by decide) (by decide) (fun v58 h58 S58 hq58 => ?_)
  obtain ⟨b59, k59, rfl, z59, K59, V59⟩ := hq58
  have g_b59 : n0 ≤ b59 := Nat.le_trans hn z59
  have ne_a1_b59 : a1 ≠ b59 := Nat.ne_of_lt (Nat.lt_of_lt_of_le V_a1.lt z59)
  have ne_b59_a1 := Ne.symm ne_a1_b59
  have sz_b59 : h0.size ≤ b59 := Nat.le_trans K.1 z59
  have hn := Nat.le_trans hn K59.1
  replace V_a1 := V_a1.keep K59 nin0
  have K := K.trans K59 all0
  refine ⟨[], all0, ?_⟩
  refine OAt.cast (st' := [(.ref b59)]) rfl ?_
  refine Own.ret_ref (t := (.array .byte)) rfl rfl rfl d19_16 (by decide) (by decide) (fun Sf hSf => ?_)
  exact ⟨b59, k59, rfl, sz_b59, K, V59⟩
def Q_rmNS0_3 (Z : State) (x0 : Int32) (x1 : Int32) (x2 : Int32) (x3 : Int32) (h0 : Heap) (n0 : Nat) (v : Option Value) (h : Heap) (Sf : Addr → Prop) : Prop := Keep h0 h [] ∧ ∃ (a b : Addr) (kb : ClassId), v = some (.ref a) ∧ Exa Z h a "java/lang/String" ∧ Fld Z h a "java/lang/String" "value" "[B" (.ref b) ∧ Fld Z h a "java/lang/String" "coder" "B" (.int (0 : Int32)) ∧ Arl Z h b kb .byte [(.int x0), (.int x1), (.int x2)]
theorem ef_rmNS0_3 (m : MethodId) (a1 : Addr)  : entryFrame m #[(.ref a1), (.int (0 : Int32)), (.int (3 : Int32))] 3 = mkF m 0 #[.val (.ref a1), .val (.int (0 : Int32)), .val (.int (3 : Int32))] [] := by first | (simp [entryFrame, mkF, argsToLocals, Value.category]; done) | rfl
set_option maxRecDepth 65536 in
set_option maxHeartbeats 40000000 in
theorem rmNS0_3 (l : Launch) (Z : State) (a0 : Array Value) (hw : ∀ d ∈ tables_1, d.before a0 Z = true) (ws : List Jvm.Cond) (a1 : Addr) (ka : ClassId) (x0 : Int32) (x1 : Int32) (x2 : Int32) (x3 : Int32) (h0 : Heap) (n0 : Nat) (hn : n0 ≤ h0.size) (V_a1 : Arl Z h0 a1 ka .byte [(.int x0), (.int x1), (.int x2), (.int x3)]) :
    Met own_EL l Z (⟨"java/lang/StringLatin1", "newString", "([BII)Ljava/lang/String;"⟩ : MethodName) jdk_43_method_47_code 3 (some (.object "java/lang/String")) ({ frames := 5, cells := 3, slots := 16, locals := 90 } : Room) ws #[(.ref a1), (.int (0 : Int32)), (.int (3 : Int32))] h0 n0 [] (Q_rmNS0_3 Z x0 x1 x2 x3 h0 n0) := by
  refine Met.of pn_17 (fun m => ef_rmNS0_3 m a1) ?_
  have K := Keep.refl h0 []
  refine Own.iloadN d17_0 rfl ?_
  refine Own.if_ne 7 d17_1 (by decide) rfl (fun _ => ?_) (fun q => absurd q (by decide))
  refine Own.new_ (hw _ (List.mem_of_getElem? (i := 99) rfl)) (hw _ (List.mem_of_getElem? (i := 2) rfl)) (hw _ (List.mem_of_getElem? (i := 3) rfl)) d17_7 (by decide) (by decide) (fun h60 b60 gb60 E60 X60 D60 => ?_)
  have g_b60 : n0 ≤ b60 := by rw [gb60]; exact hn
  have ne_a1_b60 : a1 ≠ b60 := fun q => Nat.ne_of_lt V_a1.lt (q.trans gb60)
  have ne_b60_a1 := Ne.symm ne_a1_b60
  have hn := Nat.le_trans hn E60.1
  replace V_a1 := V_a1.ext E60
  have X_b60 := X60
  have F_coder_b60 : Fld Z h60 b60 "java/lang/String" "coder" "B" (.int (0 : Int32)) := D60 (Or.inr (hw _ (List.mem_of_getElem? (i := 27) rfl))) (ty := .byte) (by decide)
  have F_value_b60 : Fld Z h60 b60 "java/lang/String" "value" "[B" .null := D60 (Or.inr (hw _ (List.mem_of_getElem? (i := 29) rfl))) (ty := (.array .byte)) (by decide)
  have sz_b60 : h0.size ≤ b60 := by rw [gb60]; exact K.1
  have K := K.ext E60
  refine Own.dup d17_10 rfl ?_
  refine Own.aloadN d17_11 rfl rfl ?_
  refine Own.iloadN d17_12 rfl ?_
  refine Own.iloadN d17_13 rfl ?_
  refine Own.iloadN d17_14 rfl ?_
  refine Own.iadd d17_15 ?_
  refine OAt.cast (st' := [(.int (3 : Int32)), (.int (0 : Int32)), (.ref a1), (.ref b60), (.ref b60)]) rfl ?_
  refine Own.callS_ [(.ref a1), (.int (0 : Int32)), (.int (3 : Int32))] [(.ref b60), (.ref b60)] 2 (rmRG0_3 l Z a0 hw [] a1 ka x0 x1 x2 x3 h60 n0 hn V_a1) all0 (hw _ (List.mem_of_getElem? (i := 100) rfl)) (hw _ (List.mem_of_getElem? (i := 101) rfl)) (hw _ (List.mem_of_getElem? (i := 102) rfl)) (hw _ (List.mem_of_getElem? (i := 103) rfl)) (by decide) d17_16 pd_15 rfl rfl rfl rfl (by decide) (by decide) (by decide) (by decide) (fun v61 h61 S61 hq61 => ?_)
  obtain ⟨b62, k62, rfl, z62, K62, V62⟩ := hq61
  have g_b62 : n0 ≤ b62 := Nat.le_trans hn z62
  have ne_a1_b62 : a1 ≠ b62 := Nat.ne_of_lt (Nat.lt_of_lt_of_le V_a1.lt z62)
  have ne_b62_a1 := Ne.symm ne_a1_b62
  have ne_b60_b62 : b60 ≠ b62 := Nat.ne_of_lt (Nat.lt_of_lt_of_le X_b60.lt z62)
  have ne_b62_b60 := Ne.symm ne_b60_b62
  have sz_b62 : h0.size ≤ b62 := Nat.le_trans K.1 z62
  have hn := Nat.le_trans hn K62.1
  replace V_a1 := V_a1.keep K62 nin0
  replace X_b60 := X_b60.keep K62
  replace F_coder_b60 := F_coder_b60.keep K62 nin0
  replace F_value_b60 := F_value_b60.keep K62 nin0
  have K := K.trans K62 all0
  refine ⟨[], all0, ?_⟩
  refine OAt.cast (st' := [(.ref b62), (.ref b60), (.ref b60)]) rfl ?_
  refine Own.iconst (0 : Int32) d17_19 rfl ?_
  refine Own.callI_ b60 [(.ref b62), (.int (0 : Int32))] [(.ref b60)] 1 (rmBB l Z a0 hw [] b60 b62 h61 n0 hn X_b60 g_b60 F_value_b60 F_coder_b60) (allS (List.mem_of_getElem? (i := 0) rfl) all0) (hw _ (List.mem_of_getElem? (i := 118) rfl)) (hw _ (List.mem_of_getElem? (i := 119) rfl)) (hw _ (List.mem_of_getElem? (i := 3) rfl)) (hw _ (List.mem_of_getElem? (i := 120) rfl)) rfl (by decide) d17_20 pd_12 rfl rfl rfl rfl (by decide) (by decide) (by decide) (by decide) (fun v63 h63 S63 hq63 => ?_)
  obtain ⟨rfl, K64, G1, G2⟩ := hq63
  have hn := Nat.le_trans hn K64.1
  replace V_a1 := V_a1.keep K64 (ninS ne_a1_b60 nin0)
  replace X_b60 := X_b60.keep K64
  replace V62 := V62.keep K64 (ninS ne_b62_b60 nin0)
  have K := K.trans K64 (allS (Or.inr sz_b60) all0)
  have F_value_b60 := G1
  have F_coder_b60 := G2
  refine ⟨[], all0, ?_⟩
  refine OAt.cast (st' := [(.ref b60)]) rfl ?_
  refine Own.ret_ref (t := (.object "java/lang/String")) rfl rfl rfl d17_23 (by decide) (by decide) (fun Sf hSf => ?_)
  exact ⟨K, b60, b62, k62, rfl, X_b60, F_value_b60, F_coder_b60, V62⟩
def Q_rmSub0_3 (Z : State) (a1 : Addr) (b : Addr) (kb : ClassId) (zc : Int32) (vf : Value) (x0 : Int32) (x1 : Int32) (x2 : Int32) (x3 : Int32) (h0 : Heap) (n0 : Nat) (v : Option Value) (h : Heap) (Sf : Addr → Prop) : Prop := Keep h0 h [] ∧ ∃ (a b : Addr) (kb : ClassId), v = some (.ref a) ∧ Exa Z h a "java/lang/String" ∧ Fld Z h a "java/lang/String" "value" "[B" (.ref b) ∧ Fld Z h a "java/lang/String" "coder" "B" (.int (0 : Int32)) ∧ Arl Z h b kb .byte [(.int x0), (.int x1), (.int x2)]
theorem ef_rmSub0_3 (m : MethodId) (a1 : Addr)  : entryFrame m #[(.ref a1), (.int (0 : Int32)), (.int (3 : Int32))] 5 = mkF m 0 #[.val (.ref a1), .val (.int (0 : Int32)), .val (.int (3 : Int32)), .unset, .unset] [] := by first | (simp [entryFrame, mkF, argsToLocals, Value.category]; done) | rfl
set_option maxRecDepth 65536 in
set_option maxHeartbeats 40000000 in
theorem rmSub0_3 (l : Launch) (Z : State) (a0 : Array Value) (hw : ∀ d ∈ tables_1, d.before a0 Z = true) (ws : List Jvm.Cond) (a1 : Addr) (b : Addr) (kb : ClassId) (zc : Int32) (vf : Value) (x0 : Int32) (x1 : Int32) (x2 : Int32) (x3 : Int32) (h0 : Heap) (n0 : Nat) (hn : n0 ≤ h0.size) (X_a1 : Exa Z h0 a1 "java/lang/String") (F_value_a1 : Fld Z h0 a1 "java/lang/String" "value" "[B" (.ref b)) (F_coder_a1 : Fld Z h0 a1 "java/lang/String" "coder" "B" (.int (0 : Int32))) (V_b : Arl Z h0 b kb .byte [(.int x0), (.int x1), (.int x2), (.int x3)]) (S_C : Sta Z h0 "java/lang/String" "COMPACT_STRINGS" "Z" (.int zc)) (S_F : Sta Z h0 "jdk/internal/util/Preconditions" "SIOOBE_FORMATTER" "Ljava/util/function/BiFunction;" vf) (hz : ¬ zc = 0) (hvf : vf.isRef = true) :
    Met own_EL l Z (⟨"java/lang/String", "substring", "(II)Ljava/lang/String;"⟩ : MethodName) jdk_42_method_92_code 5 (some (.object "java/lang/String")) ({ frames := 6, cells := 3, slots := 16, locals := 110 } : Room) ws #[(.ref a1), (.int (0 : Int32)), (.int (3 : Int32))] h0 n0 [] (Q_rmSub0_3 Z a1 b kb zc vf x0 x1 x2 x3 h0 n0) := by
  refine Met.of pn_11 (fun m => ef_rmSub0_3 m a1) ?_
  have K := Keep.refl h0 []
  refine Own.aloadN d11_0 rfl rfl ?_
  refine Own.callVP a1 [] [] 0 (rm_len_4 l Z a0 hw [] a1 b kb _ zc h0 n0 hn X_a1 F_value_a1 F_coder_a1 V_b rfl S_C hz) (hw _ (List.mem_of_getElem? (i := 64) rfl)) (hw _ (List.mem_of_getElem? (i := 65) rfl)) (fun s hZ => notFace_of_selects (args := #[]) (mvT hZ (hw _ (List.mem_of_getElem? (i := 67) rfl)))) (hw _ (List.mem_of_getElem? (i := 67) rfl)) (hw _ (List.mem_of_getElem? (i := 66) rfl)) (hw _ (List.mem_of_getElem? (i := 3) rfl)) (hw _ (List.mem_of_getElem? (i := 68) rfl)) (by decide) X_a1 d11_1 pd_1 rfl rfl rfl rfl (by decide) (by decide) (by decide) (by decide) ?_
  refine Own.istoreN #[.val (.ref a1), .val (.int (0 : Int32)), .val (.int (3 : Int32)), .val (.int (4 : Int32)), .unset] d11_4 rfl ?_
  refine Own.iloadN d11_5 rfl ?_
  refine Own.iloadN d11_6 rfl ?_
  refine Own.iloadN d11_7 rfl ?_
  refine Own.callS0 [(.int (0 : Int32)), (.int (3 : Int32)), (.int (4 : Int32))] [] 0 (rmCB0_3 l Z a0 hw [] vf h0 n0 hn S_F hvf) (hw _ (List.mem_of_getElem? (i := 74) rfl)) (hw _ (List.mem_of_getElem? (i := 75) rfl)) (hw _ (List.mem_of_getElem? (i := 3) rfl)) (hw _ (List.mem_of_getElem? (i := 76) rfl)) (by decide) d11_8 pd_8 rfl rfl rfl rfl (by decide) (by decide) (by decide) (by decide) ?_
  refine Own.iloadN d11_11 rfl ?_
  refine Own.if_ne 22 d11_12 (by decide) rfl (fun q => absurd (by decide) q) (fun _ => ?_)
  refine Own.iloadN d11_15 rfl ?_
  refine Own.iloadN d11_16 rfl ?_
  refine Own.icmp_ne 22 d11_17 (by decide) rfl (fun _ => ?_) (fun q => absurd q (by decide))
  refine Own.iloadN d11_22 rfl ?_
  refine Own.iloadN d11_23 rfl ?_
  refine Own.isub d11_24 ?_
  refine OAt.cast (st' := [(.int (3 : Int32))]) rfl ?_
  refine Own.istore #[.val (.ref a1), .val (.int (0 : Int32)), .val (.int (3 : Int32)), .val (.int (4 : Int32)), .val (.int (3 : Int32))] d11_25 rfl ?_
  refine Own.aloadN d11_27 rfl rfl ?_
  refine Own.callVP a1 [] [] 0 (rm_lat_4 l Z a0 hw [] a1 b kb _ zc h0 n0 hn X_a1 F_value_a1 F_coder_a1 V_b rfl S_C hz) (hw _ (List.mem_of_getElem? (i := 82) rfl)) (hw _ (List.mem_of_getElem? (i := 83) rfl)) (fun s hZ => notFace_of_selects (args := #[]) (mvT hZ (hw _ (List.mem_of_getElem? (i := 85) rfl)))) (hw _ (List.mem_of_getElem? (i := 85) rfl)) (hw _ (List.mem_of_getElem? (i := 84) rfl)) (hw _ (List.mem_of_getElem? (i := 3) rfl)) (hw _ (List.mem_of_getElem? (i := 86) rfl)) (by decide) X_a1 d11_28 pd_4 rfl rfl rfl rfl (by decide) (by decide) (by decide) (by decide) ?_
  refine Own.if_eq 47 d11_31 (by decide) rfl (fun q => absurd q (by decide)) (fun _ => ?_)
  refine Own.aloadN d11_34 rfl rfl ?_
  refine Own.getF_ (host := "") (Or.inl (hw _ (List.mem_of_getElem? (i := 28) rfl))) Via.refl F_value_a1 d11_35 ?_
  refine Own.iloadN d11_38 rfl ?_
  refine Own.iload d11_39 rfl ?_
  refine Own.callS_ [(.ref b), (.int (0 : Int32)), (.int (3 : Int32))] [] 0 (rmNS0_3 l Z a0 hw [] b kb x0 x1 x2 x3 h0 n0 hn V_b) all0 (hw _ (List.mem_of_getElem? (i := 87) rfl)) (hw _ (List.mem_of_getElem? (i := 88) rfl)) (hw _ (List.mem_of_getElem? (i := 89) rfl)) (hw _ (List.mem_of_getElem? (i := 90) rfl)) (by decide) d11_41 pd_14 rfl rfl rfl rfl (by decide) (by decide) (by decide) (by decide) (fun v65 h65 S65 hq65 => ?_)
  obtain ⟨K66, s66, t66, kt66, rfl, X_s66, F_value_s66, F_coder_s66, V_t66⟩ := hq65
  have hn := Nat.le_trans hn K66.1
  replace S_C := sta_keep S_C K66 ns0
  replace S_F := sta_keep S_F K66 ns0
  replace X_a1 := X_a1.keep K66
  replace F_value_a1 := F_value_a1.keep K66 nin0
  replace F_coder_a1 := F_coder_a1.keep K66 nin0
  replace V_b := V_b.keep K66 nin0
  have K := K.trans K66 all0
  refine ⟨[], all0, ?_⟩
  refine OAt.cast (st' := [(.ref s66)]) rfl ?_
  refine Own.goto_ 57 d11_44 (by decide) rfl ?_
  refine Own.ret_ref (t := (.object "java/lang/String")) rfl rfl rfl d11_57 (by decide) (by decide) (fun Sf hSf => ?_)
  exact ⟨K, s66, t66, kt66, rfl, X_s66, F_value_s66, F_coder_s66, V_t66⟩
def Q_rmCut0_3 (Z : State) (x0 : Int32) (x1 : Int32) (x2 : Int32) (x3 : Int32) (h0 : Heap) (n0 : Nat) (v : Option Value) (h : Heap) (Sf : Addr → Prop) : Prop := Keep h0 h [] ∧ ∃ (a b : Addr) (kb : ClassId), v = some (.ref a) ∧ Exa Z h a "java/lang/String" ∧ Fld Z h a "java/lang/String" "value" "[B" (.ref b) ∧ Fld Z h a "java/lang/String" "coder" "B" (.int (0 : Int32)) ∧ Arl Z h b kb .byte [(.int x0), (.int x1), (.int x2)]
theorem ef_rmCut0_3 (m : MethodId) (a1 : Addr)  : entryFrame m #[(.ref a1)] 1 = mkF m 0 #[.val (.ref a1)] [] := by first | (simp [entryFrame, mkF, argsToLocals, Value.category]; done) | rfl
set_option maxRecDepth 65536 in
set_option maxHeartbeats 40000000 in
theorem rmCut0_3 (l : Launch) (Z : State) (a0 : Array Value) (hw : ∀ d ∈ tables_1, d.before a0 Z = true) (ws : List Jvm.Cond) (a1 : Addr) (a2 : Addr) (b : Addr) (kb : ClassId) (zc : Int32) (vf : Value) (x0 : Int32) (x1 : Int32) (x2 : Int32) (x3 : Int32) (h0 : Heap) (n0 : Nat) (hn : n0 ≤ h0.size) (X_a2 : Exa Z h0 a2 "java/lang/String") (F_value_a2 : Fld Z h0 a2 "java/lang/String" "value" "[B" (.ref b)) (F_coder_a2 : Fld Z h0 a2 "java/lang/String" "coder" "B" (.int (0 : Int32))) (V_b : Arl Z h0 b kb .byte [(.int x0), (.int x1), (.int x2), (.int x3)]) (S_C : Sta Z h0 "java/lang/String" "COMPACT_STRINGS" "Z" (.int zc)) (S_F : Sta Z h0 "jdk/internal/util/Preconditions" "SIOOBE_FORMATTER" "Ljava/util/function/BiFunction;" vf) (hz : ¬ zc = 0) (hvf : vf.isRef = true) (F_text_a1 : Fld Z h0 a1 "com/example/cytorelay/cytorelay/core/Hl7Syntax$Span" "text" "Ljava/lang/String;" (.ref a2)) (F_from_a1 : Fld Z h0 a1 "com/example/cytorelay/cytorelay/core/Hl7Syntax$Span" "from" "I" (.int (0 : Int32))) (F_to_a1 : Fld Z h0 a1 "com/example/cytorelay/cytorelay/core/Hl7Syntax$Span" "to" "I" (.int (3 : Int32))) :
    Met own_EL l Z (⟨"com/example/cytorelay/cytorelay/core/Hl7Syntax$Span", "cut", "()Ljava/lang/String;"⟩ : MethodName) prog_32_method_4_code 1 (some (.object "java/lang/String")) ({ frames := 7, cells := 3, slots := 16, locals := 130 } : Room) ws #[(.ref a1)] h0 n0 [] (Q_rmCut0_3 Z x0 x1 x2 x3 h0 n0) := by
  refine Met.of pn_10 (fun m => ef_rmCut0_3 m a1) ?_
  have K := Keep.refl h0 []
  refine Own.aloadN d10_0 rfl rfl ?_
  refine Own.getF_ (host := "") (Or.inl (hw _ (List.mem_of_getElem? (i := 43) rfl))) Via.refl F_text_a1 d10_1 ?_
  refine Own.aloadN d10_4 rfl rfl ?_
  refine Own.getF_ (host := "") (Or.inl (hw _ (List.mem_of_getElem? (i := 45) rfl))) Via.refl F_from_a1 d10_5 ?_
  refine Own.aloadN d10_8 rfl rfl ?_
  refine Own.getF_ (host := "") (Or.inl (hw _ (List.mem_of_getElem? (i := 47) rfl))) Via.refl F_to_a1 d10_9 ?_
  refine Own.callV_ a2 [(.int (0 : Int32)), (.int (3 : Int32))] [] 0 (rmSub0_3 l Z a0 hw [] a2 b kb zc vf x0 x1 x2 x3 h0 n0 hn X_a2 F_value_a2 F_coder_a2 V_b S_C S_F hz hvf) all0 (hw _ (List.mem_of_getElem? (i := 59) rfl)) (hw _ (List.mem_of_getElem? (i := 60) rfl)) (fun s hZ => notFace_of_selects (args := #[]) (mvT hZ (hw _ (List.mem_of_getElem? (i := 62) rfl)))) (hw _ (List.mem_of_getElem? (i := 62) rfl)) (hw _ (List.mem_of_getElem? (i := 61) rfl)) (hw _ (List.mem_of_getElem? (i := 3) rfl)) (hw _ (List.mem_of_getElem? (i := 63) rfl)) (by decide) X_a2 d10_12 pd_6 rfl rfl rfl rfl (by decide) (by decide) (by decide) (by decide) (fun v67 h67 S67 hq67 => ?_)
  obtain ⟨K68, s68, t68, kt68, rfl, X_s68, F_value_s68, F_coder_s68, V_t68⟩ := hq67
  have hn := Nat.le_trans hn K68.1
  replace S_C := sta_keep S_C K68 ns0
  replace S_F := sta_keep S_F K68 ns0
  replace X_a2 := X_a2.keep K68
  replace F_value_a2 := F_value_a2.keep K68 nin0
  replace F_coder_a2 := F_coder_a2.keep K68 nin0
  replace V_b := V_b.keep K68 nin0
  replace F_text_a1 := F_text_a1.keep K68 nin0
  replace F_from_a1 := F_from_a1.keep K68 nin0
  replace F_to_a1 := F_to_a1.keep K68 nin0
  have K := K.trans K68 all0
  refine ⟨[], all0, ?_⟩
  refine OAt.cast (st' := [(.ref s68)]) rfl ?_
  refine Own.ret_ref (t := (.object "java/lang/String")) rfl rfl rfl d10_15 (by decide) (by decide) (fun Sf hSf => ?_)
  exact ⟨K, s68, t68, kt68, rfl, X_s68, F_value_s68, F_coder_s68, V_t68⟩
theorem ef_rmSE0_4 (m : MethodId) (a1 : Addr)  : entryFrame m #[(.ref a1)] 1 = mkF m 0 #[.val (.ref a1)] [] := by first | (simp [entryFrame, mkF, argsToLocals, Value.category]; done) | rfl
set_option maxRecDepth 65536 in
set_option maxHeartbeats 40000000 in
theorem rmSE0_4 (l : Launch) (Z : State) (a0 : Array Value) (hw : ∀ d ∈ tables_1, d.before a0 Z = true) (ws : List Jvm.Cond) (a1 : Addr) (h0 : Heap) (n0 : Nat) (hn : n0 ≤ h0.size) (F_from : Fld Z h0 a1 "com/example/cytorelay/cytorelay/core/Hl7Syntax$Span" "from" "I" (.int (0 : Int32))) (F_to : Fld Z h0 a1 "com/example/cytorelay/cytorelay/core/Hl7Syntax$Span" "to" "I" (.int (4 : Int32))) :
    Met own_EL l Z (⟨"com/example/cytorelay/cytorelay/core/Hl7Syntax$Span", "isEmpty", "()Z"⟩ : MethodName) prog_32_method_3_code 1 (some .boolean) ({ frames := 0, cells := 0, slots := 0, locals := 0 } : Room) ws #[(.ref a1)] h0 n0 [] (Pur (.int (0 : Int32)) h0) := by
  refine Met.of pn_9 (fun m => ef_rmSE0_4 m a1) ?_
  refine Own.aloadN d9_0 rfl rfl ?_
  refine Own.getF_ (host := "") (Or.inl (hw _ (List.mem_of_getElem? (i := 45) rfl))) Via.refl F_from d9_1 ?_
  refine Own.aloadN d9_4 rfl rfl ?_
  refine Own.getF_ (host := "") (Or.inl (hw _ (List.mem_of_getElem? (i := 47) rfl))) Via.refl F_to d9_5 ?_
  refine Own.icmp_ne 15 d9_8 (by decide) rfl (fun _ => ?_) (fun q => absurd q (by decide))
  refine Own.iconst (0 : Int32) d9_15 rfl ?_
  refine Own.ret_nar (t := .boolean) (by simp) rfl d9_16 (by decide) (by decide) (fun Sf hSf => ?_)
  exact ⟨rfl, rfl⟩
theorem ef_rmPF0_4 (m : MethodId) (vf : Value) (hr_3 : (vf).isRef = true) : entryFrame m #[(.int (0 : Int32)), (.int (4 : Int32)), (.int (4 : Int32)), vf] 4 = mkF m 0 #[.val (.int (0 : Int32)), .val (.int (4 : Int32)), .val (.int (4 : Int32)), .val vf] [] := by rcases ref_cases hr_3 with rfl | ⟨z3, rfl⟩ <;> first | (simp [entryFrame, mkF, argsToLocals, Value.category]; done) | rfl
set_option maxRecDepth 65536 in
set_option maxHeartbeats 40000000 in
theorem rmPF0_4 (l : Launch) (Z : State) (a0 : Array Value) (hw : ∀ d ∈ tables_1, d.before a0 Z = true) (ws : List Jvm.Cond) (vf : Value) (h0 : Heap) (n0 : Nat) (hn : n0 ≤ h0.size) (hvf : vf.isRef = true) :
    Met own_EL l Z (⟨"jdk/internal/util/Preconditions", "checkFromToIndex", "(IIILjava/util/function/BiFunction;)I"⟩ : MethodName) jdk_41_method_12_code 4 (some .int) ({ frames := 0, cells := 0, slots := 0, locals := 0 } : Room) ws #[(.int (0 : Int32)), (.int (4 : Int32)), (.int (4 : Int32)), vf] h0 n0 [] (Pur (.int (0 : Int32)) h0) := by
  refine Met.of pn_15 (fun m => ef_rmPF0_4 m vf hvf) ?_
  refine Own.iloadN d15_0 rfl ?_
  refine Own.if_lt 14 d15_1 (by decide) rfl (fun q => absurd q (by decide)) (fun _ => ?_)
  refine Own.iloadN d15_4 rfl ?_
  refine Own.iloadN d15_5 rfl ?_
  refine Own.icmp_gt 14 d15_6 (by decide) rfl (fun q => absurd q (by decide)) (fun _ => ?_)
  refine Own.iloadN d15_9 rfl ?_
  refine Own.iloadN d15_10 rfl ?_
  refine Own.icmp_le 22 d15_11 (by decide) rfl (fun _ => ?_) (fun q => absurd q (by decide))
  refine Own.iloadN d15_22 rfl ?_
  refine Own.ret_int rfl d15_23 (by decide) (by decide) (fun Sf hSf => ?_)
  exact ⟨rfl, rfl⟩
theorem ef_rmCB0_4 (m : MethodId)   : entryFrame m #[(.int (0 : Int32)), (.int (4 : Int32)), (.int (4 : Int32))] 3 = mkF m 0 #[.val (.int (0 : Int32)), .val (.int (4 : Int32)), .val (.int (4 : Int32))] [] := by first | (simp [entryFrame, mkF, argsToLocals, Value.category]; done) | rfl
set_option maxRecDepth 65536 in
set_option maxHeartbeats 40000000 in
theorem rmCB0_4 (l : Launch) (Z : State) (a0 : Array Value) (hw : ∀ d ∈ tables_1, d.before a0 Z = true) (ws : List Jvm.Cond) (vf : Value) (h0 : Heap) (n0 : Nat) (hn : n0 ≤ h0.size) (S_F : Sta Z h0 "jdk/internal/util/Preconditions" "SIOOBE_FORMATTER" "Ljava/util/function/BiFunction;" vf) (hvf : vf.isRef = true) :
    Met own_EL l Z (⟨"java/lang/String", "checkBoundsBeginEnd", "(III)V"⟩ : MethodName) jdk_42_method_158_code 3 none ({ frames := 1, cells := 0, slots := 0, locals := 15 } : Room) ws #[(.int (0 : Int32)), (.int (4 : Int32)), (.int (4 : Int32))] h0 n0 [] (Pur0 h0) := by
  refine Met.of pn_14 (fun m => ef_rmCB0_4 m ) ?_
  refine Own.iloadN d14_0 rfl ?_
  refine Own.iloadN d14_1 rfl ?_
  refine Own.iloadN d14_2 rfl ?_
  refine Own.getS_ (host := "") (Or.inl (hw _ (List.mem_of_getElem? (i := 77) rfl))) Via.refl S_F d14_3 ?_
  refine Own.callSP [(.int (0 : Int32)), (.int (4 : Int32)), (.int (4 : Int32)), vf] [] 0 (rmPF0_4 l Z a0 hw [] vf h0 n0 hn hvf) (hw _ (List.mem_of_getElem? (i := 79) rfl)) (hw _ (List.mem_of_getElem? (i := 80) rfl)) (hw _ (List.mem_of_getElem? (i := 78) rfl)) (hw _ (List.mem_of_getElem? (i := 81) rfl)) (by decide) d14_6 pd_9 rfl rfl rfl rfl (by decide) (by decide) (by decide) (by decide) ?_
  refine Own.pop d14_9 rfl ?_
  refine Own.ret_void rfl d14_10 (by decide) (by decide) (fun Sf hSf => ?_)
  exact ⟨rfl, rfl⟩
theorem d11_20 : decode jdk_42_method_92_code 20 = .ok (.aload_n 0, 1) := by decide +kernel
theorem d11_21 : decode jdk_42_method_92_code 21 = .ok (.areturn, 1) := by decide +kernel
def Q_rmSub0_4 (Z : State) (a1 : Addr) (b : Addr) (kb : ClassId) (zc : Int32) (vf : Value) (x0 : Int32) (x1 : Int32) (x2 : Int32) (x3 : Int32) (h0 : Heap) (n0 : Nat) (v : Option Value) (h : Heap) (Sf : Addr → Prop) : Prop := Keep h0 h [] ∧ ∃ (a b : Addr) (kb : ClassId), v = some (.ref a) ∧ Exa Z h a "java/lang/String" ∧ Fld Z h a "java/lang/String" "value" "[B" (.ref b) ∧ Fld Z h a "java/lang/String" "coder" "B" (.int (0 : Int32)) ∧ Arl Z h b kb .byte [(.int x0), (.int x1), (.int x2), (.int x3)]
theorem ef_rmSub0_4 (m : MethodId) (a1 : Addr)  : entryFrame m #[(.ref a1), (.int (0 : Int32)), (.int (4 : Int32))] 5 = mkF m 0 #[.val (.ref a1), .val (.int (0 : Int32)), .val (.int (4 : Int32)), .unset, .unset] [] := by first | (simp [entryFrame, mkF, argsToLocals, Value.category]; done) | rfl
set_option maxRecDepth 65536 in
set_option maxHeartbeats 40000000 in
theorem rmSub0_4 (l : Launch) (Z : State) (a0 : Array Value) (hw : ∀ d ∈ tables_1, d.before a0 Z = true) (ws : List Jvm.Cond) (a1 : Addr) (b : Addr) (kb : ClassId) (zc : Int32) (vf : Value) (x0 : Int32) (x1 : Int32) (x2 : Int32) (x3 : Int32) (h0 : Heap) (n0 : Nat) (hn : n0 ≤ h0.size) (X_a1 : Exa Z h0 a1 "java/lang/String") (F_value_a1 : Fld Z h0 a1 "java/lang/String" "value" "[B" (.ref b)) (F_coder_a1 : Fld Z h0 a1 "java/lang/String" "coder" "B" (.int (0 : Int32))) (V_b : Arl Z h0 b kb .byte [(.int x0), (.int x1), (.int x2), (.int x3)]) (S_C : Sta Z h0 "java/lang/String" "COMPACT_STRINGS" "Z" (.int zc)) (S_F : Sta Z h0 "jdk/internal/util/Preconditions" "SIOOBE_FORMATTER" "Ljava/util/function/BiFunction;" vf) (hz : ¬ zc = 0) (hvf : vf.isRef = true) :
    Met own_EL l Z (⟨"java/lang/String", "substring", "(II)Ljava/lang/String;"⟩ : MethodName) jdk_42_method_92_code 5 (some (.object "java/lang/String")) ({ frames := 6, cells := 3, slots := 16, locals := 110 } : Room) ws #[(.ref a1), (.int (0 : Int32)), (.int (4 : Int32))] h0 n0 [] (Q_rmSub0_4 Z a1 b kb zc vf x0 x1 x2 x3 h0 n0) := by
  refine Met.of pn_11 (fun m => ef_rmSub0_4 m a1) ?_
  have K := Keep.refl h0 []
  refine Own.aloadN d11_0 rfl rfl ?_
  refine Own.callVP a1 [] [] 0 (rm_len_4 l Z a0 hw [] a1 b kb _ zc h0 n0 hn X_a1 F_value_a1 F_coder_a1 V_b rfl S_C hz) (hw _ (List.mem_of_getElem? (i := 64) rfl)) (hw _ (List.mem_of_getElem? (i := 65) rfl)) (fun s hZ => notFace_of_selects (args := #[]) (mvT hZ (hw _ (List.mem_of_getElem? (i := 67) rfl)))) (hw _ (List.mem_of_getElem? (i := 67) rfl)) (hw _ (List.mem_of_getElem? (i := 66) rfl)) (hw _ (List.mem_of_getElem? (i := 3) rfl)) (hw _ (List.mem_of_getElem? (i := 68) rfl)) (by decide) X_a1 d11_1 pd_1 rfl rfl rfl rfl (by decide) (by decide) (by decide) (by decide) ?_
  refine Own.istoreN #[.val (.ref a1), .val (.int (0 : Int32)), .val (.int (4 : Int32)), .val (.int (4 : Int32)), .unset] d11_4 rfl ?_
  refine Own.iloadN d11_5 rfl ?_
  refine Own.iloadN d11_6 rfl ?_
  refine Own.iloadN d11_7 rfl ?_
  refine Own.callS0 [(.int (0 : Int32)), (.int (4 : Int32)), (.int (4 : Int32))] [] 0 (rmCB0_4 l Z a0 hw [] vf h0 n0 hn S_F hvf) (hw _ (List.mem_of_getElem? (i := 74) rfl)) (hw _ (List.mem_of_getElem? (i := 75) rfl)) (hw _ (List.mem_of_getElem? (i := 3) rfl)) (hw _ (List.mem_of_getElem? (i := 76) rfl)) (by decide) d11_8 pd_8 rfl rfl rfl rfl (by decide) (by decide) (by decide) (by decide) ?_
  refine Own.iloadN d11_11 rfl ?_
  refine Own.if_ne 22 d11_12 (by decide) rfl (fun q => absurd (by decide) q) (fun _ => ?_)
  refine Own.iloadN d11_15 rfl ?_
  refine Own.iloadN d11_16 rfl ?_
  refine Own.icmp_ne 22 d11_17 (by decide) rfl (fun q => absurd (by decide) q) (fun _ => ?_)
  refine Own.aloadN d11_20 rfl rfl ?_
  refine Own.ret_ref (t := (.object "java/lang/String")) rfl rfl rfl d11_21 (by decide) (by decide) (fun Sf hSf => ?_)
  exact ⟨K, a1, b, kb, rfl, X_a1, F_value_a1, F_coder_a1, V_b⟩
def Q_rmCut0_4 (Z : State) (x0 : Int32) (x1 : Int32) (x2 : Int32) (x3 : Int32) (h0 : Heap) (n0 : Nat) (v : Option Value) (h : Heap) (Sf : Addr → Prop) : Prop := Keep h0 h [] ∧ ∃ (a b : Addr) (kb : ClassId), v = some (.ref a) ∧ Exa Z h a "java/lang/String" ∧ Fld Z h a "java/lang/String" "value" "[B" (.ref b) ∧ Fld Z h a "java/lang/String" "coder" "B" (.int (0 : Int32)) ∧ Arl Z h b kb .byte [(.int x0), (.int x1), (.int x2), (.int x3)]
theorem ef_rmCut0_4 (m : MethodId) (a1 : Addr)  : entryFrame m #[(.ref a1)] 1 = mkF m 0 #[.val (.ref a1)] [] := by first | (simp [entryFrame, mkF, argsToLocals, Value.category]; done) | rfl
set_option maxRecDepth 65536 in
set_option maxHeartbeats 40000000 in
theorem rmCut0_4 (l : Launch) (Z : State) (a0 : Array Value) (hw : ∀ d ∈ tables_1, d.before a0 Z = true) (ws : List Jvm.Cond) (a1 : Addr) (a2 : Addr) (b : Addr) (kb : ClassId) (zc : Int32) (vf : Value) (x0 : Int32) (x1 : Int32) (x2 : Int32) (x3 : Int32) (h0 : Heap) (n0 : Nat) (hn : n0 ≤ h0.size) (X_a2 : Exa Z h0 a2 "java/lang/String") (F_value_a2 : Fld Z h0 a2 "java/lang/String" "value" "[B" (.ref b)) (F_coder_a2 : Fld Z h0 a2 "java/lang/String" "coder" "B" (.int (0 : Int32))) (V_b : Arl Z h0 b kb .byte [(.int x0), (.int x1), (.int x2), (.int x3)]) (S_C : Sta Z h0 "java/lang/String" "COMPACT_STRINGS" "Z" (.int zc)) (S_F : Sta Z h0 "jdk/internal/util/Preconditions" "SIOOBE_FORMATTER" "Ljava/util/function/BiFunction;" vf) (hz : ¬ zc = 0) (hvf : vf.isRef = true) (F_text_a1 : Fld Z h0 a1 "com/example/cytorelay/cytorelay/core/Hl7Syntax$Span" "text" "Ljava/lang/String;" (.ref a2)) (F_from_a1 : Fld Z h0 a1 "com/example/cytorelay/cytorelay/core/Hl7Syntax$Span" "from" "I" (.int (0 : Int32))) (F_to_a1 : Fld Z h0 a1 "com/example/cytorelay/cytorelay/core/Hl7Syntax$Span" "to" "I" (.int (4 : Int32))) :
    Met own_EL l Z (⟨"com/example/cytorelay/cytorelay/core/Hl7Syntax$Span", "cut", "()Ljava/lang/String;"⟩ : MethodName) prog_32_method_4_code 1 (some (.object "java/lang/String")) ({ frames := 7, cells := 3, slots := 16, locals := 130 } : Room) ws #[(.ref a1)] h0 n0 [] (Q_rmCut0_4 Z x0 x1 x2 x3 h0 n0) := by
  refine Met.of pn_10 (fun m => ef_rmCut0_4 m a1) ?_
  have K := Keep.refl h0 []
  refine Own.aloadN d10_0 rfl rfl ?_
  refine Own.getF_ (host := "") (Or.inl (hw _ (List.mem_of_getElem? (i := 43) rfl))) Via.refl F_text_a1 d10_1 ?_
  refine Own.aloadN d10_4 rfl rfl ?_
  refine Own.getF_ (host := "") (Or.inl (hw _ (List.mem_of_getElem? (i := 45) rfl))) Via.refl F_from_a1 d10_5 ?_
  refine Own.aloadN d10_8 rfl rfl ?_
  refine Own.getF_ (host := "") (Or.inl (hw _ (List.mem_of_getElem? (i := 47) rfl))) Via.refl F_to_a1 d10_9 ?_
  refine Own.callV_ a2 [(.int (0 : Int32)), (.int (4 : Int32))] [] 0 (rmSub0_4 l Z a0 hw [] a2 b kb zc vf x0 x1 x2 x3 h0 n0 hn X_a2 F_value_a2 F_coder_a2 V_b S_C S_F hz hvf) all0 (hw _ (List.mem_of_getElem? (i := 59) rfl)) (hw _ (List.mem_of_getElem? (i := 60) rfl)) (fun s hZ => notFace_of_selects (args := #[]) (mvT hZ (hw _ (List.mem_of_getElem? (i := 62) rfl)))) (hw _ (List.mem_of_getElem? (i := 62) rfl)) (hw _ (List.mem_of_getElem? (i := 61) rfl)) (hw _ (List.mem_of_getElem? (i := 3) rfl)) (hw _ (List.mem_of_getElem? (i := 63) rfl)) (by decide) X_a2 d10_12 pd_6 rfl rfl rfl rfl (by decide) (by decide) (by decide) (by decide) (fun v69 h69 S69 hq69 => ?_)
  obtain ⟨K70, s70, t70, kt70, rfl, X_s70, F_value_s70, F_coder_s70, V_t70⟩ := hq69
  have hn := Nat.le_trans hn K70.1
  replace S_C := sta_keep S_C K70 ns0
  replace S_F := sta_keep S_F K70 ns0
  replace X_a2 := X_a2.keep K70
  replace F_value_a2 := F_value_a2.keep K70 nin0
  replace F_coder_a2 := F_coder_a2.keep K70 nin0
  replace V_b := V_b.keep K70 nin0
  replace F_text_a1 := F_text_a1.keep K70 nin0
  replace F_from_a1 := F_from_a1.keep K70 nin0
  replace F_to_a1 := F_to_a1.keep K70 nin0
  have K := K.trans K70 all0
  refine ⟨[], all0, ?_⟩
  refine OAt.cast (st' := [(.ref s70)]) rfl ?_
  refine Own.ret_ref (t := (.object "java/lang/String")) rfl rfl rfl d10_15 (by decide) (by decide) (fun Sf hSf => ?_)
  exact ⟨K, s70, t70, kt70, rfl, X_s70, F_value_s70, F_coder_s70, V_t70⟩
theorem ef_rmSE1_1 (m : MethodId) (a1 : Addr)  : entryFrame m #[(.ref a1)] 1 = mkF m 0 #[.val (.ref a1)] [] := by first | (simp [entryFrame, mkF, argsToLocals, Value.category]; done) | rfl
set_option maxRecDepth 65536 in
set_option maxHeartbeats 40000000 in
theorem rmSE1_1 (l : Launch) (Z : State) (a0 : Array Value) (hw : ∀ d ∈ tables_1, d.before a0 Z = true) (ws : List Jvm.Cond) (a1 : Addr) (h0 : Heap) (n0 : Nat) (hn : n0 ≤ h0.size) (F_from : Fld Z h0 a1 "com/example/cytorelay/cytorelay/core/Hl7Syntax$Span" "from" "I" (.int (1 : Int32))) (F_to : Fld Z h0 a1 "com/example/cytorelay/cytorelay/core/Hl7Syntax$Span" "to" "I" (.int (1 : Int32))) :
    Met own_EL l Z (⟨"com/example/cytorelay/cytorelay/core/Hl7Syntax$Span", "isEmpty", "()Z"⟩ : MethodName) prog_32_method_3_code 1 (some .boolean) ({ frames := 0, cells := 0, slots := 0, locals := 0 } : Room) ws #[(.ref a1)] h0 n0 [] (Pur (.int (1 : Int32)) h0) := by
  refine Met.of pn_9 (fun m => ef_rmSE1_1 m a1) ?_
  refine Own.aloadN d9_0 rfl rfl ?_
  refine Own.getF_ (host := "") (Or.inl (hw _ (List.mem_of_getElem? (i := 45) rfl))) Via.refl F_from d9_1 ?_
  refine Own.aloadN d9_4 rfl rfl ?_
  refine Own.getF_ (host := "") (Or.inl (hw _ (List.mem_of_getElem? (i := 47) rfl))) Via.refl F_to d9_5 ?_
  refine Own.icmp_ne 15 d9_8 (by decide) rfl (fun q => absurd (by decide) q) (fun _ => ?_)
  refine Own.iconst (1 : Int32) d9_11 rfl ?_
  refine Own.goto_ 16 d9_12 (by decide) rfl ?_
  refine Own.ret_nar (t := .boolean) (by simp) rfl d9_16 (by decide) (by decide) (fun Sf hSf => ?_)
  exact ⟨rfl, rfl⟩
theorem ef_rmPF1_1 (m : MethodId) (vf : Value) (hr_3 : (vf).isRef = true) : entryFrame m #[(.int (1 : Int32)), (.int (1 : Int32)), (.int (4 : Int32)), vf] 4 = mkF m 0 #[.val (.int (1 : Int32)), .val (.int (1 : Int32)), .val (.int (4 : Int32)), .val vf] [] := by rcases ref_cases hr_3 with rfl | ⟨z3, rfl⟩ <;> first | (simp [entryFrame, mkF, argsToLocals, Value.category]; done) | rfl
set_option maxRecDepth 65536 in
set_option maxHeartbeats 40000000 in
theorem rmPF1_1 (l : Launch) (Z : State) (a0 : Array Value) (hw : ∀ d ∈ tables_1, d.before a0 Z = true) (ws : List Jvm.Cond) (vf : Value) (h0 : Heap) (n0 : Nat) (hn : n0 ≤ h0.size) (hvf : vf.isRef = true) :
    Met own_EL l Z (⟨"jdk/internal/util/Preconditions", "checkFromToIndex", "(IIILjava/util/function/BiFunction;)I"⟩ : MethodName) jdk_41_method_12_code 4 (some .int) ({ frames := 0, cells := 0, slots := 0, locals := 0 } : Room) ws #[(.int (1 : Int32)), (.int (1 : Int32)), (.int (4 : Int32)), vf] h0 n0 [] (Pur (.int (1 : Int32)) h0) := by
  refine Met.of pn_15 (fun m => ef_rmPF1_1 m vf hvf) ?_
  refine Own.iloadN d15_0 rfl ?_
  refine Own.if_lt 14 d15_1 (by decide) rfl (fun q => absurd q (by decide)) (fun _ => ?_)
  refine Own.iloadN d15_4 rfl ?_
  refine Own.iloadN d15_5 rfl ?_
  refine Own.icmp_gt 14 d15_6 (by decide) rfl (fun q => absurd q (by decide)) (fun _ => ?_)
  refine Own.iloadN d15_9 rfl ?_
  refine Own.iloadN d15_10 rfl ?_
  refine Own.icmp_le 22 d15_11 (by decide) rfl (fun _ => ?_) (fun q => absurd q (by decide))
  refine Own.iloadN d15_22 rfl ?_
  refine Own.ret_int rfl d15_23 (by decide) (by decide) (fun Sf hSf => ?_)
  exact ⟨rfl, rfl⟩
theorem ef_rmCB1_1 (m : MethodId)   : entryFrame m #[(.int (1 : Int32)), (.int (1 : Int32)), (.int (4 : Int32))] 3 = mkF m 0 #[.val (.int (1 : Int32)), .val (.int (1 : Int32)), .val (.int (4 : Int32))] [] := by first | (simp [entryFrame, mkF, argsToLocals, Value.category]; done) | rfl
set_option maxRecDepth 65536 in
set_option maxHeartbeats 40000000 in
theorem rmCB1_1 (l : Launch) (Z : State) (a0 : Array Value) (hw : ∀ d ∈ tables_1, d.before a0 Z = true) (ws : List Jvm.Cond) (vf : Value) (h0 : Heap) (n0 : Nat) (hn : n0 ≤ h0.size) (S_F : Sta Z h0 "jdk/internal/util/Preconditions" "SIOOBE_FORMATTER" "Ljava/util/function/BiFunction;" vf) (hvf : vf.isRef = true) :
    Met own_EL l Z (⟨"java/lang/String", "checkBoundsBeginEnd", "(III)V"⟩ : MethodName) jdk_42_method_158_code 3 none ({ frames := 1, cells := 0, slots := 0, locals := 15 } : Room) ws #[(.int (1 : Int32)), (.int (1 : Int32)), (.int (4 : Int32))] h0 n0 [] (Pur0 h0) := by
  refine Met.of pn_14 (fun m => ef_rmCB1_1 m ) ?_
  refine Own.iloadN d14_0 rfl ?_
  refine Own.iloadN d14_1 rfl ?_
  refine Own.iloadN d14_2 rfl ?_
  refine Own.getS_ (host := "") (Or.inl (hw _ (List.mem_of_getElem? (i := 77) rfl))) Via.refl S_F d14_3 ?_
  refine Own.callSP [(.int (1 : Int32)), (.int (1 : Int32)), (.int (4 : Int32)), vf] [] 0 (rmPF1_1 l Z a0 hw [] vf h0 n0 hn hvf) (hw _ (List.mem_of_getElem? (i := 79) rfl)) (hw _ (List.mem_of_getElem? (i := 80) rfl)) (hw _ (List.mem_of_getElem? (i := 78) rfl)) (hw _ (List.mem_of_getElem? (i := 81) rfl)) (by decide) d14_6 pd_9 rfl rfl rfl rfl (by decide) (by decide) (by decide) (by decide) ?_
  refine Own.pop d14_9 rfl ?_
  refine Own.ret_void rfl d14_10 (by decide) (by decide) (fun Sf hSf => ?_)
  exact ⟨rfl, rfl⟩
def Q_rmNS1_1 (Z : State)  (h0 : Heap) (n0 : Nat) (v : Option Value) (h : Heap) (Sf : Addr → Prop) : Prop := Keep h0 h [] ∧ ∃ (a b : Addr) (kb : ClassId), v = some (.ref a) ∧ Exa Z h a "java/lang/String" ∧ Fld Z h a "java/lang/String" "value" "[B" (.ref b) ∧ Fld Z h a "java/lang/String" "coder" "B" (.int (0 : Int32)) ∧ Arl Z h b kb .byte []
theorem ef_rmNS1_1 (m : MethodId) (a1 : Addr)  : entryFrame m #[(.ref a1), (.int (1 : Int32)), (.int (0 : Int32))] 3 = mkF m 0 #[.val (.ref a1), .val (.int (1 : Int32)), .val (.int (0 : Int32))] [] := by first | (simp [entryFrame, mkF, argsToLocals, Value.category]; done) | rfl
set_option maxRecDepth 65536 in
set_option maxHeartbeats 40000000 in
theorem rmNS1_1 (l : Launch) (Z : State) (a0 : Array Value) (hw : ∀ d ∈ tables_1, d.before a0 Z = true) (ws : List Jvm.Cond) (a1 : Addr) (ka : ClassId) (x0 : Int32) (x1 : Int32) (x2 : Int32) (x3 : Int32) (h0 : Heap) (n0 : Nat) (hn : n0 ≤ h0.size) (V_a1 : Arl Z h0 a1 ka .byte [(.int x0), (.int x1), (.int x2), (.int x3)]) :
    Met own_EL l Z (⟨"java/lang/StringLatin1", "newString", "([BII)Ljava/lang/String;"⟩ : MethodName) jdk_43_method_47_code 3 (some (.object "java/lang/String")) ({ frames := 5, cells := 3, slots := 16, locals := 90 } : Room) ws #[(.ref a1), (.int (1 : Int32)), (.int (0 : Int32))] h0 n0 [] (Q_rmNS1_1 Z  h0 n0) := by
  refine Met.of pn_17 (fun m => ef_rmNS1_1 m a1) ?_
  have K := Keep.refl h0 []
  refine Own.iloadN d17_0 rfl ?_
  refine Own.if_ne 7 d17_1 (by decide) rfl (fun q => absurd (by decide) q) (fun _ => ?_)
  refine Own.ldcC_ (vs := []) (z := (0 : Int32)) 0 (hw _ (List.mem_of_getElem? (i := 91) rfl)) (own_wS hw) (List.mem_of_getElem? (i := 0) rfl) (own_EW hw) ⟨by decide, by decide⟩ rfl d17_4 (by decide) (by decide) (by decide) (by decide) (fun h71 b71 t71 kt71 E71 X_b71 F_coder_b71 F_value_b71 V_t71 hne71 => ?_)
  have hn := Nat.le_trans hn E71.1
  replace V_a1 := V_a1.ext E71
  have K := K.ext E71
  refine Own.ret_ref (t := (.object "java/lang/String")) rfl rfl rfl d17_6 (by decide) (by decide) (fun Sf hSf => ?_)
  exact ⟨K, b71, t71, kt71, rfl, X_b71, F_value_b71, F_coder_b71, V_t71⟩
def Q_rmSub1_1 (Z : State) (a1 : Addr) (b : Addr) (kb : ClassId) (zc : Int32) (vf : Value) (x0 : Int32) (x1 : Int32) (x2 : Int32) (x3 : Int32) (h0 : Heap) (n0 : Nat) (v : Option Value) (h : Heap) (Sf : Addr → Prop) : Prop := Keep h0 h [] ∧ ∃ (a b : Addr) (kb : ClassId), v = some (.ref a) ∧ Exa Z h a "java/lang/String" ∧ Fld Z h a "java/lang/String" "value" "[B" (.ref b) ∧ Fld Z h a "java/lang/String" "coder" "B" (.int (0 : Int32)) ∧ Arl Z h b kb .byte []
theorem ef_rmSub1_1 (m : MethodId) (a1 : Addr)  : entryFrame m #[(.ref a1), (.int (1 : Int32)), (.int (1 : Int32))] 5 = mkF m 0 #[.val (.ref a1), .val (.int (1 : Int32)), .val (.int (1 : Int32)), .unset, .unset] [] := by first | (simp [entryFrame, mkF, argsToLocals, Value.category]; done) | rfl
set_option maxRecDepth 65536 in
set_option maxHeartbeats 40000000 in
theorem rmSub1_1 (l : Launch) (Z : State) (a0 : Array Value) (hw : ∀ d ∈ tables_1, d.before a0 Z = true) (ws : List Jvm.Cond) (a1 : Addr) (b : Addr) (kb : ClassId) (zc : Int32) (vf : Value) (x0 : Int32) (x1 : Int32) (x2 : Int32) (x3 : Int32) (h0 : Heap) (n0 : Nat) (hn : n0 ≤ h0.size) (X_a1 : Exa Z h0 a1 "java/lang/String") (F_value_a1 : Fld Z h0 a1 "java/lang/String" "value" "[B" (.ref b)) (F_coder_a1 : Fld Z h0 a1 "java/lang/String" "coder" "B" (.int (0 : Int32))) (V_b : Arl Z h0 b kb .byte [(.int x0), (.int x1), (.int x2), (.int x3)]) (S_C : Sta Z h0 "java/lang/String" "COMPACT_STRINGS" "Z" (.int zc)) (S_F : Sta Z h0 "jdk/internal/util/Preconditions" "SIOOBE_FORMATTER" "Ljava/util/function/BiFunction;" vf) (hz : ¬ zc = 0) (hvf : vf.isRef = true) :
    Met own_EL l Z (⟨"java/lang/String", "substring", "(II)Ljava/lang/String;"⟩ : MethodName) jdk_42_method_92_code 5 (some (.object "java/lang/String")) ({ frames := 6, cells := 3, slots := 16, locals := 110 } : Room) ws #[(.ref a1), (.int (1 : Int32)), (.int (1 : Int32))] h0 n0 [] (Q_rmSub1_1 Z a1 b kb zc vf x0 x1 x2 x3 h0 n0) := by
  refine Met.of pn_11 (fun m => ef_rmSub1_1 m a1) ?_
  have K := Keep.refl h0 []
  refine Own.aloadN d11_0 rfl rfl ?_
  refine Own.callVP a1 [] [] 0 (rm_len_4 l Z a0 hw [] a1 b kb _ zc h0 n0 hn X_a1 F_value_a1 F_coder_a1 V_b rfl S_C hz) (hw _ (List.mem_of_getElem? (i := 64) rfl)) (hw _ (List.mem_of_getElem? (i := 65) rfl)) (fun s hZ => notFace_of_selects (args := #[]) (mvT hZ (hw _ (List.mem_of_getElem? (i := 67) rfl)))) (hw _ (List.mem_of_getElem? (i := 67) rfl)) (hw _ (List.mem_of_getElem? (i := 66) rfl)) (hw _ (List.mem_of_getElem? (i := 3) rfl)) (hw _ (List.mem_of_getElem? (i := 68) rfl)) (by decide) X_a1 d11_1 pd_1 rfl rfl rfl rfl (by decide) (by decide) (by decide) (by decide) ?_
  refine Own.istoreN #[.val (.ref a1), .val (.int (1 : Int32)), .val (.int (1 : Int32)), .val (.int (4 : Int32)), .unset] d11_4 rfl ?_
  refine Own.iloadN d11_5 rfl ?_
  refine Own.iloadN d11_6 rfl ?_
  refine Own.iloadN d11_7 rfl ?_
  refine Own.callS0 [(.int (1 : Int32)), (.int (1 : Int32)), (.int (4 : Int32))] [] 0 (rmCB1_1 l Z a0 hw [] vf h0 n0 hn S_F hvf) (hw _ (List.mem_of_getElem? (i := 74) rfl)) (hw _ (List.mem_of_getElem? (i := 75) rfl)) (hw _ (List.mem_of_getElem? (i := 3) rfl)) (hw _ (List.mem_of_getElem? (i := 76) rfl)) (by decide) d11_8 pd_8 rfl rfl rfl rfl (by decide) (by decide) (by decide) (by decide) ?_
  refine Own.iloadN d11_11 rfl ?_
  refine Own.if_ne 22 d11_12 (by decide) rfl (fun _ => ?_) (fun q => absurd q (by decide))
  refine Own.iloadN d11_22 rfl ?_
  refine Own.iloadN d11_23 rfl ?_
  refine Own.isub d11_24 ?_
  refine OAt.cast (st' := [(.int (0 : Int32))]) rfl ?_
  refine Own.istore #[.val (.ref a1), .val (.int (1 : Int32)), .val (.int (1 : Int32)), .val (.int (4 : Int32)), .val (.int (0 : Int32))] d11_25 rfl ?_
  refine Own.aloadN d11_27 rfl rfl ?_
  refine Own.callVP a1 [] [] 0 (rm_lat_4 l Z a0 hw [] a1 b kb _ zc h0 n0 hn X_a1 F_value_a1 F_coder_a1 V_b rfl S_C hz) (hw _ (List.mem_of_getElem? (i := 82) rfl)) (hw _ (List.mem_of_getElem? (i := 83) rfl)) (fun s hZ => notFace_of_selects (args := #[]) (mvT hZ (hw _ (List.mem_of_getElem? (i := 85) rfl)))) (hw _ (List.mem_of_getElem? (i := 85) rfl)) (hw _ (List.mem_of_getElem? (i := 84) rfl)) (hw _ (List.mem_of_getElem? (i := 3) rfl)) (hw _ (List.mem_of_getElem? (i := 86) rfl)) (by decide) X_a1 d11_28 pd_4 rfl rfl rfl rfl (by decide) (by decide) (by decide) (by decide) ?_
  refine Own.if_eq 47 d11_31 (by decide) rfl (fun q => absurd q (by decide)) (fun _ => ?_)
  refine Own.aloadN d11_34 rfl rfl ?_
  refine Own.getF_ (host := "") (Or.inl (hw _ (List.mem_of_getElem? (i := 28) rfl))) Via.refl F_value_a1 d11_35 ?_
  refine Own.iloadN d11_38 rfl ?_
  refine Own.iload d11_39 rfl ?_
  refine Own.callS_ [(.ref b), (.int (1 : Int32)), (.int (0 : Int32))] [] 0 (rmNS1_1 l Z a0 hw [] b kb x0 x1 x2 x3 h0 n0 hn V_b) all0 (hw _ (List.mem_of_getElem? (i := 87) rfl)) (hw _ (List.mem_of_getElem? (i := 88) rfl)) (hw _ (List.mem_of_getElem? (i := 89) rfl)) (hw _ (List.mem_of_getElem? (i := 90) rfl)) (by decide) d11_41 pd_14 rfl rfl rfl rfl (by decide) (by decide) (by decide) (by decide) (fun v72 h72 S72 hq72 => ?_)
  obtain ⟨K73, s73, t73, kt73, rfl, X_s73, F_value_s73, F_coder_s73, V_t73⟩ := hq72
  have hn := Nat.le_trans hn K73.1
  replace S_C := sta_keep S_C K73 ns0
  replace S_F := sta_keep S_F K73 ns0
  replace X_a1 := X_a1.keep K73
  replace F_value_a1 := F_value_a1.keep K73 nin0
  replace F_coder_a1 := F_coder_a1.keep K73 nin0
  replace V_b := V_b.keep K73 nin0
  have K := K.trans K73 all0
  refine ⟨[], all0, ?_⟩
  refine OAt.cast (st' := [(.ref s73)]) rfl ?_
  refine Own.goto_ 57 d11_44 (by decide) rfl ?_
  refine Own.ret_ref (t := (.object "java/lang/String")) rfl rfl rfl d11_57 (by decide) (by decide) (fun Sf hSf => ?_)
  exact ⟨K, s73, t73, kt73, rfl, X_s73, F_value_s73, F_coder_s73, V_t73⟩
def Q_rmCut1_1 (Z : State) (x0 : Int32) (x1 : Int32) (x2 : Int32) (x3 : Int32) (h0 : Heap) (n0 : Nat) (v : Option Value) (h : Heap) (Sf : Addr → Prop) : Prop := Keep h0 h [] ∧ ∃ (a b : Addr) (kb : ClassId), v = some (.ref a) ∧ Exa Z h a "java/lang/String" ∧ Fld Z h a "java/lang/String" "value" "[B" (.ref b) ∧ Fld Z h a "java/lang/String" "coder" "B" (.int (0 : Int32)) ∧ Arl Z h b kb .byte []
theorem ef_rmCut1_1 (m : MethodId) (a1 : Addr)  : entryFrame m #[(.ref a1)] 1 = mkF m 0 #[.val (.ref a1)] [] := by first | (simp [entryFrame, mkF, argsToLocals, Value.category]; done) | rfl
set_option maxRecDepth 65536 in
set_option maxHeartbeats 40000000 in
theorem rmCut1_1 (l : Launch) (Z : State) (a0 : Array Value) (hw : ∀ d ∈ tables_1, d.before a0 Z = true) (ws : List Jvm.Cond) (a1 : Addr) (a2 : Addr) (b : Addr) (kb : ClassId) (zc : Int32) (vf : Value) (x0 : Int32) (x1 : Int32) (x2 : Int32) (x3 : Int32) (h0 : Heap) (n0 : Nat) (hn : n0 ≤ h0.size) (X_a2 : Exa Z h0 a2 "java/lang/String") (F_value_a2 : Fld Z h0 a2 "java/lang/String" "value" "[B" (.ref b)) (F_coder_a2 : Fld Z h0 a2 "java/lang/String" "coder" "B" (.int (0 : Int32))) (V_b : Arl Z h0 b kb .byte [(.int x0), (.int x1), (.int x2), (.int x3)]) (S_C : Sta Z h0 "java/lang/String" "COMPACT_STRINGS" "Z" (.int zc)) (S_F : Sta Z h0 "jdk/internal/util/Preconditions" "SIOOBE_FORMATTER" "Ljava/util/function/BiFunction;" vf) (hz : ¬ zc = 0) (hvf : vf.isRef = true) (F_text_a1 : Fld Z h0 a1 "com/example/cytorelay/cytorelay/core/Hl7Syntax$Span" "text" "Ljava/lang/String;" (.ref a2)) (F_from_a1 : Fld Z h0 a1 "com/example/cytorelay/cytorelay/core/Hl7Syntax$Span" "from" "I" (.int (1 : Int32))) (F_to_a1 : Fld Z h0 a1 "com/example/cytorelay/cytorelay/core/Hl7Syntax$Span" "to" "I" (.int (1 : Int32))) :
    Met own_EL l Z (⟨"com/example/cytorelay/cytorelay/core/Hl7Syntax$Span", "cut", "()Ljava/lang/String;"⟩ : MethodName) prog_32_method_4_code 1 (some (.object "java/lang/String")) ({ frames := 7, cells := 3, slots := 16, locals := 130 } : Room) ws #[(.ref a1)] h0 n0 [] (Q_rmCut1_1 Z x0 x1 x2 x3 h0 n0) := by
  refine Met.of pn_10 (fun m => ef_rmCut1_1 m a1) ?_
  have K := Keep.refl h0 []
  refine Own.aloadN d10_0 rfl rfl ?_
  refine Own.getF_ (host := "") (Or.inl (hw _ (List.mem_of_getElem? (i := 43) rfl))) Via.refl F_text_a1 d10_1 ?_
  refine Own.aloadN d10_4 rfl rfl ?_
  refine Own.getF_ (host := "") (Or.inl (hw _ (List.mem_of_getElem? (i := 45) rfl))) Via.refl F_from_a1 d10_5 ?_
  refine Own.aloadN d10_8 rfl rfl ?_
  refine Own.getF_ (host := "") (Or.inl (hw _ (List.mem_of_getElem? (i := 47) rfl))) Via.refl F_to_a1 d10_9 ?_
  refine Own.callV_ a2 [(.int (1 : Int32)), (.int (1 : Int32))] [] 0 (rmSub1_1 l Z a0 hw [] a2 b kb zc vf x0 x1 x2 x3 h0 n0 hn X_a2 F_value_a2 F_coder_a2 V_b S_C S_F hz hvf) all0 (hw _ (List.mem_of_getElem? (i := 59) rfl)) (hw _ (List.mem_of_getElem? (i := 60) rfl)) (fun s hZ => notFace_of_selects (args := #[]) (mvT hZ (hw _ (List.mem_of_getElem? (i := 62) rfl)))) (hw _ (List.mem_of_getElem? (i := 62) rfl)) (hw _ (List.mem_of_getElem? (i := 61) rfl)) (hw _ (List.mem_of_getElem? (i := 3) rfl)) (hw _ (List.mem_of_getElem? (i := 63) rfl)) (by decide) X_a2 d10_12 pd_6 rfl rfl rfl rfl (by decide) (by decide) (by decide) (by decide) (fun v74 h74 S74 hq74 => ?_)
  obtain ⟨K75, s75, t75, kt75, rfl, X_s75, F_value_s75, F_coder_s75, V_t75⟩ := hq74
  have hn := Nat.le_trans hn K75.1
  replace S_C := sta_keep S_C K75 ns0
  replace S_F := sta_keep S_F K75 ns0
  replace X_a2 := X_a2.keep K75
  replace F_value_a2 := F_value_a2.keep K75 nin0
  replace F_coder_a2 := F_coder_a2.keep K75 nin0
  replace V_b := V_b.keep K75 nin0
  replace F_text_a1 := F_text_a1.keep K75 nin0
  replace F_from_a1 := F_from_a1.keep K75 nin0
  replace F_to_a1 := F_to_a1.keep K75 nin0
  have K := K.trans K75 all0
  refine ⟨[], all0, ?_⟩
  refine OAt.cast (st' := [(.ref s75)]) rfl ?_
  refine Own.ret_ref (t := (.object "java/lang/String")) rfl rfl rfl d10_15 (by decide) (by decide) (fun Sf hSf => ?_)
  exact ⟨K, s75, t75, kt75, rfl, X_s75, F_value_s75, F_coder_s75, V_t75⟩
theorem ef_rmSE1_2 (m : MethodId) (a1 : Addr)  : entryFrame m #[(.ref a1)] 1 = mkF m 0 #[.val (.ref a1)] [] := by first | (simp [entryFrame, mkF, argsToLocals, Value.category]; done) | rfl
set_option maxRecDepth 65536 in
set_option maxHeartbeats 40000000 in
theorem rmSE1_2 (l : Launch) (Z : State) (a0 : Array Value) (hw : ∀ d ∈ tables_1, d.before a0 Z = true) (ws : List Jvm.Cond) (a1 : Addr) (h0 : Heap) (n0 : Nat) (hn : n0 ≤ h0.size) (F_from : Fld Z h0 a1 "com/example/cytorelay/cytorelay/core/Hl7Syntax$Span" "from" "I" (.int (1 : Int32))) (F_to : Fld Z h0 a1 "com/example/cytorelay/cytorelay/core/Hl7Syntax$Span" "to" "I" (.int (2 : Int32))) :
    Met own_EL l Z (⟨"com/example/cytorelay/cytorelay/core/Hl7Syntax$Span", "isEmpty", "()Z"⟩ : MethodName) prog_32_method_3_code 1 (some .boolean) ({ frames := 0, cells := 0, slots := 0, locals := 0 } : Room) ws #[(.ref a1)] h0 n0 [] (Pur (.int (0 : Int32)) h0) := by
  refine Met.of pn_9 (fun m => ef_rmSE1_2 m a1) ?_
  refine Own.aloadN d9_0 rfl rfl ?_
  refine Own.getF_ (host := "") (Or.inl (hw _ (List.mem_of_getElem? (i := 45) rfl))) Via.refl F_from d9_1 ?_
  refine Own.aloadN d9_4 rfl rfl ?_
  refine Own.getF_ (host := "") (Or.inl (hw _ (List.mem_of_getElem? (i := 47) rfl))) Via.refl F_to d9_5 ?_
  refine Own.icmp_ne 15 d9_8 (by decide) rfl (fun _ => ?_) (fun q => absurd q (by decide))
  refine Own.iconst (0 : Int32) d9_15 rfl ?_
  refine Own.ret_nar (t := .boolean) (by simp) rfl d9_16 (by decide) (by decide) (fun Sf hSf => ?_)
  exact ⟨rfl, rfl⟩
theorem ef_rmPF1_2 (m : MethodId) (vf : Value) (hr_3 : (vf).isRef = true) : entryFrame m #[(.int (1 : Int32)), (.int (2 : Int32)), (.int (4 : Int32)), vf] 4 = mkF m 0 #[.val (.int (1 : Int32)), .val (.int (2 : Int32)), .val (.int (4 : Int32)), .val vf] [] := by rcases ref_cases hr_3 with rfl | ⟨z3, rfl⟩ <;> first | (simp [entryFrame, mkF, argsToLocals, Value.category]; done) | rfl
set_option maxRecDepth 65536 in
set_option maxHeartbeats 40000000 in
theorem rmPF1_2 (l : Launch) (Z : State) (a0 : Array Value) (hw : ∀ d ∈ tables_1, d.before a0 Z = true) (ws : List Jvm.Cond) (vf : Value) (h0 : Heap) (n0 : Nat) (hn : n0 ≤ h0.size) (hvf : vf.isRef = true) :
    Met own_EL l Z (⟨"jdk/internal/util/Preconditions", "checkFromToIndex", "(IIILjava/util/function/BiFunction;)I"⟩ : MethodName) jdk_41_method_12_code 4 (some .int) ({ frames := 0, cells := 0, slots := 0, locals := 0 } : Room) ws #[(.int (1 : Int32)), (.int (2 : Int32)), (.int (4 : Int32)), vf] h0 n0 [] (Pur (.int (1 : Int32)) h0) := by
  refine Met.of pn_15 (fun m => ef_rmPF1_2 m vf hvf) ?_
  refine Own.iloadN d15_0 rfl ?_
  refine Own.if_lt 14 d15_1 (by decide) rfl (fun q => absurd q (by decide)) (fun _ => ?_)
  refine Own.iloadN d15_4 rfl ?_
  refine Own.iloadN d15_5 rfl ?_
  refine Own.icmp_gt 14 d15_6 (by decide) rfl (fun q => absurd q (by decide)) (fun _ => ?_)
  refine Own.iloadN d15_9 rfl ?_
  refine Own.iloadN d15_10 rfl ?_
  refine Own.icmp_le 22 d15_11 (by decide) rfl (fun _ => ?_) (fun q => absurd q (by decide))
  refine Own.iloadN d15_22 rfl ?_
  refine Own.ret_int rfl d15_23 (by decide) (by decide) (fun Sf hSf => ?_)
  exact ⟨rfl, rfl⟩
theorem ef_rmCB1_2 (m : MethodId)   : entryFrame m #[(.int (1 : Int32)), (.int (2 : Int32)), (.int (4 : Int32))] 3 = mkF m 0 #[.val (.int (1 : Int32)), .val (.int (2 : Int32)), .val (.int (4 : Int32))] [] := by first | (simp [entryFrame, mkF, argsToLocals, Value.category]; done) | rfl
set_option maxRecDepth 65536 in
set_option maxHeartbeats 40000000 in
theorem rmCB1_2 (l : Launch) (Z : State) (a0 : Array Value) (hw : ∀ d ∈ tables_1, d.before a0 Z = true) (ws : List Jvm.Cond) (vf : Value) (h0 : Heap) (n0 : Nat) (hn : n0 ≤ h0.size) (S_F : Sta Z h0 "jdk/internal/util/Preconditions" "SIOOBE_FORMATTER" "Ljava/util/function/BiFunction;" vf) (hvf : vf.isRef = true) :
    Met own_EL l Z (⟨"java/lang/String", "checkBoundsBeginEnd", "(III)V"⟩ : MethodName) jdk_42_method_158_code 3 none ({ frames := 1, cells := 0, slots := 0, locals := 15 } : Room) ws #[(.int (1 : Int32)), (.int (2 : Int32)), (.int (4 : Int32))] h0 n0 [] (Pur0 h0) := by
  refine Met.of pn_14 (fun m => ef_rmCB1_2 m ) ?_
  refine Own.iloadN d14_0 rfl ?_
  refine Own.iloadN d14_1 rfl ?_
  refine Own.iloadN d14_2 rfl ?_
  refine Own.getS_ (host := "") (Or.inl (hw _ (List.mem_of_getElem? (i := 77) rfl))) Via.refl S_F d14_3 ?_
  refine Own.callSP [(.int (1 : Int32)), (.int (2 : Int32)), (.int (4 : Int32)), vf] [] 0 (rmPF1_2 l Z a0 hw [] vf h0 n0 hn hvf) (hw _ (List.mem_of_getElem? (i := 79) rfl)) (hw _ (List.mem_of_getElem? (i := 80) rfl)) (hw _ (List.mem_of_getElem? (i := 78) rfl)) (hw _ (List.mem_of_getElem? (i := 81) rfl)) (by decide) d14_6 pd_9 rfl rfl rfl rfl (by decide) (by decide) (by decide) (by decide) ?_
  refine Own.pop d14_9 rfl ?_
  refine Own.ret_void rfl d14_10 (by decide) (by decide) (fun Sf hSf => ?_)
  exact ⟨rfl, rfl⟩
theorem ef_rmCL1_2 (m : MethodId)   : entryFrame m #[(.int (1 : Int32)), (.int (2 : Int32))] 2 = mkF m 0 #[.val (.int (1 : Int32)), .val (.int (2 : Int32))] [] := by first | (simp [entryFrame, mkF, argsToLocals, Value.category]; done) | rfl
set_option maxRecDepth 65536 in
set_option maxHeartbeats 40000000 in
theorem rmCL1_2 (l : Launch) (Z : State) (a0 : Array Value) (hw : ∀ d ∈ tables_1, d.before a0 Z = true) (ws : List Jvm.Cond)  (h0 : Heap) (n0 : Nat) (hn : n0 ≤ h0.size) :
    Met own_EL l Z (⟨"java/util/Arrays", "checkLength", "(II)V"⟩ : MethodName) jdk_65_method_131_code 2 none ({ frames := 0, cells := 0, slots := 0, locals := 0 } : Room) ws #[(.int (1 : Int32)), (.int (2 : Int32))] h0 n0 [] (Pur0 h0) := by
  refine Met.of pn_21 (fun m => ef_rmCL1_2 m ) ?_
  refine Own.iloadN d21_0 rfl ?_
  refine Own.iloadN d21_1 rfl ?_
  refine Own.icmp_ge 37 d21_2 (by decide) rfl (fun _ => ?_) (fun q => absurd q (by decide))
  refine Own.ret_void rfl d21_37 (by decide) (by decide) (fun Sf hSf => ?_)
  exact ⟨rfl, rfl⟩
theorem ef_rmMM1_2 (m : MethodId)   : entryFrame m #[(.int (3 : Int32)), (.int (1 : Int32))] 2 = mkF m 0 #[.val (.int (3 : Int32)), .val (.int (1 : Int32))] [] := by first | (simp [entryFrame, mkF, argsToLocals, Value.category]; done) | rfl
set_option maxRecDepth 65536 in
set_option maxHeartbeats 40000000 in
theorem rmMM1_2 (l : Launch) (Z : State) (a0 : Array Value) (hw : ∀ d ∈ tables_1, d.before a0 Z = true) (ws : List Jvm.Cond)  (h0 : Heap) (n0 : Nat) (hn : n0 ≤ h0.size) :
    Met own_EL l Z (⟨"java/lang/Math", "min", "(II)I"⟩ : MethodName) jdk_29_method_69_code 2 (some .int) ({ frames := 0, cells := 0, slots := 0, locals := 0 } : Room) ws #[(.int (3 : Int32)), (.int (1 : Int32))] h0 n0 [] (Pur (.int (1 : Int32)) h0) := by
  refine Met.of pn_22 (fun m => ef_rmMM1_2 m ) ?_
  refine Own.iloadN d22_0 rfl ?_
  refine Own.iloadN d22_1 rfl ?_
  refine Own.icmp_gt 9 d22_2 (by decide) rfl (fun _ => ?_) (fun q => absurd (by decide) q)
  refine Own.iloadN d22_9 rfl ?_
  refine Own.ret_int rfl d22_10 (by decide) (by decide) (fun Sf hSf => ?_)
  exact ⟨rfl, rfl⟩
def Q_rmRB1_2 (Z : State) (x0 : Int32) (x1 : Int32) (x2 : Int32) (x3 : Int32) (h0 : Heap) (n0 : Nat) (v : Option Value) (h : Heap) (Sf : Addr → Prop) : Prop := ∃ (a : Addr) (ka : ClassId), v = some (.ref a) ∧ h0.size ≤ a ∧ Keep h0 h [] ∧ Arl Z h a ka .byte [(.int x1)]
theorem ef_rmRB1_2 (m : MethodId) (a1 : Addr)  : entryFrame m #[(.ref a1), (.int (1 : Int32)), (.int (2 : Int32))] 5 = mkF m 0 #[.val (.ref a1), .val (.int (1 : Int32)), .val (.int (2 : Int32)), .unset, .unset] [] := by first | (simp [entryFrame, mkF, argsToLocals, Value.category]; done) | rfl
set_option maxRecDepth 65536 in
set_option maxHeartbeats 40000000 in
theorem rmRB1_2 (l : Launch) (Z : State) (a0 : Array Value) (hw : ∀ d ∈ tables_1, d.before a0 Z = true) (ws : List Jvm.Cond) (a1 : Addr) (ka : ClassId) (x0 : Int32) (x1 : Int32) (x2 : Int32) (x3 : Int32) (h0 : Heap) (n0 : Nat) (hn : n0 ≤ h0.size) (V_a1 : Arl Z h0 a1 ka .byte [(.int x0), (.int x1), (.int x2), (.int x3)]) :
    Met own_EL l Z (⟨"java/util/Arrays", "copyOfRangeByte", "([BII)[B"⟩ : MethodName) jdk_65_method_133_code 5 (some (.array .byte)) ({ frames := 1, cells := 1, slots := 1, locals := 51 } : Room) ws #[(.ref a1), (.int (1 : Int32)), (.int (2 : Int32))] h0 n0 [] (Q_rmRB1_2 Z x0 x1 x2 x3 h0 n0) := by
  refine Met.of pn_20 (fun m => ef_rmRB1_2 m a1) ?_
  have K := Keep.refl h0 []
  refine Own.iloadN d20_0 rfl ?_
  refine Own.iloadN d20_1 rfl ?_
  refine Own.callS0 [(.int (1 : Int32)), (.int (2 : Int32))] [] 0 (rmCL1_2 l Z a0 hw [] h0 n0 hn) (hw _ (List.mem_of_getElem? (i := 107) rfl)) (hw _ (List.mem_of_getElem? (i := 108) rfl)) (hw _ (List.mem_of_getElem? (i := 102) rfl)) (hw _ (List.mem_of_getElem? (i := 109) rfl)) (by decide) d20_2 pd_7 rfl rfl rfl rfl (by decide) (by decide) (by decide) (by decide) ?_
  refine Own.iloadN d20_5 rfl ?_
  refine Own.iloadN d20_6 rfl ?_
  refine Own.isub d20_7 ?_
  refine OAt.cast (st' := [(.int (1 : Int32))]) rfl ?_
  refine Own.istoreN #[.val (.ref a1), .val (.int (1 : Int32)), .val (.int (2 : Int32)), .val (.int (1 : Int32)), .unset] d20_8 rfl ?_
  refine Own.iloadN d20_9 rfl ?_
  refine Own.newarray_ 1 .byte rfl (hw _ (List.mem_of_getElem? (i := 19) rfl)) d20_10 (N := 1) rfl (by decide) (by decide) (by decide) (by decide) rfl (fun h76 b76 k76 gb76 E76 V76 => ?_)
  have g_b76 : n0 ≤ b76 := by rw [gb76]; exact hn
  have ne_a1_b76 : a1 ≠ b76 := fun q => Nat.ne_of_lt V_a1.lt (q.trans gb76)
  have ne_b76_a1 := Ne.symm ne_a1_b76
  have hn := Nat.le_trans hn E76.1
  replace V_a1 := V_a1.ext E76
  replace V76 : Arl Z h76 b76 k76 .byte [(.int (0 : Int32))] := V76
  have sz_b76 : h0.size ≤ b76 := by rw [gb76]; exact K.1
  have K := K.ext E76
  refine Own.astore #[.val (.ref a1), .val (.int (1 : Int32)), .val (.int (2 : Int32)), .val (.int (1 : Int32)), .val (.ref b76)] d20_12 rfl rfl ?_
  refine Own.aloadN d20_14 rfl rfl ?_
  refine Own.iloadN d20_15 rfl ?_
  refine Own.aload d20_16 rfl rfl ?_
  refine Own.iconst (0 : Int32) d20_18 rfl ?_
  refine Own.aloadN d20_19 rfl rfl ?_
  refine Own.arraylength_ (4 : Int32) V_a1 rfl d20_20 ?_
  refine Own.iloadN d20_21 rfl ?_
  refine Own.isub d20_22 ?_
  refine OAt.cast (st' := [(.int (3 : Int32)), (.int (0 : Int32)), (.ref b76), (.int (1 : Int32)), (.ref a1)]) rfl ?_
  refine Own.iloadN d20_23 rfl ?_
  refine Own.callSP [(.int (3 : Int32)), (.int (1 : Int32))] [(.int (0 : Int32)), (.ref b76), (.int (1 : Int32)), (.ref a1)] 4 (rmMM1_2 l Z a0 hw [] h76 n0 hn) (hw _ (List.mem_of_getElem? (i := 110) rfl)) (hw _ (List.mem_of_getElem? (i := 111) rfl)) (hw _ (List.mem_of_getElem? (i := 112) rfl)) (hw _ (List.mem_of_getElem? (i := 113) rfl)) (by decide) d20_24 pd_5 rfl rfl rfl rfl (by decide) (by decide) (by decide) (by decide) ?_
  refine Own.arraycopy_ (i := 1) (j := 0) (n := 1) 0 (hw _ (List.mem_of_getElem? (i := 114) rfl)) (hw _ (List.mem_of_getElem? (i := 117) rfl)) (hw _ (List.mem_of_getElem? (i := 115) rfl)) (hw _ (List.mem_of_getElem? (i := 116) rfl)) V_a1 V76 rfl rfl rfl rfl (Nat.le_of_ble_eq_true rfl) (Nat.le_of_ble_eq_true rfl) g_b76 (List.mem_of_getElem? (i := 0) rfl) rfl d20_27 (by decide) rfl (by decide) (fun h77 K77 V77 => ?_)
  have hn := Nat.le_trans hn K77.1
  replace V_a1 := V_a1.keep K77 (ninS ne_a1_b76 nin0)
  clear V76
  replace V77 : Arl Z h77 b76 k76 .byte [(.int x1)] := V77
  have K := K.trans K77 (allS (Or.inr sz_b76) all0)
  refine Own.aload d20_30 rfl rfl ?_
  refine Own.ret_ref (t := (.array .byte)) rfl rfl rfl d20_32 (by decide) (by decide) (fun Sf hSf => ?_)
  exact ⟨b76, k76, rfl, sz_b76, K, V77⟩
def Q_rmRG1_2 (Z : State) (x0 : Int32) (x1 : Int32) (x2 : Int32) (x3 : Int32) (h0 : Heap) (n0 : Nat) (v : Option Value) (h : Heap) (Sf : Addr → Prop) : Prop := ∃ (a : Addr) (ka : ClassId), v = some (.ref a) ∧ h0.size ≤ a ∧ Keep h0 h [] ∧ Arl Z h a ka .byte [(.int x1)]
theorem ef_rmRG1_2 (m : MethodId) (a1 : Addr)  : entryFrame m #[(.ref a1), (.int (1 : Int32)), (.int (2 : Int32))] 3 = mkF m 0 #[.val (.ref a1), .val (.int (1 : Int32)), .val (.int (2 : Int32))] [] := by first | (simp [entryFrame, mkF, argsToLocals, Value.category]; done) | rfl
set_option maxRecDepth 65536 in
set_option maxHeartbeats 40000000 in
theorem rmRG1_2 (l : Launch) (Z : State) (a0 : Array Value) (hw : ∀ d ∈ tables_1, d.before a0 Z = true) (ws : List Jvm.Cond) (a1 : Addr) (ka : ClassId) (x0 : Int32) (x1 : Int32) (x2 : Int32) (x3 : Int32) (h0 : Heap) (n0 : Nat) (hn : n0 ≤ h0.size) (V_a1 : Arl Z h0 a1 ka .byte [(.int x0), (.int x1), (.int x2), (.int x3)]) :
    Met own_EL l Z (⟨"java/util/Arrays", "copyOfRange", "([BII)[B"⟩ : MethodName) jdk_65_method_132_code 3 (some (.array .byte)) ({ frames := 2, cells := 1, slots := 1, locals := 67 } : Room) ws #[(.ref a1), (.int (1 : Int32)), (.int (2 : Int32))] h0 n0 [] (Q_rmRG1_2 Z x0 x1 x2 x3 h0 n0) := by
  refine Met.of pn_19 (fun m => ef_rmRG1_2 m a1) ?_
  have K := Keep.refl h0 []
  refine Own.iloadN d19_0 rfl ?_
  refine Own.if_ne 10 d19_1 (by decide) rfl (fun _ => ?_) (fun q => absurd q (by decide))
  refine Own.aloadN d19_10 rfl rfl ?_
  refine Own.iloadN d19_11 rfl ?_
  refine Own.iloadN d19_12 rfl ?_
  refine Own.callS_ [(.ref a1), (.int (1 : Int32)), (.int (2 : Int32))] [] 0 (rmRB1_2 l Z a0 hw [] a1 ka x0 x1 x2 x3 h0 n0 hn V_a1) all0 (hw _ (List.mem_of_getElem? (i := 104) rfl)) (hw _ (List.mem_of_getElem? (i := 105) rfl)) (hw _ (List.mem_of_getElem? (i := 102) rfl)) (hw _ (List.mem_of_getElem? (i := 106) rfl)) (by decide) d19_13 pd_15 rfl rfl rfl rfl (by decide) (by decide) (by decide) (by decide) (fun v78 h78 S78 hq78 => ?_)
  obtain ⟨b79, k79, rfl, z79, K79, V79⟩ := hq78
  have g_b79 : n0 ≤ b79 := Nat.le_trans hn z79
  have ne_a1_b79 : a1 ≠ b79 := Nat.ne_of_lt (Nat.lt_of_lt_of_le V_a1.lt z79)
  have ne_b79_a1 := Ne.symm ne_a1_b79
  have sz_b79 : h0.size ≤ b79 := Nat.le_trans K.1 z79
  have hn := Nat.le_trans hn K79.1
  replace V_a1 := V_a1.keep K79 nin0
  have K := K.trans K79 all0
  refine ⟨[], all0, ?_⟩
  refine OAt.cast (st' := [(.ref b79)]) rfl ?_
  refine Own.ret_ref (t := (.array .byte)) rfl rfl rfl d19_16 (by decide) (by decide) (fun Sf hSf => ?_)
  exact ⟨b79, k79, rfl, sz_b79, K, V79⟩
def Q_rmNS1_2 (Z : State) (x0 : Int32) (x1 : Int32) (x2 : Int32) (x3 : Int32) (h0 : Heap) (n0 : Nat) (v : Option Value) (h : Heap) (Sf : Addr → Prop) : Prop := Keep h0 h [] ∧ ∃ (a b : Addr) (kb : ClassId), v = some (.ref a) ∧ Exa Z h a "java/lang/String" ∧ Fld Z h a "java/lang/String" "value" "[B" (.ref b) ∧ Fld Z h a "java/lang/String" "coder" "B" (.int (0 : Int32)) ∧ Arl Z h b kb .byte [(.int x1)]
theorem ef_rmNS1_2 (m : MethodId) (a1 : Addr)  : entryFrame m #[(.ref a1), (.int (1 : Int32)), (.int (1 : Int32))] 3 = mkF m 0 #[.val (.ref a1), .val (.int (1 : Int32)), .val (.int (1 : Int32))] [] := by first | (simp [entryFrame, mkF, argsToLocals, Value.category]; done) | rfl
set_option maxRecDepth 65536 in
set_option maxHeartbeats 40000000 in
theorem rmNS1_2 (l : Launch) (Z : State) (a0 : Array Value) (hw : ∀ d ∈ tables_1, d.before a0 Z = true) (ws : List Jvm.Cond) (a1 : Addr) (ka : ClassId) (x0 : Int32) (x1 : Int32) (x2 : Int32) (x3 : Int32) (h0 : Heap) (n0 : Nat) (hn : n0 ≤ h0.size) (V_a1 : Arl Z h0 a1 ka .byte [(.int x0), (.int x1), (.int x2), (.int x3)]) :
    Met own_EL l Z (⟨"java/lang/StringLatin1", "newString", "([BII)Ljava/lang/String;"⟩ : MethodName) jdk_43_method_47_code 3 (some (.object "java/lang/String")) ({ frames := 5, cells := 3, slots := 16, locals := 90 } : Room) ws #[(.ref a1), (.int (1 : Int32)), (.int (1 : Int32))] h0 n0 [] (Q_rmNS1_2 Z x0 x1 x2 x3 h0 n0) := by
  refine Met.of pn_17 (fun m => ef_rmNS1_2 m a1) ?_
  have K := Keep.refl h0 []
  refine Own.iloadN d17_0 rfl ?_
  refine Own.if_ne 7 d17_1 (by decide) rfl (fun _ => ?_) (fun q => absurd q (by decide))
  refine Own.new_ (hw _ (List.mem_of_getElem? (i := 99) rfl)) (hw _ (List.mem_of_getElem? (i := 2) rfl)) (hw _ (List.mem_of_getElem? (i := 3) rfl)) d17_7 (by decide) (by decide) (fun h80 b80 gb80 E80 X80 D80 => ?_)
  have g_b80 : n0 ≤ b80 := by rw [gb80]; exact hn
  have ne_a1_b80 : a1 ≠ b80 := fun q => Nat.ne_of_lt V_a1.lt (q.trans gb80)
  have ne_b80_a1 := Ne.symm ne_a1_b80
  have hn := Nat.le_trans hn E80.1
  replace V_a1 := V_a1.ext E80
  have X_b80 := X80
  have F_coder_b80 : Fld Z h80 b80 "java/lang/String" "coder" "B" (.int (0 : Int32)) := D80 (Or.inr (hw _ (List.mem_of_getElem? (i := 27) rfl))) (ty := .byte) (by decide)
  have F_value_b80 : Fld Z h80 b80 "java/lang/String" "value" "[B" .null := D80 (Or.inr (hw _ (List.mem_of_getElem? (i := 29) rfl))) (ty := (.array .byte)) (by decide)
  have sz_b80 : h0.size ≤ b80 := by rw [gb80]; exact K.1
  have K := K.ext E80
  refine Own.dup d17_10 rfl ?_
  refine Own.aloadN d17_11 rfl rfl ?_
  refine Own.iloadN d17_12 rfl ?_
  refine Own.iloadN d17_13 rfl ?_
  refine Own.iloadN d17_14 rfl ?_
  refine Own.iadd d17_15 ?_
  refine OAt.cast (st' := [(.int (2 : Int32)), (.int (1 : Int32)), (.ref a1), (.ref b80), (.ref b80)]) rfl ?_
  refine Own.callS_ [(.ref a1), (.int (1 : Int32)), (.int (2 : Int32))] [(.ref b80), (.ref b80)] 2 (rmRG1_2 l Z a0 hw [] a1 ka x0 x1 x2 x3 h80 n0 hn V_a1) all0 (hw _ (List.mem_of_getElem? (i := 100) rfl)) (hw _ (List.mem_of_getElem? (i := 101) rfl)) (hw _ (List.mem_of_getElem? (i := 102) rfl)) (hw _ (List.mem_of_getElem? (i := 103) rfl)) (by decide) d17_16 pd_15 rfl rfl rfl rfl (by decide) (by decide) (by decide) (by decide) (fun v81 h81 S81 hq81 => ?_)
  obtain ⟨b82, k82, rfl, z82, K82, V82⟩ := hq81
  have g_b82 : n0 ≤ b82 := Nat.le_trans hn z82
  have ne_a1_b82 : a1 ≠ b82 := Nat.ne_of_lt (Nat.lt_of_lt_of_le V_a1.lt z82)
  have ne_b82_a1 := Ne.symm ne_a1_b82
  have ne_b80_b82 : b80 ≠ b82 := Nat.ne_of_lt (Nat.lt_of_lt_of_le X_b80.lt z82)
  have ne_b82_b80 := Ne.symm ne_b80_b82
  have sz_b82 : h0.size ≤ b82 := Nat.le_trans K.1 z82
  have hn := Nat.le_trans hn K82.1
  replace V_a1 := V_a1.keep K82 nin0
  replace X_b80 := X_b80.keep K82
  replace F_coder_b80 := F_coder_b80.keep K82 nin0
  replace F_value_b80 := F_value_b80.keep K82 nin0
  have K := K.trans K82 all0
  refine ⟨[], all0, ?_⟩
  refine OAt.cast (st' := [(.ref b82), (.ref b80), (.ref b80)]) rfl ?_
  refine Own.iconst (0 : Int32) d17_19 rfl ?_
  refine Own.callI_ b80 [(.ref b82), (.int (0 : Int32))] [(.ref b80)] 1 (rmBB l Z a0 hw [] b80 b82 h81 n0 hn X_b80 g_b80 F_value_b80 F_coder_b80) (allS (List.mem_of_getElem? (i := 0) rfl) all0) (hw _ (List.mem_of_getElem? (i := 118) rfl)) (hw _ (List.mem_of_getElem? (i := 119) rfl)) (hw _ (List.mem_of_getElem? (i := 3) rfl)) (hw _ (List.mem_of_getElem? (i := 120) rfl)) rfl (by decide) d17_20 pd_12 rfl rfl rfl rfl (by decide) (by decide) (by decide) (by decide) (fun v83 h83 S83 hq83 => ?_)
  obtain ⟨rfl, K84, G1, G2⟩ := hq83
  have hn := Nat.le_trans hn K84.1
  replace V_a1 := V_a1.keep K84 (ninS ne_a1_b80 nin0)
  replace X_b80 := X_b80.keep K84
  replace V82 := V82.keep K84 (ninS ne_b82_b80 nin0)
  have K := K.trans K84 (allS (Or.inr sz_b80) all0)
  have F_value_b80 := G1
  have F_coder_b80 := G2
  refine ⟨[], all0, ?_⟩
  refine OAt.cast (st' := [(.ref b80)]) rfl ?_
  refine Own.ret_ref (t := (.object "java/lang/String")) rfl rfl rfl d17_23 (by decide) (by decide) (fun Sf hSf => ?_)
  exact ⟨K, b80, b82, k82, rfl, X_b80, F_value_b80, F_coder_b80, V82⟩
def Q_rmSub1_2 (Z : State) (a1 : Addr) (b : Addr) (kb : ClassId) (zc : Int32) (vf : Value) (x0 : Int32) (x1 : Int32) (x2 : Int32) (x3 : Int32) (h0 : Heap) (n0 : Nat) (v : Option Value) (h : Heap) (Sf : Addr → Prop) : Prop := Keep h0 h [] ∧ ∃ (a b : Addr) (kb : ClassId), v = some (.ref a) ∧ Exa Z h a "java/lang/String" ∧ Fld Z h a "java/lang/String" "value" "[B" (.ref b) ∧ Fld Z h a "java/lang/String" "coder" "B" (.int (0 : Int32)) ∧ Arl Z h b kb .byte [(.int x1)]
theorem ef_rmSub1_2 (m : MethodId) (a1 : Addr)  : entryFrame m #[(.ref a1), (.int (1 : Int32)), (.int (2 : Int32))] 5 = mkF m 0 #[.val (.ref a1), .val (.int (1 : Int32)), .val (.int (2 : Int32)), .unset, .unset] [] := by first | (simp [entryFrame, mkF, argsToLocals, Value.category]; done) | rfl
set_option maxRecDepth 65536 in
set_option maxHeartbeats 40000000 in
theorem rmSub1_2 (l : Launch) (Z : State) (a0 : Array Value) (hw : ∀ d ∈ tables_1, d.before a0 Z = true) (ws : List Jvm.Cond) (a1 : Addr) (b : Addr) (kb : ClassId) (zc : Int32) (vf : Value) (x0 : Int32) (x1 : Int32) (x2 : Int32) (x3 : Int32) (h0 : Heap) (n0 : Nat) (hn : n0 ≤ h0.size) (X_a1 : Exa Z h0 a1 "java/lang/String") (F_value_a1 : Fld Z h0 a1 "java/lang/String" "value" "[B" (.ref b)) (F_coder_a1 : Fld Z h0 a1 "java/lang/String" "coder" "B" (.int (0 : Int32))) (V_b : Arl Z h0 b kb .byte [(.int x0), (.int x1), (.int x2), (.int x3)]) (S_C : Sta Z h0 "java/lang/String" "COMPACT_STRINGS" "Z" (.int zc)) (S_F : Sta Z h0 "jdk/internal/util/Preconditions" "SIOOBE_FORMATTER" "Ljava/util/function/BiFunction;" vf) (hz : ¬ zc = 0) (hvf : vf.isRef = true) :
    Met own_EL l Z (⟨"java/lang/String", "substring", "(II)Ljava/lang/String;"⟩ : MethodName) jdk_42_method_92_code 5 (some (.object "java/lang/String")) ({ frames := 6, cells := 3, slots := 16, locals := 110 } : Room) ws #[(.ref a1), (.int (1 : Int32)), (.int (2 : Int32))] h0 n0 [] (Q_rmSub1_2 Z a1 b kb zc vf x0 x1 x2 x3 h0 n0) := by
  refine Met.of pn_11 (fun m => ef_rmSub1_2 m a1) ?_
  have K := Keep.refl h0 []
  refine Own.aloadN d11_0 rfl rfl ?_
  refine Own.callVP a1 [] [] 0 (rm_len_4 l Z a0 hw [] a1 b kb _ zc h0 n0 hn X_a1 F_value_a1 F_coder_a1 V_b rfl S_C hz) (hw _ (List.mem_of_getElem? (i := 64) rfl)) (hw _ (List.mem_of_getElem? (i := 65) rfl)) (fun s hZ => notFace_of_selects (args := #[]) (mvT hZ (hw _ (List.mem_of_getElem? (i := 67) rfl)))) (hw _ (List.mem_of_getElem? (i := 67) rfl)) (hw _ (List.mem_of_getElem? (i := 66) rfl)) (hw _ (List.mem_of_getElem? (i := 3) rfl)) (hw _ (List.mem_of_getElem? (i := 68) rfl)) (by decide) X_a1 d11_1 pd_1 rfl rfl rfl rfl (by decide) (by decide) (by decide) (by decide) ?_
  refine Own.istoreN #[.val (.ref a1), .val (.int (1 : Int32)), .val (.int (2 : Int32)), .val (.int (4 : Int32)), .unset] d11_4 rfl ?_
  refine Own.iloadN d11_5 rfl ?_
  refine Own.iloadN d11_6 rfl ?_
  refine Own.iloadN d11_7 rfl ?_
  refine Own.callS0 [(.int (1 : Int32)), (.int (2 : Int32)), (.int (4 : Int32))] [] 0 (rmCB1_2 l Z a0 hw [] vf h0 n0 hn S_F hvf) (hw _ (List.mem_of_getElem? (i := 74) rfl)) (hw _ (List.mem_of_getElem? (i := 75) rfl)) (hw _ (List.mem_of_getElem? (i := 3) rfl)) (hw _ (List.mem_of_getElem? (i := 76) rfl)) (by decide) d11_8 pd_8 rfl rfl rfl rfl (by decide) (by decide) (by decide) (by decide) ?_
  refine Own.iloadN d11_11 rfl ?_
  refine Own.if_ne 22 d11_12 (by decide) rfl (fun _ => ?_) (fun q => absurd q (by decide))
  refine Own.iloadN d11_22 rfl ?_
  refine Own.iloadN d11_23 rfl ?_
  refine Own.isub d11_24 ?_
  refine OAt.cast (st' := [(.int (1 : Int32))]) rfl ?_
  refine Own.istore #[.val (.ref a1), .val (.int (1 : Int32)), .val (.int (2 : Int32)), .val (.int (4 : Int32)), .val (.int (1 : Int32))] d11_25 rfl ?_
  refine Own.aloadN d11_27 rfl rfl ?_
  refine Own.callVP a1 [] [] 0 (rm_lat_4 l Z a0 hw [] a1 b kb _ zc h0 n0 hn X_a1 F_value_a1 F_coder_a1 V_b rfl S_C hz) (hw _ (List.mem_of_getElem? (i := 82) rfl)) (hw _ (List.mem_of_getElem? (i := 83) rfl)) (fun s hZ => notFace_of_selects (args := #[]) (mvT hZ (hw _ (List.mem_of_getElem? (i := 85) rfl)))) (hw _ (List.mem_of_getElem? (i := 85) rfl)) (hw _ (List.mem_of_getElem? (i := 84) rfl)) (hw _ (List.mem_of_getElem? (i := 3) rfl)) (hw _ (List.mem_of_getElem? (i := 86) rfl)) (by decide) X_a1 d11_28 pd_4 rfl rfl rfl rfl (by decide) (by decide) (by decide) (by decide) ?_
  refine Own.if_eq 47 d11_31 (by decide) rfl (fun q => absurd q (by decide)) (fun _ => ?_)
  refine Own.aloadN d11_34 rfl rfl ?_
  refine Own.getF_ (host := "") (Or.inl (hw _ (List.mem_of_getElem? (i := 28) rfl))) Via.refl F_value_a1 d11_35 ?_
  refine Own.iloadN d11_38 rfl ?_
  refine Own.iload d11_39 rfl ?_
  refine Own.callS_ [(.ref b), (.int (1 : Int32)), (.int (1 : Int32))] [] 0 (rmNS1_2 l Z a0 hw [] b kb x0 x1 x2 x3 h0 n0 hn V_b) all0 (hw _ (List.mem_of_getElem? (i := 87) rfl)) (hw _ (List.mem_of_getElem? (i := 88) rfl)) (hw _ (List.mem_of_getElem? (i := 89) rfl)) (hw _ (List.mem_of_getElem? (i := 90) rfl)) (by decide) d11_41 pd_14 rfl rfl rfl rfl (by decide) (by decide) (by decide) (by decide) (fun v85 h85 S85 hq85 => ?_)
  obtain ⟨K86, s86, t86, kt86, rfl, X_s86, F_value_s86, F_coder_s86, V_t86⟩ := hq85
  have hn := Nat.le_trans hn K86.1
  replace S_C := sta_keep S_C K86 ns0
  replace S_F := sta_keep S_F K86 ns0
  replace X_a1 := X_a1.keep K86
  replace F_value_a1 := F_value_a1.keep K86 nin0
  replace F_coder_a1 := F_coder_a1.keep K86 nin0
  replace V_b := V_b.keep K86 nin0
  have K := K.trans K86 all0
  refine ⟨[], all0, ?_⟩
  refine OAt.cast (st' := [(.ref s86)]) rfl ?_
  refine Own.goto_ 57 d11_44 (by decide) rfl ?_
  refine Own.ret_ref (t := (.object "java/lang/String")) rfl rfl rfl d11_57 (by decide) (by decide) (fun Sf hSf => ?_)
  exact ⟨K, s86, t86, kt86, rfl, X_s86, F_value_s86, F_coder_s86, V_t86⟩
def Q_rmCut1_2 (Z : State) (x0 : Int32) (x1 : Int32) (x2 : Int32) (x3 : Int32) (h0 : Heap) (n0 : Nat) (v : Option Value) (h : Heap) (Sf : Addr → Prop) : Prop := Keep h0 h [] ∧ ∃ (a b : Addr) (kb : ClassId), v = some (.ref a) ∧ Exa Z h a "java/lang/String" ∧ Fld Z h a "java/lang/String" "value" "[B" (.ref b) ∧ Fld Z h a "java/lang/String" "coder" "B" (.int (0 : Int32)) ∧ Arl Z h b kb .byte [(.int x1)]
theorem ef_rmCut1_2 (m : MethodId) (a1 : Addr)  : entryFrame m #[(.ref a1)] 1 = mkF m 0 #[.val (.ref a1)] [] := by first | (simp [entryFrame, mkF, argsToLocals, Value.category]; done) | rfl
set_option maxRecDepth 65536 in
set_option maxHeartbeats 40000000 in
theorem rmCut1_2 (l : Launch) (Z : State) (a0 : Array Value) (hw : ∀ d ∈ tables_1, d.before a0 Z = true) (ws : List Jvm.Cond) (a1 : Addr) (a2 : Addr) (b : Addr) (kb : ClassId) (zc : Int32) (vf : Value) (x0 : Int32) (x1 : Int32) (x2 : Int32) (x3 : Int32) (h0 : Heap) (n0 : Nat) (hn : n0 ≤ h0.size) (X_a2 : Exa Z h0 a2 "java/lang/String") (F_value_a2 : Fld Z h0 a2 "java/lang/String" "value" "[B" (.ref b)) (F_coder_a2 : Fld Z h0 a2 "java/lang/String" "coder" "B" (.int (0 : Int32))) (V_b : Arl Z h0 b kb .byte [(.int x0), (.int x1), (.int x2), (.int x3)]) (S_C : Sta Z h0 "java/lang/String" "COMPACT_STRINGS" "Z" (.int zc)) (S_F : Sta Z h0 "jdk/internal/util/Preconditions" "SIOOBE_FORMATTER" "Ljava/util/function/BiFunction;" vf) (hz : ¬ zc = 0) (hvf : vf.isRef = true) (F_text_a1 : Fld Z h0 a1 "com/example/cytorelay/cytorelay/core/Hl7Syntax$Span" "text" "Ljava/lang/String;" (.ref a2)) (F_from_a1 : Fld Z h0 a1 "com/example/cytorelay/cytorelay/core/Hl7Syntax$Span" "from" "I" (.int (1 : Int32))) (F_to_a1 : Fld Z h0 a1 "com/example/cytorelay/cytorelay/core/Hl7Syntax$Span" "to" "I" (.int (2 : Int32))) :
    Met own_EL l Z (⟨"com/example/cytorelay/cytorelay/core/Hl7Syntax$Span", "cut", "()Ljava/lang/String;"⟩ : MethodName) prog_32_method_4_code 1 (some (.object "java/lang/String")) ({ frames := 7, cells := 3, slots := 16, locals := 130 } : Room) ws #[(.ref a1)] h0 n0 [] (Q_rmCut1_2 Z x0 x1 x2 x3 h0 n0) := by
  refine Met.of pn_10 (fun m => ef_rmCut1_2 m a1) ?_
  have K := Keep.refl h0 []
  refine Own.aloadN d10_0 rfl rfl ?_
  refine Own.getF_ (host := "") (Or.inl (hw _ (List.mem_of_getElem? (i := 43) rfl))) Via.refl F_text_a1 d10_1 ?_
  refine Own.aloadN d10_4 rfl rfl ?_
  refine Own.getF_ (host := "") (Or.inl (hw _ (List.mem_of_getElem? (i := 45) rfl))) Via.refl F_from_a1 d10_5 ?_
  refine Own.aloadN d10_8 rfl rfl ?_
  refine Own.getF_ (host := "") (Or.inl (hw _ (List.mem_of_getElem? (i := 47) rfl))) Via.refl F_to_a1 d10_9 ?_
  refine Own.callV_ a2 [(.int (1 : Int32)), (.int (2 : Int32))] [] 0 (rmSub1_2 l Z a0 hw [] a2 b kb zc vf x0 x1 x2 x3 h0 n0 hn X_a2 F_value_a2 F_coder_a2 V_b S_C S_F hz hvf) all0 (hw _ (List.mem_of_getElem? (i := 59) rfl)) (hw _ (List.mem_of_getElem? (i := 60) rfl)) (fun s hZ => notFace_of_selects (args := #[]) (mvT hZ (hw _ (List.mem_of_getElem? (i := 62) rfl)))) (hw _ (List.mem_of_getElem? (i := 62) rfl)) (hw _ (List.mem_of_getElem? (i := 61) rfl)) (hw _ (List.mem_of_getElem? (i := 3) rfl)) (hw _ (List.mem_of_getElem? (i := 63) rfl)) (by decide) X_a2 d10_12 pd_6 rfl rfl rfl rfl (by decide) (by decide) (by decide) (by decide) (fun v87 h87 S87 hq87 => ?_)
  obtain ⟨K88, s88, t88, kt88, rfl, X_s88, F_value_s88, F_coder_s88, V_t88⟩ := hq87
  have hn := Nat.le_trans hn K88.1
  replace S_C := sta_keep S_C K88 ns0
  replace S_F := sta_keep S_F K88 ns0
  replace X_a2 := X_a2.keep K88
  replace F_value_a2 := F_value_a2.keep K88 nin0
  replace F_coder_a2 := F_coder_a2.keep K88 nin0
  replace V_b := V_b.keep K88 nin0
  replace F_text_a1 := F_text_a1.keep K88 nin0
  replace F_from_a1 := F_from_a1.keep K88 nin0
  replace F_to_a1 := F_to_a1.keep K88 nin0
  have K := K.trans K88 all0
  refine ⟨[], all0, ?_⟩
  refine OAt.cast (st' := [(.ref s88)]) rfl ?_
  refine Own.ret_ref (t := (.object "java/lang/String")) rfl rfl rfl d10_15 (by decide) (by decide) (fun Sf hSf => ?_)
  exact ⟨K, s88, t88, kt88, rfl, X_s88, F_value_s88, F_coder_s88, V_t88⟩
theorem ef_rmSE1_3 (m : MethodId) (a1 : Addr)  : entryFrame m #[(.ref a1)] 1 = mkF m 0 #[.val (.ref a1)] [] := by first | (simp [entryFrame, mkF, argsToLocals, Value.category]; done) | rfl
set_option maxRecDepth 65536 in
set_option maxHeartbeats 40000000 in
theorem rmSE1_3 (l : Launch) (Z : State) (a0 : Array Value) (hw : ∀ d ∈ tables_1, d.before a0 Z = true) (ws : List Jvm.Cond) (a1 : Addr) (h0 : Heap) (n0 : Nat) (hn : n0 ≤ h0.size) (F_from : Fld Z h0 a1 "com/example/cytorelay/cytorelay/core/Hl7Syntax$Span" "from" "I" (.int (1 : Int32))) (F_to : Fld Z h0 a1 "com/example/cytorelay/cytorelay/core/Hl7Syntax$Span" "to" "I" (.int (3 : Int32))) :
    Met own_EL l Z (⟨"com/example/cytorelay/cytorelay/core/Hl7Syntax$Span", "isEmpty", "()Z"⟩ : MethodName) prog_32_method_3_code 1 (some .boolean) ({ frames := 0, cells := 0, slots := 0, locals := 0 } : Room) ws #[(.ref a1)] h0 n0 [] (Pur (.int (0 : Int32)) h0) := by
  refine Met.of pn_9 (fun m => ef_rmSE1_3 m a1) ?_
  refine Own.aloadN d9_0 rfl rfl ?_
  refine Own.getF_ (host := "") (Or.inl (hw _ (List.mem_of_getElem? (i := 45) rfl))) Via.refl F_from d9_1 ?_
  refine Own.aloadN d9_4 rfl rfl ?_
  refine Own.getF_ (host := "") (Or.inl (hw _ (List.mem_of_getElem? (i := 47) rfl))) Via.refl F_to d9_5 ?_
  refine Own.icmp_ne 15 d9_8 (by decide) rfl (fun _ => ?_) (fun q => absurd q (by decide))
  refine Own.iconst (0 : Int32) d9_15 rfl ?_
  refine Own.ret_nar (t := .boolean) (by simp) rfl d9_16 (by decide) (by decide) (fun Sf hSf => ?_)
  exact ⟨rfl, rfl⟩
theorem ef_rmPF1_3 (m : MethodId) (vf : Value) (hr_3 : (vf).isRef = true) : entryFrame m #[(.int (1 : Int32)), (.int (3 : Int32)), (.int (4 : Int32)), vf] 4 = mkF m 0 #[.val (.int (1 : Int32)), .val (.int (3 : Int32)), .val (.int (4 : Int32)), .val vf] [] := by rcases ref_cases hr_3 with rfl | ⟨z3, rfl⟩ <;> first | (simp [entryFrame, mkF, argsToLocals, Value.category]; done) | rfl
set_option maxRecDepth 65536 in
set_option maxHeartbeats 40000000 in
theorem rmPF1_3 (l : Launch) (Z : State) (a0 : Array Value) (hw : ∀ d ∈ tables_1, d.before a0 Z = true) (ws : List Jvm.Cond) (vf : Value) (h0 : Heap) (n0 : Nat) (hn : n0 ≤ h0.size) (hvf : vf.isRef = true) :
    Met own_EL l Z (⟨"jdk/internal/util/Preconditions", "checkFromToIndex", "(IIILjava/util/function/BiFunction;)I"⟩ : MethodName) jdk_41_method_12_code 4 (some .int) ({ frames := 0, cells := 0, slots := 0, locals := 0 } : Room) ws #[(.int (1 : Int32)), (.int (3 : Int32)), (.int (4 : Int32)), vf] h0 n0 [] (Pur (.int (1 : Int32)) h0) := by
  refine Met.of pn_15 (fun m => ef_rmPF1_3 m vf hvf) ?_
  refine Own.iloadN d15_0 rfl ?_
  refine Own.if_lt 14 d15_1 (by decide) rfl (fun q => absurd q (by decide)) (fun _ => ?_)
  refine Own.iloadN d15_4 rfl ?_
  refine Own.iloadN d15_5 rfl ?_
  refine Own.icmp_gt 14 d15_6 (by decide) rfl (fun q => absurd q (by decide)) (fun _ => ?_)
  refine Own.iloadN d15_9 rfl ?_
  refine Own.iloadN d15_10 rfl ?_
  refine Own.icmp_le 22 d15_11 (by decide) rfl (fun _ => ?_) (fun q => absurd q (by decide))
  refine Own.iloadN d15_22 rfl ?_
  refine Own.ret_int rfl d15_23 (by decide) (by decide) (fun Sf hSf => ?_)
  exact ⟨rfl, rfl⟩
theorem ef_rmCB1_3 (m : MethodId)   : entryFrame m #[(.int (1 : Int32)), (.int (3 : Int32)), (.int (4 : Int32))] 3 = mkF m 0 #[.val (.int (1 : Int32)), .val (.int (3 : Int32)), .val (.int (4 : Int32))] [] := by first | (simp [entryFrame, mkF, argsToLocals, Value.category]; done) | rfl
set_option maxRecDepth 65536 in
set_option maxHeartbeats 40000000 in
theorem rmCB1_3 (l : Launch) (Z : State) (a0 : Array Value) (hw : ∀ d ∈ tables_1, d.before a0 Z = true) (ws : List Jvm.Cond) (vf : Value) (h0 : Heap) (n0 : Nat) (hn : n0 ≤ h0.size) (S_F : Sta Z h0 "jdk/internal/util/Preconditions" "SIOOBE_FORMATTER" "Ljava/util/function/BiFunction;" vf) (hvf : vf.isRef = true) :
    Met own_EL l Z (⟨"java/lang/String", "checkBoundsBeginEnd", "(III)V"⟩ : MethodName) jdk_42_method_158_code 3 none ({ frames := 1, cells := 0, slots := 0, locals := 15 } : Room) ws #[(.int (1 : Int32)), (.int (3 : Int32)), (.int (4 : Int32))] h0 n0 [] (Pur0 h0) := by
  refine Met.of pn_14 (fun m => ef_rmCB1_3 m ) ?_
  refine Own.iloadN d14_0 rfl ?_
  refine Own.iloadN d14_1 rfl ?_
  refine Own.iloadN d14_2 rfl ?_
  refine Own.getS_ (host := "") (Or.inl (hw _ (List.mem_of_getElem? (i := 77) rfl))) Via.refl S_F d14_3 ?_
  refine Own.callSP [(.int (1 : Int32)), (.int (3 : Int32)), (.int (4 : Int32)), vf] [] 0 (rmPF1_3 l Z a0 hw [] vf h0 n0 hn hvf) (hw _ (List.mem_of_getElem? (i := 79) rfl)) (hw _ (List.mem_of_getElem? (i := 80) rfl)) (hw _ (List.mem_of_getElem? (i := 78) rfl)) (hw _ (List.mem_of_getElem? (i := 81) rfl)) (by decide) d14_6 pd_9 rfl rfl rfl rfl (by decide) (by decide) (by decide) (by decide) ?_
  refine Own.pop d14_9 rfl ?_
  refine Own.ret_void rfl d14_10 (by decide) (by decide) (fun Sf hSf => ?_)
  exact ⟨rfl, rfl⟩
theorem ef_rmCL1_3 (m : MethodId)   : entryFrame m #[(.int (1 : Int32)), (.int (3 : Int32))] 2 = mkF m 0 #[.val (.int (1 : Int32)), .val (.int (3 : Int32))] [] := by first | (simp [entryFrame, mkF, argsToLocals, Value.category]; done) | rfl
set_option maxRecDepth 65536 in
set_option maxHeartbeats 40000000 in
theorem rmCL1_3 (l : Launch) (Z : State) (a0 : Array Value) (hw : ∀ d ∈ tables_1, d.before a0 Z = true) (ws : List Jvm.Cond)  (h0 : Heap) (n0 : Nat) (hn : n0 ≤ h0.size) :
    Met own_EL l Z (⟨"java/util/Arrays", "checkLength", "(II)V"⟩ : MethodName) jdk_65_method_131_code 2 none ({ frames := 0, cells := 0, slots := 0, locals := 0 } : Room) ws #[(.int (1 : Int32)), (.int (3 : Int32))] h0 n0 [] (Pur0 h0) := by
  refine Met.of pn_21 (fun m => ef_rmCL1_3 m ) ?_
  refine Own.iloadN d21_0 rfl ?_
  refine Own.iloadN d21_1 rfl ?_
  refine Own.icmp_ge 37 d21_2 (by decide) rfl (fun _ => ?_) (fun q => absurd q (by decide))
  refine Own.ret_void rfl d21_37 (by decide) (by decide) (fun Sf hSf => ?_)
  exact ⟨rfl, rfl⟩
theorem ef_rmMM1_3 (m : MethodId)   : entryFrame m #[(.int (3 : Int32)), (.int (2 : Int32))] 2 = mkF m 0 #[.val (.int (3 : Int32)), .val (.int (2 : Int32))] [] := by first | (simp [entryFrame, mkF, argsToLocals, Value.category]; done) | rfl
set_option maxRecDepth 65536 in
set_option maxHeartbeats 40000000 in
theorem rmMM1_3 (l : Launch) (Z : State) (a0 : Array Value) (hw : ∀ d ∈ tables_1, d.before a0 Z = true) (ws : List Jvm.Cond)  (h0 : Heap) (n0 : Nat) (hn : n0 ≤ h0.size) :
    Met own_EL l Z (⟨"java/lang/Math", "min", "(II)I"⟩ : MethodName) jdk_29_method_69_code 2 (some .int) ({ frames := 0, cells := 0, slots := 0, locals := 0 } : Room) ws #[(.int (3 : Int32)), (.int (2 : Int32))] h0 n0 [] (Pur (.int (2 : Int32)) h0) := by
  refine Met.of pn_22 (fun m => ef_rmMM1_3 m ) ?_
  refine Own.iloadN d22_0 rfl ?_
  refine Own.iloadN d22_1 rfl ?_
  refine Own.icmp_gt 9 d22_2 (by decide) rfl (fun _ => ?_) (fun q => absurd (by decide) q)
  refine Own.iloadN d22_9 rfl ?_
  refine Own.ret_int rfl d22_10 (by decide) (by decide) (fun Sf hSf => ?_)
  exact ⟨rfl, rfl⟩
def Q_rmRB1_3 (Z : State) (x0 : Int32) (x1 : Int32) (x2 : Int32) (x3 : Int32) (h0 : Heap) (n0 : Nat) (v : Option Value) (h : Heap) (Sf : Addr → Prop) : Prop := ∃ (a : Addr) (ka : ClassId), v = some (.ref a) ∧ h0.size ≤ a ∧ Keep h0 h [] ∧ Arl Z h a ka .byte [(.int x1), (.int x2)]
theorem ef_rmRB1_3 (m : MethodId) (a1 : Addr)  : entryFrame m #[(.ref a1), (.int (1 : Int32)), (.int (3 : Int32))] 5 = mkF m 0 #[.val (.ref a1), .val (.int (1 : Int32)), .val (.int (3 : Int32)), .unset, .unset] [] := by first | (simp [entryFrame, mkF, argsToLocals, Value.category]; done) | rfl
set_option maxRecDepth 65536 in
set_option maxHeartbeats 40000000 in
theorem rmRB1_3 (l : Launch) (Z : State) (a0 : Array Value) (hw : ∀ d ∈ tables_1, d.before a0 Z = true) (ws : List Jvm.Cond) (a1 : Addr) (ka : ClassId) (x0 : Int32) (x1 : Int32) (x2 : Int32) (x3 : Int32) (h0 : Heap) (n0 : Nat) (hn : n0 ≤ h0.size) (V_a1 : Arl Z h0 a1 ka .byte [(.int x0), (.int x1), (.int x2), (.int x3)]) :
    Met own_EL l Z (⟨"java/util/Arrays", "copyOfRangeByte", "([BII)[B"⟩ : MethodName) jdk_65_method_133_code 5 (some (.array .byte)) ({ frames := 1, cells := 1, slots := 2, locals := 51 } : Room) ws #[(.ref a1), (.int (1 : Int32)), (.int (3 : Int32))] h0 n0 [] (Q_rmRB1_3 Z x0 x1 x2 x3 h0 n0) := by
  refine Met.of pn_20 (fun m => ef_rmRB1_3 m a1) ?_
  have K := Keep.refl h0 []
  refine Own.iloadN d20_0 rfl ?_
  refine Own.iloadN d20_1 rfl ?_
  refine Own.callS0 [(.int (1 : Int32)), (.int (3 : Int32))] [] 0 (rmCL1_3 l Z a0 hw [] h0 n0 hn) (hw _ (List.mem_of_getElem? (i := 107) rfl)) (hw _ (List.mem_of_getElem? (i := 108) rfl)) (hw _ (List.mem_of_getElem? (i := 102) rfl)) (hw _ (List.mem_of_getElem? (i := 109) rfl)) (by decide) d20_2 pd_7 rfl rfl rfl rfl (by decide) (by decide) (by decide) (by decide) ?_
  refine Own.iloadN d20_5 rfl ?_
  refine Own.iloadN d20_6 rfl ?_
  refine Own.isub d20_7 ?_
  refine OAt.cast (st' := [(.int (2 : Int32))]) rfl ?_
  refine Own.istoreN #[.val (.ref a1), .val (.int (1 : Int32)), .val (.int (3 : Int32)), .val (.int (2 : Int32)), .unset] d20_8 rfl ?_
  refine Own.iloadN d20_9 rfl ?_
  refine Own.newarray_ 2 .byte rfl (hw _ (List.mem_of_getElem? (i := 19) rfl)) d20_10 (N := 2) rfl (by decide) (by decide) (by decide) (by decide) rfl (fun h89 b89 k89 gb89 E89 V89 => ?_)
  have g_b89 : n0 ≤ b89 := by rw [gb89]; exact hn
  have ne_a1_b89 : a1 ≠ b89 := fun q => Nat.ne_of_lt V_a1.lt (q.trans gb89)
  have ne_b89_a1 := Ne.symm ne_a1_b89
  have hn := Nat.le_trans hn E89.1
  replace V_a1 := V_a1.ext E89
  replace V89 : Arl Z h89 b89 k89 .byte [(.int (0 : Int32)), (.int (0 : Int32))] := V89
  have sz_b89 : h0.size ≤ b89 := by rw [gb89]; exact K.1
  have K := K.ext E89
  refine Own.astore #[.val (.ref a1), .val (.int (1 : Int32)), .val (.int (3 : Int32)), .val (.int (2 : Int32)), .val (.ref b89)] d20_12 rfl rfl ?_
  refine Own.aloadN d20_14 rfl rfl ?_
  refine Own.iloadN d20_15 rfl ?_
  refine Own.aload d20_16 rfl rfl ?_
  refine Own.iconst (0 : Int32) d20_18 rfl ?_
  refine Own.aloadN d20_19 rfl rfl ?_
  refine Own.arraylength_ (4 : Int32) V_a1 rfl d20_20 ?_
  refine Own.iloadN d20_21 rfl ?_
  refine Own.isub d20_22 ?_
  refine OAt.cast (st' := [(.int (3 : Int32)), (.int (0 : Int32)), (.ref b89), (.int (1 : Int32)), (.ref a1)]) rfl ?_
  refine Own.iloadN d20_23 rfl ?_
  refine Own.callSP [(.int (3 : Int32)), (.int (2 : Int32))] [(.int (0 : Int32)), (.ref b89), (.int (1 : Int32)), (.ref a1)] 4 (rmMM1_3 l Z a0 hw [] h89 n0 hn) (hw _ (List.mem_of_getElem? (i := 110) rfl)) (hw _ (List.mem_of_getElem? (i := 111) rfl)) (hw _ (List.mem_of_getElem? (i := 112) rfl)) (hw _ (List.mem_of_getElem? (i := 113) rfl)) (by decide) d20_24 pd_5 rfl rfl rfl rfl (by decide) (by decide) (by decide) (by decide) ?_
  refine Own.arraycopy_ (i := 1) (j := 0) (n := 2) 0 (hw _ (List.mem_of_getElem? (i := 114) rfl)) (hw _ (List.mem_of_getElem? (i := 117) rfl)) (hw _ (List.mem_of_getElem? (i := 115) rfl)) (hw _ (List.mem_of_getElem? (i := 116) rfl)) V_a1 V89 rfl rfl rfl rfl (Nat.le_of_ble_eq_true rfl) (Nat.le_of_ble_eq_true rfl) g_b89 (List.mem_of_getElem? (i := 0) rfl) rfl d20_27 (by decide) rfl (by decide) (fun h90 K90 V90 => ?_)
  have hn := Nat.le_trans hn K90.1
  replace V_a1 := V_a1.keep K90 (ninS ne_a1_b89 nin0)
  clear V89
  replace V90 : Arl Z h90 b89 k89 .byte [(.int x1), (.int x2)] := V90
  have K := K.trans K90 (allS (Or.inr sz_b89) all0)
  refine Own.aload d20_30 rfl rfl ?_
  refine Own.ret_ref (t := (.array .byte)) rfl rfl rfl d20_32 (by decide) (by decide) (fun Sf hSf => ?_)
  exact ⟨b89, k89, rfl, sz_b89, K, V90⟩
def Q_rmRG1_3 (Z : State) (x0 : Int32) (x1 : Int32) (x2 : Int32) (x3 : Int32) (h0 : Heap) (n0 : Nat) (v : Option Value) (h : Heap) (Sf : Addr → Prop) : Prop := ∃ (a : Addr) (ka : ClassId), v = some (.ref a) ∧ h0.size ≤ a ∧ Keep h0 h [] ∧ Arl Z h a ka .byte [(.int x1), (.int x2)]
theorem ef_rmRG1_3 (m : MethodId) (a1 : Addr)  : entryFrame m #[(.ref a1), (.int (1 : Int32)), (.int (3 : Int32))] 3 = mkF m 0 #[.val (.ref a1), .val (.int (1 : Int32)), .val (.int (3 : Int32))] [] := by first | (simp [entryFrame, mkF, argsToLocals, Value.category]; done) | rfl
set_option maxRecDepth 65536 in
set_option maxHeartbeats 40000000 in
theorem rmRG1_3 (l : Launch) (Z : State) (a0 : Array Value) (hw : ∀ d ∈ tables_1, d.before a0 Z = true) (ws : List Jvm.Cond) (a1 : Addr) (ka : ClassId) (x0 : Int32) (x1 : Int32) (x2 : Int32) (x3 : Int32) (h0 : Heap) (n0 : Nat) (hn : n0 ≤ h0.size) (V_a1 : Arl Z h0 a1 ka .byte [(.int x0), (.int x1), (.int x2), (.int x3)]) :
    Met own_EL l Z (⟨"java/util/Arrays", "copyOfRange", "([BII)[B"⟩ : MethodName) jdk_65_method_132_code 3 (some (.array .byte)) ({ frames := 2, cells := 1, slots := 2, locals := 67 } : Room) ws #[(.ref a1), (.int (1 : Int32)), (.int (3 : Int32))] h0 n0 [] (Q_rmRG1_3 Z x0 x1 x2 x3 h0 n0) := by
  refine Met.of pn_19 (fun m => ef_rmRG1_3 m a1) ?_
  have K := Keep.refl h0 []
  refine Own.iloadN d19_0 rfl ?_
  refine Own.if_ne 10 d19_1 (by decide) rfl (fun _ => ?_) (fun q => absurd q (by decide))
  refine Own.aloadN d19_10 rfl rfl ?_
  refine Own.iloadN d19_11 rfl ?_
  refine Own.iloadN d19_12 rfl ?_
  refine Own.callS_ [(.ref a1), (.int (1 : Int32)), (.int (3 : Int32))] [] 0 (rmRB1_3 l Z a0 hw [] a1 ka x0 x1 x2 x3 h0 n0 hn V_a1) all0 (hw _ (List.mem_of_getElem? (i := 104) rfl)) (hw _ (List.mem_of_getElem? (i := 105) rfl)) (hw _ (List.mem_of_getElem? (i := 102) rfl)) (hw _ (List.mem_of_getElem? (i := 106) rfl)) (by decide) d19_13 pd_15 rfl rfl rfl rfl (by decide) (by decide) (by decide) (by decide) (fun v91 h91 S91 hq91 => ?_)
  obtain ⟨b92, k92, rfl, z92, K92, V92⟩ := hq91
  have g_b92 : n0 ≤ b92 := Nat.le_trans hn z92
  have ne_a1_b92 : a1 ≠ b92 := Nat.ne_of_lt (Nat.lt_of_lt_of_le V_a1.lt z92)
  have ne_b92_a1 := Ne.symm ne_a1_b92
  have sz_b92 : h0.size ≤ b92 := Nat.le_trans K.1 z92
  have hn := Nat.le_trans hn K92.1
  replace V_a1 := V_a1.keep K92 nin0
  have K := K.trans K92 all0
  refine ⟨[], all0, ?_⟩
  refine OAt.cast (st' := [(.ref b92)]) rfl ?_
  refine Own.ret_ref (t := (.array .byte)) rfl rfl rfl d19_16 (by decide) (by decide) (fun Sf hSf => ?_)
  exact ⟨b92, k92, rfl, sz_b92, K, V92⟩
def Q_rmNS1_3 (Z : State) (x0 : Int32) (x1 : Int32) (x2 : Int32) (x3 : Int32) (h0 : Heap) (n0 : Nat) (v : Option Value) (h : Heap) (Sf : Addr → Prop) : Prop := Keep h0 h [] ∧ ∃ (a b : Addr) (kb : ClassId), v = some (.ref a) ∧ Exa Z h a "java/lang/String" ∧ Fld Z h a "java/lang/String" "value" "[B" (.ref b) ∧ Fld Z h a "java/lang/String" "coder" "B" (.int (0 : Int32)) ∧ Arl Z h b kb .byte [(.int x1), (.int x2)]
theorem ef_rmNS1_3 (m : MethodId) (a1 : Addr)  : entryFrame m #[(.ref a1), (.int (1 : Int32)), (.int (2 : Int32))] 3 = mkF m 0 #[.val (.ref a1), .val (.int (1 : Int32)), .val (.int (2 : Int32))] [] := by first | (simp [entryFrame, mkF, argsToLocals, Value.category]; done) | rfl
set_option maxRecDepth 65536 in
set_option maxHeartbeats 40000000 in
theorem rmNS1_3 (l : Launch) (Z : State) (a0 : Array Value) (hw : ∀ d ∈ tables_1, d.before a0 Z = true) (ws : List Jvm.Cond) (a1 : Addr) (ka : ClassId) (x0 : Int32) (x1 : Int32) (x2 : Int32) (x3 : Int32) (h0 : Heap) (n0 : Nat) (hn : n0 ≤ h0.size) (V_a1 : Arl Z h0 a1 ka .byte [(.int x0), (.int x1), (.int x2), (.int x3)]) :
    Met own_EL l Z (⟨"java/lang/StringLatin1", "newString", "([BII)Ljava/lang/String;"⟩ : MethodName) jdk_43_method_47_code 3 (some (.object "java/lang/String")) ({ frames := 5, cells := 3, slots := 16, locals := 90 } : Room) ws #[(.ref a1), (.int (1 : Int32)), (.int (2 : Int32))] h0 n0 [] (Q_rmNS1_3 Z x0 x1 x2 x3 h0 n0) := by
  refine Met.of pn_17 (fun m => ef_rmNS1_3 m a1) ?_
  have K := Keep.refl h0 []
  refine Own.iloadN d17_0 rfl ?_
  refine Own.if_ne 7 d17_1 (by decide) rfl (fun _ => ?_) (fun q => absurd q (by decide))
  refine Own.new_ (hw _ (List.mem_of_getElem? (i := 99) rfl)) (hw _ (List.mem_of_getElem? (i := 2) rfl)) (hw _ (List.mem_of_getElem? (i := 3) rfl)) d17_7 (by decide) (by decide) (fun h93 b93 gb93 E93 X93 D93 => ?_)
  have g_b93 : n0 ≤ b93 := by rw [gb93]; exact hn
  have ne_a1_b93 : a1 ≠ b93 := fun q => Nat.ne_of_lt V_a1.lt (q.trans gb93)
  have ne_b93_a1 := Ne.symm ne_a1_b93
  have hn := Nat.le_trans hn E93.1
  replace V_a1 := V_a1.ext E93
  have X_b93 := X93
  have F_coder_b93 : Fld Z h93 b93 "java/lang/String" "coder" "B" (.int (0 : Int32)) := D93 (Or.inr (hw _ (List.mem_of_getElem? (i := 27) rfl))) (ty := .byte) (by decide)
  have F_value_b93 : Fld Z h93 b93 "java/lang/String" "value" "[B" .null := D93 (Or.inr (hw _ (List.mem_of_getElem? (i := 29) rfl))) (ty := (.array .byte)) (by decide)
  have sz_b93 : h0.size ≤ b93 := by rw [gb93]; exact K.1
  have K := K.ext E93
  refine Own.dup d17_10 rfl ?_
  refine Own.aloadN d17_11 rfl rfl ?_
  refine Own.iloadN d17_12 rfl ?_
  refine Own.iloadN d17_13 rfl ?_
  refine Own.iloadN d17_14 rfl ?_
  refine Own.iadd d17_15 ?_
  refine OAt.cast (st' := [(.int (3 : Int32)), (.int (1 : Int32)), (.ref a1), (.ref b93), (.ref b93)]) rfl ?_
  refine Own.callS_ [(.ref a1), (.int (1 : Int32)), (.int (3 : Int32))] [(.ref b93), (.ref b93)] 2 (rmRG1_3 l Z a0 hw [] a1 ka x0 x1 x2 x3 h93 n0 hn V_a1) all0 (hw _ (List.mem_of_getElem? (i := 100) rfl)) (hw _ (List.mem_of_getElem? (i := 101) rfl)) (hw _ (List.mem_of_getElem? (i := 102) rfl)) (hw _ (List.mem_of_getElem? (i := 103) rfl)) (by decide) d17_16 pd_15 rfl rfl rfl rfl (by decide) (by decide) (by decide) (by decide) (fun v94 h94 S94 hq94 => ?_)
  obtain ⟨b95, k95, rfl, z95, K95, V95⟩ := hq94
  have g_b95 : n0 ≤ b95 := Nat.le_trans hn z95
  have ne_a1_b95 : a1 ≠ b95 := Nat.ne_of_lt (Nat.lt_of_lt_of_le V_a1.lt z95)
  have ne_b95_a1 := Ne.symm ne_a1_b95
  have ne_b93_b95 : b93 ≠ b95 := Nat.ne_of_lt (Nat.lt_of_lt_of_le X_b93.lt z95)
  have ne_b95_b93 := Ne.symm ne_b93_b95
  have sz_b95 : h0.size ≤ b95 := Nat.le_trans K.1 z95
  have hn := Nat.le_trans hn K95.1
  replace V_a1 := V_a1.keep K95 nin0
  replace X_b93 := X_b93.keep K95
  replace F_coder_b93 := F_coder_b93.keep K95 nin0
  replace F_value_b93 := F_value_b93.keep K95 nin0
  have K := K.trans K95 all0
  refine ⟨[], all0, ?_⟩
  refine OAt.cast (st' := [(.ref b95), (.ref b93), (.ref b93)]) rfl ?_
  refine Own.iconst (0 : Int32) d17_19 rfl ?_
  refine Own.callI_ b93 [(.ref b95), (.int (0 : Int32))] [(.ref b93)] 1 (rmBB l Z a0 hw [] b93 b95 h94 n0 hn X_b93 g_b93 F_value_b93 F_coder_b93) (allS (List.mem_of_getElem? (i := 0) rfl) all0) (hw _ (List.mem_of_getElem? (i := 118) rfl)) (hw _ (List.mem_of_getElem? (i := 119) rfl)) (hw _ (List.mem_of_getElem? (i := 3) rfl)) (hw _ (List.mem_of_getElem? (i := 120) rfl)) rfl (by decide) d17_20 pd_12 rfl rfl rfl rfl (by decide) (by decide) (by decide) (by decide) (fun v96 h96 S96 hq96 => ?_)
  obtain ⟨rfl, K97, G1, G2⟩ := hq96
  have hn := Nat.le_trans hn K97.1
  replace V_a1 := V_a1.keep K97 (ninS ne_a1_b93 nin0)
  replace X_b93 := X_b93.keep K97
  replace V95 := V95.keep K97 (ninS ne_b95_b93 nin0)
  have K := K.trans K97 (allS (Or.inr sz_b93) all0)
  have F_value_b93 := G1
  have F_coder_b93 := G2
  refine ⟨[], all0, ?_⟩
  refine OAt.cast (st' := [(.ref b93)]) rfl ?_
  refine Own.ret_ref (t := (.object "java/lang/String")) rfl rfl rfl d17_23 (by decide) (by decide) (fun Sf hSf => ?_)
  exact ⟨K, b93, b95, k95, rfl, X_b93, F_value_b93, F_coder_b93, V95⟩
def Q_rmSub1_3 (Z : State) (a1 : Addr) (b : Addr) (kb : ClassId) (zc : Int32) (vf : Value) (x0 : Int32) (x1 : Int32) (x2 : Int32) (x3 : Int32) (h0 : Heap) (n0 : Nat) (v : Option Value) (h : Heap) (Sf : Addr → Prop) : Prop := Keep h0 h [] ∧ ∃ (a b : Addr) (kb : ClassId), v = some (.ref a) ∧ Exa Z h a "java/lang/String" ∧ Fld Z h a "java/lang/String" "value" "[B" (.ref b) ∧ Fld Z h a "java/lang/String" "coder" "B" (.int (0 : Int32)) ∧ Arl Z h b kb .byte [(.int x1), (.int x2)]
theorem ef_rmSub1_3 (m : MethodId) (a1 : Addr)  : entryFrame m #[(.ref a1), (.int (1 : Int32)), (.int (3 : Int32))] 5 = mkF m 0 #[.val (.ref a1), .val (.int (1 : Int32)), .val (.int (3 : Int32)), .unset, .unset] [] := by first | (simp [entryFrame, mkF, argsToLocals, Value.category]; done) | rfl
set_option maxRecDepth 65536 in
set_option maxHeartbeats 40000000 in
theorem rmSub1_3 (l : Launch) (Z : State) (a0 : Array Value) (hw : ∀ d ∈ tables_1, d.before a0 Z = true) (ws : List Jvm.Cond) (a1 : Addr) (b : Addr) (kb : ClassId) (zc : Int32) (vf : Value) (x0 : Int32) (x1 : Int32) (x2 : Int32) (x3 : Int32) (h0 : Heap) (n0 : Nat) (hn : n0 ≤ h0.size) (X_a1 : Exa Z h0 a1 "java/lang/String") (F_value_a1 : Fld Z h0 a1 "java/lang/String" "value" "[B" (.ref b)) (F_coder_a1 : Fld Z h0 a1 "java/lang/String" "coder" "B" (.int (0 : Int32))) (V_b : Arl Z h0 b kb .byte [(.int x0), (.int x1), (.int x2), (.int x3)]) (S_C : Sta Z h0 "java/lang/String" "COMPACT_STRINGS" "Z" (.int zc)) (S_F : Sta Z h0 "jdk/internal/util/Preconditions" "SIOOBE_FORMATTER" "Ljava/util/function/BiFunction;" vf) (hz : ¬ zc = 0) (hvf : vf.isRef = true) :
    Met own_EL l Z (⟨"java/lang/String", "substring", "(II)Ljava/lang/String;"⟩ : MethodName) jdk_42_method_92_code 5 (some (.object "java/lang/String")) ({ frames := 6, cells := 3, slots := 16, locals := 110 } : Room) ws #[(.ref a1), (.int (1 : Int32)), (.int (3 : Int32))] h0 n0 [] (Q_rmSub1_3 Z a1 b kb zc vf x0 x1 x2 x3 h0 n0) := by
  refine Met.of pn_11 (fun m => ef_rmSub1_3 m a1) ?_
  have K := Keep.refl h0 []
  refine Own.aloadN d11_0 rfl rfl ?_
  refine Own.callVP a1 [] [] 0 (rm_len_4 l Z a0 hw [] a1 b kb _ zc h0 n0 hn X_a1 F_value_a1 F_coder_a1 V_b rfl S_C hz) (hw _ (List.mem_of_getElem? (i := 64) rfl)) (hw _ (List.mem_of_getElem? (i := 65) rfl)) (fun s hZ => notFace_of_selects (args := #[]) (mvT hZ (hw _ (List.mem_of_getElem? (i := 67) rfl)))) (hw _ (List.mem_of_getElem? (i := 67) rfl)) (hw _ (List.mem_of_getElem? (i := 66) rfl)) (hw _ (List.mem_of_getElem? (i := 3) rfl)) (hw _ (List.mem_of_getElem? (i := 68) rfl)) (by decide) X_a1 d11_1 pd_1 rfl rfl rfl rfl (by decide) (by decide) (by decide) (by decide) ?_
  refine Own.istoreN #[.val (.ref a1), .val (.int (1 : Int32)), .val (.int (3 : Int32)), .val (.int (4 : Int32)), .unset] d11_4 rfl ?_
  refine Own.iloadN d11_5 rfl ?_
  refine Own.iloadN d11_6 rfl ?_
  refine Own.iloadN d11_7 rfl ?_
  refine Own.callS0 [(.int (1 : Int32)), (.int (3 : Int32)), (.int (4 : Int32))] [] 0 (rmCB1_3 l Z a0 hw [] vf h0 n0 hn S_F hvf) (hw _ (List.mem_of_getElem? (i := 74) rfl)) (hw _ (List.mem_of_getElem? (i := 75) rfl)) (hw _ (List.mem_of_getElem? (i := 3) rfl)) (hw _ (List.mem_of_getElem? (i := 76) rfl)) (by decide) d11_8 pd_8 rfl rfl rfl rfl (by decide) (by decide) (by decide) (by decide) ?_
  refine Own.iloadN d11_11 rfl ?_
  refine Own.if_ne 22 d11_12 (by decide) rfl (fun _ => ?_) (fun q => absurd q (by decide))
  refine Own.iloadN d11_22 rfl ?_
  refine Own.iloadN d11_23 rfl ?_
  refine Own.isub d11_24 ?_
  refine OAt.cast (st' := [(.int (2 : Int32))]) rfl ?_
  refine Own.istore #[.val (.ref a1), .val (.int (1 : Int32)), .val (.int (3 : Int32)), .val (.int (4 : Int32)), .val (.int (2 : Int32))] d11_25 rfl ?_
  refine Own.aloadN d11_27 rfl rfl ?_
  refine Own.callVP a1 [] [] 0 (rm_lat_4 l Z a0 hw [] a1 b kb _ zc h0 n0 hn X_a1 F_value_a1 F_coder_a1 V_b rfl S_C hz) (hw _ (List.mem_of_getElem? (i := 82) rfl)) (hw _ (List.mem_of_getElem? (i := 83) rfl)) (fun s hZ => notFace_of_selects (args := #[]) (mvT hZ (hw _ (List.mem_of_getElem? (i := 85) rfl)))) (hw _ (List.mem_of_getElem? (i := 85) rfl)) (hw _ (List.mem_of_getElem? (i := 84) rfl)) (hw _ (List.mem_of_getElem? (i := 3) rfl)) (hw _ (List.mem_of_getElem? (i := 86) rfl)) (by decide) X_a1 d11_28 pd_4 rfl rfl rfl rfl (by decide) (by decide) (by decide) (by decide) ?_
  refine Own.if_eq 47 d11_31 (by decide) rfl (fun q => absurd q (by decide)) (fun _ => ?_)
  refine Own.aloadN d11_34 rfl rfl ?_
  refine Own.getF_ (host := "") (Or.inl (hw _ (List.mem_of_getElem? (i := 28) rfl))) Via.refl F_value_a1 d11_35 ?_
  refine Own.iloadN d11_38 rfl ?_
  refine Own.iload d11_39 rfl ?_
  refine Own.callS_ [(.ref b), (.int (1 : Int32)), (.int (2 : Int32))] [] 0 (rmNS1_3 l Z a0 hw [] b kb x0 x1 x2 x3 h0 n0 hn V_b) all0 (hw _ (List.mem_of_getElem? (i := 87) rfl)) (hw _ (List.mem_of_getElem? (i := 88) rfl)) (hw _ (List.mem_of_getElem? (i := 89) rfl)) (hw _ (List.mem_of_getElem? (i := 90) rfl)) (by decide) d11_41 pd_14 rfl rfl rfl rfl (by decide) (by decide) (by decide) (by decide) (fun v98 h98 S98 hq98 => ?_)
  obtain ⟨K99, s99, t99, kt99, rfl, X_s99, F_value_s99, F_coder_s99, V_t99⟩ := hq98
  have hn := Nat.le_trans hn K99.1
  replace S_C := sta_keep S_C K99 ns0
  replace S_F := sta_keep S_F K99 ns0
  replace X_a1 := X_a1.keep K99
  replace F_value_a1 := F_value_a1.keep K99 nin0
  replace F_coder_a1 := F_coder_a1.keep K99 nin0
  replace V_b := V_b.keep K99 nin0
  have K := K.trans K99 all0
  refine ⟨[], all0, ?_⟩
  refine OAt.cast (st' := [(.ref s99)]) rfl ?_
  refine Own.goto_ 57 d11_44 (by decide) rfl ?_
  refine Own.ret_ref (t := (.object "java/lang/String")) rfl rfl rfl d11_57 (by decide) (by decide) (fun Sf hSf => ?_)
  exact ⟨K, s99, t99, kt99, rfl, X_s99, F_value_s99, F_coder_s99, V_t99⟩
def Q_rmCut1_3 (Z : State) (x0 : Int32) (x1 : Int32) (x2 : Int32) (x3 : Int32) (h0 : Heap) (n0 : Nat) (v : Option Value) (h : Heap) (Sf : Addr → Prop) : Prop := Keep h0 h [] ∧ ∃ (a b : Addr) (kb : ClassId), v = some (.ref a) ∧ Exa Z h a "java/lang/String" ∧ Fld Z h a "java/lang/String" "value" "[B" (.ref b) ∧ Fld Z h a "java/lang/String" "coder" "B" (.int (0 : Int32)) ∧ Arl Z h b kb .byte [(.int x1), (.int x2)]
theorem ef_rmCut1_3 (m : MethodId) (a1 : Addr)  : entryFrame m #[(.ref a1)] 1 = mkF m 0 #[.val (.ref a1)] [] := by first | (simp [entryFrame, mkF, argsToLocals, Value.category]; done) | rfl
set_option maxRecDepth 65536 in
set_option maxHeartbeats 40000000 in
theorem rmCut1_3 (l : Launch) (Z : State) (a0 : Array Value) (hw : ∀ d ∈ tables_1, d.before a0 Z = true) (ws : List Jvm.Cond) (a1 : Addr) (a2 : Addr) (b : Addr) (kb : ClassId) (zc : Int32) (vf : Value) (x0 : Int32) (x1 : Int32) (x2 : Int32) (x3 : Int32) (h0 : Heap) (n0 : Nat) (hn : n0 ≤ h0.size) (X_a2 : Exa Z h0 a2 "java/lang/String") (F_value_a2 : Fld Z h0 a2 "java/lang/String" "value" "[B" (.ref b)) (F_coder_a2 : Fld Z h0 a2 "java/lang/String" "coder" "B" (.int (0 : Int32))) (V_b : Arl Z h0 b kb .byte [(.int x0), (.int x1), (.int x2), (.int x3)]) (S_C : Sta Z h0 "java/lang/String" "COMPACT_STRINGS" "Z" (.int zc)) (S_F : Sta Z h0 "jdk/internal/util/Preconditions" "SIOOBE_FORMATTER" "Ljava/util/function/BiFunction;" vf) (hz : ¬ zc = 0) (hvf : vf.isRef = true) (F_text_a1 : Fld Z h0 a1 "com/example/cytorelay/cytorelay/core/Hl7Syntax$Span" "text" "Ljava/lang/String;" (.ref a2)) (F_from_a1 : Fld Z h0 a1 "com/example/cytorelay/cytorelay/core/Hl7Syntax$Span" "from" "I" (.int (1 : Int32))) (F_to_a1 : Fld Z h0 a1 "com/example/cytorelay/cytorelay/core/Hl7Syntax$Span" "to" "I" (.int (3 : Int32))) :
    Met own_EL l Z (⟨"com/example/cytorelay/cytorelay/core/Hl7Syntax$Span", "cut", "()Ljava/lang/String;"⟩ : MethodName) prog_32_method_4_code 1 (some (.object "java/lang/String")) ({ frames := 7, cells := 3, slots := 16, locals := 130 } : Room) ws #[(.ref a1)] h0 n0 [] (Q_rmCut1_3 Z x0 x1 x2 x3 h0 n0) := by
  refine Met.of pn_10 (fun m => ef_rmCut1_3 m a1) ?_
  have K := Keep.refl h0 []
  refine Own.aloadN d10_0 rfl rfl ?_
  refine Own.getF_ (host := "") (Or.inl (hw _ (List.mem_of_getElem? (i := 43) rfl))) Via.refl F_text_a1 d10_1 ?_
  refine Own.aloadN d10_4 rfl rfl ?_
  refine Own.getF_ (host := "") (Or.inl (hw _ (List.mem_of_getElem? (i := 45) rfl))) Via.refl F_from_a1 d10_5 ?_
  refine Own.aloadN d10_8 rfl rfl ?_
  refine Own.getF_ (host := "") (Or.inl (hw _ (List.mem_of_getElem? (i := 47) rfl))) Via.refl F_to_a1 d10_9 ?_
  refine Own.callV_ a2 [(.int (1 : Int32)), (.int (3 : Int32))] [] 0 (rmSub1_3 l Z a0 hw [] a2 b kb zc vf x0 x1 x2 x3 h0 n0 hn X_a2 F_value_a2 F_coder_a2 V_b S_C S_F hz hvf) all0 (hw _ (List.mem_of_getElem? (i := 59) rfl)) (hw _ (List.mem_of_getElem? (i := 60) rfl)) (fun s hZ => notFace_of_selects (args := #[]) (mvT hZ (hw _ (List.mem_of_getElem? (i := 62) rfl)))) (hw _ (List.mem_of_getElem? (i := 62) rfl)) (hw _ (List.mem_of_getElem? (i := 61) rfl)) (hw _ (List.mem_of_getElem? (i := 3) rfl)) (hw _ (List.mem_of_getElem? (i := 63) rfl)) (by decide) X_a2 d10_12 pd_6 rfl rfl rfl rfl (by decide) (by decide) (by decide) (by decide) (fun v100 h100 S100 hq100 => ?_)
  obtain ⟨K101, s101, t101, kt101, rfl, X_s101, F_value_s101, F_coder_s101, V_t101⟩ := hq100
  have hn := Nat.le_trans hn K101.1
  replace S_C := sta_keep S_C K101 ns0
  replace S_F := sta_keep S_F K101 ns0
  replace X_a2 := X_a2.keep K101
  replace F_value_a2 := F_value_a2.keep K101 nin0
  replace F_coder_a2 := F_coder_a2.keep K101 nin0
  replace V_b := V_b.keep K101 nin0
  replace F_text_a1 := F_text_a1.keep K101 nin0
  replace F_from_a1 := F_from_a1.keep K101 nin0
  replace F_to_a1 := F_to_a1.keep K101 nin0
  have K := K.trans K101 all0
  refine ⟨[], all0, ?_⟩
  refine OAt.cast (st' := [(.ref s101)]) rfl ?_
  refine Own.ret_ref (t := (.object "java/lang/String")) rfl rfl rfl d10_15 (by decide) (by decide) (fun Sf hSf => ?_)
  exact ⟨K, s101, t101, kt101, rfl, X_s101, F_value_s101, F_coder_s101, V_t101⟩
theorem ef_rmSE1_4 (m : MethodId) (a1 : Addr)  : entryFrame m #[(.ref a1)] 1 = mkF m 0 #[.val (.ref a1)] [] := by first | (simp [entryFrame, mkF, argsToLocals, Value.category]; done) | rfl
set_option maxRecDepth 65536 in
set_option maxHeartbeats 40000000 in
theorem rmSE1_4 (l : Launch) (Z : State) (a0 : Array Value) (hw : ∀ d ∈ tables_1, d.before a0 Z = true) (ws : List Jvm.Cond) (a1 : Addr) (h0 : Heap) (n0 : Nat) (hn : n0 ≤ h0.size) (F_from : Fld Z h0 a1 "com/example/cytorelay/cytorelay/core/Hl7Syntax$Span" "from" "I" (.int (1 : Int32))) (F_to : Fld Z h0 a1 "com/example/cytorelay/cytorelay/core/Hl7Syntax$Span" "to" "I" (.int (4 : Int32))) :
    Met own_EL l Z (⟨"com/example/cytorelay/cytorelay/core/Hl7Syntax$Span", "isEmpty", "()Z"⟩ : MethodName) prog_32_method_3_code 1 (some .boolean) ({ frames := 0, cells := 0, slots := 0, locals := 0 } : Room) ws #[(.ref a1)] h0 n0 [] (Pur (.int (0 : Int32)) h0) := by
  refine Met.of pn_9 (fun m => ef_rmSE1_4 m a1) ?_
  refine Own.aloadN d9_0 rfl rfl ?_
  refine Own.getF_ (host := "") (Or.inl (hw _ (List.mem_of_getElem? (i := 45) rfl))) Via.refl F_from d9_1 ?_
  refine Own.aloadN d9_4 rfl rfl ?_
  refine Own.getF_ (host := "") (Or.inl (hw _ (List.mem_of_getElem? (i := 47) rfl))) Via.refl F_to d9_5 ?_
  refine Own.icmp_ne 15 d9_8 (by decide) rfl (fun _ => ?_) (fun q => absurd q (by decide))
  refine Own.iconst (0 : Int32) d9_15 rfl ?_
  refine Own.ret_nar (t := .boolean) (by simp) rfl d9_16 (by decide) (by decide) (fun Sf hSf => ?_)
  exact ⟨rfl, rfl⟩
theorem ef_rmPF1_4 (m : MethodId) (vf : Value) (hr_3 : (vf).isRef = true) : entryFrame m #[(.int (1 : Int32)), (.int (4 : Int32)), (.int (4 : Int32)), vf] 4 = mkF m 0 #[.val (.int (1 : Int32)), .val (.int (4 : Int32)), .val (.int (4 : Int32)), .val vf] [] := by rcases ref_cases hr_3 with rfl | ⟨z3, rfl⟩ <;> first | (simp [entryFrame, mkF, argsToLocals, Value.category]; done) | rfl
set_option maxRecDepth 65536 in
set_option maxHeartbeats 40000000 in
theorem rmPF1_4 (l : Launch) (Z : State) (a0 : Array Value) (hw : ∀ d ∈ tables_1, d.before a0 Z = true) (ws : List Jvm.Cond) (vf : Value) (h0 : Heap) (n0 : Nat) (hn : n0 ≤ h0.size) (hvf : vf.isRef = true) :
    Met own_EL l Z (⟨"jdk/internal/util/Preconditions", "checkFromToIndex", "(IIILjava/util/function/BiFunction;)I"⟩ : MethodName) jdk_41_method_12_code 4 (some .int) ({ frames := 0, cells := 0, slots := 0, locals := 0 } : Room) ws #[(.int (1 : Int32)), (.int (4 : Int32)), (.int (4 : Int32)), vf] h0 n0 [] (Pur (.int (1 : Int32)) h0) := by
  refine Met.of pn_15 (fun m => ef_rmPF1_4 m vf hvf) ?_
  refine Own.iloadN d15_0 rfl ?_
  refine Own.if_lt 14 d15_1 (by decide) rfl (fun q => absurd q (by decide)) (fun _ => ?_)
  refine Own.iloadN d15_4 rfl ?_
  refine Own.iloadN d15_5 rfl ?_
  refine Own.icmp_gt 14 d15_6 (by decide) rfl (fun q => absurd q (by decide)) (fun _ => ?_)
  refine Own.iloadN d15_9 rfl ?_
  refine Own.iloadN d15_10 rfl ?_
  refine Own.icmp_le 22 d15_11 (by decide) rfl (fun _ => ?_) (fun q => absurd q (by decide))
  refine Own.iloadN d15_22 rfl ?_
  refine Own.ret_int rfl d15_23 (by decide) (by decide) (fun Sf hSf => ?_)
  exact ⟨rfl, rfl⟩
theorem ef_rmCB1_4 (m : MethodId)   : entryFrame m #[(.int (1 : Int32)), (.int (4 : Int32)), (.int (4 : Int32))] 3 = mkF m 0 #[.val (.int (1 : Int32)), .val (.int (4 : Int32)), .val (.int (4 : Int32))] [] := by first | (simp [entryFrame, mkF, argsToLocals, Value.category]; done) | rfl
set_option maxRecDepth 65536 in
set_option maxHeartbeats 40000000 in
theorem rmCB1_4 (l : Launch) (Z : State) (a0 : Array Value) (hw : ∀ d ∈ tables_1, d.before a0 Z = true) (ws : List Jvm.Cond) (vf : Value) (h0 : Heap) (n0 : Nat) (hn : n0 ≤ h0.size) (S_F : Sta Z h0 "jdk/internal/util/Preconditions" "SIOOBE_FORMATTER" "Ljava/util/function/BiFunction;" vf) (hvf : vf.isRef = true) :
    Met own_EL l Z (⟨"java/lang/String", "checkBoundsBeginEnd", "(III)V"⟩ : MethodName) jdk_42_method_158_code 3 none ({ frames := 1, cells := 0, slots := 0, locals := 15 } : Room) ws #[(.int (1 : Int32)), (.int (4 : Int32)), (.int (4 : Int32))] h0 n0 [] (Pur0 h0) := by
  refine Met.of pn_14 (fun m => ef_rmCB1_4 m ) ?_
  refine Own.iloadN d14_0 rfl ?_
  refine Own.iloadN d14_1 rfl ?_
  refine Own.iloadN d14_2 rfl ?_
  refine Own.getS_ (host := "") (Or.inl (hw _ (List.mem_of_getElem? (i := 77) rfl))) Via.refl S_F d14_3 ?_
  refine Own.callSP [(.int (1 : Int32)), (.int (4 : Int32)), (.int (4 : Int32)), vf] [] 0 (rmPF1_4 l Z a0 hw [] vf h0 n0 hn hvf) (hw _ (List.mem_of_getElem? (i := 79) rfl)) (hw _ (List.mem_of_getElem? (i := 80) rfl)) (hw _ (List.mem_of_getElem? (i := 78) rfl)) (hw _ (List.mem_of_getElem? (i := 81) rfl)) (by decide) d14_6 pd_9 rfl rfl rfl rfl (by decide) (by decide) (by decide) (by decide) ?_
  refine Own.pop d14_9 rfl ?_
  refine Own.ret_void rfl d14_10 (by decide) (by decide) (fun Sf hSf => ?_)
  exact ⟨rfl, rfl⟩
theorem ef_rmCL1_4 (m : MethodId)   : entryFrame m #[(.int (1 : Int32)), (.int (4 : Int32))] 2 = mkF m 0 #[.val (.int (1 : Int32)), .val (.int (4 : Int32))] [] := by first | (simp [entryFrame, mkF, argsToLocals, Value.category]; done) | rfl
set_option maxRecDepth 65536 in
set_option maxHeartbeats 40000000 in
theorem rmCL1_4 (l : Launch) (Z : State) (a0 : Array Value) (hw : ∀ d ∈ tables_1, d.before a0 Z = true) (ws : List Jvm.Cond)  (h0 : Heap) (n0 : Nat) (hn : n0 ≤ h0.size) :
    Met own_EL l Z (⟨"java/util/Arrays", "checkLength", "(II)V"⟩ : MethodName) jdk_65_method_131_code 2 none ({ frames := 0, cells := 0, slots := 0, locals := 0 } : Room) ws #[(.int (1 : Int32)), (.int (4 : Int32))] h0 n0 [] (Pur0 h0) := by
  refine Met.of pn_21 (fun m => ef_rmCL1_4 m ) ?_
  refine Own.iloadN d21_0 rfl ?_
  refine Own.iloadN d21_1 rfl ?_
  refine Own.icmp_ge 37 d21_2 (by decide) rfl (fun _ => ?_) (fun q => absurd q (by decide))
  refine Own.ret_void rfl d21_37 (by decide) (by decide) (fun Sf hSf => ?_)
  exact ⟨rfl, rfl⟩
theorem d22_5 : decode jdk_29_method_69_code 5 = .ok (.iload_n 0, 1) := by decide +kernel
theorem d22_6 : decode jdk_29_method_69_code 6 = .ok (.goto 4, 3) := by decide +kernel
theorem ef_rmMM1_4 (m : MethodId)   : entryFrame m #[(.int (3 : Int32)), (.int (3 : Int32))] 2 = mkF m 0 #[.val (.int (3 : Int32)), .val (.int (3 : Int32))] [] := by first | (simp [entryFrame, mkF, argsToLocals, Value.category]; done) | rfl
set_option maxRecDepth 65536 in
set_option maxHeartbeats 40000000 in
theorem rmMM1_4 (l : Launch) (Z : State) (a0 : Array Value) (hw : ∀ d ∈ tables_1, d.before a0 Z = true) (ws : List Jvm.Cond)  (h0 : Heap) (n0 : Nat) (hn : n0 ≤ h0.size) :
    Met own_EL l Z (⟨"java/lang/Math", "min", "(II)I"⟩ : MethodName) jdk_29_method_69_code 2 (some .int) ({ frames := 0, cells := 0, slots := 0, locals := 0 } : Room) ws #[(.int (3 : Int32)), (.int (3 : Int32))] h0 n0 [] (Pur (.int (3 : Int32)) h0) := by
  refine Met.of pn_22 (fun m => ef_rmMM1_4 m ) ?_
  refine Own.iloadN d22_0 rfl ?_
  refine Own.iloadN d22_1 rfl ?_
  refine Own.icmp_gt 9 d22_2 (by decide) rfl (fun q => absurd q (by decide)) (fun _ => ?_)
  refine Own.iloadN d22_5 rfl ?_
  refine Own.goto_ 10 d22_6 (by decide) rfl ?_
  refine Own.ret_int rfl d22_10 (by decide) (by decide) (fun Sf hSf => ?_)
  exact ⟨rfl, rfl⟩
def Q_rmRB1_4 (Z : State) (x0 : Int32) (x1 : Int32) (x2 : Int32) (x3 : Int32) (h0 : Heap) (n0 : Nat) (v : Option Value) (h : Heap) (Sf : Addr → Prop) : Prop := ∃ (a : Addr) (ka : ClassId), v = some (.ref a) ∧ h0.size ≤ a ∧ Keep h0 h [] ∧ Arl Z h a ka .byte [(.int x1), (.int x2), (.int x3)]
theorem ef_rmRB1_4 (m : MethodId) (a1 : Addr)  : entryFrame m #[(.ref a1), (.int (1 : Int32)), (.int (4 : Int32))] 5 = mkF m 0 #[.val (.ref a1), .val (.int (1 : Int32)), .val (.int (4 : Int32)), .unset, .unset] [] := by first | (simp [entryFrame, mkF, argsToLocals, Value.category]; done) | rfl
set_option maxRecDepth 65536 in
set_option maxHeartbeats 40000000 in
theorem rmRB1_4 (l : Launch) (Z : State) (a0 : Array Value) (hw : ∀ d ∈ tables_1, d.before a0 Z = true) (ws : List Jvm.Cond) (a1 : Addr) (ka : ClassId) (x0 : Int32) (x1 : Int32) (x2 : Int32) (x3 : Int32) (h0 : Heap) (n0 : Nat) (hn : n0 ≤ h0.size) (V_a1 : Arl Z h0 a1 ka .byte [(.int x0), (.int x1), (.int x2), (.int x3)]) :
    Met own_EL l Z (⟨"java/util/Arrays", "copyOfRangeByte", "([BII)[B"⟩ : MethodName) jdk_65_method_133_code 5 (some (.array .byte)) ({ frames := 1, cells := 1, slots := 3, locals := 51 } : Room) ws #[(.ref a1), (.int (1 : Int32)), (.int (4 : Int32))] h0 n0 [] (Q_rmRB1_4 Z x0 x1 x2 x3 h0 n0) := by
  refine Met.of pn_20 (fun m => ef_rmRB1_4 m a1) ?_
  have K := Keep.refl h0 []
  refine Own.iloadN d20_0 rfl ?_
  refine Own.iloadN d20_1 rfl ?_
  refine Own.callS0 [(.int (1 : Int32)), (.int (4 : Int32))] [] 0 (rmCL1_4 l Z a0 hw [] h0 n0 hn) (hw _ (List.mem_of_getElem? (i := 107) rfl)) (hw _ (List.mem_of_getElem? (i := 108) rfl)) (hw _ (List.mem_of_getElem? (i := 102) rfl)) (hw _ (List.mem_of_getElem? (i := 109) rfl)) (by decide) d20_2 pd_7 rfl rfl rfl rfl (by decide) (by decide) (by decide) (by decide) ?_
  refine Own.iloadN d20_5 rfl ?_
  refine Own.iloadN d20_6 rfl ?_
  refine Own.isub d20_7 ?_
  refine OAt.cast (st' := [(.int (3 : Int32))]) rfl ?_
  refine Own.istoreN #[.val (.ref a1), .val (.int (1 : Int32)), .val (.int (4 : Int32)), .val (.int (3 : Int32)), .unset] d20_8 rfl ?_
  refine Own.iloadN d20_9 rfl ?_
  refine Own.newarray_ 3 .byte rfl (hw _ (List.mem_of_getElem? (i := 19) rfl)) d20_10 (N := 3) rfl (by decide) (by decide) (by decide) (by decide) rfl (fun h102 b102 k102 gb102 E102 V102 => ?_)
  have g_b102 : n0 ≤ b102 := by rw [gb102]; exact hn
  have ne_a1_b102 : a1 ≠ b102 := fun q => Nat.ne_of_lt V_a1.lt (q.trans gb102)
  have ne_b102_a1 := Ne.symm ne_a1_b102
  have hn := Nat.le_trans hn E102.1
  replace V_a1 := V_a1.ext E102
  replace V102 : Arl Z h102 b102 k102 .byte [(.int (0 : Int32)), (.int (0 : Int32)), (.int (0 : Int32))] := V102
  have sz_b102 : h0.size ≤ b102 := by rw [gb102]; exact K.1
  have K := K.ext E102
  refine Own.astore #[.val (.ref a1), .val (.int (1 : Int32)), .val (.int (4 : Int32)), .val (.int (3 : Int32)), .val (.ref b102)] d20_12 rfl rfl ?_
  refine Own.aloadN d20_14 rfl rfl ?_
  refine Own.iloadN d20_15 rfl ?_
  refine Own.aload d20_16 rfl rfl ?_
  refine Own.iconst (0 : Int32) d20_18 rfl ?_
  refine Own.aloadN d20_19 rfl rfl ?_
  refine Own.arraylength_ (4 : Int32) V_a1 rfl d20_20 ?_
  refine Own.iloadN d20_21 rfl ?_
  refine Own.isub d20_22 ?_
  refine OAt.cast (st' := [(.int (3 : Int32)), (.int (0 : Int32)), (.ref b102), (.int (1 : Int32)), (.ref a1)]) rfl ?_
  refine Own.iloadN d20_23 rfl ?_
  refine Own.callSP [(.int (3 : Int32)), (.int (3 : Int32))] [(.int (0 : Int32)), (.ref b102), (.int (1 : Int32)), (.ref a1)] 4 (rmMM1_4 l Z a0 hw [] h102 n0 hn) (hw _ (List.mem_of_getElem? (i := 110) rfl)) (hw _ (List.mem_of_getElem? (i := 111) rfl)) (hw _ (List.mem_of_getElem? (i := 112) rfl)) (hw _ (List.mem_of_getElem? (i := 113) rfl)) (by decide) d20_24 pd_5 rfl rfl rfl rfl (by decide) (by decide) (by decide) (by decide) ?_
  refine Own.arraycopy_ (i := 1) (j := 0) (n := 3) 0 (hw _ (List.mem_of_getElem? (i := 114) rfl)) (hw _ (List.mem_of_getElem? (i := 117) rfl)) (hw _ (List.mem_of_getElem? (i := 115) rfl)) (hw _ (List.mem_of_getElem? (i := 116) rfl)) V_a1 V102 rfl rfl rfl rfl (Nat.le_of_ble_eq_true rfl) (Nat.le_of_ble_eq_true rfl) g_b102 (List.mem_of_getElem? (i := 0) rfl) rfl d20_27 (by decide) rfl (by decide) (fun h103 K103 V103 => ?_)
  have hn := Nat.le_trans hn K103.1
  replace V_a1 := V_a1.keep K103 (ninS ne_a1_b102 nin0)
  clear V102
  replace V103 : Arl Z h103 b102 k102 .byte [(.int x1), (.int x2), (.int x3)] := V103
  have K := K.trans K103 (allS (Or.inr sz_b102) all0)
  refine Own.aload d20_30 rfl rfl ?_
  refine Own.ret_ref (t := (.array .byte)) rfl rfl rfl d20_32 (by decide) (by decide) (fun Sf hSf => ?_)
  exact ⟨b102, k102, rfl, sz_b102, K, V103⟩
def Q_rmRG1_4 (Z : State) (x0 : Int32) (x1 : Int32) (x2 : Int32) (x3 : Int32) (h0 : Heap) (n0 : Nat) (v : Option Value) (h : Heap) (Sf : Addr → Prop) : Prop := ∃ (a : Addr) (ka : ClassId), v = some (.ref a) ∧ h0.size ≤ a ∧ Keep h0 h [] ∧ Arl Z h a ka .byte [(.int x1), (.int x2), (.int x3)]
theorem ef_rmRG1_4 (m : MethodId) (a1 : Addr)  : entryFrame m #[(.ref a1), (.int (1 : Int32)), (.int (4 : Int32))] 3 = mkF m 0 #[.val (.ref a1), .val (.int (1 : Int32)), .val (.int (4 : Int32))] [] := by first | (simp [entryFrame, mkF, argsToLocals, Value.category]; done) | rfl
set_option maxRecDepth 65536 in
set_option maxHeartbeats 40000000 in
theorem rmRG1_4 (l : Launch) (Z : State) (a0 : Array Value) (hw : ∀ d ∈ tables_1, d.before a0 Z = true) (ws : List Jvm.Cond) (a1 : Addr) (ka : ClassId) (x0 : Int32) (x1 : Int32) (x2 : Int32) (x3 : Int32) (h0 : Heap) (n0 : Nat) (hn : n0 ≤ h0.size) (V_a1 : Arl Z h0 a1 ka .byte [(.int x0), (.int x1), (.int x2), (.int x3)]) :
    Met own_EL l Z (⟨"java/util/Arrays", "copyOfRange", "([BII)[B"⟩ : MethodName) jdk_65_method_132_code 3 (some (.array .byte)) ({ frames := 2, cells := 1, slots := 3, locals := 67 } : Room) ws #[(.ref a1), (.int (1 : Int32)), (.int (4 : Int32))] h0 n0 [] (Q_rmRG1_4 Z x0 x1 x2 x3 h0 n0) := by
  refine Met.of pn_19 (fun m => ef_rmRG1_4 m a1) ?_
  have K := Keep.refl h0 []
  refine Own.iloadN d19_0 rfl ?_
  refine Own.if_ne 10 d19_1 (by decide) rfl (fun _ => ?_) (fun q => absurd q (by decide))
  refine Own.aloadN d19_10 rfl rfl ?_
  refine Own.iloadN d19_11 rfl ?_
  refine Own.iloadN d19_12 rfl ?_
  refine Own.callS_ [(.ref a1), (.int (1 : Int32)), (.int (4 : Int32))] [] 0 (rmRB1_4 l Z a0 hw [] a1 ka x0 x1 x2 x3 h0 n0 hn V_a1) all0 (hw _ (List.mem_of_getElem? (i := 104) rfl)) (hw _ (List.mem_of_getElem? (i := 105) rfl)) (hw _ (List.mem_of_getElem? (i := 102) rfl)) (hw _ (List.mem_of_getElem? (i := 106) rfl)) (by decide) d19_13 pd_15 rfl rfl rfl rfl (by decide) (by decide) (by decide) (by decide) (fun v104 h104 S104 hq104 => ?_)
  obtain ⟨b105, k105, rfl, z105, K105, V105⟩ := hq104
  have g_b105 : n0 ≤ b105 := Nat.le_trans hn z105
  have ne_a1_b105 : a1 ≠ b105 := Nat.ne_of_lt (Nat.lt_of_lt_of_le V_a1.lt z105)
  have ne_b105_a1 := Ne.symm ne_a1_b105
  have sz_b105 : h0.size ≤ b105 := Nat.le_trans K.1 z105
  have hn := Nat.le_trans hn K105.1
  replace V_a1 := V_a1.keep K105 nin0
  have K := K.trans K105 all0
  refine ⟨[], all0, ?_⟩
  refine OAt.cast (st' := [(.ref b105)]) rfl ?_
  refine Own.ret_ref (t := (.array .byte)) rfl rfl rfl d19_16 (by decide) (by decide) (fun Sf hSf => ?_)
  exact ⟨b105, k105, rfl, sz_b105, K, V105⟩
def Q_rmNS1_4 (Z : State) (x0 : Int32) (x1 : Int32) (x2 : Int32) (x3 : Int32) (h0 : Heap) (n0 : Nat) (v : Option Value) (h : Heap) (Sf : Addr → Prop) : Prop := Keep h0 h [] ∧ ∃ (a b : Addr) (kb : ClassId), v = some (.ref a) ∧ Exa Z h a "java/lang/String" ∧ Fld Z h a "java/lang/String" "value" "[B" (.ref b) ∧ Fld Z h a "java/lang/String" "coder" "B" (.int (0 : Int32)) ∧ Arl Z h b kb .byte [(.int x1), (.int x2), (.int x3)]
theorem ef_rmNS1_4 (m : MethodId) (a1 : Addr)  : entryFrame m #[(.ref a1), (.int (1 : Int32)), (.int (3 : Int32))] 3 = mkF m 0 #[.val (.ref a1), .val (.int (1 : Int32)), .val (.int (3 : Int32))] [] := by first | (simp [entryFrame, mkF, argsToLocals, Value.category]; done) | rfl
set_option maxRecDepth 65536 in
set_option maxHeartbeats 40000000 in
theorem rmNS1_4 (l : Launch) (Z : State) (a0 : Array Value) (hw : ∀ d ∈ tables_1, d.before a0 Z = true) (ws : List Jvm.Cond) (a1 : Addr) (ka : ClassId) (x0 : Int32) (x1 : Int32) (x2 : Int32) (x3 : Int32) (h0 : Heap) (n0 : Nat) (hn : n0 ≤ h0.size) (V_a1 : Arl Z h0 a1 ka .byte [(.int x0), (.int x1), (.int x2), (.int x3)]) :
    Met own_EL l Z (⟨"java/lang/StringLatin1", "newString", "([BII)Ljava/lang/String;"⟩ : MethodName) jdk_43_method_47_code 3 (some (.object "java/lang/String")) ({ frames := 5, cells := 3, slots := 16, locals := 90 } : Room) ws #[(.ref a1), (.int (1 : Int32)), (.int (3 : Int32))] h0 n0 [] (Q_rmNS1_4 Z x0 x1 x2 x3 h0 n0) := by
  refine Met.of pn_17 (fun m => ef_rmNS1_4 m a1) ?_
  have K := Keep.refl h0 []
  refine Own.iloadN d17_0 rfl ?_
  refine Own.if_ne 7 d17_1 (by decide) rfl (fun _ => ?_) (fun q => absurd q (by decide))
  refine Own.new_ (hw _ (List.mem_of_getElem? (i := 99) rfl)) (hw _ (List.mem_of_getElem? (i := 2) rfl)) (hw _ (List.mem_of_getElem? (i := 3) rfl)) d17_7 (by decide) (by decide) (fun h106 b106 gb106 E106 X106 D106 => ?_)
  have g_b106 : n0 ≤ b106 := by rw [gb106]; exact hn
  have ne_a1_b106 : a1 ≠ b106 := fun q => Nat.ne_of_lt V_a1.lt (q.trans gb106)
  have ne_b106_a1 := Ne.symm ne_a1_b106
  have hn := Nat.le_trans hn E106.1
  replace V_a1 := V_a1.ext E106
  have X_b106 := X106
  have F_coder_b106 : Fld Z h106 b106 "java/lang/String" "coder" "B" (.int (0 : Int32)) := D106 (Or.inr (hw _ (List.mem_of_getElem? (i := 27) rfl))) (ty := .byte) (by decide)
  have F_value_b106 : Fld Z h106 b106 "java/lang/String" "value" "[B" .null := D106 (Or.inr (hw _ (List.mem_of_getElem? (i := 29) rfl))) (ty := (.array .byte)) (by decide)
  have sz_b106 : h0.size ≤ b106 := by rw [gb106]; exact K.1
  have K := K.ext E106
  refine Own.dup d17_10 rfl ?_
  refine Own.aloadN d17_11 rfl rfl ?_
  refine Own.iloadN d17_12 rfl ?_
  refine Own.iloadN d17_13 rfl ?_
  refine Own.iloadN d17_14 rfl ?_
  refine Own.iadd d17_15 ?_
  refine OAt.cast (st' := [(.int (4 : Int32)), (.int (1 : Int32)), (.ref a1), (.ref b106), (.ref b106)]) rfl ?_
  refine Own.callS_ [(.ref a1), (.int (1 : Int32)), (.int (4 : Int32))] [(.ref b106), (.ref b106)] 2 (rmRG1_4 l Z a0 hw [] a1 ka x0 x1 x2 x3 h106 n0 hn V_a1) all0 (hw _ (List.mem_of_getElem? (i := 100) rfl)) (hw _ (List.mem_of_getElem? (i := 101) rfl)) (hw _ (List.mem_of_getElem? (i := 102) rfl)) (hw _ (List.mem_of_getElem? (i := 103) rfl)) (by decide) d17_16 pd_15 rfl rfl rfl rfl (by decide) (by decide) (by decide) (by decide) (fun v107 h107 S107 hq107 => ?_)
  obtain ⟨b108, k108, rfl, z108, K108, V108⟩ := hq107
  have g_b108 : n0 ≤ b108 := Nat.le_trans hn z108
  have ne_a1_b108 : a1 ≠ b108 := Nat.ne_of_lt (Nat.lt_of_lt_of_le V_a1.lt z108)
  have ne_b108_a1 := Ne.symm ne_a1_b108
  have ne_b106_b108 : b106 ≠ b108 := Nat.ne_of_lt (Nat.lt_of_lt_of_le X_b106.lt z108)
  have ne_b108_b106 := Ne.symm ne_b106_b108
  have sz_b108 : h0.size ≤ b108 := Nat.le_trans K.1 z108
  have hn := Nat.le_trans hn K108.1
  replace V_a1 := V_a1.keep K108 nin0
  replace X_b106 := X_b106.keep K108
  replace F_coder_b106 := F_coder_b106.keep K108 nin0
  replace F_value_b106 := F_value_b106.keep K108 nin0
  have K := K.trans K108 all0
  refine ⟨[], all0, ?_⟩
  refine OAt.cast (st' := [(.ref b108), (.ref b106), (.ref b106)]) rfl ?_
  refine Own.iconst (0 : Int32) d17_19 rfl ?_
  refine Own.callI_ b106 [(.ref b108), (.int (0 : Int32))] [(.ref b106)] 1 (rmBB l Z a0 hw [] b106 b108 h107 n0 hn X_b106 g_b106 F_value_b106 F_coder_b106) (allS (List.mem_of_getElem? (i := 0) rfl) all0) (hw _ (List.mem_of_getElem? (i := 118) rfl)) (hw _ (List.mem_of_getElem? (i := 119) rfl)) (hw _ (List.mem_of_getElem? (i := 3) rfl)) (hw _ (List.mem_of_getElem? (i := 120) rfl)) rfl (by decide) d17_20 pd_12 rfl rfl rfl rfl (by decide) (by decide) (by decide) (by decide) (fun v109 h109 S109 hq109 => ?_)
  obtain ⟨rfl, K110, G1, G2⟩ := hq109
  have hn := Nat.le_trans hn K110.1
  replace V_a1 := V_a1.keep K110 (ninS ne_a1_b106 nin0)
  replace X_b106 := X_b106.keep K110
  replace V108 := V108.keep K110 (ninS ne_b108_b106 nin0)
  have K := K.trans K110 (allS (Or.inr sz_b106) all0)
  have F_value_b106 := G1
  have F_coder_b106 := G2
  refine ⟨[], all0, ?_⟩
  refine OAt.cast (st' := [(.ref b106)]) rfl ?_
  refine Own.ret_ref (t := (.object "java/lang/String")) rfl rfl rfl d17_23 (by decide) (by decide) (fun Sf hSf => ?_)
  exact ⟨K, b106, b108, k108, rfl, X_b106, F_value_b106, F_coder_b106, V108⟩
def Q_rmSub1_4 (Z : State) (a1 : Addr) (b : Addr) (kb : ClassId) (zc : Int32) (vf : Value) (x0 : Int32) (x1 : Int32) (x2 : Int32) (x3 : Int32) (h0 : Heap) (n0 : Nat) (v : Option Value) (h : Heap) (Sf : Addr → Prop) : Prop := Keep h0 h [] ∧ ∃ (a b : Addr) (kb : ClassId), v = some (.ref a) ∧ Exa Z h a "java/lang/String" ∧ Fld Z h a "java/lang/String" "value" "[B" (.ref b) ∧ Fld Z h a "java/lang/String" "coder" "B" (.int (0 : Int32)) ∧ Arl Z h b kb .byte [(.int x1), (.int x2), (.int x3)]
theorem ef_rmSub1_4 (m : MethodId) (a1 : Addr)  : entryFrame m #[(.ref a1), (.int (1 : Int32)), (.int (4 : Int32))] 5 = mkF m 0 #[.val (.ref a1), .val (.int (1 : Int32)), .val (.int (4 : Int32)), .unset, .unset] [] := by first | (simp [entryFrame, mkF, argsToLocals, Value.category]; done) | rfl
set_option maxRecDepth 65536 in
set_option maxHeartbeats 40000000 in
theorem rmSub1_4 (l : Launch) (Z : State) (a0 : Array Value) (hw : ∀ d ∈ tables_1, d.before a0 Z = true) (ws : List Jvm.Cond) (a1 : Addr) (b : Addr) (kb : ClassId) (zc : Int32) (vf : Value) (x0 : Int32) (x1 : Int32) (x2 : Int32) (x3 : Int32) (h0 : Heap) (n0 : Nat) (hn : n0 ≤ h0.size) (X_a1 : Exa Z h0 a1 "java/lang/String") (F_value_a1 : Fld Z h0 a1 "java/lang/String" "value" "[B" (.ref b)) (F_coder_a1 : Fld Z h0 a1 "java/lang/String" "coder" "B" (.int (0 : Int32))) (V_b : Arl Z h0 b kb .byte [(.int x0), (.int x1), (.int x2), (.int x3)]) (S_C : Sta Z h0 "java/lang/String" "COMPACT_STRINGS" "Z" (.int zc)) (S_F : Sta Z h0 "jdk/internal/util/Preconditions" "SIOOBE_FORMATTER" "Ljava/util/function/BiFunction;" vf) (hz : ¬ zc = 0) (hvf : vf.isRef = true) :
    Met own_EL l Z (⟨"java/lang/String", "substring", "(II)Ljava/lang/String;"⟩ : MethodName) jdk_42_method_92_code 5 (some (.object "java/lang/String")) ({ frames := 6, cells := 3, slots := 16, locals := 110 } : Room) ws #[(.ref a1), (.int (1 : Int32)), (.int (4 : Int32))] h0 n0 [] (Q_rmSub1_4 Z a1 b kb zc vf x0 x1 x2 x3 h0 n0) := by
  refine Met.of pn_11 (fun m => ef_rmSub1_4 m a1) ?_
  have K := Keep.refl h0 []
  refine Own.aloadN d11_0 rfl rfl ?_
  refine Own.callVP a1 [] [] 0 (rm_len_4 l Z a0 hw [] a1 b kb _ zc h0 n0 hn X_a1 F_value_a1 F_coder_a1 V_b rfl S_C hz) (hw _ (List.mem_of_getElem? (i := 64) rfl)) (hw _ (List.mem_of_getElem? (i := 65) rfl)) (fun s hZ => notFace_of_selects (args := #[]) (mvT hZ (hw _ (List.mem_of_getElem? (i := 67) rfl)))) (hw _ (List.mem_of_getElem? (i := 67) rfl)) (hw _ (List.mem_of_getElem? (i := 66) rfl)) (hw _ (List.mem_of_getElem? (i := 3) rfl)) (hw _ (List.mem_of_getElem? (i := 68) rfl)) (by decide) X_a1 d11_1 pd_1 rfl rfl rfl rfl (by decide) (by decide) (by decide) (by decide) ?_
  refine Own.istoreN #[.val (.ref a1), .val (.int (1 : Int32)), .val (.int (4 : Int32)), .val (.int (4 : Int32)), .unset] d11_4 rfl ?_
  refine Own.iloadN d11_5 rfl ?_
  refine Own.iloadN d11_6 rfl ?_
  refine Own.iloadN d11_7 rfl ?_
  refine Own.callS0 [(.int (1 : Int32)), (.int (4 : Int32)), (.int (4 : Int32))] [] 0 (rmCB1_4 l Z a0 hw [] vf h0 n0 hn S_F hvf) (hw _ (List.mem_of_getElem? (i := 74) rfl)) (hw _ (List.mem_of_getElem? (i := 75) rfl)) (hw _ (List.mem_of_getElem? (i := 3) rfl)) (hw _ (List.mem_of_getElem? (i := 76) rfl)) (by decide) d11_8 pd_8 rfl rfl rfl rfl (by decide) (by decide) (by decide) (by decide) ?_
  refine Own.iloadN d11_11 rfl ?_
  refine Own.if_ne 22 d11_12 (by decide) rfl (fun _ => ?_) (fun q => absurd q (by decide))
  refine Own.iloadN d11_22 rfl ?_
  refine Own.iloadN d11_23 rfl ?_
  refine Own.isub d11_24 ?_
  refine OAt.cast (st' := [(.int (3 : Int32))]) rfl ?_
  refine Own.istore #[.val (.ref a1), .val (.int (1 : Int32)), .val (.int (4 : Int32)), .val (.int (4 : Int32)), .val (.int (3 : Int32))] d11_25 rfl ?_
  refine Own.aloadN d11_27 rfl rfl ?_
  refine Own.callVP a1 [] [] 0 (rm_lat_4 l Z a0 hw [] a1 b kb _ zc h0 n0 hn X_a1 F_value_a1 F_coder_a1 V_b rfl S_C hz) (hw _ (List.mem_of_getElem? (i := 82) rfl)) (hw _ (List.mem_of_getElem? (i := 83) rfl)) (fun s hZ => notFace_of_selects (args := #[]) (mvT hZ (hw _ (List.mem_of_getElem? (i := 85) rfl)))) (hw _ (List.mem_of_getElem? (i := 85) rfl)) (hw _ (List.mem_of_getElem? (i := 84) rfl)) (hw _ (List.mem_of_getElem? (i := 3) rfl)) (hw _ (List.mem_of_getElem? (i := 86) rfl)) (by decide) X_a1 d11_28 pd_4 rfl rfl rfl rfl (by decide) (by decide) (by decide) (by decide) ?_
  refine Own.if_eq 47 d11_31 (by decide) rfl (fun q => absurd q (by decide)) (fun _ => ?_)
  refine Own.aloadN d11_34 rfl rfl ?_
  refine Own.getF_ (host := "") (Or.inl (hw _ (List.mem_of_getElem? (i := 28) rfl))) Via.refl F_value_a1 d11_35 ?_
  refine Own.iloadN d11_38 rfl ?_
  refine Own.iload d11_39 rfl ?_
  refine Own.callS_ [(.ref b), (.int (1 : Int32)), (.int (3 : Int32))] [] 0 (rmNS1_4 l Z a0 hw [] b kb x0 x1 x2 x3 h0 n0 hn V_b) all0 (hw _ (List.mem_of_getElem? (i := 87) rfl)) (hw _ (List.mem_of_getElem? (i := 88) rfl)) (hw _ (List.mem_of_getElem? (i := 89) rfl)) (hw _ (List.mem_of_getElem? (i := 90) rfl)) (by decide) d11_41 pd_14 rfl rfl rfl rfl (by decide) (by decide) (by decide) (by decide) (fun v111 h111 S111 hq111 => ?_)
  obtain ⟨K112, s112, t112, kt112, rfl, X_s112, F_value_s112, F_coder_s112, V_t112⟩ := hq111
  have hn := Nat.le_trans hn K112.1
  replace S_C := sta_keep S_C K112 ns0
  replace S_F := sta_keep S_F K112 ns0
  replace X_a1 := X_a1.keep K112
  replace F_value_a1 := F_value_a1.keep K112 nin0
  replace F_coder_a1 := F_coder_a1.keep K112 nin0
  replace V_b := V_b.keep K112 nin0
  have K := K.trans K112 all0
  refine ⟨[], all0, ?_⟩
  refine OAt.cast (st' := [(.ref s112)]) rfl ?_
  refine Own.goto_ 57 d11_44 (by decide) rfl ?_
  refine Own.ret_ref (t := (.object "java/lang/String")) rfl rfl rfl d11_57 (by decide) (by decide) (fun Sf hSf => ?_)
  exact ⟨K, s112, t112, kt112, rfl, X_s112, F_value_s112, F_coder_s112, V_t112⟩
def Q_rmCut1_4 (Z : State) (x0 : Int32) (x1 : Int32) (x2 : Int32) (x3 : Int32) (h0 : Heap) (n0 : Nat) (v : Option Value) (h : Heap) (Sf : Addr → Prop) : Prop := Keep h0 h [] ∧ ∃ (a b : Addr) (kb : ClassId), v = some (.ref a) ∧ Exa Z h a "java/lang/String" ∧ Fld Z h a "java/lang/String" "value" "[B" (.ref b) ∧ Fld Z h a "java/lang/String" "coder" "B" (.int (0 : Int32)) ∧ Arl Z h b kb .byte [(.int x1), (.int x2), (.int x3)]
theorem ef_rmCut1_4 (m : MethodId) (a1 : Addr)  : entryFrame m #[(.ref a1)] 1 = mkF m 0 #[.val (.ref a1)] [] := by first | (simp [entryFrame, mkF, argsToLocals, Value.category]; done) | rfl
set_option maxRecDepth 65536 in
set_option maxHeartbeats 40000000 in
theorem rmCut1_4 (l : Launch) (Z : State) (a0 : Array Value) (hw : ∀ d ∈ tables_1, d.before a0 Z = true) (ws : List Jvm.Cond) (a1 : Addr) (a2 : Addr) (b : Addr) (kb : ClassId) (zc : Int32) (vf : Value) (x0 : Int32) (x1 : Int32) (x2 : Int32) (x3 : Int32) (h0 : Heap) (n0 : Nat) (hn : n0 ≤ h0.size) (X_a2 : Exa Z h0 a2 "java/lang/String") (F_value_a2 : Fld Z h0 a2 "java/lang/String" "value" "[B" (.ref b)) (F_coder_a2 : Fld Z h0 a2 "java/lang/String" "coder" "B" (.int (0 : Int32))) (V_b : Arl Z h0 b kb .byte [(.int x0), (.int x1), (.int x2), (.int x3)]) (S_C : Sta Z h0 "java/lang/String" "COMPACT_STRINGS" "Z" (.int zc)) (S_F : Sta Z h0 "jdk/internal/util/Preconditions" "SIOOBE_FORMATTER" "Ljava/util/function/BiFunction;" vf) (hz : ¬ zc = 0) (hvf : vf.isRef = true) (F_text_a1 : Fld Z h0 a1 "com/example/cytorelay/cytorelay/core/Hl7Syntax$Span" "text" "Ljava/lang/String;" (.ref a2)) (F_from_a1 : Fld Z h0 a1 "com/example/cytorelay/cytorelay/core/Hl7Syntax$Span" "from" "I" (.int (1 : Int32))) (F_to_a1 : Fld Z h0 a1 "com/example/cytorelay/cytorelay/core/Hl7Syntax$Span" "to" "I" (.int (4 : Int32))) :
    Met own_EL l Z (⟨"com/example/cytorelay/cytorelay/core/Hl7Syntax$Span", "cut", "()Ljava/lang/String;"⟩ : MethodName) prog_32_method_4_code 1 (some (.object "java/lang/String")) ({ frames := 7, cells := 3, slots := 16, locals := 130 } : Room) ws #[(.ref a1)] h0 n0 [] (Q_rmCut1_4 Z x0 x1 x2 x3 h0 n0) := by
  refine Met.of pn_10 (fun m => ef_rmCut1_4 m a1) ?_
  have K := Keep.refl h0 []
  refine Own.aloadN d10_0 rfl rfl ?_
  refine Own.getF_ (host := "") (Or.inl (hw _ (List.mem_of_getElem? (i := 43) rfl))) Via.refl F_text_a1 d10_1 ?_
  refine Own.aloadN d10_4 rfl rfl ?_
  refine Own.getF_ (host := "") (Or.inl (hw _ (List.mem_of_getElem? (i := 45) rfl))) Via.refl F_from_a1 d10_5 ?_
  refine Own.aloadN d10_8 rfl rfl ?_
  refine Own.getF_ (host := "") (Or.inl (hw _ (List.mem_of_getElem? (i := 47) rfl))) Via.refl F_to_a1 d10_9 ?_
  refine Own.callV_ a2 [(.int (1 : Int32)), (.int (4 : Int32))] [] 0 (rmSub1_4 l Z a0 hw [] a2 b kb zc vf x0 x1 x2 x3 h0 n0 hn X_a2 F_value_a2 F_coder_a2 V_b S_C S_F hz hvf) all0 (hw _ (List.mem_of_getElem? (i := 59) rfl)) (hw _ (List.mem_of_getElem? (i := 60) rfl)) (fun s hZ => notFace_of_selects (args := #[]) (mvT hZ (hw _ (List.mem_of_getElem? (i := 62) rfl)))) (hw _ (List.mem_of_getElem? (i := 62) rfl)) (hw _ (List.mem_of_getElem? (i := 61) rfl)) (hw _ (List.mem_of_getElem? (i := 3) rfl)) (hw _ (List.mem_of_getElem? (i := 63) rfl)) (by decide) X_a2 d10_12 pd_6 rfl rfl rfl rfl (by decide) (by decide) (by decide) (by decide) (fun v113 h113 S113 hq113 => ?_)
  obtain ⟨K114, s114, t114, kt114, rfl, X_s114, F_value_s114, F_coder_s114, V_t114⟩ := hq113
  have hn := Nat.le_trans hn K114.1
  replace S_C := sta_keep S_C K114 ns0
  replace S_F := sta_keep S_F K114 ns0
  replace X_a2 := X_a2.keep K114
  replace F_value_a2 := F_value_a2.keep K114 nin0
  replace F_coder_a2 := F_coder_a2.keep K114 nin0
  replace V_b := V_b.keep K114 nin0
  replace F_text_a1 := F_text_a1.keep K114 nin0
  replace F_from_a1 := F_from_a1.keep K114 nin0
  replace F_to_a1 := F_to_a1.keep K114 nin0
  have K := K.trans K114 all0
  refine ⟨[], all0, ?_⟩
  refine OAt.cast (st' := [(.ref s114)]) rfl ?_
  refine Own.ret_ref (t := (.object "java/lang/String")) rfl rfl rfl d10_15 (by decide) (by decide) (fun Sf hSf => ?_)
  exact ⟨K, s114, t114, kt114, rfl, X_s114, F_value_s114, F_coder_s114, V_t114⟩
theorem ef_rmSE2_2 (m : MethodId) (a1 : Addr)  : entryFrame m #[(.ref a1)] 1 = mkF m 0 #[.val (.ref a1)] [] := by first | (simp [entryFrame, mkF, argsToLocals, Value.category]; done) | rfl
set_option maxRecDepth 65536 in
set_option maxHeartbeats 40000000 in
theorem rmSE2_2 (l : Launch) (Z : State) (a0 : Array Value) (hw : ∀ d ∈ tables_1, d.before a0 Z = true) (ws : List Jvm.Cond) (a1 : Addr) (h0 : Heap) (n0 : Nat) (hn : n0 ≤ h0.size) (F_from : Fld Z h0 a1 "com/example/cytorelay/cytorelay/core/Hl7Syntax$Span" "from" "I" (.int (2 : Int32))) (F_to : Fld Z h0 a1 "com/example/cytorelay/cytorelay/core/Hl7Syntax$Span" "to" "I" (.int (2 : Int32))) :
    Met own_EL l Z (⟨"com/example/cytorelay/cytorelay/core/Hl7Syntax$Span", "isEmpty", "()Z"⟩ : MethodName) prog_32_method_3_code 1 (some .boolean) ({ frames := 0, cells := 0, slots := 0, locals := 0 } : Room) ws #[(.ref a1)] h0 n0 [] (Pur (.int (1 : Int32)) h0) := by
  refine Met.of pn_9 (fun m => ef_rmSE2_2 m a1) ?_
  refine Own.aloadN d9_0 rfl rfl ?_
  refine Own.getF_ (host := "") (Or.inl (hw _ (List.mem_of_getElem? (i := 45) rfl))) Via.refl F_from d9_1 ?_
  refine Own.aloadN d9_4 rfl rfl ?_
  refine Own.getF_ (host := "") (Or.inl (hw _ (List.mem_of_getElem? (i := 47) rfl))) Via.refl F_to d9_5 ?_
  refine Own.icmp_ne 15 d9_8 (by decide) rfl (fun q => absurd (by decide) q) (fun _ => ?_)
  refine Own.iconst (1 : Int32) d9_11 rfl ?_
  refine Own.goto_ 16 d9_12 (by decide) rfl ?_
  refine Own.ret_nar (t := .boolean) (by simp) rfl d9_16 (by decide) (by decide) (fun Sf hSf => ?_)
  exact ⟨rfl, rfl⟩
theorem ef_rmPF2_2 (m : MethodId) (vf : Value) (hr_3 : (vf).isRef = true) : entryFrame m #[(.int (2 : Int32)), (.int (2 : Int32)), (.int (4 : Int32)), vf] 4 = mkF m 0 #[.val (.int (2 : Int32)), .val (.int (2 : Int32)), .val (.int (4 : Int32)), .val vf] [] := by rcases ref_cases hr_3 with rfl | ⟨z3, rfl⟩ <;> first | (simp [entryFrame, mkF, argsToLocals, Value.category]; done) | rfl
set_option maxRecDepth 65536 in
set_option maxHeartbeats 40000000 in
theorem rmPF2_2 (l : Launch) (Z : State) (a0 : Array Value) (hw : ∀ d ∈ tables_1, d.before a0 Z = true) (ws : List Jvm.Cond) (vf : Value) (h0 : Heap) (n0 : Nat) (hn : n0 ≤ h0.size) (hvf : vf.isRef = true) :
    Met own_EL l Z (⟨"jdk/internal/util/Preconditions", "checkFromToIndex", "(IIILjava/util/function/BiFunction;)I"⟩ : MethodName) jdk_41_method_12_code 4 (some .int) ({ frames := 0, cells := 0, slots := 0, locals := 0 } : Room) ws #[(.int (2 : Int32)), (.int (2 : Int32)), (.int (4 : Int32)), vf] h0 n0 [] (Pur (.int (2 : Int32)) h0) := by
  refine Met.of pn_15 (fun m => ef_rmPF2_2 m vf hvf) ?_
  refine Own.iloadN d15_0 rfl ?_
  refine Own.if_lt 14 d15_1 (by decide) rfl (fun q => absurd q (by decide)) (fun _ => ?_)
  refine Own.iloadN d15_4 rfl ?_
  refine Own.iloadN d15_5 rfl ?_
  refine Own.icmp_gt 14 d15_6 (by decide) rfl (fun q => absurd q (by decide)) (fun _ => ?_)
  refine Own.iloadN d15_9 rfl ?_
  refine Own.iloadN d15_10 rfl ?_
  refine Own.icmp_le 22 d15_11 (by decide) rfl (fun _ => ?_) (fun q => absurd q (by decide))
  refine Own.iloadN d15_22 rfl ?_
  refine Own.ret_int rfl d15_23 (by decide) (by decide) (fun Sf hSf => ?_)
  exact ⟨rfl, rfl⟩
theorem ef_rmCB2_2 (m : MethodId)   : entryFrame m #[(.int (2 : Int32)), (.int (2 : Int32)), (.int (4 : Int32))] 3 = mkF m 0 #[.val (.int (2 : Int32)), .val (.int (2 : Int32)), .val (.int (4 : Int32))] [] := by first | (simp [entryFrame, mkF, argsToLocals, Value.category]; done) | rfl
set_option maxRecDepth 65536 in
set_option maxHeartbeats 40000000 in
theorem rmCB2_2 (l : Launch) (Z : State) (a0 : Array Value) (hw : ∀ d ∈ tables_1, d.before a0 Z = true) (ws : List Jvm.Cond) (vf : Value) (h0 : Heap) (n0 : Nat) (hn : n0 ≤ h0.size) (S_F : Sta Z h0 "jdk/internal/util/Preconditions" "SIOOBE_FORMATTER" "Ljava/util/function/BiFunction;" vf) (hvf : vf.isRef = true) :
    Met own_EL l Z (⟨"java/lang/String", "checkBoundsBeginEnd", "(III)V"⟩ : MethodName) jdk_42_method_158_code 3 none ({ frames := 1, cells := 0, slots := 0, locals := 15 } : Room) ws #[(.int (2 : Int32)), (.int (2 : Int32)), (.int (4 : Int32))] h0 n0 [] (Pur0 h0) := by
  refine Met.of pn_14 (fun m => ef_rmCB2_2 m ) ?_
  refine Own.iloadN d14_0 rfl ?_
  refine Own.iloadN d14_1 rfl ?_
  refine Own.iloadN d14_2 rfl ?_
  refine Own.getS_ (host := "") (Or.inl (hw _ (List.mem_of_getElem? (i := 77) rfl))) Via.refl S_F d14_3 ?_
  refine Own.callSP [(.int (2 : Int32)), (.int (2 : Int32)), (.int (4 : Int32)), vf] [] 0 (rmPF2_2 l Z a0 hw [] vf h0 n0 hn hvf) (hw _ (List.mem_of_getElem? (i := 79) rfl)) (hw _ (List.mem_of_getElem? (i := 80) rfl)) (hw _ (List.mem_of_getElem? (i := 78) rfl)) (hw _ (List.mem_of_getElem? (i := 81) rfl)) (by decide) d14_6 pd_9 rfl rfl rfl rfl (by decide) (by decide) (by decide) (by decide) ?_
  refine Own.pop d14_9 rfl ?_
  refine Own.ret_void rfl d14_10 (by decide) (by decide) (fun Sf hSf => ?_)
  exact ⟨rfl, rfl⟩
def Q_rmNS2_2 (Z : State)  (h0 : Heap) (n0 : Nat) (v : Option Value) (h : Heap) (Sf : Addr → Prop) : Prop := Keep h0 h [] ∧ ∃ (a b : Addr) (kb : ClassId), v = some (.ref a) ∧ Exa Z h a "java/lang/String" ∧ Fld Z h a "java/lang/String" "value" "[B" (.ref b) ∧ Fld Z h a "java/lang/String" "coder" "B" (.int (0 : Int32)) ∧ Arl Z h b kb .byte []
theorem ef_rmNS2_2 (m : MethodId) (a1 : Addr)  : entryFrame m #[(.ref a1), (.int (2 : Int32)), (.int (0 : Int32))] 3 = mkF m 0 #[.val (.ref a1), .val (.int (2 : Int32)), .val (.int (0 : Int32))] [] := by first | (simp [entryFrame, mkF, argsToLocals, Value.category]; done) | rfl
set_option maxRecDepth 65536 in
set_option maxHeartbeats 40000000 in
theorem rmNS2_2 (l : Launch) (Z : State) (a0 : Array Value) (hw : ∀ d ∈ tables_1, d.before a0 Z = true) (ws : List Jvm.Cond) (a1 : Addr) (ka : ClassId) (x0 : Int32) (x1 : Int32) (x2 : Int32) (x3 : Int32) (h0 : Heap) (n0 : Nat) (hn : n0 ≤ h0.size) (V_a1 : Arl Z h0 a1 ka .byte [(.int x0), (.int x1), (.int x2), (.int x3)]) :
    Met own_EL l Z (⟨"java/lang/StringLatin1", "newString", "([BII)Ljava/lang/String;"⟩ : MethodName) jdk_43_method_47_code 3 (some (.object "java/lang/String")) ({ frames := 5, cells := 3, slots := 16, locals := 90 } : Room) ws #[(.ref a1), (.int (2 : Int32)), (.int (0 : Int32))] h0 n0 [] (Q_rmNS2_2 Z  h0 n0) := by
  refine Met.of pn_17 (fun m => ef_rmNS2_2 m a1) ?_
  have K := Keep.refl h0 []
  refine Own.iloadN d17_0 rfl ?_
  refine Own.if_ne 7 d17_1 (by decide) rfl (fun q => absurd (by decide) q) (fun _ => ?_)
  refine Own.ldcC_ (vs := []) (z := (0 : Int32)) 0 (hw _ (List.mem_of_getElem? (i := 91) rfl)) (own_wS hw) (List.mem_of_getElem? (i := 0) rfl) (own_EW hw) ⟨by decide, by decide⟩ rfl d17_4 (by decide) (by decide) (by decide) (by decide) (fun h115 b115 t115 kt115 E115 X_b115 F_coder_b115 F_value_b115 V_t115 hne115 => ?_)
  have hn := Nat.le_trans hn E115.1
  replace V_a1 := V_a1.ext E115
  have K := K.ext E115
  refine Own.ret_ref (t := (.object "java/lang/String")) rfl rfl rfl d17_6 (by decide) (by decide) (fun Sf hSf => ?_)
  exact ⟨K, b115, t115, kt115, rfl, X_b115, F_value_b115, F_coder_b115, V_t115⟩
def Q_rmSub2_2 (Z : State) (a1 : Addr) (b : Addr) (kb : ClassId) (zc : Int32) (vf : Value) (x0 : Int32) (x1 : Int32) (x2 : Int32) (x3 : Int32) (h0 : Heap) (n0 : Nat) (v : Option Value) (h : Heap) (Sf : Addr → Prop) : Prop := Keep h0 h [] ∧ ∃ (a b : Addr) (kb : ClassId), v = some (.ref a) ∧ Exa Z h a "java/lang/String" ∧ Fld Z h a "java/lang/String" "value" "[B" (.ref b) ∧ Fld Z h a "java/lang/String" "coder" "B" (.int (0 : Int32)) ∧ Arl Z h b kb .byte []
theorem ef_rmSub2_2 (m : MethodId) (a1 : Addr)  : entryFrame m #[(.ref a1), (.int (2 : Int32)), (.int (2 : Int32))] 5 = mkF m 0 #[.val (.ref a1), .val (.int (2 : Int32)), .val (.int (2 : Int32)), .unset, .unset] [] := by first | (simp [entryFrame, mkF, argsToLocals, Value.category]; done) | rfl
set_option maxRecDepth 65536 in
set_option maxHeartbeats 40000000 in
theorem rmSub2_2 (l : Launch) (Z : State) (a0 : Array Value) (hw : ∀ d ∈ tables_1, d.before a0 Z = true) (ws : List Jvm.Cond) (a1 : Addr) (b : Addr) (kb : ClassId) (zc : Int32) (vf : Value) (x0 : Int32) (x1 : Int32) (x2 : Int32) (x3 : Int32) (h0 : Heap) (n0 : Nat) (hn : n0 ≤ h0.size) (X_a1 : Exa Z h0 a1 "java/lang/String") (F_value_a1 : Fld Z h0 a1 "java/lang/String" "value" "[B" (.ref b)) (F_coder_a1 : Fld Z h0 a1 "java/lang/String" "coder" "B" (.int (0 : Int32))) (V_b : Arl Z h0 b kb .byte [(.int x0), (.int x1), (.int x2), (.int x3)]) (S_C : Sta Z h0 "java/lang/String" "COMPACT_STRINGS" "Z" (.int zc)) (S_F : Sta Z h0 "jdk/internal/util/Preconditions" "SIOOBE_FORMATTER" "Ljava/util/function/BiFunction;" vf) (hz : ¬ zc = 0) (hvf : vf.isRef = true) :
    Met own_EL l Z (⟨"java/lang/String", "substring", "(II)Ljava/lang/String;"⟩ : MethodName) jdk_42_method_92_code 5 (some (.object "java/lang/String")) ({ frames := 6, cells := 3, slots := 16, locals := 110 } : Room) ws #[(.ref a1), (.int (2 : Int32)), (.int (2 : Int32))] h0 n0 [] (Q_rmSub2_2 Z a1 b kb zc vf x0 x1 x2 x3 h0 n0) := by
  refine Met.of pn_11 (fun m => ef_rmSub2_2 m a1) ?_
  have K := Keep.refl h0 []
  refine Own.aloadN d11_0 rfl rfl ?_
  refine Own.callVP a1 [] [] 0 (rm_len_4 l Z a0 hw [] a1 b kb _ zc h0 n0 hn X_a1 F_value_a1 F_coder_a1 V_b rfl S_C hz) (hw _ (List.mem_of_getElem? (i := 64) rfl)) (hw _ (List.mem_of_getElem? (i := 65) rfl)) (fun s hZ => notFace_of_selects (args := #[]) (mvT hZ (hw _ (List.mem_of_getElem? (i := 67) rfl)))) (hw _ (List.mem_of_getElem? (i := 67) rfl)) (hw _ (List.mem_of_getElem? (i := 66) rfl)) (hw _ (List.mem_of_getElem? (i := 3) rfl)) (hw _ (List.mem_of_getElem? (i := 68) rfl)) (by decide) X_a1 d11_1 pd_1 rfl rfl rfl rfl (by decide) (by decide) (by decide) (by decide) ?_
  refine Own.istoreN #[.val (.ref a1), .val (.int (2 : Int32)), .val (.int (2 : Int32)), .val (.int (4 : Int32)), .unset] d11_4 rfl ?_
  refine Own.iloadN d11_5 rfl ?_
  refine Own.iloadN d11_6 rfl ?_
  refine Own.iloadN d11_7 rfl ?_
  refine Own.callS0 [(.int (2 : Int32)), (.int (2 : Int32)), (.int (4 : Int32))] [] 0 (rmCB2_2 l Z a0 hw [] vf h0 n0 hn S_F hvf) (hw _ (List.mem_of_getElem? (i := 74) rfl)) (hw _ (List.mem_of_getElem? (i := 75) rfl)) (hw _ (List.mem_of_getElem? (i := 3) rfl)) (hw _ (List.mem_of_getElem? (i := 76) rfl)) (by decide) d11_8 pd_8 rfl rfl rfl rfl (by decide) (by decide) (by decide) (by decide) ?_
  refine Own.iloadN d11_11 rfl ?_
  refine Own.if_ne 22 d11_12 (by decide) rfl (fun _ => ?_) (fun q => absurd q (by decide))
  refine Own.iloadN d11_22 rfl ?_
  refine Own.iloadN d11_23 rfl ?_
  refine Own.isub d11_24 ?_
  refine OAt.cast (st' := [(.int (0 : Int32))]) rfl ?_
  refine Own.istore #[.val (.ref a1), .val (.int (2 : Int32)), .val (.int (2 : Int32)), .val (.int (4 : Int32)), .val (.int (0 : Int32))] d11_25 rfl ?_
  refine Own.aloadN d11_27 rfl rfl ?_
  refine Own.callVP a1 [] [] 0 (rm_lat_4 l Z a0 hw [] a1 b kb _ zc h0 n0 hn X_a1 F_value_a1 F_coder_a1 V_b rfl S_C hz) (hw _ (List.mem_of_getElem? (i := 82) rfl)) (hw _ (List.mem_of_getElem? (i := 83) rfl)) (fun s hZ => notFace_of_selects (args := #[]) (mvT hZ (hw _ (List.mem_of_getElem? (i := 85) rfl)))) (hw _ (List.mem_of_getElem? (i := 85) rfl)) (hw _ (List.mem_of_getElem? (i := 84) rfl)) (hw _ (List.mem_of_getElem? (i := 3) rfl)) (hw _ (List.mem_of_getElem? (i := 86) rfl)) (by decide) X_a1 d11_28 pd_4 rfl rfl rfl rfl (by decide) (by decide) (by decide) (by decide) ?_
  refine Own.if_eq 47 d11_31 (by decide) rfl (fun q => absurd q (by decide)) (fun _ => ?_)
  refine Own.aloadN d11_34 rfl rfl ?_
  refine Own.getF_ (host := "") (Or.inl (hw _ (List.mem_of_getElem? (i := 28) rfl))) Via.refl F_value_a1 d11_35 ?_
  refine Own.iloadN d11_38 rfl ?_
  refine Own.iload d11_39 rfl ?_
  refine Own.callS_ [(.ref b), (.int (2 : Int32)), (.int (0 : Int32))] [] 0 (rmNS2_2 l Z a0 hw [] b kb x0 x1 x2 x3 h0 n0 hn V_b) all0 (hw _ (List.mem_of_getElem? (i := 87) rfl)) (hw _ (List.mem_of_getElem? (i := 88) rfl)) (hw _ (List.mem_of_getElem? (i := 89) rfl)) (hw _ (List.mem_of_getElem? (i := 90) rfl)) (by decide) d11_41 pd_14 rfl rfl rfl rfl (by decide) (by decide) (by decide) (by decide) (fun v116 h116 S116 hq116 => ?_)
  obtain ⟨K117, s117, t117, kt117, rfl, X_s117, F_value_s117, F_coder_s117, V_t117⟩ := hq116
  have hn := Nat.le_trans hn K117.1
  replace S_C := sta_keep S_C K117 ns0
  replace S_F := sta_keep S_F K117 ns0
  replace X_a1 := X_a1.keep K117
  replace F_value_a1 := F_value_a1.keep K117 nin0
  replace F_coder_a1 := F_coder_a1.keep K117 nin0
  replace V_b := V_b.keep K117 nin0
  have K := K.trans K117 all0
  refine ⟨[], all0, ?_⟩
  refine OAt.cast (st' := [(.ref s117)]) rfl ?_
  refine Own.goto_ 57 d11_44 (by decide) rfl ?_
  refine Own.ret_ref (t := (.object "java/lang/String")) rfl rfl rfl d11_57 (by decide) (by decide) (fun Sf hSf => ?_)
  exact ⟨K, s117, t117, kt117, rfl, X_s117, F_value_s117, F_coder_s117, V_t117⟩
def Q_rmCut2_2 (Z : State) (x0 : Int32) (x1 : Int32) (x2 : Int32) (x3 : Int32) (h0 : Heap) (n0 : Nat) (v : Option Value) (h : Heap) (Sf : Addr → Prop) : Prop := Keep h0 h [] ∧ ∃ (a b : Addr) (kb : ClassId), v = some (.ref a) ∧ Exa Z h a "java/lang/String" ∧ Fld Z h a "java/lang/String" "value" "[B" (.ref b) ∧ Fld Z h a "java/lang/String" "coder" "B" (.int (0 : Int32)) ∧ Arl Z h b kb .byte []
theorem ef_rmCut2_2 (m : MethodId) (a1 : Addr)  : entryFrame m #[(.ref a1)] 1 = mkF m 0 #[.val (.ref a1)] [] := by first | (simp [entryFrame, mkF, argsToLocals, Value.category]; done) | rfl
set_option maxRecDepth 65536 in
set_option maxHeartbeats 40000000 in
theorem rmCut2_2 (l : Launch) (Z : State) (a0 : Array Value) (hw : ∀ d ∈ tables_1, d.before a0 Z = true) (ws : List Jvm.Cond) (a1 : Addr) (a2 : Addr) (b : Addr) (kb : ClassId) (zc : Int32) (vf : Value) (x0 : Int32) (x1 : Int32) (x2 : Int32) (x3 : Int32) (h0 : Heap) (n0 : Nat) (hn : n0 ≤ h0.size) (X_a2 : Exa Z h0 a2 "java/lang/String") (F_value_a2 : Fld Z h0 a2 "java/lang/String" "value" "[B" (.ref b)) (F_coder_a2 : Fld Z h0 a2 "java/lang/String" "coder" "B" (.int (0 : Int32))) (V_b : Arl Z h0 b kb .byte [(.int x0), (.int x1), (.int x2), (.int x3)]) (S_C : Sta Z h0 "java/lang/String" "COMPACT_STRINGS" "Z" (.int zc)) (S_F : Sta Z h0 "jdk/internal/util/Preconditions" "SIOOBE_FORMATTER" "Ljava/util/function/BiFunction;" vf) (hz : ¬ zc = 0) (hvf : vf.isRef = true) (F_text_a1 : Fld Z h0 a1 "com/example/cytorelay/cytorelay/core/Hl7Syntax$Span" "text" "Ljava/lang/String;" (.ref a2)) (F_from_a1 : Fld Z h0 a1 "com/example/cytorelay/cytorelay/core/Hl7Syntax$Span" "from" "I" (.int (2 : Int32))) (F_to_a1 : Fld Z h0 a1 "com/example/cytorelay/cytorelay/core/Hl7Syntax$Span" "to" "I" (.int (2 : Int32))) :
    Met own_EL l Z (⟨"com/example/cytorelay/cytorelay/core/Hl7Syntax$Span", "cut", "()Ljava/lang/String;"⟩ : MethodName) prog_32_method_4_code 1 (some (.object "java/lang/String")) ({ frames := 7, cells := 3, slots := 16, locals := 130 } : Room) ws #[(.ref a1)] h0 n0 [] (Q_rmCut2_2 Z x0 x1 x2 x3 h0 n0) := by
  refine Met.of pn_10 (fun m => ef_rmCut2_2 m a1) ?_
  have K := Keep.refl h0 []
  refine Own.aloadN d10_0 rfl rfl ?_
  refine Own.getF_ (host := "") (Or.inl (hw _ (List.mem_of_getElem? (i := 43) rfl))) Via.refl F_text_a1 d10_1 ?_
  refine Own.aloadN d10_4 rfl rfl ?_
  refine Own.getF_ (host := "") (Or.inl (hw _ (List.mem_of_getElem? (i := 45) rfl))) Via.refl F_from_a1 d10_5 ?_
  refine Own.aloadN d10_8 rfl rfl ?_
  refine Own.getF_ (host := "") (Or.inl (hw _ (List.mem_of_getElem? (i := 47) rfl))) Via.refl F_to_a1 d10_9 ?_
  refine Own.callV_ a2 [(.int (2 : Int32)), (.int (2 : Int32))] [] 0 (rmSub2_2 l Z a0 hw [] a2 b kb zc vf x0 x1 x2 x3 h0 n0 hn X_a2 F_value_a2 F_coder_a2 V_b S_C S_F hz hvf) all0 (hw _ (List.mem_of_getElem? (i := 59) rfl)) (hw _ (List.mem_of_getElem? (i := 60) rfl)) (fun s hZ => notFace_of_selects (args := #[]) (mvT hZ (hw _ (List.mem_of_getElem? (i := 62) rfl)))) (hw _ (List.mem_of_getElem? (i := 62) rfl)) (hw _ (List.mem_of_getElem? (i := 61) rfl)) (hw _ (List.mem_of_getElem? (i := 3) rfl)) (hw _ (List.mem_of_getElem? (i := 63) rfl)) (by decide) X_a2 d10_12 pd_6 rfl rfl rfl rfl (by decide) (by decide) (by decide) (by decide) (fun v118 h118 S118 hq118 => ?_)
  obtain ⟨K119, s119, t119, kt119, rfl, X_s119, F_value_s119, F_coder_s119, V_t119⟩ := hq118
  have hn := Nat.le_trans hn K119.1
  replace S_C := sta_keep S_C K119 ns0
  replace S_F := sta_keep S_F K119 ns0
  replace X_a2 := X_a2.keep K119
  replace F_value_a2 := F_value_a2.keep K119 nin0
  replace F_coder_a2 := F_coder_a2.keep K119 nin0
  replace V_b := V_b.keep K119 nin0
  replace F_text_a1 := F_text_a1.keep K119 nin0
  replace F_from_a1 := F_from_a1.keep K119 nin0
  replace F_to_a1 := F_to_a1.keep K119 nin0
  have K := K.trans K119 all0
  refine ⟨[], all0, ?_⟩
  refine OAt.cast (st' := [(.ref s119)]) rfl ?_
  refine Own.ret_ref (t := (.object "java/lang/String")) rfl rfl rfl d10_15 (by decide) (by decide) (fun Sf hSf => ?_)
  exact ⟨K, s119, t119, kt119, rfl, X_s119, F_value_s119, F_coder_s119, V_t119⟩
theorem ef_rmSE2_3 (m : MethodId) (a1 : Addr)  : entryFrame m #[(.ref a1)] 1 = mkF m 0 #[.val (.ref a1)] [] := by first | (simp [entryFrame, mkF, argsToLocals, Value.category]; done) | rfl
set_option maxRecDepth 65536 in
set_option maxHeartbeats 40000000 in
theorem rmSE2_3 (l : Launch) (Z : State) (a0 : Array Value) (hw : ∀ d ∈ tables_1, d.before a0 Z = true) (ws : List Jvm.Cond) (a1 : Addr) (h0 : Heap) (n0 : Nat) (hn : n0 ≤ h0.size) (F_from : Fld Z h0 a1 "com/example/cytorelay/cytorelay/core/Hl7Syntax$Span" "from" "I" (.int (2 : Int32))) (F_to : Fld Z h0 a1 "com/example/cytorelay/cytorelay/core/Hl7Syntax$Span" "to" "I" (.int (3 : Int32))) :
    Met own_EL l Z (⟨"com/example/cytorelay/cytorelay/core/Hl7Syntax$Span", "isEmpty", "()Z"⟩ : MethodName) prog_32_method_3_code 1 (some .boolean) ({ frames := 0, cells := 0, slots := 0, locals := 0 } : Room) ws #[(.ref a1)] h0 n0 [] (Pur (.int (0 : Int32)) h0) := by
  refine Met.of pn_9 (fun m => ef_rmSE2_3 m a1) ?_
  refine Own.aloadN d9_0 rfl rfl ?_
  refine Own.getF_ (host := "") (Or.inl (hw _ (List.mem_of_getElem? (i := 45) rfl))) Via.refl F_from d9_1 ?_
  refine Own.aloadN d9_4 rfl rfl ?_
  refine Own.getF_ (host := "") (Or.inl (hw _ (List.mem_of_getElem? (i := 47) rfl))) Via.refl F_to d9_5 ?_
  refine Own.icmp_ne 15 d9_8 (by decide) rfl (fun _ => ?_) (fun q => absurd q (by decide))
  refine Own.iconst (0 : Int32) d9_15 rfl ?_
  refine Own.ret_nar (t := .boolean) (by simp) rfl d9_16 (by decide) (by decide) (fun Sf hSf => ?_)
  exact ⟨rfl, rfl⟩
theorem ef_rmPF2_3 (m : MethodId) (vf : Value) (hr_3 : (vf).isRef = true) : entryFrame m #[(.int (2 : Int32)), (.int (3 : Int32)), (.int (4 : Int32)), vf] 4 = mkF m 0 #[.val (.int (2 : Int32)), .val (.int (3 : Int32)), .val (.int (4 : Int32)), .val vf] [] := by rcases ref_cases hr_3 with rfl | ⟨z3, rfl⟩ <;> first | (simp [entryFrame, mkF, argsToLocals, Value.category]; done) | rfl
set_option maxRecDepth 65536 in
set_option maxHeartbeats 40000000 in
theorem rmPF2_3 (l : Launch) (Z : State) (a0 : Array Value) (hw : ∀ d ∈ tables_1, d.before a0 Z = true) (ws : List Jvm.Cond) (vf : Value) (h0 : Heap) (n0 : Nat) (hn : n0 ≤ h0.size) (hvf : vf.isRef = true) :
    Met own_EL l Z (⟨"jdk/internal/util/Preconditions", "checkFromToIndex", "(IIILjava/util/function/BiFunction;)I"⟩ : MethodName) jdk_41_method_12_code 4 (some .int) ({ frames := 0, cells := 0, slots := 0, locals := 0 } : Room) ws #[(.int (2 : Int32)), (.int (3 : Int32)), (.int (4 : Int32)), vf] h0 n0 [] (Pur (.int (2 : Int32)) h0) := by
  refine Met.of pn_15 (fun m => ef_rmPF2_3 m vf hvf) ?_
  refine Own.iloadN d15_0 rfl ?_
  refine Own.if_lt 14 d15_1 (by decide) rfl (fun q => absurd q (by decide)) (fun _ => ?_)
  refine Own.iloadN d15_4 rfl ?_
  refine Own.iloadN d15_5 rfl ?_
  refine Own.icmp_gt 14 d15_6 (by decide) rfl (fun q => absurd q (by decide)) (fun _ => ?_)
  refine Own.iloadN d15_9 rfl ?_
  refine Own.iloadN d15_10 rfl ?_
  refine Own.icmp_le 22 d15_11 (by decide) rfl (fun _ => ?_) (fun q => absurd q (by decide))
  refine Own.iloadN d15_22 rfl ?_
  refine Own.ret_int rfl d15_23 (by decide) (by decide) (fun Sf hSf => ?_)
  exact ⟨rfl, rfl⟩
theorem ef_rmCB2_3 (m : MethodId)   : entryFrame m #[(.int (2 : Int32)), (.int (3 : Int32)), (.int (4 : Int32))] 3 = mkF m 0 #[.val (.int (2 : Int32)), .val (.int (3 : Int32)), .val (.int (4 : Int32))] [] := by first | (simp [entryFrame, mkF, argsToLocals, Value.category]; done) | rfl
set_option maxRecDepth 65536 in
set_option maxHeartbeats 40000000 in
theorem rmCB2_3 (l : Launch) (Z : State) (a0 : Array Value) (hw : ∀ d ∈ tables_1, d.before a0 Z = true) (ws : List Jvm.Cond) (vf : Value) (h0 : Heap) (n0 : Nat) (hn : n0 ≤ h0.size) (S_F : Sta Z h0 "jdk/internal/util/Preconditions" "SIOOBE_FORMATTER" "Ljava/util/function/BiFunction;" vf) (hvf : vf.isRef = true) :
    Met own_EL l Z (⟨"java/lang/String", "checkBoundsBeginEnd", "(III)V"⟩ : MethodName) jdk_42_method_158_code 3 none ({ frames := 1, cells := 0, slots := 0, locals := 15 } : Room) ws #[(.int (2 : Int32)), (.int (3 : Int32)), (.int (4 : Int32))] h0 n0 [] (Pur0 h0) := by
  refine Met.of pn_14 (fun m => ef_rmCB2_3 m ) ?_
  refine Own.iloadN d14_0 rfl ?_
  refine Own.iloadN d14_1 rfl ?_
  refine Own.iloadN d14_2 rfl ?_
  refine Own.getS_ (host := "") (Or.inl (hw _ (List.mem_of_getElem? (i := 77) rfl))) Via.refl S_F d14_3 ?_
  refine Own.callSP [(.int (2 : Int32)), (.int (3 : Int32)), (.int (4 : Int32)), vf] [] 0 (rmPF2_3 l Z a0 hw [] vf h0 n0 hn hvf) (hw _ (List.mem_of_getElem? (i := 79) rfl)) (hw _ (List.mem_of_getElem? (i := 80) rfl)) (hw _ (List.mem_of_getElem? (i := 78) rfl)) (hw _ (List.mem_of_getElem? (i := 81) rfl)) (by decide) d14_6 pd_9 rfl rfl rfl rfl (by decide) (by decide) (by decide) (by decide) ?_
  refine Own.pop d14_9 rfl ?_
  refine Own.ret_void rfl d14_10 (by decide) (by decide) (fun Sf hSf => ?_)
  exact ⟨rfl, rfl⟩
theorem ef_rmCL2_3 (m : MethodId)   : entryFrame m #[(.int (2 : Int32)), (.int (3 : Int32))] 2 = mkF m 0 #[.val (.int (2 : Int32)), .val (.int (3 : Int32))] [] := by first | (simp [entryFrame, mkF, argsToLocals, Value.category]; done) | rfl
set_option maxRecDepth 65536 in
set_option maxHeartbeats 40000000 in
theorem rmCL2_3 (l : Launch) (Z : State) (a0 : Array Value) (hw : ∀ d ∈ tables_1, d.before a0 Z = true) (ws : List Jvm.Cond)  (h0 : Heap) (n0 : Nat) (hn : n0 ≤ h0.size) :
    Met own_EL l Z (⟨"java/util/Arrays", "checkLength", "(II)V"⟩ : MethodName) jdk_65_method_131_code 2 none ({ frames := 0, cells := 0, slots := 0, locals := 0 } : Room) ws #[(.int (2 : Int32)), (.int (3 : Int32))] h0 n0 [] (Pur0 h0) := by
  refine Met.of pn_21 (fun m => ef_rmCL2_3 m ) ?_
  refine Own.iloadN d21_0 rfl ?_
  refine Own.iloadN d21_1 rfl ?_
  refine Own.icmp_ge 37 d21_2 (by decide) rfl (fun _ => ?_) (fun q => absurd q (by decide))
  refine Own.ret_void rfl d21_37 (by decide) (by decide) (fun Sf hSf => ?_)
  exact ⟨rfl, rfl⟩
theorem ef_rmMM2_3 (m : MethodId)   : entryFrame m #[(.int (2 : Int32)), (.int (1 : Int32))] 2 = mkF m 0 #[.val (.int (2 : Int32)), .val (.int (1 : Int32))] [] := by first | (simp [entryFrame, mkF, argsToLocals, Value.category]; done) | rfl
set_option maxRecDepth 65536 in
set_option maxHeartbeats 40000000 in
theorem rmMM2_3 (l : Launch) (Z : State) (a0 : Array Value) (hw : ∀ d ∈ tables_1, d.before a0 Z = true) (ws : List Jvm.Cond)  (h0 : Heap) (n0 : Nat) (hn : n0 ≤ h0.size) :
    Met own_EL l Z (⟨"java/lang/Math", "min", "(II)I"⟩ : MethodName) jdk_29_method_69_code 2 (some .int) ({ frames := 0, cells := 0, slots := 0, locals := 0 } : Room) ws #[(.int (2 : Int32)), (.int (1 : Int32))] h0 n0 [] (Pur (.int (1 : Int32)) h0) := by
  refine Met.of pn_22 (fun m => ef_rmMM2_3 m ) ?_
  refine Own.iloadN d22_0 rfl ?_
  refine Own.iloadN d22_1 rfl ?_
  refine Own.icmp_gt 9 d22_2 (by decide) rfl (fun _ => ?_) (fun q => absurd (by decide) q)
  refine Own.iloadN d22_9 rfl ?_
  refine Own.ret_int rfl d22_10 (by decide) (by decide) (fun Sf hSf => ?_)
  exact ⟨rfl, rfl⟩
def Q_rmRB2_3 (Z : State) (x0 : Int32) (x1 : Int32) (x2 : Int32) (x3 : Int32) (h0 : Heap) (n0 : Nat) (v : Option Value) (h : Heap) (Sf : Addr → Prop) : Prop := ∃ (a : Addr) (ka : ClassId), v = some (.ref a) ∧ h0.size ≤ a ∧ Keep h0 h [] ∧ Arl Z h a ka .byte [(.int x2)]
theorem ef_rmRB2_3 (m : MethodId) (a1 : Addr)  : entryFrame m #[(.ref a1), (.int (2 : Int32)), (.int (3 : Int32))] 5 = mkF m 0 #[.val (.ref a1), .val (.int (2 : Int32)), .val (.int (3 : Int32)), .unset, .unset] [] := by first | (simp [entryFrame, mkF, argsToLocals, Value.category]; done) | rfl
set_option maxRecDepth 65536 in
set_option maxHeartbeats 40000000 in
theorem rmRB2_3 (l : Launch) (Z : State) (a0 : Array Value) (hw : ∀ d ∈ tables_1, d.before a0 Z = true) (ws : List Jvm.Cond) (a1 : Addr) (ka : ClassId) (x0 : Int32) (x1 : Int32) (x2 : Int32) (x3 : Int32) (h0 : Heap) (n0 : Nat) (hn : n0 ≤ h0.size) (V_a1 : Arl Z h0 a1 ka .byte [(.int x0), (.int x1), (.int x2), (.int x3)]) :
    Met own_EL l Z (⟨"java/util/Arrays", "copyOfRangeByte", "([BII)[B"⟩ : MethodName) jdk_65_method_133_code 5 (some (.array .byte)) ({ frames := 1, cells := 1, slots := 1, locals := 51 } : Room) ws #[(.ref a1), (.int (2 : Int32)), (.int (3 : Int32))] h0 n0 [] (Q_rmRB2_3 Z x0 x1 x2 x3 h0 n0) := by
  refine Met.of pn_20 (fun m => ef_rmRB2_3 m a1) ?_
  have K := Keep.refl h0 []
  refine Own.iloadN d20_0 rfl ?_
  refine Own.iloadN d20_1 rfl ?_
  refine Own.callS0 [(.int (2 : Int32)), (.int (3 : Int32))] [] 0 (rmCL2_3 l Z a0 hw [] h0 n0 hn) (hw _ (List.mem_of_getElem? (i := 107) rfl)) (hw _ (List.mem_of_getElem? (i := 108) rfl)) (hw _ (List.mem_of_getElem? (i := 102) rfl)) (hw _ (List.mem_of_getElem? (i := 109) rfl)) (by decide) d20_2 pd_7 rfl rfl rfl rfl (by decide) (by decide) (by decide) (by decide) ?_
  refine Own.iloadN d20_5 rfl ?_
  refine Own.iloadN d20_6 rfl ?_
  refine Own.isub d20_7 ?_
  refine OAt.cast (st' := [(.int (1 : Int32))]) rfl ?_
  refine Own.istoreN #[.val (.ref a1), .val (.int (2 : Int32)), .val (.int (3 : Int32)), .val (.int (1 : Int32)), .unset] d20_8 rfl ?_
  refine Own.iloadN d20_9 rfl ?_
  refine Own.newarray_ 1 .byte rfl (hw _ (List.mem_of_getElem? (i := 19) rfl)) d20_10 (N := 1) rfl (by decide) (by decide) (by decide) (by decide) rfl (fun h120 b120 k120 gb120 E120 V120 => ?_)
  have g_b120 : n0 ≤ b120 := by rw [gb120]; exact hn
  have ne_a1_b120 : a1 ≠ b120 := fun q => Nat.ne_of_lt V_a1.lt (q.trans gb120)
  have ne_b120_a1 := Ne.symm ne_a1_b120
  have hn := Nat.le_trans hn E120.1
  replace V_a1 := V_a1.ext E120
  replace V120 : Arl Z h120 b120 k120 .byte [(.int (0 : Int32))] := V120
  have sz_b120 : h0.size ≤ b120 := by rw [gb120]; exact K.1
  have K := K.ext E120
  refine Own.astore #[.val (.ref a1), .val (.int (2 : Int32)), .val (.int (3 : Int32)), .val (.int (1 : Int32)), .val (.ref b120)] d20_12 rfl rfl ?_
  refine Own.aloadN d20_14 rfl rfl ?_
  refine Own.iloadN d20_15 rfl ?_
  refine Own.aload d20_16 rfl rfl ?_
  refine Own.iconst (0 : Int32) d20_18 rfl ?_
  refine Own.aloadN d20_19 rfl rfl ?_
  refine Own.arraylength_ (4 : Int32) V_a1 rfl d20_20 ?_
  refine Own.iloadN d20_21 rfl ?_
  refine Own.isub d20_22 ?_
  refine OAt.cast (st' := [(.int (2 : Int32)), (.int (0 : Int32)), (.ref b120), (.int (2 : Int32)), (.ref a1)]) rfl ?_
  refine Own.iloadN d20_23 rfl ?_
  refine Own.callSP [(.int (2 : Int32)), (.int (1 : Int32))] [(.int (0 : Int32)), (.ref b120), (.int (2 : Int32)), (.ref a1)] 4 (rmMM2_3 l Z a0 hw [] h120 n0 hn) (hw _ (List.mem_of_getElem? (i := 110) rfl)) (hw _ (List.mem_of_getElem? (i := 111) rfl)) (hw _ (List.mem_of_getElem? (i := 112) rfl)) (hw _ (List.mem_of_getElem? (i := 113) rfl)) (by decide) d20_24 pd_5 rfl rfl rfl rfl (by decide) (by decide) (by decide) (by decide) ?_
  refine Own.arraycopy_ (i := 2) (j := 0) (n := 1) 0 (hw _ (List.mem_of_getElem? (i := 114) rfl)) (hw _ (List.mem_of_getElem? (i := 117) rfl)) (hw _ (List.mem_of_getElem? (i := 115) rfl)) (hw _ (List.mem_of_getElem? (i := 116) rfl)) V_a1 V120 rfl rfl rfl rfl (Nat.le_of_ble_eq_true rfl) (Nat.le_of_ble_eq_true rfl) g_b120 (List.mem_of_getElem? (i := 0) rfl) rfl d20_27 (by decide) rfl (by decide) (fun h121 K121 V121 => ?_)
  have hn := Nat.le_trans hn K121.1
  replace V_a1 := V_a1.keep K121 (ninS ne_a1_b120 nin0)
  clear V120
  replace V121 : Arl Z h121 b120 k120 .byte [(.int x2)] := V121
  have K := K.trans K121 (allS (Or.inr sz_b120) all0)
  refine Own.aload d20_30 rfl rfl ?_
  refine Own.ret_ref (t := (.array .byte)) rfl rfl rfl d20_32 (by decide) (by decide) (fun Sf hSf => ?_)
  exact ⟨b120, k120, rfl, sz_b120, K, V121⟩
def Q_rmRG2_3 (Z : State) (x0 : Int32) (x1 : Int32) (x2 : Int32) (x3 : Int32) (h0 : Heap) (n0 : Nat) (v : Option Value) (h : Heap) (Sf : Addr → Prop) : Prop := ∃ (a : Addr) (ka : ClassId), v = some (.ref a) ∧ h0.size ≤ a ∧ Keep h0 h [] ∧ Arl Z h a ka .byte [(.int x2)]
theorem ef_rmRG2_3 (m : MethodId) (a1 : Addr)  : entryFrame m #[(.ref a1), (.int (2 : Int32)), (.int (3 : Int32))] 3 = mkF m 0 #[.val (.ref a1), .val (.int (2 : Int32)), .val (.int (3 : Int32))] [] := by first | (simp [entryFrame, mkF, argsToLocals, Value.category]; done) | rfl
set_option maxRecDepth 65536 in
set_option maxHeartbeats 40000000 in
theorem rmRG2_3 (l : Launch) (Z : State) (a0 : Array Value) (hw : ∀ d ∈ tables_1, d.before a0 Z = true) (ws : List Jvm.Cond) (a1 : Addr) (ka : ClassId) (x0 : Int32) (x1 : Int32) (x2 : Int32) (x3 : Int32) (h0 : Heap) (n0 : Nat) (hn : n0 ≤ h0.size) (V_a1 : Arl Z h0 a1 ka .byte [(.int x0), (.int x1), (.int x2), (.int x3)]) :
    Met own_EL l Z (⟨"java/util/Arrays", "copyOfRange", "([BII)[B"⟩ : MethodName) jdk_65_method_132_code 3 (some (.array .byte)) ({ frames := 2, cells := 1, slots := 1, locals := 67 } : Room) ws #[(.ref a1), (.int (2 : Int32)), (.int (3 : Int32))] h0 n0 [] (Q_rmRG2_3 Z x0 x1 x2 x3 h0 n0) := by
  refine Met.of pn_19 (fun m => ef_rmRG2_3 m a1) ?_
  have K := Keep.refl h0 []
  refine Own.iloadN d19_0 rfl ?_
  refine Own.if_ne 10 d19_1 (by decide) rfl (fun _ => ?_) (fun q => absurd q (by decide))
  refine Own.aloadN d19_10 rfl rfl ?_
  refine Own.iloadN d19_11 rfl ?_
  refine Own.iloadN d19_12 rfl ?_
  refine Own.callS_ [(.ref a1), (.int (2 : Int32)), (.int (3 : Int32))] [] 0 (rmRB2_3 l Z a0 hw [] a1 ka x0 x1 x2 x3 h0 n0 hn V_a1) all0 (hw _ (List.mem_of_getElem? (i := 104) rfl)) (hw _ (List.mem_of_getElem? (i := 105) rfl)) (hw _ (List.mem_of_getElem? (i := 102) rfl)) (hw _ (List.mem_of_getElem? (i := 106) rfl)) (by decide) d19_13 pd_15 rfl rfl rfl rfl (by decide) (by decide) (by decide) (by decide) (fun v122 h122 S122 hq122 => ?_)
  obtain ⟨b123, k123, rfl, z123, K123, V123⟩ := hq122
  have g_b123 : n0 ≤ b123 := Nat.le_trans hn z123
  have ne_a1_b123 : a1 ≠ b123 := Nat.ne_of_lt (Nat.lt_of_lt_of_le V_a1.lt z123)
  have ne_b123_a1 := Ne.symm ne_a1_b123
  have sz_b123 : h0.size ≤ b123 := Nat.le_trans K.1 z123
  have hn := Nat.le_trans hn K123.1
  replace V_a1 := V_a1.keep K123 nin0
  have K := K.trans K123 all0
  refine ⟨[], all0, ?_⟩
  refine OAt.cast (st' := [(.ref b123)]) rfl ?_
  refine Own.ret_ref (t := (.array .byte)) rfl rfl rfl d19_16 (by decide) (by decide) (fun Sf hSf => ?_)
  exact ⟨b123, k123, rfl, sz_b123, K, V123⟩
def Q_rmNS2_3 (Z : State) (x0 : Int32) (x1 : Int32) (x2 : Int32) (x3 : Int32) (h0 : Heap) (n0 : Nat) (v : Option Value) (h : Heap) (Sf : Addr → Prop) : Prop := Keep h0 h [] ∧ ∃ (a b : Addr) (kb : ClassId), v = some (.ref a) ∧ Exa Z h a "java/lang/String" ∧ Fld Z h a "java/lang/String" "value" "[B" (.ref b) ∧ Fld Z h a "java/lang/String" "coder" "B" (.int (0 : Int32)) ∧ Arl Z h b kb .byte [(.int x2)]
theorem ef_rmNS2_3 (m : MethodId) (a1 : Addr)  : entryFrame m #[(.ref a1), (.int (2 : Int32)), (.int (1 : Int32))] 3 = mkF m 0 #[.val (.ref a1), .val (.int (2 : Int32)), .val (.int (1 : Int32))] [] := by first | (simp [entryFrame, mkF, argsToLocals, Value.category]; done) | rfl
set_option maxRecDepth 65536 in
set_option maxHeartbeats 40000000 in
theorem rmNS2_3 (l : Launch) (Z : State) (a0 : Array Value) (hw : ∀ d ∈ tables_1, d.before a0 Z = true) (ws : List Jvm.Cond) (a1 : Addr) (ka : ClassId) (x0 : Int32) (x1 : Int32) (x2 : Int32) (x3 : Int32) (h0 : Heap) (n0 : Nat) (hn : n0 ≤ h0.size) (V_a1 : Arl Z h0 a1 ka .byte [(.int x0), (.int x1), (.int x2), (.int x3)]) :
    Met own_EL l Z (⟨"java/lang/StringLatin1", "newString", "([BII)Ljava/lang/String;"⟩ : MethodName) jdk_43_method_47_code 3 (some (.object "java/lang/String")) ({ frames := 5, cells := 3, slots := 16, locals := 90 } : Room) ws #[(.ref a1), (.int (2 : Int32)), (.int (1 : Int32))] h0 n0 [] (Q_rmNS2_3 Z x0 x1 x2 x3 h0 n0) := by
  refine Met.of pn_17 (fun m => ef_rmNS2_3 m a1) ?_
  have K := Keep.refl h0 []
  refine Own.iloadN d17_0 rfl ?_
  refine Own.if_ne 7 d17_1 (by decide) rfl (fun _ => ?_) (fun q => absurd q (by decide))
  refine Own.new_ (hw _ (List.mem_of_getElem? (i := 99) rfl)) (hw _ (List.mem_of_getElem? (i := 2) rfl)) (hw _ (List.mem_of_getElem? (i := 3) rfl)) d17_7 (by decide) (by decide) (fun h124 b124 gb124 E124 X124 D124 => ?_)
  have g_b124 : n0 ≤ b124 := by rw [gb124]; exact hn
  have ne_a1_b124 : a1 ≠ b124 := fun q => Nat.ne_of_lt V_a1.lt (q.trans gb124)
  have ne_b124_a1 := Ne.symm ne_a1_b124
  have hn := Nat.le_trans hn E124.1
  replace V_a1 := V_a1.ext E124
  have X_b124 := X124
  have F_coder_b124 : Fld Z h124 b124 "java/lang/String" "coder" "B" (.int (0 : Int32)) := D124 (Or.inr (hw _ (List.mem_of_getElem? (i := 27) rfl))) (ty := .byte) (by decide)
  have F_value_b124 : Fld Z h124 b124 "java/lang/String" "value" "[B" .null := D124 (Or.inr (hw _ (List.mem_of_getElem? (i := 29) rfl))) (ty := (.array .byte)) (by decide)
  have sz_b124 : h0.size ≤ b124 := by rw [gb124]; exact K.1
  have K := K.ext E124
  refine Own.dup d17_10 rfl ?_
  refine Own.aloadN d17_11 rfl rfl ?_
  refine Own.iloadN d17_12 rfl ?_
  refine Own.iloadN d17_13 rfl ?_
  refine Own.iloadN d17_14 rfl ?_
  refine Own.iadd d17_15 ?_
  refine OAt.cast (st' := [(.int (3 : Int32)), (.int (2 : Int32)), (.ref a1), (.ref b124), (.ref b124)]) rfl ?_
  refine Own.callS_ [(.ref a1), (.int (2 : Int32)), (.int (3 : Int32))] [(.ref b124), (.ref b124)] 2 (rmRG2_3 l Z a0 hw [] a1 ka x0 x1 x2 x3 h124 n0 hn V_a1) all0 (hw _ (List.mem_of_getElem? (i := 100) rfl)) (hw _ (List.mem_of_getElem? (i := 101) rfl)) (hw _ (List.mem_of_getElem? (i := 102) rfl)) (hw _ (List.mem_of_getElem? (i := 103) rfl)) (by decide) d17_16 pd_15 rfl rfl rfl rfl (by decide) (by decide) (by decide) (by decide) (fun v125 h125 S125 hq125 => ?_)
  obtain ⟨b126, k126, rfl, z126, K126, V126⟩ := hq125
  have g_b126 : n0 ≤ b126 := Nat.le_trans hn z126
  have ne_a1_b126 : a1 ≠ b126 := Nat.ne_of_lt (Nat.lt_of_lt_of_le V_a1.lt z126)
  have ne_b126_a1 := Ne.symm ne_a1_b126
  have ne_b124_b126 : b124 ≠ b126 := Nat.ne_of_lt (Nat.lt_of_lt_of_le X_b124.lt z126)
  have ne_b126_b124 := Ne.symm ne_b124_b126
  have sz_b126 : h0.size ≤ b126 := Nat.le_trans K.1 z126
  have hn := Nat.le_trans hn K126.1
  replace V_a1 := V_a1.keep K126 nin0
  replace X_b124 := X_b124.keep K126
  replace F_coder_b124 := F_coder_b124.keep K126 nin0
  replace F_value_b124 := F_value_b124.keep K126 nin0
  have K := K.trans K126 all0
  refine ⟨[], all0, ?_⟩
  refine OAt.cast (st' := [(.ref b126), (.ref b124), (.ref b124)]) rfl ?_
  refine Own.iconst (0 : Int32) d17_19 rfl ?_
  refine Own.callI_ b124 [(.ref b126), (.int (0 : Int32))] [(.ref b124)] 1 (rmBB l Z a0 hw [] b124 b126 h125 n0 hn X_b124 g_b124 F_value_b124 F_coder_b124) (allS (List.mem_of_getElem? (i := 0) rfl) all0) (hw _ (List.mem_of_getElem? (i := 118) rfl)) (hw _ (List.mem_of_getElem? (i := 119) rfl)) (hw _ (List.mem_of_getElem? (i := 3) rfl)) (hw _ (List.mem_of_getElem? (i := 120) rfl)) rfl (by decide) d17_20 pd_12 rfl rfl rfl rfl (by decide) (by decide) (by decide) (by decide) (fun v127 h127 S127 hq127 => ?_)
  obtain ⟨rfl, K128, G1, G2⟩ := hq127
  have hn := Nat.le_trans hn K128.1
  replace V_a1 := V_a1.keep K128 (ninS ne_a1_b124 nin0)
  replace X_b124 := X_b124.keep K128
  replace V126 := V126.keep K128 (ninS ne_b126_b124 nin0)
  have K := K.trans K128 (allS (Or.inr sz_b124) all0)
  have F_value_b124 := G1
  have F_coder_b124 := G2
  refine ⟨[], all0, ?_⟩
  refine OAt.cast (st' := [(.ref b124)]) rfl ?_
  refine Own.ret_ref (t := (.object "java/lang/String")) rfl rfl rfl d17_23 (by decide) (by decide) (fun Sf hSf => ?_)
  exact ⟨K, b124, b126, k126, rfl, X_b124, F_value_b124, F_coder_b124, V126⟩
def Q_rmSub2_3 (Z : State) (a1 : Addr) (b : Addr) (kb : ClassId) (zc : Int32) (vf : Value) (x0 : Int32) (x1 : Int32) (x2 : Int32) (x3 : Int32) (h0 : Heap) (n0 : Nat) (v : Option Value) (h : Heap) (Sf : Addr → Prop) : Prop := Keep h0 h [] ∧ ∃ (a b : Addr) (kb : ClassId), v = some (.ref a) ∧ Exa Z h a "java/lang/String" ∧ Fld Z h a "java/lang/String" "value" "[B" (.ref b) ∧ Fld Z h a "java/lang/String" "coder" "B" (.int (0 : Int32)) ∧ Arl Z h b kb .byte [(.int x2)]
theorem ef_rmSub2_3 (m : MethodId) (a1 : Addr)  : entryFrame m #[(.ref a1), (.int (2 : Int32)), (.int (3 : Int32))] 5 = mkF m 0 #[.val (.ref a1), .val (.int (2 : Int32)), .val (.int (3 : Int32)), .unset, .unset] [] := by first | (simp [entryFrame, mkF, argsToLocals, Value.category]; done) | rfl
set_option maxRecDepth 65536 in
set_option maxHeartbeats 40000000 in
theorem rmSub2_3 (l : Launch) (Z : State) (a0 : Array Value) (hw : ∀ d ∈ tables_1, d.before a0 Z = true) (ws : List Jvm.Cond) (a1 : Addr) (b : Addr) (kb : ClassId) (zc : Int32) (vf : Value) (x0 : Int32) (x1 : Int32) (x2 : Int32) (x3 : Int32) (h0 : Heap) (n0 : Nat) (hn : n0 ≤ h0.size) (X_a1 : Exa Z h0 a1 "java/lang/String") (F_value_a1 : Fld Z h0 a1 "java/lang/String" "value" "[B" (.ref b)) (F_coder_a1 : Fld Z h0 a1 "java/lang/String" "coder" "B" (.int (0 : Int32))) (V_b : Arl Z h0 b kb .byte [(.int x0), (.int x1), (.int x2), (.int x3)]) (S_C : Sta Z h0 "java/lang/String" "COMPACT_STRINGS" "Z" (.int zc)) (S_F : Sta Z h0 "jdk/internal/util/Preconditions" "SIOOBE_FORMATTER" "Ljava/util/function/BiFunction;" vf) (hz : ¬ zc = 0) (hvf : vf.isRef = true) :
    Met own_EL l Z (⟨"java/lang/String", "substring", "(II)Ljava/lang/String;"⟩ : MethodName) jdk_42_method_92_code 5 (some (.object "java/lang/String")) ({ frames := 6, cells := 3, slots := 16, locals := 110 } : Room) ws #[(.ref a1), (.int (2 : Int32)), (.int (3 : Int32))] h0 n0 [] (Q_rmSub2_3 Z a1 b kb zc vf x0 x1 x2 x3 h0 n0) := by
  refine Met.of pn_11 (fun m => ef_rmSub2_3 m a1) ?_
  have K := Keep.refl h0 []
  refine Own.aloadN d11_0 rfl rfl ?_
  refine Own.callVP a1 [] [] 0 (rm_len_4 l Z a0 hw [] a1 b kb _ zc h0 n0 hn X_a1 F_value_a1 F_coder_a1 V_b rfl S_C hz) (hw _ (List.mem_of_getElem? (i := 64) rfl)) (hw _ (List.mem_of_getElem? (i := 65) rfl)) (fun s hZ => notFace_of_selects (args := #[]) (mvT hZ (hw _ (List.mem_of_getElem? (i := 67) rfl)))) (hw _ (List.mem_of_getElem? (i := 67) rfl)) (hw _ (List.mem_of_getElem? (i := 66) rfl)) (hw _ (List.mem_of_getElem? (i := 3) rfl)) (hw _ (List.mem_of_getElem? (i := 68) rfl)) (by decide) X_a1 d11_1 pd_1 rfl rfl rfl rfl (by decide) (by decide) (by decide) (by decide) ?_
  refine Own.istoreN #[.val (.ref a1), .val (.int (2 : Int32)), .val (.int (3 : Int32)), .val (.int (4 : Int32)), .unset] d11_4 rfl ?_
  refine Own.iloadN d11_5 rfl ?_
  refine Own.iloadN d11_6 rfl ?_
  refine Own.iloadN d11_7 rfl ?_
  refine Own.callS0 [(.int (2 : Int32)), (.int (3 : Int32)), (.int (4 : Int32))] [] 0 (rmCB2_3 l Z a0 hw [] vf h0 n0 hn S_F hvf) (hw _ (List.mem_of_getElem? (i := 74) rfl)) (hw _ (List.mem_of_getElem? (i := 75) rfl)) (hw _ (List.mem_of_getElem? (i := 3) rfl)) (hw _ (List.mem_of_getElem? (i := 76) rfl)) (by decide) d11_8 pd_8 rfl rfl rfl rfl (by decide) (by decide) (by decide) (by decide) ?_
  refine Own.iloadN d11_11 rfl ?_
  refine Own.if_ne 22 d11_12 (by decide) rfl (fun _ => ?_) (fun q => absurd q (by decide))
  refine Own.iloadN d11_22 rfl ?_
  refine Own.iloadN d11_23 rfl ?_
  refine Own.isub d11_24 ?_
  refine OAt.cast (st' := [(.int (1 : Int32))]) rfl ?_
  refine Own.istore #[.val (.ref a1), .val (.int (2 : Int32)), .val (.int (3 : Int32)), .val (.int (4 : Int32)), .val (.int (1 : Int32))] d11_25 rfl ?_
  refine Own.aloadN d11_27 rfl rfl ?_
  refine Own.callVP a1 [] [] 0 (rm_lat_4 l Z a0 hw [] a1 b kb _ zc h0 n0 hn X_a1 F_value_a1 F_coder_a1 V_b rfl S_C hz) (hw _ (List.mem_of_getElem? (i := 82) rfl)) (hw _ (List.mem_of_getElem? (i := 83) rfl)) (fun s hZ => notFace_of_selects (args := #[]) (mvT hZ (hw _ (List.mem_of_getElem? (i := 85) rfl)))) (hw _ (List.mem_of_getElem? (i := 85) rfl)) (hw _ (List.mem_of_getElem? (i := 84) rfl)) (hw _ (List.mem_of_getElem? (i := 3) rfl)) (hw _ (List.mem_of_getElem? (i := 86) rfl)) (by decide) X_a1 d11_28 pd_4 rfl rfl rfl rfl (by decide) (by decide) (by decide) (by decide) ?_
  refine Own.if_eq 47 d11_31 (by decide) rfl (fun q => absurd q (by decide)) (fun _ => ?_)
  refine Own.aloadN d11_34 rfl rfl ?_
  refine Own.getF_ (host := "") (Or.inl (hw _ (List.mem_of_getElem? (i := 28) rfl))) Via.refl F_value_a1 d11_35 ?_
  refine Own.iloadN d11_38 rfl ?_
  refine Own.iload d11_39 rfl ?_
  refine Own.callS_ [(.ref b), (.int (2 : Int32)), (.int (1 : Int32))] [] 0 (rmNS2_3 l Z a0 hw [] b kb x0 x1 x2 x3 h0 n0 hn V_b) all0 (hw _ (List.mem_of_getElem? (i := 87) rfl)) (hw _ (List.mem_of_getElem? (i := 88) rfl)) (hw _ (List.mem_of_getElem? (i := 89) rfl)) (hw _ (List.mem_of_getElem? (i := 90) rfl)) (by decide) d11_41 pd_14 rfl rfl rfl rfl (by decide) (by decide) (by decide) (by decide) (fun v129 h129 S129 hq129 => ?_)
  obtain ⟨K130, s130, t130, kt130, rfl, X_s130, F_value_s130, F_coder_s130, V_t130⟩ := hq129
  have hn := Nat.le_trans hn K130.1
  replace S_C := sta_keep S_C K130 ns0
  replace S_F := sta_keep S_F K130 ns0
  replace X_a1 := X_a1.keep K130
  replace F_value_a1 := F_value_a1.keep K130 nin0
  replace F_coder_a1 := F_coder_a1.keep K130 nin0
  replace V_b := V_b.keep K130 nin0
  have K := K.trans K130 all0
  refine ⟨[], all0, ?_⟩
  refine OAt.cast (st' := [(.ref s130)]) rfl ?_
  refine Own.goto_ 57 d11_44 (by decide) rfl ?_
  refine Own.ret_ref (t := (.object "java/lang/String")) rfl rfl rfl d11_57 (by decide) (by decide) (fun Sf hSf => ?_)
  exact ⟨K, s130, t130, kt130, rfl, X_s130, F_value_s130, F_coder_s130, V_t130⟩
def Q_rmCut2_3 (Z : State) (x0 : Int32) (x1 : Int32) (x2 : Int32) (x3 : Int32) (h0 : Heap) (n0 : Nat) (v : Option Value) (h : Heap) (Sf : Addr → Prop) : Prop := Keep h0 h [] ∧ ∃ (a b : Addr) (kb : ClassId), v = some (.ref a) ∧ Exa Z h a "java/lang/String" ∧ Fld Z h a "java/lang/String" "value" "[B" (.ref b) ∧ Fld Z h a "java/lang/String" "coder" "B" (.int (0 : Int32)) ∧ Arl Z h b kb .byte [(.int x2)]
theorem ef_rmCut2_3 (m : MethodId) (a1 : Addr)  : entryFrame m #[(.ref a1)] 1 = mkF m 0 #[.val (.ref a1)] [] := by first | (simp [entryFrame, mkF, argsToLocals, Value.category]; done) | rfl
set_option maxRecDepth 65536 in
set_option maxHeartbeats 40000000 in
theorem rmCut2_3 (l : Launch) (Z : State) (a0 : Array Value) (hw : ∀ d ∈ tables_1, d.before a0 Z = true) (ws : List Jvm.Cond) (a1 : Addr) (a2 : Addr) (b : Addr) (kb : ClassId) (zc : Int32) (vf : Value) (x0 : Int32) (x1 : Int32) (x2 : Int32) (x3 : Int32) (h0 : Heap) (n0 : Nat) (hn : n0 ≤ h0.size) (X_a2 : Exa Z h0 a2 "java/lang/String") (F_value_a2 : Fld Z h0 a2 "java/lang/String" "value" "[B" (.ref b)) (F_coder_a2 : Fld Z h0 a2 "java/lang/String" "coder" "B" (.int (0 : Int32))) (V_b : Arl Z h0 b kb .byte [(.int x0), (.int x1), (.int x2), (.int x3)]) (S_C : Sta Z h0 "java/lang/String" "COMPACT_STRINGS" "Z" (.int zc)) (S_F : Sta Z h0 "jdk/internal/util/Preconditions" "SIOOBE_FORMATTER" "Ljava/util/function/BiFunction;" vf) (hz : ¬ zc = 0) (hvf : vf.isRef = true) (F_text_a1 : Fld Z h0 a1 "com/example/cytorelay/cytorelay/core/Hl7Syntax$Span" "text" "Ljava/lang/String;" (.ref a2)) (F_from_a1 : Fld Z h0 a1 "com/example/cytorelay/cytorelay/core/Hl7Syntax$Span" "from" "I" (.int (2 : Int32))) (F_to_a1 : Fld Z h0 a1 "com/example/cytorelay/cytorelay/core/Hl7Syntax$Span" "to" "I" (.int (3 : Int32))) :
    Met own_EL l Z (⟨"com/example/cytorelay/cytorelay/core/Hl7Syntax$Span", "cut", "()Ljava/lang/String;"⟩ : MethodName) prog_32_method_4_code 1 (some (.object "java/lang/String")) ({ frames := 7, cells := 3, slots := 16, locals := 130 } : Room) ws #[(.ref a1)] h0 n0 [] (Q_rmCut2_3 Z x0 x1 x2 x3 h0 n0) := by
  refine Met.of pn_10 (fun m => ef_rmCut2_3 m a1) ?_
  have K := Keep.refl h0 []
  refine Own.aloadN d10_0 rfl rfl ?_
  refine Own.getF_ (host := "") (Or.inl (hw _ (List.mem_of_getElem? (i := 43) rfl))) Via.refl F_text_a1 d10_1 ?_
  refine Own.aloadN d10_4 rfl rfl ?_
  refine Own.getF_ (host := "") (Or.inl (hw _ (List.mem_of_getElem? (i := 45) rfl))) Via.refl F_from_a1 d10_5 ?_
  refine Own.aloadN d10_8 rfl rfl ?_
  refine Own.getF_ (host := "") (Or.inl (hw _ (List.mem_of_getElem? (i := 47) rfl))) Via.refl F_to_a1 d10_9 ?_
  refine Own.callV_ a2 [(.int (2 : Int32)), (.int (3 : Int32))] [] 0 (rmSub2_3 l Z a0 hw [] a2 b kb zc vf x0 x1 x2 x3 h0 n0 hn X_a2 F_value_a2 F_coder_a2 V_b S_C S_F hz hvf) all0 (hw _ (List.mem_of_getElem? (i := 59) rfl)) (hw _ (List.mem_of_getElem? (i := 60) rfl)) (fun s hZ => notFace_of_selects (args := #[]) (mvT hZ (hw _ (List.mem_of_getElem? (i := 62) rfl)))) (hw _ (List.mem_of_getElem? (i := 62) rfl)) (hw _ (List.mem_of_getElem? (i := 61) rfl)) (hw _ (List.mem_of_getElem? (i := 3) rfl)) (hw _ (List.mem_of_getElem? (i := 63) rfl)) (by decide) X_a2 d10_12 pd_6 rfl rfl rfl rfl (by decide) (by decide) (by decide) (by decide) (fun v131 h131 S131 hq131 => ?_)
  obtain ⟨K132, s132, t132, kt132, rfl, X_s132, F_value_s132, F_coder_s132, V_t132⟩ := hq131
  have hn := Nat.le_trans hn K132.1
  replace S_C := sta_keep S_C K132 ns0
  replace S_F := sta_keep S_F K132 ns0
  replace X_a2 := X_a2.keep K132
  replace F_value_a2 := F_value_a2.keep K132 nin0
  replace F_coder_a2 := F_coder_a2.keep K132 nin0
  replace V_b := V_b.keep K132 nin0
  replace F_text_a1 := F_text_a1.keep K132 nin0
  replace F_from_a1 := F_from_a1.keep K132 nin0
  replace F_to_a1 := F_to_a1.keep K132 nin0
  have K := K.trans K132 all0
  refine ⟨[], all0, ?_⟩
  refine OAt.cast (st' := [(.ref s132)]) rfl ?_
  refine Own.ret_ref (t := (.object "java/lang/String")) rfl rfl rfl d10_15 (by decide) (by decide) (fun Sf hSf => ?_)
  exact ⟨K, s132, t132, kt132, rfl, X_s132, F_value_s132, F_coder_s132, V_t132⟩
theorem ef_rmSE2_4 (m : MethodId) (a1 : Addr)  : entryFrame m #[(.ref a1)] 1 = mkF m 0 #[.val (.ref a1)] [] := by first | (simp [entryFrame, mkF, argsToLocals, Value.category]; done) | rfl
set_option maxRecDepth 65536 in
set_option maxHeartbeats 40000000 in
theorem rmSE2_4 (l : Launch) (Z : State) (a0 : Array Value) (hw : ∀ d ∈ tables_1, d.before a0 Z = true) (ws : List Jvm.Cond) (a1 : Addr) (h0 : Heap) (n0 : Nat) (hn : n0 ≤ h0.size) (F_from : Fld Z h0 a1 "com/example/cytorelay/cytorelay/core/Hl7Syntax$Span" "from" "I" (.int (2 : Int32))) (F_to : Fld Z h0 a1 "com/example/cytorelay/cytorelay/core/Hl7Syntax$Span" "to" "I" (.int (4 : Int32))) :
    Met own_EL l Z (⟨"com/example/cytorelay/cytorelay/core/Hl7Syntax$Span", "isEmpty", "()Z"⟩ : MethodName) prog_32_method_3_code 1 (some .boolean) ({ frames := 0, cells := 0, slots := 0, locals := 0 } : Room) ws #[(.ref a1)] h0 n0 [] (Pur (.int (0 : Int32)) h0) := by
  refine Met.of pn_9 (fun m => ef_rmSE2_4 m a1) ?_
  refine Own.aloadN d9_0 rfl rfl ?_
  refine Own.getF_ (host := "") (Or.inl (hw _ (List.mem_of_getElem? (i := 45) rfl))) Via.refl F_from d9_1 ?_
  refine Own.aloadN d9_4 rfl rfl ?_
  refine Own.getF_ (host := "") (Or.inl (hw _ (List.mem_of_getElem? (i := 47) rfl))) Via.refl F_to d9_5 ?_
  refine Own.icmp_ne 15 d9_8 (by decide) rfl (fun _ => ?_) (fun q => absurd q (by decide))
  refine Own.iconst (0 : Int32) d9_15 rfl ?_
  refine Own.ret_nar (t := .boolean) (by simp) rfl d9_16 (by decide) (by decide) (fun Sf hSf => ?_)
  exact ⟨rfl, rfl⟩
theorem ef_rmPF2_4 (m : MethodId) (vf : Value) (hr_3 : (vf).isRef = true) : entryFrame m #[(.int (2 : Int32)), (.int (4 : Int32)), (.int (4 : Int32)), vf] 4 = mkF m 0 #[.val (.int (2 : Int32)), .val (.int (4 : Int32)), .val (.int (4 : Int32)), .val vf] [] := by rcases ref_cases hr_3 with rfl | ⟨z3, rfl⟩ <;> first | (simp [entryFrame, mkF, argsToLocals, Value.category]; done) | rfl
set_option maxRecDepth 65536 in
set_option maxHeartbeats 40000000 in
theorem rmPF2_4 (l : Launch) (Z : State) (a0 : Array Value) (hw : ∀ d ∈ tables_1, d.before a0 Z = true) (ws : List Jvm.Cond) (vf : Value) (h0 : Heap) (n0 : Nat) (hn : n0 ≤ h0.size) (hvf : vf.isRef = true) :
    Met own_EL l Z (⟨"jdk/internal/util/Preconditions", "checkFromToIndex", "(IIILjava/util/function/BiFunction;)I"⟩ : MethodName) jdk_41_method_12_code 4 (some .int) ({ frames := 0, cells := 0, slots := 0, locals := 0 } : Room) ws #[(.int (2 : Int32)), (.int (4 : Int32)), (.int (4 : Int32)), vf] h0 n0 [] (Pur (.int (2 : Int32)) h0) := by
  refine Met.of pn_15 (fun m => ef_rmPF2_4 m vf hvf) ?_
  refine Own.iloadN d15_0 rfl ?_
  refine Own.if_lt 14 d15_1 (by decide) rfl (fun q => absurd q (by decide)) (fun _ => ?_)
  refine Own.iloadN d15_4 rfl ?_
  refine Own.iloadN d15_5 rfl ?_
  refine Own.icmp_gt 14 d15_6 (by decide) rfl (fun q => absurd q (by decide)) (fun _ => ?_)
  refine Own.iloadN d15_9 rfl ?_
  refine Own.iloadN d15_10 rfl ?_
  refine Own.icmp_le 22 d15_11 (by decide) rfl (fun _ => ?_) (fun q => absurd q (by decide))
  refine Own.iloadN d15_22 rfl ?_
  refine Own.ret_int rfl d15_23 (by decide) (by decide) (fun Sf hSf => ?_)
  exact ⟨rfl, rfl⟩
theorem ef_rmCB2_4 (m : MethodId)   : entryFrame m #[(.int (2 : Int32)), (.int (4 : Int32)), (.int (4 : Int32))] 3 = mkF m 0 #[.val (.int (2 : Int32)), .val (.int (4 : Int32)), .val (.int (4 : Int32))] [] := by first | (simp [entryFrame, mkF, argsToLocals, Value.category]; done) | rfl
set_option maxRecDepth 65536 in
set_option maxHeartbeats 40000000 in
theorem rmCB2_4 (l : Launch) (Z : State) (a0 : Array Value) (hw : ∀ d ∈ tables_1, d.before a0 Z = true) (ws : List Jvm.Cond) (vf : Value) (h0 : Heap) (n0 : Nat) (hn : n0 ≤ h0.size) (S_F : Sta Z h0 "jdk/internal/util/Preconditions" "SIOOBE_FORMATTER" "Ljava/util/function/BiFunction;" vf) (hvf : vf.isRef = true) :
    Met own_EL l Z (⟨"java/lang/String", "checkBoundsBeginEnd", "(III)V"⟩ : MethodName) jdk_42_method_158_code 3 none ({ frames := 1, cells := 0, slots := 0, locals := 15 } : Room) ws #[(.int (2 : Int32)), (.int (4 : Int32)), (.int (4 : Int32))] h0 n0 [] (Pur0 h0) := by
  refine Met.of pn_14 (fun m => ef_rmCB2_4 m ) ?_
  refine Own.iloadN d14_0 rfl ?_
  refine Own.iloadN d14_1 rfl ?_
  refine Own.iloadN d14_2 rfl ?_
  refine Own.getS_ (host := "") (Or.inl (hw _ (List.mem_of_getElem? (i := 77) rfl))) Via.refl S_F d14_3 ?_
  refine Own.callSP [(.int (2 : Int32)), (.int (4 : Int32)), (.int (4 : Int32)), vf] [] 0 (rmPF2_4 l Z a0 hw [] vf h0 n0 hn hvf) (hw _ (List.mem_of_getElem? (i := 79) rfl)) (hw _ (List.mem_of_getElem? (i := 80) rfl)) (hw _ (List.mem_of_getElem? (i := 78) rfl)) (hw _ (List.mem_of_getElem? (i := 81) rfl)) (by decide) d14_6 pd_9 rfl rfl rfl rfl (by decide) (by decide) (by decide) (by decide) ?_
  refine Own.pop d14_9 rfl ?_
  refine Own.ret_void rfl d14_10 (by decide) (by decide) (fun Sf hSf => ?_)
  exact ⟨rfl, rfl⟩
theorem ef_rmCL2_4 (m : MethodId)   : entryFrame m #[(.int (2 : Int32)), (.int (4 : Int32))] 2 = mkF m 0 #[.val (.int (2 : Int32)), .val (.int (4 : Int32))] [] := by first | (simp [entryFrame, mkF, argsToLocals, Value.category]; done) | rfl
set_option maxRecDepth 65536 in
set_option maxHeartbeats 40000000 in
theorem rmCL2_4 (l : Launch) (Z : State) (a0 : Array Value) (hw : ∀ d ∈ tables_1, d.before a0 Z = true) (ws : List Jvm.Cond)  (h0 : Heap) (n0 : Nat) (hn : n0 ≤ h0.size) :
    Met own_EL l Z (⟨"java/util/Arrays", "checkLength", "(II)V"⟩ : MethodName) jdk_65_method_131_code 2 none ({ frames := 0, cells := 0, slots := 0, locals := 0 } : Room) ws #[(.int (2 : Int32)), (.int (4 : Int32))] h0 n0 [] (Pur0 h0) := by
  refine Met.of pn_21 (fun m => ef_rmCL2_4 m ) ?_
  refine Own.iloadN d21_0 rfl ?_
  refine Own.iloadN d21_1 rfl ?_
  refine Own.icmp_ge 37 d21_2 (by decide) rfl (fun _ => ?_) (fun q => absurd q (by decide))
  refine Own.ret_void rfl d21_37 (by decide) (by decide) (fun Sf hSf => ?_)
  exact ⟨rfl, rfl⟩
theorem ef_rmMM2_4 (m : MethodId)   : entryFrame m #[(.int (2 : Int32)), (.int (2 : Int32))] 2 = mkF m 0 #[.val (.int (2 : Int32)), .val (.int (2 : Int32))] [] := by first | (simp [entryFrame, mkF, argsToLocals, Value.category]; done) | rfl
set_option maxRecDepth 65536 in
set_option maxHeartbeats 40000000 in
theorem rmMM2_4 (l : Launch) (Z : State) (a0 : Array Value) (hw : ∀ d ∈ tables_1, d.before a0 Z = true) (ws : List Jvm.Cond)  (h0 : Heap) (n0 : Nat) (hn : n0 ≤ h0.size) :
    Met own_EL l Z (⟨"java/lang/Math", "min", "(II)I"⟩ : MethodName) jdk_29_method_69_code 2 (some .int) ({ frames := 0, cells := 0, slots := 0, locals := 0 } : Room) ws #[(.int (2 : Int32)), (.int (2 : Int32))] h0 n0 [] (Pur (.int (2 : Int32)) h0) := by
  refine Met.of pn_22 (fun m => ef_rmMM2_4 m ) ?_
  refine Own.iloadN d22_0 rfl ?_
  refine Own.iloadN d22_1 rfl ?_
  refine Own.icmp_gt 9 d22_2 (by decide) rfl (fun q => absurd q (by decide)) (fun _ => ?_)
  refine Own.iloadN d22_5 rfl ?_
  refine Own.goto_ 10 d22_6 (by decide) rfl ?_
  refine Own.ret_int rfl d22_10 (by decide) (by decide) (fun Sf hSf => ?_)
  exact ⟨rfl, rfl⟩
def Q_rmRB2_4 (Z : State) (x0 : Int32) (x1 : Int32) (x2 : Int32) (x3 : Int32) (h0 : Heap) (n0 : Nat) (v : Option Value) (h : Heap) (Sf : Addr → Prop) : Prop := ∃ (a : Addr) (ka : ClassId), v = some (.ref a) ∧ h0.size ≤ a ∧ Keep h0 h [] ∧ Arl Z h a ka .byte [(.int x2), (.int x3)]
theorem ef_rmRB2_4 (m : MethodId) (a1 : Addr)  : entryFrame m #[(.ref a1), (.int (2 : Int32)), (.int (4 : Int32))] 5 = mkF m 0 #[.val (.ref a1), .val (.int (2 : Int32)), .val (.int (4 : Int32)), .unset, .unset] [] := by first | (simp [entryFrame, mkF, argsToLocals, Value.category]; done) | rfl
set_option maxRecDepth 65536 in
set_option maxHeartbeats 40000000 in
theorem rmRB2_4 (l : Launch) (Z : State) (a0 : Array Value) (hw : ∀ d ∈ tables_1, d.before a0 Z = true) (ws : List Jvm.Cond) (a1 : Addr) (ka : ClassId) (x0 : Int32) (x1 : Int32) (x2 : Int32) (x3 : Int32) (h0 : Heap) (n0 : Nat) (hn : n0 ≤ h0.size) (V_a1 : Arl Z h0 a1 ka .byte [(.int x0), (.int x1), (.int x2), (.int x3)]) :
    Met own_EL l Z (⟨"java/util/Arrays", "copyOfRangeByte", "([BII)[B"⟩ : MethodName) jdk_65_method_133_code 5 (some (.array .byte)) ({ frames := 1, cells := 1, slots := 2, locals := 51 } : Room) ws #[(.ref a1), (.int (2 : Int32)), (.int (4 : Int32))] h0 n0 [] (Q_rmRB2_4 Z x0 x1 x2 x3 h0 n0) := by
  refine Met.of pn_20 (fun m => ef_rmRB2_4 m a1) ?_
  have K := Keep.refl h0 []
  refine Own.iloadN d20_0 rfl ?_
  refine Own.iloadN d20_1 rfl ?_
  refine Own.callS0 [(.int (2 : Int32)), (.int (4 : Int32))] [] 0 (rmCL2_4 l Z a0 hw [] h0 n0 hn) (hw _ (List.mem_of_getElem? (i := 107) rfl)) (hw _ (List.mem_of_getElem? (i := 108) rfl)) (hw _ (List.mem_of_getElem? (i := 102) rfl)) (hw _ (List.mem_of_getElem? (i := 109) rfl)) (by decide) d20_2 pd_7 rfl rfl rfl rfl (by decide) (by decide) (by decide) (by decide) ?_
  refine Own.iloadN d20_5 rfl ?_
  refine Own.iloadN d20_6 rfl ?_
  refine Own.isub d20_7 ?_
  refine OAt.cast (st' := [(.int (2 : Int32))]) rfl ?_
  refine Own.istoreN #[.val (.ref a1), .val (.int (2 : Int32)), .val (.int (4 : Int32)), .val (.int (2 : Int32)), .unset] d20_8 rfl ?_
  refine Own.iloadN d20_9 rfl ?_
  refine Own.newarray_ 2 .byte rfl (hw _ (List.mem_of_getElem? (i := 19) rfl)) d20_10 (N := 2) rfl (by decide) (by decide) (by decide) (by decide) rfl (fun h133 b133 k133 gb133 E133 V133 => ?_)
  have g_b133 : n0 ≤ b133 := by rw [gb133]; exact hn
  have ne_a1_b133 : a1 ≠ b133 := fun q => Nat.ne_of_lt V_a1.lt (q.trans gb133)
  have ne_b133_a1 := Ne.symm ne_a1_b133
  have hn := Nat.le_trans hn E133.1
  replace V_a1 := V_a1.ext E133
  replace V133 : Arl Z h133 b133 k133 .byte [(.int (0 : Int32)), (.int (0 : Int32))] := V133
  have sz_b133 : h0.size ≤ b133 := by rw [gb133]; exact K.1
  have K := K.ext E133
  refine Own.astore #[.val (.ref a1), .val (.int (2 : Int32)), .val (.int (4 : Int32)), .val (.int (2 : Int32)), .val (.ref b133)] d20_12 rfl rfl ?_
  refine Own.aloadN d20_14 rfl rfl ?_
  refine Own.iloadN d20_15 rfl ?_
  refine Own.aload d20_16 rfl rfl ?_
  refine Own.iconst (0 : Int32) d20_18 rfl ?_
  refine Own.aloadN d20_19 rfl rfl ?_
  refine Own.arraylength_ (4 : Int32) V_a1 rfl d20_20 ?_
  refine Own.iloadN d20_21 rfl ?_
  refine Own.isub d20_22 ?_
  refine OAt.cast (st' := [(.int (2 : Int32)), (.int (0 : Int32)), (.ref b133), (.int (2 : Int32)), (.ref a1)]) rfl ?_
  refine Own.iloadN d20_23 rfl ?_
  refine Own.callSP [(.int (2 : Int32)), (.int (2 : Int32))] [(.int (0 : Int32)), (.ref b133), (.int (2 : Int32)), (.ref a1)] 4 (rmMM2_4 l Z a0 hw [] h133 n0 hn) (hw _ (List.mem_of_getElem? (i := 110) rfl)) (hw _ (List.mem_of_getElem? (i := 111) rfl)) (hw _ (List.mem_of_getElem? (i := 112) rfl)) (hw _ (List.mem_of_getElem? (i := 113) rfl)) (by decide) d20_24 pd_5 rfl rfl rfl rfl (by decide) (by decide) (by decide) (by decide) ?_
  refine Own.arraycopy_ (i := 2) (j := 0) (n := 2) 0 (hw _ (List.mem_of_getElem? (i := 114) rfl)) (hw _ (List.mem_of_getElem? (i := 117) rfl)) (hw _ (List.mem_of_getElem? (i := 115) rfl)) (hw _ (List.mem_of_getElem? (i := 116) rfl)) V_a1 V133 rfl rfl rfl rfl (Nat.le_of_ble_eq_true rfl) (Nat.le_of_ble_eq_true rfl) g_b133 (List.mem_of_getElem? (i := 0) rfl) rfl d20_27 (by decide) rfl (by decide) (fun h134 K134 V134 => ?_)
  have hn := Nat.le_trans hn K134.1
  replace V_a1 := V_a1.keep K134 (ninS ne_a1_b133 nin0)
  clear V133
  replace V134 : Arl Z h134 b133 k133 .byte [(.int x2), (.int x3)] := V134
  have K := K.trans K134 (allS (Or.inr sz_b133) all0)
  refine Own.aload d20_30 rfl rfl ?_
  refine Own.ret_ref (t := (.array .byte)) rfl rfl rfl d20_32 (by decide) (by decide) (fun Sf hSf => ?_)
  exact ⟨b133, k133, rfl, sz_b133, K, V134⟩
def Q_rmRG2_4 (Z : State) (x0 : Int32) (x1 : Int32) (x2 : Int32) (x3 : Int32) (h0 : Heap) (n0 : Nat) (v : Option Value) (h : Heap) (Sf : Addr → Prop) : Prop := ∃ (a : Addr) (ka : ClassId), v = some (.ref a) ∧ h0.size ≤ a ∧ Keep h0 h [] ∧ Arl Z h a ka .byte [(.int x2), (.int x3)]
theorem ef_rmRG2_4 (m : MethodId) (a1 : Addr)  : entryFrame m #[(.ref a1), (.int (2 : Int32)), (.int (4 : Int32))] 3 = mkF m 0 #[.val (.ref a1), .val (.int (2 : Int32)), .val (.int (4 : Int32))] [] := by first | (simp [entryFrame, mkF, argsToLocals, Value.category]; done) | rfl
set_option maxRecDepth 65536 in
set_option maxHeartbeats 40000000 in
theorem rmRG2_4 (l : Launch) (Z : State) (a0 : Array Value) (hw : ∀ d ∈ tables_1, d.before a0 Z = true) (ws : List Jvm.Cond) (a1 : Addr) (ka : ClassId) (x0 : Int32) (x1 : Int32) (x2 : Int32) (x3 : Int32) (h0 : Heap) (n0 : Nat) (hn : n0 ≤ h0.size) (V_a1 : Arl Z h0 a1 ka .byte [(.int x0), (.int x1), (.int x2), (.int x3)]) :
    Met own_EL l Z (⟨"java/util/Arrays", "copyOfRange", "([BII)[B"⟩ : MethodName) jdk_65_method_132_code 3 (some (.array .byte)) ({ frames := 2, cells := 1, slots := 2, locals := 67 } : Room) ws #[(.ref a1), (.int (2 : Int32)), (.int (4 : Int32))] h0 n0 [] (Q_rmRG2_4 Z x0 x1 x2 x3 h0 n0) := by
  refine Met.of pn_19 (fun m => ef_rmRG2_4 m a1) ?_
  have K := Keep.refl h0 []
  refine Own.iloadN d19_0 rfl ?_
  refine Own.if_ne 10 d19_1 (by decide) rfl (fun _ => ?_) (fun q => absurd q (by decide))
  refine Own.aloadN d19_10 rfl rfl ?_
  refine Own.iloadN d19_11 rfl ?_
  refine Own.iloadN d19_12 rfl ?_
  refine Own.callS_ [(.ref a1), (.int (2 : Int32)), (.int (4 : Int32))] [] 0 (rmRB2_4 l Z a0 hw [] a1 ka x0 x1 x2 x3 h0 n0 hn V_a1) all0 (hw _ (List.mem_of_getElem? (i := 104) rfl)) (hw _ (List.mem_of_getElem? (i := 105) rfl)) (hw _ (List.mem_of_getElem? (i := 102) rfl)) (hw _ (List.mem_of_getElem? (i := 106) rfl)) (by decide) d19_13 pd_15 rfl rfl rfl rfl (by decide) (by decide) (by decide) (by decide) (fun v135 h135 S135 hq135 => ?_)
  obtain ⟨b136, k136, rfl, z136, K136, V136⟩ := hq135
  have g_b136 : n0 ≤ b136 := Nat.le_trans hn z136
  have ne_a1_b136 : a1 ≠ b136 := Nat.ne_of_lt (Nat.lt_of_lt_of_le V_a1.lt z136)
  have ne_b136_a1 := Ne.symm ne_a1_b136
  have sz_b136 : h0.size ≤ b136 := Nat.le_trans K.1 z136
  have hn := Nat.le_trans hn K136.1
  replace V_a1 := V_a1.keep K136 nin0
  have K := K.trans K136 all0
  refine ⟨[], all0, ?_⟩
  refine OAt.cast (st' := [(.ref b136)]) rfl ?_
  refine Own.ret_ref (t := (.array .byte)) rfl rfl rfl d19_16 (by decide) (by decide) (fun Sf hSf => ?_)
  exact ⟨b136, k136, rfl, sz_b136, K, V136⟩
def Q_rmNS2_4 (Z : State) (x0 : Int32) (x1 : Int32) (x2 : Int32) (x3 : Int32) (h0 : Heap) (n0 : Nat) (v : Option Value) (h : Heap) (Sf : Addr → Prop) : Prop := Keep h0 h [] ∧ ∃ (a b : Addr) (kb : ClassId), v = some (.ref a) ∧ Exa Z h a "java/lang/String" ∧ Fld Z h a "java/lang/String" "value" "[B" (.ref b) ∧ Fld Z h a "java/lang/String" "coder" "B" (.int (0 : Int32)) ∧ Arl Z h b kb .byte [(.int x2), (.int x3)]
theorem ef_rmNS2_4 (m : MethodId) (a1 : Addr)  : entryFrame m #[(.ref a1), (.int (2 : Int32)), (.int (2 : Int32))] 3 = mkF m 0 #[.val (.ref a1), .val (.int (2 : Int32)), .val (.int (2 : Int32))] [] := by first | (simp [entryFrame, mkF, argsToLocals, Value.category]; done) | rfl
set_option maxRecDepth 65536 in
set_option maxHeartbeats 40000000 in
theorem rmNS2_4 (l : Launch) (Z : State) (a0 : Array Value) (hw : ∀ d ∈ tables_1, d.before a0 Z = true) (ws : List Jvm.Cond) (a1 : Addr) (ka : ClassId) (x0 : Int32) (x1 : Int32) (x2 : Int32) (x3 : Int32) (h0 : Heap) (n0 : Nat) (hn : n0 ≤ h0.size) (V_a1 : Arl Z h0 a1 ka .byte [(.int x0), (.int x1), (.int x2), (.int x3)]) :
    Met own_EL l Z (⟨"java/lang/StringLatin1", "newString", "([BII)Ljava/lang/String;"⟩ : MethodName) jdk_43_method_47_code 3 (some (.object "java/lang/String")) ({ frames := 5, cells := 3, slots := 16, locals := 90 } : Room) ws #[(.ref a1), (.int (2 : Int32)), (.int (2 : Int32))] h0 n0 [] (Q_rmNS2_4 Z x0 x1 x2 x3 h0 n0) := by
  refine Met.of pn_17 (fun m => ef_rmNS2_4 m a1) ?_
  have K := Keep.refl h0 []
  refine Own.iloadN d17_0 rfl ?_
  refine Own.if_ne 7 d17_1 (by decide) rfl (fun _ => ?_) (fun q => absurd q (by decide))
  refine Own.new_ (hw _ (List.mem_of_getElem? (i := 99) rfl)) (hw _ (List.mem_of_getElem? (i := 2) rfl)) (hw _ (List.mem_of_getElem? (i := 3) rfl)) d17_7 (by decide) (by decide) (fun h137 b137 gb137 E137 X137 D137 => ?_)
  have g_b137 : n0 ≤ b137 := by rw [gb137]; exact hn
  have ne_a1_b137 : a1 ≠ b137 := fun q => Nat.ne_of_lt V_a1.lt (q.trans gb137)
  have ne_b137_a1 := Ne.symm ne_a1_b137
  have hn := Nat.le_trans hn E137.1
  replace V_a1 := V_a1.ext E137
  have X_b137 := X137
  have F_coder_b137 : Fld Z h137 b137 "java/lang/String" "coder" "B" (.int (0 : Int32)) := D137 (Or.inr (hw _ (List.mem_of_getElem? (i := 27) rfl))) (ty := .byte) (by decide)
  have F_value_b137 : Fld Z h137 b137 "java/lang/String" "value" "[B" .null := D137 (Or.inr (hw _ (List.mem_of_getElem? (i := 29) rfl))) (ty := (.array .byte)) (by decide)
  have sz_b137 : h0.size ≤ b137 := by rw [gb137]; exact K.1
  have K := K.ext E137
  refine Own.dup d17_10 rfl ?_
  refine Own.aloadN d17_11 rfl rfl ?_
  refine Own.iloadN d17_12 rfl ?_
  refine Own.iloadN d17_13 rfl ?_
  refine Own.iloadN d17_14 rfl ?_
  refine Own.iadd d17_15 ?_
  refine OAt.cast (st' := [(.int (4 : Int32)), (.int (2 : Int32)), (.ref a1), (.ref b137), (.ref b137)]) rfl ?_
  refine Own.callS_ [(.ref a1), (.int (2 : Int32)), (.int (4 : Int32))] [(.ref b137), (.ref b137)] 2 (rmRG2_4 l Z a0 hw [] a1 ka x0 x1 x2 x3 h137 n0 hn V_a1) all0 (hw _ (List.mem_of_getElem? (i := 100) rfl)) (hw _ (List.mem_of_getElem? (i := 101) rfl)) (hw _ (List.mem_of_getElem? (i := 102) rfl)) (hw _ (List.mem_of_getElem? (i := 103) rfl)) (by decide) d17_16 pd_15 rfl rfl rfl rfl (by decide) (by decide) (by decide) (by decide) (fun v138 h138 S138 hq138 => ?_)
  obtain ⟨b139, k139, rfl, z139, K139, V139⟩ := hq138
  have g_b139 : n0 ≤ b139 := Nat.le_trans hn z139
  have ne_a1_b139 : a1 ≠ b139 := Nat.ne_of_lt (Nat.lt_of_lt_of_le V_a1.lt z139)
  have ne_b139_a1 := Ne.symm ne_a1_b139
  have ne_b137_b139 : b137 ≠ b139 := Nat.ne_of_lt (Nat.lt_of_lt_of_le X_b137.lt z139)
  have ne_b139_b137 := Ne.symm ne_b137_b139
  have sz_b139 : h0.size ≤ b139 := Nat.le_trans K.1 z139
  have hn := Nat.le_trans hn K139.1
  replace V_a1 := V_a1.keep K139 nin0
  replace X_b137 := X_b137.keep K139
  replace F_coder_b137 := F_coder_b137.keep K139 nin0
  replace F_value_b137 := F_value_b137.keep K139 nin0
  have K := K.trans K139 all0
  refine ⟨[], all0, ?_⟩
  refine OAt.cast (st' := [(.ref b139), (.ref b137), (.ref b137)]) rfl ?_
  refine Own.iconst (0 : Int32) d17_19 rfl ?_
  refine Own.callI_ b137 [(.ref b139), (.int (0 : Int32))] [(.ref b137)] 1 (rmBB l Z a0 hw [] b137 b139 h138 n0 hn X_b137 g_b137 F_value_b137 F_coder_b137) (allS (List.mem_of_getElem? (i := 0) rfl) all0) (hw _ (List.mem_of_getElem? (i := 118) rfl)) (hw _ (List.mem_of_getElem? (i := 119) rfl)) (hw _ (List.mem_of_getElem? (i := 3) rfl)) (hw _ (List.mem_of_getElem? (i := 120) rfl)) rfl (by decide) d17_20 pd_12 rfl rfl rfl rfl (by decide) (by decide) (by decide) (by decide) (fun v140 h140 S140 hq140 => ?_)
  obtain ⟨rfl, K141, G1, G2⟩ := hq140
  have hn := Nat.le_trans hn K141.1
  replace V_a1 := V_a1.keep K141 (ninS ne_a1_b137 nin0)
  replace X_b137 := X_b137.keep K141
  replace V139 := V139.keep K141 (ninS ne_b139_b137 nin0)
  have K := K.trans K141 (allS (Or.inr sz_b137) all0)
  have F_value_b137 := G1
  have F_coder_b137 := G2
  refine ⟨[], all0, ?_⟩
  refine OAt.cast (st' := [(.ref b137)]) rfl ?_
  refine Own.ret_ref (t := (.object "java/lang/String")) rfl rfl rfl d17_23 (by decide) (by decide) (fun Sf hSf => ?_)
  exact ⟨K, b137, b139, k139, rfl, X_b137, F_value_b137, F_coder_b137, V139⟩
def Q_rmSub2_4 (Z : State) (a1 : Addr) (b : Addr) (kb : ClassId) (zc : Int32) (vf : Value) (x0 : Int32) (x1 : Int32) (x2 : Int32) (x3 : Int32) (h0 : Heap) (n0 : Nat) (v : Option Value) (h : Heap) (Sf : Addr → Prop) : Prop := Keep h0 h [] ∧ ∃ (a b : Addr) (kb : ClassId), v = some (.ref a) ∧ Exa Z h a "java/lang/String" ∧ Fld Z h a "java/lang/String" "value" "[B" (.ref b) ∧ Fld Z h a "java/lang/String" "coder" "B" (.int (0 : Int32)) ∧ Arl Z h b kb .byte [(.int x2), (.int x3)]
theorem ef_rmSub2_4 (m : MethodId) (a1 : Addr)  : entryFrame m #[(.ref a1), (.int (2 : Int32)), (.int (4 : Int32))] 5 = mkF m 0 #[.val (.ref a1), .val (.int (2 : Int32)), .val (.int (4 : Int32)), .unset, .unset] [] := by first | (simp [entryFrame, mkF, argsToLocals, Value.category]; done) | rfl
set_option maxRecDepth 65536 in
set_option maxHeartbeats 40000000 in
theorem rmSub2_4 (l : Launch) (Z : State) (a0 : Array Value) (hw : ∀ d ∈ tables_1, d.before a0 Z = true) (ws : List Jvm.Cond) (a1 : Addr) (b : Addr) (kb : ClassId) (zc : Int32) (vf : Value) (x0 : Int32) (x1 : Int32) (x2 : Int32) (x3 : Int32) (h0 : Heap) (n0 : Nat) (hn : n0 ≤ h0.size) (X_a1 : Exa Z h0 a1 "java/lang/String") (F_value_a1 : Fld Z h0 a1 "java/lang/String" "value" "[B" (.ref b)) (F_coder_a1 : Fld Z h0 a1 "java/lang/String" "coder" "B" (.int (0 : Int32))) (V_b : Arl Z h0 b kb .byte [(.int x0), (.int x1), (.int x2), (.int x3)]) (S_C : Sta Z h0 "java/lang/String" "COMPACT_STRINGS" "Z" (.int zc)) (S_F : Sta Z h0 "jdk/internal/util/Preconditions" "SIOOBE_FORMATTER" "Ljava/util/function/BiFunction;" vf) (hz : ¬ zc = 0) (hvf : vf.isRef = true) :
    Met own_EL l Z (⟨"java/lang/String", "substring", "(II)Ljava/lang/String;"⟩ : MethodName) jdk_42_method_92_code 5 (some (.object "java/lang/String")) ({ frames := 6, cells := 3, slots := 16, locals := 110 } : Room) ws #[(.ref a1), (.int (2 : Int32)), (.int (4 : Int32))] h0 n0 [] (Q_rmSub2_4 Z a1 b kb zc vf x0 x1 x2 x3 h0 n0) := by
  refine Met.of pn_11 (fun m => ef_rmSub2_4 m a1) ?_
  have K := Keep.refl h0 []
  refine Own.aloadN d11_0 rfl rfl ?_
  refine Own.callVP a1 [] [] 0 (rm_len_4 l Z a0 hw [] a1 b kb _ zc h0 n0 hn X_a1 F_value_a1 F_coder_a1 V_b rfl S_C hz) (hw _ (List.mem_of_getElem? (i := 64) rfl)) (hw _ (List.mem_of_getElem? (i := 65) rfl)) (fun s hZ => notFace_of_selects (args := #[]) (mvT hZ (hw _ (List.mem_of_getElem? (i := 67) rfl)))) (hw _ (List.mem_of_getElem? (i := 67) rfl)) (hw _ (List.mem_of_getElem? (i := 66) rfl)) (hw _ (List.mem_of_getElem? (i := 3) rfl)) (hw _ (List.mem_of_getElem? (i := 68) rfl)) (by decide) X_a1 d11_1 pd_1 rfl rfl rfl rfl (by decide) (by decide) (by decide) (by decide) ?_
  refine Own.istoreN #[.val (.ref a1), .val (.int (2 : Int32)), .val (.int (4 : Int32)), .val (.int (4 : Int32)), .unset] d11_4 rfl ?_
  refine Own.iloadN d11_5 rfl ?_
  refine Own.iloadN d11_6 rfl ?_
  refine Own.iloadN d11_7 rfl ?_
  refine Own.callS0 [(.int (2 : Int32)), (.int (4 : Int32)), (.int (4 : Int32))] [] 0 (rmCB2_4 l Z a0 hw [] vf h0 n0 hn S_F hvf) (hw _ (List.mem_of_getElem? (i := 74) rfl)) (hw _ (List.mem_of_getElem? (i := 75) rfl)) (hw _ (List.mem_of_getElem? (i := 3) rfl)) (hw _ (List.mem_of_getElem? (i := 76) rfl)) (by decide) d11_8 pd_8 rfl rfl rfl rfl (by decide) (by decide) (by decide) (by decide) ?_
  refine Own.iloadN d11_11 rfl ?_
  refine Own.if_ne 22 d11_12 (by decide) rfl (fun _ => ?_) (fun q => absurd q (by decide))
  refine Own.iloadN d11_22 rfl ?_
  refine Own.iloadN d11_23 rfl ?_
  refine Own.isub d11_24 ?_
  refine OAt.cast (st' := [(.int (2 : Int32))]) rfl ?_
  refine Own.istore #[.val (.ref a1), .val (.int (2 : Int32)), .val (.int (4 : Int32)), .val (.int (4 : Int32)), .val (.int (2 : Int32))] d11_25 rfl ?_
  refine Own.aloadN d11_27 rfl rfl ?_
  refine Own.callVP a1 [] [] 0 (rm_lat_4 l Z a0 hw [] a1 b kb _ zc h0 n0 hn X_a1 F_value_a1 F_coder_a1 V_b rfl S_C hz) (hw _ (List.mem_of_getElem? (i := 82) rfl)) (hw _ (List.mem_of_getElem? (i := 83) rfl)) (fun s hZ => notFace_of_selects (args := #[]) (mvT hZ (hw _ (List.mem_of_getElem? (i := 85) rfl)))) (hw _ (List.mem_of_getElem? (i := 85) rfl)) (hw _ (List.mem_of_getElem? (i := 84) rfl)) (hw _ (List.mem_of_getElem? (i := 3) rfl)) (hw _ (List.mem_of_getElem? (i := 86) rfl)) (by decide) X_a1 d11_28 pd_4 rfl rfl rfl rfl (by decide) (by decide) (by decide) (by decide) ?_
  refine Own.if_eq 47 d11_31 (by decide) rfl (fun q => absurd q (by decide)) (fun _ => ?_)
  refine Own.aloadN d11_34 rfl rfl ?_
  refine Own.getF_ (host := "") (Or.inl (hw _ (List.mem_of_getElem? (i := 28) rfl))) Via.refl F_value_a1 d11_35 ?_
  refine Own.iloadN d11_38 rfl ?_
  refine Own.iload d11_39 rfl ?_
  refine Own.callS_ [(.ref b), (.int (2 : Int32)), (.int (2 : Int32))] [] 0 (rmNS2_4 l Z a0 hw [] b kb x0 x1 x2 x3 h0 n0 hn V_b) all0 (hw _ (List.mem_of_getElem? (i := 87) rfl)) (hw _ (List.mem_of_getElem? (i := 88) rfl)) (hw _ (List.mem_of_getElem? (i := 89) rfl)) (hw _ (List.mem_of_getElem? (i := 90) rfl)) (by decide) d11_41 pd_14 rfl rfl rfl rfl (by decide) (by decide) (by decide) (by decide) (fun v142 h142 S142 hq142 => ?_)
  obtain ⟨K143, s143, t143, kt143, rfl, X_s143, F_value_s143, F_coder_s143, V_t143⟩ := hq142
  have hn := Nat.le_trans hn K143.1
  replace S_C := sta_keep S_C K143 ns0
  replace S_F := sta_keep S_F K143 ns0
  replace X_a1 := X_a1.keep K143
  replace F_value_a1 := F_value_a1.keep K143 nin0
  replace F_coder_a1 := F_coder_a1.keep K143 nin0
  replace V_b := V_b.keep K143 nin0
  have K := K.trans K143 all0
  refine ⟨[], all0, ?_⟩
  refine OAt.cast (st' := [(.ref s143)]) rfl ?_
  refine Own.goto_ 57 d11_44 (by decide) rfl ?_
  refine Own.ret_ref (t := (.object "java/lang/String")) rfl rfl rfl d11_57 (by decide) (by decide) (fun Sf hSf => ?_)
  exact ⟨K, s143, t143, kt143, rfl, X_s143, F_value_s143, F_coder_s143, V_t143⟩
def Q_rmCut2_4 (Z : State) (x0 : Int32) (x1 : Int32) (x2 : Int32) (x3 : Int32) (h0 : Heap) (n0 : Nat) (v : Option Value) (h : Heap) (Sf : Addr → Prop) : Prop := Keep h0 h [] ∧ ∃ (a b : Addr) (kb : ClassId), v = some (.ref a) ∧ Exa Z h a "java/lang/String" ∧ Fld Z h a "java/lang/String" "value" "[B" (.ref b) ∧ Fld Z h a "java/lang/String" "coder" "B" (.int (0 : Int32)) ∧ Arl Z h b kb .byte [(.int x2), (.int x3)]
theorem ef_rmCut2_4 (m : MethodId) (a1 : Addr)  : entryFrame m #[(.ref a1)] 1 = mkF m 0 #[.val (.ref a1)] [] := by first | (simp [entryFrame, mkF, argsToLocals, Value.category]; done) | rfl
set_option maxRecDepth 65536 in
set_option maxHeartbeats 40000000 in
theorem rmCut2_4 (l : Launch) (Z : State) (a0 : Array Value) (hw : ∀ d ∈ tables_1, d.before a0 Z = true) (ws : List Jvm.Cond) (a1 : Addr) (a2 : Addr) (b : Addr) (kb : ClassId) (zc : Int32) (vf : Value) (x0 : Int32) (x1 : Int32) (x2 : Int32) (x3 : Int32) (h0 : Heap) (n0 : Nat) (hn : n0 ≤ h0.size) (X_a2 : Exa Z h0 a2 "java/lang/String") (F_value_a2 : Fld Z h0 a2 "java/lang/String" "value" "[B" (.ref b)) (F_coder_a2 : Fld Z h0 a2 "java/lang/String" "coder" "B" (.int (0 : Int32))) (V_b : Arl Z h0 b kb .byte [(.int x0), (.int x1), (.int x2), (.int x3)]) (S_C : Sta Z h0 "java/lang/String" "COMPACT_STRINGS" "Z" (.int zc)) (S_F : Sta Z h0 "jdk/internal/util/Preconditions" "SIOOBE_FORMATTER" "Ljava/util/function/BiFunction;" vf) (hz : ¬ zc = 0) (hvf : vf.isRef = true) (F_text_a1 : Fld Z h0 a1 "com/example/cytorelay/cytorelay/core/Hl7Syntax$Span" "text" "Ljava/lang/String;" (.ref a2)) (F_from_a1 : Fld Z h0 a1 "com/example/cytorelay/cytorelay/core/Hl7Syntax$Span" "from" "I" (.int (2 : Int32))) (F_to_a1 : Fld Z h0 a1 "com/example/cytorelay/cytorelay/core/Hl7Syntax$Span" "to" "I" (.int (4 : Int32))) :
    Met own_EL l Z (⟨"com/example/cytorelay/cytorelay/core/Hl7Syntax$Span", "cut", "()Ljava/lang/String;"⟩ : MethodName) prog_32_method_4_code 1 (some (.object "java/lang/String")) ({ frames := 7, cells := 3, slots := 16, locals := 130 } : Room) ws #[(.ref a1)] h0 n0 [] (Q_rmCut2_4 Z x0 x1 x2 x3 h0 n0) := by
  refine Met.of pn_10 (fun m => ef_rmCut2_4 m a1) ?_
  have K := Keep.refl h0 []
  refine Own.aloadN d10_0 rfl rfl ?_
  refine Own.getF_ (host := "") (Or.inl (hw _ (List.mem_of_getElem? (i := 43) rfl))) Via.refl F_text_a1 d10_1 ?_
  refine Own.aloadN d10_4 rfl rfl ?_
  refine Own.getF_ (host := "") (Or.inl (hw _ (List.mem_of_getElem? (i := 45) rfl))) Via.refl F_from_a1 d10_5 ?_
  refine Own.aloadN d10_8 rfl rfl ?_
  refine Own.getF_ (host := "") (Or.inl (hw _ (List.mem_of_getElem? (i := 47) rfl))) Via.refl F_to_a1 d10_9 ?_
  refine Own.callV_ a2 [(.int (2 : Int32)), (.int (4 : Int32))] [] 0 (rmSub2_4 l Z a0 hw [] a2 b kb zc vf x0 x1 x2 x3 h0 n0 hn X_a2 F_value_a2 F_coder_a2 V_b S_C S_F hz hvf) all0 (hw _ (List.mem_of_getElem? (i := 59) rfl)) (hw _ (List.mem_of_getElem? (i := 60) rfl)) (fun s hZ => notFace_of_selects (args := #[]) (mvT hZ (hw _ (List.mem_of_getElem? (i := 62) rfl)))) (hw _ (List.mem_of_getElem? (i := 62) rfl)) (hw _ (List.mem_of_getElem? (i := 61) rfl)) (hw _ (List.mem_of_getElem? (i := 3) rfl)) (hw _ (List.mem_of_getElem? (i := 63) rfl)) (by decide) X_a2 d10_12 pd_6 rfl rfl rfl rfl (by decide) (by decide) (by decide) (by decide) (fun v144 h144 S144 hq144 => ?_)
  obtain ⟨K145, s145, t145, kt145, rfl, X_s145, F_value_s145, F_coder_s145, V_t145⟩ := hq144
  have hn := Nat.le_trans hn K145.1
  replace S_C := sta_keep S_C K145 ns0
  replace S_F := sta_keep S_F K145 ns0
  replace X_a2 := X_a2.keep K145
  replace F_value_a2 := F_value_a2.keep K145 nin0
  replace F_coder_a2 := F_coder_a2.keep K145 nin0
  replace V_b := V_b.keep K145 nin0
  replace F_text_a1 := F_text_a1.keep K145 nin0
  replace F_from_a1 := F_from_a1.keep K145 nin0
  replace F_to_a1 := F_to_a1.keep K145 nin0
  have K := K.trans K145 all0
  refine ⟨[], all0, ?_⟩
  refine OAt.cast (st' := [(.ref s145)]) rfl ?_
  refine Own.ret_ref (t := (.object "java/lang/String")) rfl rfl rfl d10_15 (by decide) (by decide) (fun Sf hSf => ?_)
  exact ⟨K, s145, t145, kt145, rfl, X_s145, F_value_s145, F_coder_s145, V_t145⟩
theorem ef_rmSE3_3 (m : MethodId) (a1 : Addr)  : entryFrame m #[(.ref a1)] 1 = mkF m 0 #[.val (.ref a1)] [] := by first | (simp [entryFrame, mkF, argsToLocals, Value.category]; done) | rfl
set_option maxRecDepth 65536 in
set_option maxHeartbeats 40000000 in
theorem rmSE3_3 (l : Launch) (Z : State) (a0 : Array Value) (hw : ∀ d ∈ tables_1, d.before a0 Z = true) (ws : List Jvm.Cond) (a1 : Addr) (h0 : Heap) (n0 : Nat) (hn : n0 ≤ h0.size) (F_from : Fld Z h0 a1 "com/example/cytorelay/cytorelay/core/Hl7Syntax$Span" "from" "I" (.int (3 : Int32))) (F_to : Fld Z h0 a1 "com/example/cytorelay/cytorelay/core/Hl7Syntax$Span" "to" "I" (.int (3 : Int32))) :
    Met own_EL l Z (⟨"com/example/cytorelay/cytorelay/core/Hl7Syntax$Span", "isEmpty", "()Z"⟩ : MethodName) prog_32_method_3_code 1 (some .boolean) ({ frames := 0, cells := 0, slots := 0, locals := 0 } : Room) ws #[(.ref a1)] h0 n0 [] (Pur (.int (1 : Int32)) h0) := by
  refine Met.of pn_9 (fun m => ef_rmSE3_3 m a1) ?_
  refine Own.aloadN d9_0 rfl rfl ?_
  refine Own.getF_ (host := "") (Or.inl (hw _ (List.mem_of_getElem? (i := 45) rfl))) Via.refl F_from d9_1 ?_
  refine Own.aloadN d9_4 rfl rfl ?_
  refine Own.getF_ (host := "") (Or.inl (hw _ (List.mem_of_getElem? (i := 47) rfl))) Via.refl F_to d9_5 ?_
  refine Own.icmp_ne 15 d9_8 (by decide) rfl (fun q => absurd (by decide) q) (fun _ => ?_)
  refine Own.iconst (1 : Int32) d9_11 rfl ?_
  refine Own.goto_ 16 d9_12 (by decide) rfl ?_
  refine Own.ret_nar (t := .boolean) (by simp) rfl d9_16 (by decide) (by decide) (fun Sf hSf => ?_)
  exact ⟨rfl, rfl⟩
theorem ef_rmPF3_3 (m : MethodId) (vf : Value) (hr_3 : (vf).isRef = true) : entryFrame m #[(.int (3 : Int32)), (.int (3 : Int32)), (.int (4 : Int32)), vf] 4 = mkF m 0 #[.val (.int (3 : Int32)), .val (.int (3 : Int32)), .val (.int (4 : Int32)), .val vf] [] := by rcases ref_cases hr_3 with rfl | ⟨z3, rfl⟩ <;> first | (simp [entryFrame, mkF, argsToLocals, Value.category]; done) | rfl
set_option maxRecDepth 65536 in
set_option maxHeartbeats 40000000 in
theorem rmPF3_3 (l : Launch) (Z : State) (a0 : Array Value) (hw : ∀ d ∈ tables_1, d.before a0 Z = true) (ws : List Jvm.Cond) (vf : Value) (h0 : Heap) (n0 : Nat) (hn : n0 ≤ h0.size) (hvf : vf.isRef = true) :
    Met own_EL l Z (⟨"jdk/internal/util/Preconditions", "checkFromToIndex", "(IIILjava/util/function/BiFunction;)I"⟩ : MethodName) jdk_41_method_12_code 4 (some .int) ({ frames := 0, cells := 0, slots := 0, locals := 0 } : Room) ws #[(.int (3 : Int32)), (.int (3 : Int32)), (.int (4 : Int32)), vf] h0 n0 [] (Pur (.int (3 : Int32)) h0) := by
  refine Met.of pn_15 (fun m => ef_rmPF3_3 m vf hvf) ?_
  refine Own.iloadN d15_0 rfl ?_
  refine Own.if_lt 14 d15_1 (by decide) rfl (fun q => absurd q (by decide)) (fun _ => ?_)
  refine Own.iloadN d15_4 rfl ?_
  refine Own.iloadN d15_5 rfl ?_
  refine Own.icmp_gt 14 d15_6 (by decide) rfl (fun q => absurd q (by decide)) (fun _ => ?_)
  refine Own.iloadN d15_9 rfl ?_
  refine Own.iloadN d15_10 rfl ?_
  refine Own.icmp_le 22 d15_11 (by decide) rfl (fun _ => ?_) (fun q => absurd q (by decide))
  refine Own.iloadN d15_22 rfl ?_
  refine Own.ret_int rfl d15_23 (by decide) (by decide) (fun Sf hSf => ?_)
  exact ⟨rfl, rfl⟩
theorem ef_rmCB3_3 (m : MethodId)   : entryFrame m #[(.int (3 : Int32)), (.int (3 : Int32)), (.int (4 : Int32))] 3 = mkF m 0 #[.val (.int (3 : Int32)), .val (.int (3 : Int32)), .val (.int (4 : Int32))] [] := by first | (simp [entryFrame, mkF, argsToLocals, Value.category]; done) | rfl
set_option maxRecDepth 65536 in
set_option maxHeartbeats 40000000 in
theorem rmCB3_3 (l : Launch) (Z : State) (a0 : Array Value) (hw : ∀ d ∈ tables_1, d.before a0 Z = true) (ws : List Jvm.Cond) (vf : Value) (h0 : Heap) (n0 : Nat) (hn : n0 ≤ h0.size) (S_F : Sta Z h0 "jdk/internal/util/Preconditions" "SIOOBE_FORMATTER" "Ljava/util/function/BiFunction;" vf) (hvf : vf.isRef = true) :
    Met own_EL l Z (⟨"java/lang/String", "checkBoundsBeginEnd", "(III)V"⟩ : MethodName) jdk_42_method_158_code 3 none ({ frames := 1, cells := 0, slots := 0, locals := 15 } : Room) ws #[(.int (3 : Int32)), (.int (3 : Int32)), (.int (4 : Int32))] h0 n0 [] (Pur0 h0) := by
  refine Met.of pn_14 (fun m => ef_rmCB3_3 m ) ?_
  refine Own.iloadN d14_0 rfl ?_
  refine Own.iloadN d14_1 rfl ?_
  refine Own.iloadN d14_2 rfl ?_
  refine Own.getS_ (host := "") (Or.inl (hw _ (List.mem_of_getElem? (i := 77) rfl))) Via.refl S_F d14_3 ?_
  refine Own.callSP [(.int (3 : Int32)), (.int (3 : Int32)), (.int (4 : Int32)), vf] [] 0 (rmPF3_3 l Z a0 hw [] vf h0 n0 hn hvf) (hw _ (List.mem_of_getElem? (i := 79) rfl)) (hw _ (List.mem_of_getElem? (i := 80) rfl)) (hw _ (List.mem_of_getElem? (i := 78) rfl)) (hw _ (List.mem_of_getElem? (i := 81) rfl)) (by decide) d14_6 pd_9 rfl rfl rfl rfl (by decide) (by decide) (by decide) (by decide) ?_
  refine Own.pop d14_9 rfl ?_
  refine Own.ret_void rfl d14_10 (by decide) (by decide) (fun Sf hSf => ?_)
  exact ⟨rfl, rfl⟩
def Q_rmNS3_3 (Z : State)  (h0 : Heap) (n0 : Nat) (v : Option Value) (h : Heap) (Sf : Addr → Prop) : Prop := Keep h0 h [] ∧ ∃ (a b : Addr) (kb : ClassId), v = some (.ref a) ∧ Exa Z h a "java/lang/String" ∧ Fld Z h a "java/lang/String" "value" "[B" (.ref b) ∧ Fld Z h a "java/lang/String" "coder" "B" (.int (0 : Int32)) ∧ Arl Z h b kb .byte []
theorem ef_rmNS3_3 (m : MethodId) (a1 : Addr)  : entryFrame m #[(.ref a1), (.int (3 : Int32)), (.int (0 : Int32))] 3 = mkF m 0 #[.val (.ref a1), .val (.int (3 : Int32)), .val (.int (0 : Int32))] [] := by first | (simp [entryFrame, mkF, argsToLocals, Value.category]; done) | rfl
set_option maxRecDepth 65536 in
set_option maxHeartbeats 40000000 in
theorem rmNS3_3 (l : Launch) (Z : State) (a0 : Array Value) (hw : ∀ d ∈ tables_1, d.before a0 Z = true) (ws : List Jvm.Cond) (a1 : Addr) (ka : ClassId) (x0 : Int32) (x1 : Int32) (x2 : Int32) (x3 : Int32) (h0 : Heap) (n0 : Nat) (hn : n0 ≤ h0.size) (V_a1 : Arl Z h0 a1 ka .byte [(.int x0), (.int x1), (.int x2), (.int x3)]) :
    Met own_EL l Z (⟨"java/lang/StringLatin1", "newString", "([BII)Ljava/lang/String;"⟩ : MethodName) jdk_43_method_47_code 3 (some (.object "java/lang/String")) ({ frames := 5, cells := 3, slots := 16, locals := 90 } : Room) ws #[(.ref a1), (.int (3 : Int32)), (.int (0 : Int32))] h0 n0 [] (Q_rmNS3_3 Z  h0 n0) := by
  refine Met.of pn_17 (fun m => ef_rmNS3_3 m a1) ?_
  have K := Keep.refl h0 []
  refine Own.iloadN d17_0 rfl ?_
  refine Own.if_ne 7 d17_1 (by decide) rfl (fun q => absurd (by decide) q) (fun _ => ?_)
  refine Own.ldcC_ (vs := []) (z := (0 : Int32)) 0 (hw _ (List.mem_of_getElem? (i := 91) rfl)) (own_wS hw) (List.mem_of_getElem? (i := 0) rfl) (own_EW hw) ⟨by decide, by decide⟩ rfl d17_4 (by decide) (by decide) (by decide) (by decide) (fun h146 b146 t146 kt146 E146 X_b146 F_coder_b146 F_value_b146 V_t146 hne146 => ?_)
  have hn := Nat.le_trans hn E146.1
  replace V_a1 := V_a1.ext E146
  have K := K.ext E146
  refine Own.ret_ref (t := (.object "java/lang/String")) rfl rfl rfl d17_6 (by decide) (by decide) (fun Sf hSf => ?_)
  exact ⟨K, b146, t146, kt146, rfl, X_b146, F_value_b146, F_coder_b146, V_t146⟩
def Q_rmSub3_3 (Z : State) (a1 : Addr) (b : Addr) (kb : ClassId) (zc : Int32) (vf : Value) (x0 : Int32) (x1 : Int32) (x2 : Int32) (x3 : Int32) (h0 : Heap) (n0 : Nat) (v : Option Value) (h : Heap) (Sf : Addr → Prop) : Prop := Keep h0 h [] ∧ ∃ (a b : Addr) (kb : ClassId), v = some (.ref a) ∧ Exa Z h a "java/lang/String" ∧ Fld Z h a "java/lang/String" "value" "[B" (.ref b) ∧ Fld Z h a "java/lang/String" "coder" "B" (.int (0 : Int32)) ∧ Arl Z h b kb .byte []
theorem ef_rmSub3_3 (m : MethodId) (a1 : Addr)  : entryFrame m #[(.ref a1), (.int (3 : Int32)), (.int (3 : Int32))] 5 = mkF m 0 #[.val (.ref a1), .val (.int (3 : Int32)), .val (.int (3 : Int32)), .unset, .unset] [] := by first | (simp [entryFrame, mkF, argsToLocals, Value.category]; done) | rfl
set_option maxRecDepth 65536 in
set_option maxHeartbeats 40000000 in
theorem rmSub3_3 (l : Launch) (Z : State) (a0 : Array Value) (hw : ∀ d ∈ tables_1, d.before a0 Z = true) (ws : List Jvm.Cond) (a1 : Addr) (b : Addr) (kb : ClassId) (zc : Int32) (vf : Value) (x0 : Int32) (x1 : Int32) (x2 : Int32) (x3 : Int32) (h0 : Heap) (n0 : Nat) (hn : n0 ≤ h0.size) (X_a1 : Exa Z h0 a1 "java/lang/String") (F_value_a1 : Fld Z h0 a1 "java/lang/String" "value" "[B" (.ref b)) (F_coder_a1 : Fld Z h0 a1 "java/lang/String" "coder" "B" (.int (0 : Int32))) (V_b : Arl Z h0 b kb .byte [(.int x0), (.int x1), (.int x2), (.int x3)]) (S_C : Sta Z h0 "java/lang/String" "COMPACT_STRINGS" "Z" (.int zc)) (S_F : Sta Z h0 "jdk/internal/util/Preconditions" "SIOOBE_FORMATTER" "Ljava/util/function/BiFunction;" vf) (hz : ¬ zc = 0) (hvf : vf.isRef = true) :
    Met own_EL l Z (⟨"java/lang/String", "substring", "(II)Ljava/lang/String;"⟩ : MethodName) jdk_42_method_92_code 5 (some (.object "java/lang/String")) ({ frames := 6, cells := 3, slots := 16, locals := 110 } : Room) ws #[(.ref a1), (.int (3 : Int32)), (.int (3 : Int32))] h0 n0 [] (Q_rmSub3_3 Z a1 b kb zc vf x0 x1 x2 x3 h0 n0) := by
  refine Met.of pn_11 (fun m => ef_rmSub3_3 m a1) ?_
  have K := Keep.refl h0 []
  refine Own.aloadN d11_0 rfl rfl ?_
  refine Own.callVP a1 [] [] 0 (rm_len_4 l Z a0 hw [] a1 b kb _ zc h0 n0 hn X_a1 F_value_a1 F_coder_a1 V_b rfl S_C hz) (hw _ (List.mem_of_getElem? (i := 64) rfl)) (hw _ (List.mem_of_getElem? (i := 65) rfl)) (fun s hZ => notFace_of_selects (args := #[]) (mvT hZ (hw _ (List.mem_of_getElem? (i := 67) rfl)))) (hw _ (List.mem_of_getElem? (i := 67) rfl)) (hw _ (List.mem_of_getElem? (i := 66) rfl)) (hw _ (List.mem_of_getElem? (i := 3) rfl)) (hw _ (List.mem_of_getElem? (i := 68) rfl)) (by decide) X_a1 d11_1 pd_1 rfl rfl rfl rfl (by decide) (by decide) (by decide) (by decide) ?_
  refine Own.istoreN #[.val (.ref a1), .val (.int (3 : Int32)), .val (.int (3 : Int32)), .val (.int (4 : Int32)), .unset] d11_4 rfl ?_
  refine Own.iloadN d11_5 rfl ?_
  refine Own.iloadN d11_6 rfl ?_
  refine Own.iloadN d11_7 rfl ?_
  refine Own.callS0 [(.int (3 : Int32)), (.int (3 : Int32)), (.int (4 : Int32))] [] 0 (rmCB3_3 l Z a0 hw [] vf h0 n0 hn S_F hvf) (hw _ (List.mem_of_getElem? (i := 74) rfl)) (hw _ (List.mem_of_getElem? (i := 75) rfl)) (hw _ (List.mem_of_getElem? (i := 3) rfl)) (hw _ (List.mem_of_getElem? (i := 76) rfl)) (by decide) d11_8 pd_8 rfl rfl rfl rfl (by decide) (by decide) (by decide) (by decide) ?_
  refine Own.iloadN d11_11 rfl ?_
  refine Own.if_ne 22 d11_12 (by decide) rfl (fun _ => ?_) (fun q => absurd q (by decide))
  refine Own.iloadN d11_22 rfl ?_
  refine Own.iloadN d11_23 rfl ?_
  refine Own.isub d11_24 ?_
  refine OAt.cast (st' := [(.int (0 : Int32))]) rfl ?_
  refine Own.istore #[.val (.ref a1), .val (.int (3 : Int32)), .val (.int (3 : Int32)), .val (.int (4 : Int32)), .val (.int (0 : Int32))] d11_25 rfl ?_
  refine Own.aloadN d11_27 rfl rfl ?_
  refine Own.callVP a1 [] [] 0 (rm_lat_4 l Z a0 hw [] a1 b kb _ zc h0 n0 hn X_a1 F_value_a1 F_coder_a1 V_b rfl S_C hz) (hw _ (List.mem_of_getElem? (i := 82) rfl)) (hw _ (List.mem_of_getElem? (i := 83) rfl)) (fun s hZ => notFace_of_selects (args := #[]) (mvT hZ (hw _ (List.mem_of_getElem? (i := 85) rfl)))) (hw _ (List.mem_of_getElem? (i := 85) rfl)) (hw _ (List.mem_of_getElem? (i := 84) rfl)) (hw _ (List.mem_of_getElem? (i := 3) rfl)) (hw _ (List.mem_of_getElem? (i := 86) rfl)) (by decide) X_a1 d11_28 pd_4 rfl rfl rfl rfl (by decide) (by decide) (by decide) (by decide) ?_
  refine Own.if_eq 47 d11_31 (by decide) rfl (fun q => absurd q (by decide)) (fun _ => ?_)
  refine Own.aloadN d11_34 rfl rfl ?_
  refine Own.getF_ (host := "") (Or.inl (hw _ (List.mem_of_getElem? (i := 28) rfl))) Via.refl F_value_a1 d11_35 ?_
  refine Own.iloadN d11_38 rfl ?_
  refine Own.iload d11_39 rfl ?_
  refine Own.callS_ [(.ref b), (.int (3 : Int32)), (.int (0 : Int32))] [] 0 (rmNS3_3 l Z a0 hw [] b kb x0 x1 x2 x3 h0 n0 hn V_b) all0 (hw _ (List.mem_of_getElem? (i := 87) rfl)) (hw _ (List.mem_of_getElem? (i := 88) rfl)) (hw _ (List.mem_of_getElem? (i := 89) rfl)) (hw _ (List.mem_of_getElem? (i := 90) rfl)) (by decide) d11_41 pd_14 rfl rfl rfl rfl (by decide) (by decide) (by decide) (by decide) (fun v147 h147 S147 hq147 => ?_)
  obtain ⟨K148, s148, t148, kt148, rfl, X_s148, F_value_s148, F_coder_s148, V_t148⟩ := hq147
  have hn := Nat.le_trans hn K148.1
  replace S_C := sta_keep S_C K148 ns0
  replace S_F := sta_keep S_F K148 ns0
  replace X_a1 := X_a1.keep K148
  replace F_value_a1 := F_value_a1.keep K148 nin0
  replace F_coder_a1 := F_coder_a1.keep K148 nin0
  replace V_b := V_b.keep K148 nin0
  have K := K.trans K148 all0
  refine ⟨[], all0, ?_⟩
  refine OAt.cast (st' := [(.ref s148)]) rfl ?_
  refine Own.goto_ 57 d11_44 (by decide) rfl ?_
  refine Own.ret_ref (t := (.object "java/lang/String")) rfl rfl rfl d11_57 (by decide) (by decide) (fun Sf hSf => ?_)
  exact ⟨K, s148, t148, kt148, rfl, X_s148, F_value_s148, F_coder_s148, V_t148⟩
def Q_rmCut3_3 (Z : State) (x0 : Int32) (x1 : Int32) (x2 : Int32) (x3 : Int32) (h0 : Heap) (n0 : Nat) (v : Option Value) (h : Heap) (Sf : Addr → Prop) : Prop := Keep h0 h [] ∧ ∃ (a b : Addr) (kb : ClassId), v = some (.ref a) ∧ Exa Z h a "java/lang/String" ∧ Fld Z h a "java/lang/String" "value" "[B" (.ref b) ∧ Fld Z h a "java/lang/String" "coder" "B" (.int (0 : Int32)) ∧ Arl Z h b kb .byte []
theorem ef_rmCut3_3 (m : MethodId) (a1 : Addr)  : entryFrame m #[(.ref a1)] 1 = mkF m 0 #[.val (.ref a1)] [] := by first | (simp [entryFrame, mkF, argsToLocals, Value.category]; done) | rfl
set_option maxRecDepth 65536 in
set_option maxHeartbeats 40000000 in
theorem rmCut3_3 (l : Launch) (Z : State) (a0 : Array Value) (hw : ∀ d ∈ tables_1, d.before a0 Z = true) (ws : List Jvm.Cond) (a1 : Addr) (a2 : Addr) (b : Addr) (kb : ClassId) (zc : Int32) (vf : Value) (x0 : Int32) (x1 : Int32) (x2 : Int32) (x3 : Int32) (h0 : Heap) (n0 : Nat) (hn : n0 ≤ h0.size) (X_a2 : Exa Z h0 a2 "java/lang/String") (F_value_a2 : Fld Z h0 a2 "java/lang/String" "value" "[B" (.ref b)) (F_coder_a2 : Fld Z h0 a2 "java/lang/String" "coder" "B" (.int (0 : Int32))) (V_b : Arl Z h0 b kb .byte [(.int x0), (.int x1), (.int x2), (.int x3)]) (S_C : Sta Z h0 "java/lang/String" "COMPACT_STRINGS" "Z" (.int zc)) (S_F : Sta Z h0 "jdk/internal/util/Preconditions" "SIOOBE_FORMATTER" "Ljava/util/function/BiFunction;" vf) (hz : ¬ zc = 0) (hvf : vf.isRef = true) (F_text_a1 : Fld Z h0 a1 "com/example/cytorelay/cytorelay/core/Hl7Syntax$Span" "text" "Ljava/lang/String;" (.ref a2)) (F_from_a1 : Fld Z h0 a1 "com/example/cytorelay/cytorelay/core/Hl7Syntax$Span" "from" "I" (.int (3 : Int32))) (F_to_a1 : Fld Z h0 a1 "com/example/cytorelay/cytorelay/core/Hl7Syntax$Span" "to" "I" (.int (3 : Int32))) :
    Met own_EL l Z (⟨"com/example/cytorelay/cytorelay/core/Hl7Syntax$Span", "cut", "()Ljava/lang/String;"⟩ : MethodName) prog_32_method_4_code 1 (some (.object "java/lang/String")) ({ frames := 7, cells := 3, slots := 16, locals := 130 } : Room) ws #[(.ref a1)] h0 n0 [] (Q_rmCut3_3 Z x0 x1 x2 x3 h0 n0) := by
  refine Met.of pn_10 (fun m => ef_rmCut3_3 m a1) ?_
  have K := Keep.refl h0 []
  refine Own.aloadN d10_0 rfl rfl ?_
  refine Own.getF_ (host := "") (Or.inl (hw _ (List.mem_of_getElem? (i := 43) rfl))) Via.refl F_text_a1 d10_1 ?_
  refine Own.aloadN d10_4 rfl rfl ?_
  refine Own.getF_ (host := "") (Or.inl (hw _ (List.mem_of_getElem? (i := 45) rfl))) Via.refl F_from_a1 d10_5 ?_
  refine Own.aloadN d10_8 rfl rfl ?_
  refine Own.getF_ (host := "") (Or.inl (hw _ (List.mem_of_getElem? (i := 47) rfl))) Via.refl F_to_a1 d10_9 ?_
  refine Own.callV_ a2 [(.int (3 : Int32)), (.int (3 : Int32))] [] 0 (rmSub3_3 l Z a0 hw [] a2 b kb zc vf x0 x1 x2 x3 h0 n0 hn X_a2 F_value_a2 F_coder_a2 V_b S_C S_F hz hvf) all0 (hw _ (List.mem_of_getElem? (i := 59) rfl)) (hw _ (List.mem_of_getElem? (i := 60) rfl)) (fun s hZ => notFace_of_selects (args := #[]) (mvT hZ (hw _ (List.mem_of_getElem? (i := 62) rfl)))) (hw _ (List.mem_of_getElem? (i := 62) rfl)) (hw _ (List.mem_of_getElem? (i := 61) rfl)) (hw _ (List.mem_of_getElem? (i := 3) rfl)) (hw _ (List.mem_of_getElem? (i := 63) rfl)) (by decide) X_a2 d10_12 pd_6 rfl rfl rfl rfl (by decide) (by decide) (by decide) (by decide) (fun v149 h149 S149 hq149 => ?_)
  obtain ⟨K150, s150, t150, kt150, rfl, X_s150, F_value_s150, F_coder_s150, V_t150⟩ := hq149
  have hn := Nat.le_trans hn K150.1
  replace S_C := sta_keep S_C K150 ns0
  replace S_F := sta_keep S_F K150 ns0
  replace X_a2 := X_a2.keep K150
  replace F_value_a2 := F_value_a2.keep K150 nin0
  replace F_coder_a2 := F_coder_a2.keep K150 nin0
  replace V_b := V_b.keep K150 nin0
  replace F_text_a1 := F_text_a1.keep K150 nin0
  replace F_from_a1 := F_from_a1.keep K150 nin0
  replace F_to_a1 := F_to_a1.keep K150 nin0
  have K := K.trans K150 all0
  refine ⟨[], all0, ?_⟩
  refine OAt.cast (st' := [(.ref s150)]) rfl ?_
  refine Own.ret_ref (t := (.object "java/lang/String")) rfl rfl rfl d10_15 (by decide) (by decide) (fun Sf hSf => ?_)
  exact ⟨K, s150, t150, kt150, rfl, X_s150, F_value_s150, F_coder_s150, V_t150⟩
theorem ef_rmSE3_4 (m : MethodId) (a1 : Addr)  : entryFrame m #[(.ref a1)] 1 = mkF m 0 #[.val (.ref a1)] [] := by first | (simp [entryFrame, mkF, argsToLocals, Value.category]; done) | rfl
set_option maxRecDepth 65536 in
set_option maxHeartbeats 40000000 in
theorem rmSE3_4 (l : Launch) (Z : State) (a0 : Array Value) (hw : ∀ d ∈ tables_1, d.before a0 Z = true) (ws : List Jvm.Cond) (a1 : Addr) (h0 : Heap) (n0 : Nat) (hn : n0 ≤ h0.size) (F_from : Fld Z h0 a1 "com/example/cytorelay/cytorelay/core/Hl7Syntax$Span" "from" "I" (.int (3 : Int32))) (F_to : Fld Z h0 a1 "com/example/cytorelay/cytorelay/core/Hl7Syntax$Span" "to" "I" (.int (4 : Int32))) :
    Met own_EL l Z (⟨"com/example/cytorelay/cytorelay/core/Hl7Syntax$Span", "isEmpty", "()Z"⟩ : MethodName) prog_32_method_3_code 1 (some .boolean) ({ frames := 0, cells := 0, slots := 0, locals := 0 } : Room) ws #[(.ref a1)] h0 n0 [] (Pur (.int (0 : Int32)) h0) := by
  refine Met.of pn_9 (fun m => ef_rmSE3_4 m a1) ?_
  refine Own.aloadN d9_0 rfl rfl ?_
  refine Own.getF_ (host := "") (Or.inl (hw _ (List.mem_of_getElem? (i := 45) rfl))) Via.refl F_from d9_1 ?_
  refine Own.aloadN d9_4 rfl rfl ?_
  refine Own.getF_ (host := "") (Or.inl (hw _ (List.mem_of_getElem? (i := 47) rfl))) Via.refl F_to d9_5 ?_
  refine Own.icmp_ne 15 d9_8 (by decide) rfl (fun _ => ?_) (fun q => absurd q (by decide))
  refine Own.iconst (0 : Int32) d9_15 rfl ?_
  refine Own.ret_nar (t := .boolean) (by simp) rfl d9_16 (by decide) (by decide) (fun Sf hSf => ?_)
  exact ⟨rfl, rfl⟩
theorem ef_rmPF3_4 (m : MethodId) (vf : Value) (hr_3 : (vf).isRef = true) : entryFrame m #[(.int (3 : Int32)), (.int (4 : Int32)), (.int (4 : Int32)), vf] 4 = mkF m 0 #[.val (.int (3 : Int32)), .val (.int (4 : Int32)), .val (.int (4 : Int32)), .val vf] [] := by rcases ref_cases hr_3 with rfl | ⟨z3, rfl⟩ <;> first | (simp [entryFrame, mkF, argsToLocals, Value.category]; done) | rfl
set_option maxRecDepth 65536 in
set_option maxHeartbeats 40000000 in
theorem rmPF3_4 (l : Launch) (Z : State) (a0 : Array Value) (hw : ∀ d ∈ tables_1, d.before a0 Z = true) (ws : List Jvm.Cond) (vf : Value) (h0 : Heap) (n0 : Nat) (hn : n0 ≤ h0.size) (hvf : vf.isRef = true) :
    Met own_EL l Z (⟨"jdk/internal/util/Preconditions", "checkFromToIndex", "(IIILjava/util/function/BiFunction;)I"⟩ : MethodName) jdk_41_method_12_code 4 (some .int) ({ frames := 0, cells := 0, slots := 0, locals := 0 } : Room) ws #[(.int (3 : Int32)), (.int (4 : Int32)), (.int (4 : Int32)), vf] h0 n0 [] (Pur (.int (3 : Int32)) h0) := by
  refine Met.of pn_15 (fun m => ef_rmPF3_4 m vf hvf) ?_
  refine Own.iloadN d15_0 rfl ?_
  refine Own.if_lt 14 d15_1 (by decide) rfl (fun q => absurd q (by decide)) (fun _ => ?_)
  refine Own.iloadN d15_4 rfl ?_
  refine Own.iloadN d15_5 rfl ?_
  refine Own.icmp_gt 14 d15_6 (by decide) rfl (fun q => absurd q (by decide)) (fun _ => ?_)
  refine Own.iloadN d15_9 rfl ?_
  refine Own.iloadN d15_10 rfl ?_
  refine Own.icmp_le 22 d15_11 (by decide) rfl (fun _ => ?_) (fun q => absurd q (by decide))
  refine Own.iloadN d15_22 rfl ?_
  refine Own.ret_int rfl d15_23 (by decide) (by decide) (fun Sf hSf => ?_)
  exact ⟨rfl, rfl⟩
theorem ef_rmCB3_4 (m : MethodId)   : entryFrame m #[(.int (3 : Int32)), (.int (4 : Int32)), (.int (4 : Int32))] 3 = mkF m 0 #[.val (.int (3 : Int32)), .val (.int (4 : Int32)), .val (.int (4 : Int32))] [] := by first | (simp [entryFrame, mkF, argsToLocals, Value.category]; done) | rfl
set_option maxRecDepth 65536 in
set_option maxHeartbeats 40000000 in
theorem rmCB3_4 (l : Launch) (Z : State) (a0 : Array Value) (hw : ∀ d ∈ tables_1, d.before a0 Z = true) (ws : List Jvm.Cond) (vf : Value) (h0 : Heap) (n0 : Nat) (hn : n0 ≤ h0.size) (S_F : Sta Z h0 "jdk/internal/util/Preconditions" "SIOOBE_FORMATTER" "Ljava/util/function/BiFunction;" vf) (hvf : vf.isRef = true) :
    Met own_EL l Z (⟨"java/lang/String", "checkBoundsBeginEnd", "(III)V"⟩ : MethodName) jdk_42_method_158_code 3 none ({ frames := 1, cells := 0, slots := 0, locals := 15 } : Room) ws #[(.int (3 : Int32)), (.int (4 : Int32)), (.int (4 : Int32))] h0 n0 [] (Pur0 h0) := by
  refine Met.of pn_14 (fun m => ef_rmCB3_4 m ) ?_
  refine Own.iloadN d14_0 rfl ?_
  refine Own.iloadN d14_1 rfl ?_
  refine Own.iloadN d14_2 rfl ?_
  refine Own.getS_ (host := "") (Or.inl (hw _ (List.mem_of_getElem? (i := 77) rfl))) Via.refl S_F d14_3 ?_
  refine Own.callSP [(.int (3 : Int32)), (.int (4 : Int32)), (.int (4 : Int32)), vf] [] 0 (rmPF3_4 l Z a0 hw [] vf h0 n0 hn hvf) (hw _ (List.mem_of_getElem? (i := 79) rfl)) (hw _ (List.mem_of_getElem? (i := 80) rfl)) (hw _ (List.mem_of_getElem? (i := 78) rfl)) (hw _ (List.mem_of_getElem? (i := 81) rfl)) (by decide) d14_6 pd_9 rfl rfl rfl rfl (by decide) (by decide) (by decide) (by decide) ?_
  refine Own.pop d14_9 rfl ?_
  refine Own.ret_void rfl d14_10 (by decide) (by decide) (fun Sf hSf => ?_)
  exact ⟨rfl, rfl⟩
theorem ef_rmCL3_4 (m : MethodId)   : entryFrame m #[(.int (3 : Int32)), (.int (4 : Int32))] 2 = mkF m 0 #[.val (.int (3 : Int32)), .val (.int (4 : Int32))] [] := by first | (simp [entryFrame, mkF, argsToLocals, Value.category]; done) | rfl
set_option maxRecDepth 65536 in
set_option maxHeartbeats 40000000 in
theorem rmCL3_4 (l : Launch) (Z : State) (a0 : Array Value) (hw : ∀ d ∈ tables_1, d.before a0 Z = true) (ws : List Jvm.Cond)  (h0 : Heap) (n0 : Nat) (hn : n0 ≤ h0.size) :
    Met own_EL l Z (⟨"java/util/Arrays", "checkLength", "(II)V"⟩ : MethodName) jdk_65_method_131_code 2 none ({ frames := 0, cells := 0, slots := 0, locals := 0 } : Room) ws #[(.int (3 : Int32)), (.int (4 : Int32))] h0 n0 [] (Pur0 h0) := by
  refine Met.of pn_21 (fun m => ef_rmCL3_4 m ) ?_
  refine Own.iloadN d21_0 rfl ?_
  refine Own.iloadN d21_1 rfl ?_
  refine Own.icmp_ge 37 d21_2 (by decide) rfl (fun _ => ?_) (fun q => absurd q (by decide))
  refine Own.ret_void rfl d21_37 (by decide) (by decide) (fun Sf hSf => ?_)
  exact ⟨rfl, rfl⟩
theorem ef_rmMM3_4 (m : MethodId)   : entryFrame m #[(.int (1 : Int32)), (.int (1 : Int32))] 2 = mkF m 0 #[.val (.int (1 : Int32)), .val (.int (1 : Int32))] [] := by first | (simp [entryFrame, mkF, argsToLocals, Value.category]; done) | rfl
set_option maxRecDepth 65536 in
set_option maxHeartbeats 40000000 in
theorem rmMM3_4 (l : Launch) (Z : State) (a0 : Array Value) (hw : ∀ d ∈ tables_1, d.before a0 Z = true) (ws : List Jvm.Cond)  (h0 : Heap) (n0 : Nat) (hn : n0 ≤ h0.size) :
    Met own_EL l Z (⟨"java/lang/Math", "min", "(II)I"⟩ : MethodName) jdk_29_method_69_code 2 (some .int) ({ frames := 0, cells := 0, slots := 0, locals := 0 } : Room) ws #[(.int (1 : Int32)), (.int (1 : Int32))] h0 n0 [] (Pur (.int (1 : Int32)) h0) := by
  refine Met.of pn_22 (fun m => ef_rmMM3_4 m ) ?_
  refine Own.iloadN d22_0 rfl ?_
  refine Own.iloadN d22_1 rfl ?_
  refine Own.icmp_gt 9 d22_2 (by decide) rfl (fun q => absurd q (by decide)) (fun _ => ?_)
  refine Own.iloadN d22_5 rfl ?_
  refine Own.goto_ 10 d22_6 (by decide) rfl ?_
  refine Own.ret_int rfl d22_10 (by decide) (by decide) (fun Sf hSf => ?_)
  exact ⟨rfl, rfl⟩
def Q_rmRB3_4 (Z : State) (x0 : Int32) (x1 : Int32) (x2 : Int32) (x3 : Int32) (h0 : Heap) (n0 : Nat) (v : Option Value) (h : Heap) (Sf : Addr → Prop) : Prop := ∃ (a : Addr) (ka : ClassId), v = some (.ref a) ∧ h0.size ≤ a ∧ Keep h0 h [] ∧ Arl Z h a ka .byte [(.int x3)]
theorem ef_rmRB3_4 (m : MethodId) (a1 : Addr)  : entryFrame m #[(.ref a1), (.int (3 : Int32)), (.int (4 : Int32))] 5 = mkF m 0 #[.val (.ref a1), .val (.int (3 : Int32)), .val (.int (4 : Int32)), .unset, .unset] [] := by first | (simp [entryFrame, mkF, argsToLocals, Value.category]; done) | rfl
set_option maxRecDepth 65536 in
set_option maxHeartbeats 40000000 in
theorem rmRB3_4 (l : Launch) (Z : State) (a0 : Array Value) (hw : ∀ d ∈ tables_1, d.before a0 Z = true) (ws : List Jvm.Cond) (a1 : Addr) (ka : ClassId) (x0 : Int32) (x1 : Int32) (x2 : Int32) (x3 : Int32) (h0 : Heap) (n0 : Nat) (hn : n0 ≤ h0.size) (V_a1 : Arl Z h0 a1 ka .byte [(.int x0), (.int x1), (.int x2), (.int x3)]) :
    Met own_EL l Z (⟨"java/util/Arrays", "copyOfRangeByte", "([BII)[B"⟩ : MethodName) jdk_65_method_133_code 5 (some (.array .byte)) ({ frames := 1, cells := 1, slots := 1, locals := 51 } : Room) ws #[(.ref a1), (.int (3 : Int32)), (.int (4 : Int32))] h0 n0 [] (Q_rmRB3_4 Z x0 x1 x2 x3 h0 n0) := by
  refine Met.of pn_20 (fun m => ef_rmRB3_4 m a1) ?_
  have K := Keep.refl h0 []
  refine Own.iloadN d20_0 rfl ?_
  refine Own.iloadN d20_1 rfl ?_
  refine Own.callS0 [(.int (3 : Int32)), (.int (4 : Int32))] [] 0 (rmCL3_4 l Z a0 hw [] h0 n0 hn) (hw _ (List.mem_of_getElem? (i := 107) rfl)) (hw _ (List.mem_of_getElem? (i := 108) rfl)) (hw _ (List.mem_of_getElem? (i := 102) rfl)) (hw _ (List.mem_of_getElem? (i := 109) rfl)) (by decide) d20_2 pd_7 rfl rfl rfl rfl (by decide) (by decide) (by decide) (by decide) ?_
  refine Own.iloadN d20_5 rfl ?_
  refine Own.iloadN d20_6 rfl ?_
  refine Own.isub d20_7 ?_
  refine OAt.cast (st' := [(.int (1 : Int32))]) rfl ?_
  refine Own.istoreN #[.val (.ref a1), .val (.int (3 : Int32)), .val (.int (4 : Int32)), .val (.int (1 : Int32)), .unset] d20_8 rfl ?_
  refine Own.iloadN d20_9 rfl ?_
  refine Own.newarray_ 1 .byte rfl (hw _ (List.mem_of_getElem? (i := 19) rfl)) d20_10 (N := 1) rfl (by decide) (by decide) (by decide) (by decide) rfl (fun h151 b151 k151 gb151 E151 V151 => ?_)
  have g_b151 : n0 ≤ b151 := by rw [gb151]; exact hn
  have ne_a1_b151 : a1 ≠ b151 := fun q => Nat.ne_of_lt V_a1.lt (q.trans gb151)
  have ne_b151_a1 := Ne.symm ne_a1_b151
  have hn := Nat.le_trans hn E151.1
  replace V_a1 := V_a1.ext E151
  replace V151 : Arl Z h151 b151 k151 .byte [(.int (0 : Int32))] := V151
  have sz_b151 : h0.size ≤ b151 := by rw [gb151]; exact K.1
  have K := K.ext E151
  refine Own.astore #[.val (.ref a1), .val (.int (3 : Int32)), .val (.int (4 : Int32)), .val (.int (1 : Int32)), .val (.ref b151)] d20_12 rfl rfl ?_
  refine Own.aloadN d20_14 rfl rfl ?_
  refine Own.iloadN d20_15 rfl ?_
  refine Own.aload d20_16 rfl rfl ?_
  refine Own.iconst (0 : Int32) d20_18 rfl ?_
  refine Own.aloadN d20_19 rfl rfl ?_
  refine Own.arraylength_ (4 : Int32) V_a1 rfl d20_20 ?_
  refine Own.iloadN d20_21 rfl ?_
  refine Own.isub d20_22 ?_
  refine OAt.cast (st' := [(.int (1 : Int32)), (.int (0 : Int32)), (.ref b151), (.int (3 : Int32)), (.ref a1)]) rfl ?_
  refine Own.iloadN d20_23 rfl ?_
  refine Own.callSP [(.int (1 : Int32)), (.int (1 : Int32))] [(.int (0 : Int32)), (.ref b151), (.int (3 : Int32)), (.ref a1)] 4 (rmMM3_4 l Z a0 hw [] h151 n0 hn) (hw _ (List.mem_of_getElem? (i := 110) rfl)) (hw _ (List.mem_of_getElem? (i := 111) rfl)) (hw _ (List.mem_of_getElem? (i := 112) rfl)) (hw _ (List.mem_of_getElem? (i := 113) rfl)) (by decide) d20_24 pd_5 rfl rfl rfl rfl (by decide) (by decide) (by decide) (by decide) ?_
  refine Own.arraycopy_ (i := 3) (j := 0) (n := 1) 0 (hw _ (List.mem_of_getElem? (i := 114) rfl)) (hw _ (List.mem_of_getElem? (i := 117) rfl)) (hw _ (List.mem_of_getElem? (i := 115) rfl)) (hw _ (List.mem_of_getElem? (i := 116) rfl)) V_a1 V151 rfl rfl rfl rfl (Nat.le_of_ble_eq_true rfl) (Nat.le_of_ble_eq_true rfl) g_b151 (List.mem_of_getElem? (i := 0) rfl) rfl d20_27 (by decide) rfl (by decide) (fun h152 K152 V152 => ?_)
  have hn := Nat.le_trans hn K152.1
  replace V_a1 := V_a1.keep K152 (ninS ne_a1_b151 nin0)
  clear V151
  replace V152 : Arl Z h152 b151 k151 .byte [(.int x3)] := V152
  have K := K.trans K152 (allS (Or.inr sz_b151) all0)
  refine Own.aload d20_30 rfl rfl ?_
  refine Own.ret_ref (t := (.array .byte)) rfl rfl rfl d20_32 (by decide) (by decide) (fun Sf hSf => ?_)
  exact ⟨b151, k151, rfl, sz_b151, K, V152⟩
def Q_rmRG3_4 (Z : State) (x0 : Int32) (x1 : Int32) (x2 : Int32) (x3 : Int32) (h0 : Heap) (n0 : Nat) (v : Option Value) (h : Heap) (Sf : Addr → Prop) : Prop := ∃ (a : Addr) (ka : ClassId), v = some (.ref a) ∧ h0.size ≤ a ∧ Keep h0 h [] ∧ Arl Z h a ka .byte [(.int x3)]
theorem ef_rmRG3_4 (m : MethodId) (a1 : Addr)  : entryFrame m #[(.ref a1), (.int (3 : Int32)), (.int (4 : Int32))] 3 = mkF m 0 #[.val (.ref a1), .val (.int (3 : Int32)), .val (.int (4 : Int32))] [] := by first | (simp [entryFrame, mkF, argsToLocals, Value.category]; done) | rfl
set_option maxRecDepth 65536 in
set_option maxHeartbeats 40000000 in
theorem rmRG3_4 (l : Launch) (Z : State) (a0 : Array Value) (hw : ∀ d ∈ tables_1, d.before a0 Z = true) (ws : List Jvm.Cond) (a1 : Addr) (ka : ClassId) (x0 : Int32) (x1 : Int32) (x2 : Int32) (x3 : Int32) (h0 : Heap) (n0 : Nat) (hn : n0 ≤ h0.size) (V_a1 : Arl Z h0 a1 ka .byte [(.int x0), (.int x1), (.int x2), (.int x3)]) :
    Met own_EL l Z (⟨"java/util/Arrays", "copyOfRange", "([BII)[B"⟩ : MethodName) jdk_65_method_132_code 3 (some (.array .byte)) ({ frames := 2, cells := 1, slots := 1, locals := 67 } : Room) ws #[(.ref a1), (.int (3 : Int32)), (.int (4 : Int32))] h0 n0 [] (Q_rmRG3_4 Z x0 x1 x2 x3 h0 n0) := by
  refine Met.of pn_19 (fun m => ef_rmRG3_4 m a1) ?_
  have K := Keep.refl h0 []
  refine Own.iloadN d19_0 rfl ?_
  refine Own.if_ne 10 d19_1 (by decide) rfl (fun _ => ?_) (fun q => absurd q (by decide))
  refine Own.aloadN d19_10 rfl rfl ?_
  refine Own.iloadN d19_11 rfl ?_
  refine Own.iloadN d19_12 rfl ?_
  refine Own.callS_ [(.ref a1), (.int (3 : Int32)), (.int (4 : Int32))] [] 0 (rmRB3_4 l Z a0 hw [] a1 ka x0 x1 x2 x3 h0 n0 hn V_a1) all0 (hw _ (List.mem_of_getElem? (i := 104) rfl)) (hw _ (List.mem_of_getElem? (i := 105) rfl)) (hw _ (List.mem_of_getElem? (i := 102) rfl)) (hw _ (List.mem_of_getElem? (i := 106) rfl)) (by decide) d19_13 pd_15 rfl rfl rfl rfl (by decide) (by decide) (by decide) (by decide) (fun v153 h153 S153 hq153 => ?_)
  obtain ⟨b154, k154, rfl, z154, K154, V154⟩ := hq153
  have g_b154 : n0 ≤ b154 := Nat.le_trans hn z154
  have ne_a1_b154 : a1 ≠ b154 := Nat.ne_of_lt (Nat.lt_of_lt_of_le V_a1.lt z154)
  have ne_b154_a1 := Ne.symm ne_a1_b154
  have sz_b154 : h0.size ≤ b154 := Nat.le_trans K.1 z154
  have hn := Nat.le_trans hn K154.1
  replace V_a1 := V_a1.keep K154 nin0
  have K := K.trans K154 all0
  refine ⟨[], all0, ?_⟩
  refine OAt.cast (st' := [(.ref b154)]) rfl ?_
  refine Own.ret_ref (t := (.array .byte)) rfl rfl rfl d19_16 (by decide) (by decide) (fun Sf hSf => ?_)
  exact ⟨b154, k154, rfl, sz_b154, K, V154⟩
def Q_rmNS3_4 (Z : State) (x0 : Int32) (x1 : Int32) (x2 : Int32) (x3 : Int32) (h0 : Heap) (n0 : Nat) (v : Option Value) (h : Heap) (Sf : Addr → Prop) : Prop := Keep h0 h [] ∧ ∃ (a b : Addr) (kb : ClassId), v = some (.ref a) ∧ Exa Z h a "java/lang/String" ∧ Fld Z h a "java/lang/String" "value" "[B" (.ref b) ∧ Fld Z h a "java/lang/String" "coder" "B" (.int (0 : Int32)) ∧ Arl Z h b kb .byte [(.int x3)]
theorem ef_rmNS3_4 (m : MethodId) (a1 : Addr)  : entryFrame m #[(.ref a1), (.int (3 : Int32)), (.int (1 : Int32))] 3 = mkF m 0 #[.val (.ref a1), .val (.int (3 : Int32)), .val (.int (1 : Int32))] [] := by first | (simp [entryFrame, mkF, argsToLocals, Value.category]; done) | rfl
set_option maxRecDepth 65536 in
set_option maxHeartbeats 40000000 in
theorem rmNS3_4 (l : Launch) (Z : State) (a0 : Array Value) (hw : ∀ d ∈ tables_1, d.before a0 Z = true) (ws : List Jvm.Cond) (a1 : Addr) (ka : ClassId) (x0 : Int32) (x1 : Int32) (x2 : Int32) (x3 : Int32) (h0 : Heap) (n0 : Nat) (hn : n0 ≤ h0.size) (V_a1 : Arl Z h0 a1 ka .byte [(.int x0), (.int x1), (.int x2), (.int x3)]) :
    Met own_EL l Z (⟨"java/lang/StringLatin1", "newString", "([BII)Ljava/lang/String;"⟩ : MethodName) jdk_43_method_47_code 3 (some (.object "java/lang/String")) ({ frames := 5, cells := 3, slots := 16, locals := 90 } : Room) ws #[(.ref a1), (.int (3 : Int32)), (.int (1 : Int32))] h0 n0 [] (Q_rmNS3_4 Z x0 x1 x2 x3 h0 n0) := by
  refine Met.of pn_17 (fun m => ef_rmNS3_4 m a1) ?_
  have K := Keep.refl h0 []
  refine Own.iloadN d17_0 rfl ?_
  refine Own.if_ne 7 d17_1 (by decide) rfl (fun _ => ?_) (fun q => absurd q (by decide))
  refine Own.new_ (hw _ (List.mem_of_getElem? (i := 99) rfl)) (hw _ (List.mem_of_getElem? (i := 2) rfl)) (hw _ (List.mem_of_getElem? (i := 3) rfl)) d17_7 (by decide) (by decide) (fun h155 b155 gb155 E155 X155 D155 => ?_)
  have g_b155 : n0 ≤ b155 := by rw [gb155]; exact hn
  have ne_a1_b155 : a1 ≠ b155 := fun q => Nat.ne_of_lt V_a1.lt (q.trans gb155)
  have ne_b155_a1 := Ne.symm ne_a1_b155
  have hn := Nat.le_trans hn E155.1
  replace V_a1 := V_a1.ext E155
  have X_b155 := X155
  have F_coder_b155 : Fld Z h155 b155 "java/lang/String" "coder" "B" (.int (0 : Int32)) := D155 (Or.inr (hw _ (List.mem_of_getElem? (i := 27) rfl))) (ty := .byte) (by decide)
  have F_value_b155 : Fld Z h155 b155 "java/lang/String" "value" "[B" .null := D155 (Or.inr (hw _ (List.mem_of_getElem? (i := 29) rfl))) (ty := (.array .byte)) (by decide)
  have sz_b155 : h0.size ≤ b155 := by rw [gb155]; exact K.1
  have K := K.ext E155
  refine Own.dup d17_10 rfl ?_
  refine Own.aloadN d17_11 rfl rfl ?_
  refine Own.iloadN d17_12 rfl ?_
  refine Own.iloadN d17_13 rfl ?_
  refine Own.iloadN d17_14 rfl ?_
  refine Own.iadd d17_15 ?_
  refine OAt.cast (st' := [(.int (4 : Int32)), (.int (3 : Int32)), (.ref a1), (.ref b155), (.ref b155)]) rfl ?_
  refine Own.callS_ [(.ref a1), (.int (3 : Int32)), (.int (4 : Int32))] [(.ref b155), (.ref b155)] 2 (rmRG3_4 l Z a0 hw [] a1 ka x0 x1 x2 x3 h155 n0 hn V_a1) all0 (hw _ (List.mem_of_getElem? (i := 100) rfl)) (hw _ (List.mem_of_getElem? (i := 101) rfl)) (hw _ (List.mem_of_getElem? (i := 102) rfl)) (hw _ (List.mem_of_getElem? (i := 103) rfl)) (by decide) d17_16 pd_15 rfl rfl rfl rfl (by decide) (by decide) (by decide) (by decide) (fun v156 h156 S156 hq156 => ?_)
  obtain ⟨b157, k157, rfl, z157, K157, V157⟩ := hq156
  have g_b157 : n0 ≤ b157 := Nat.le_trans hn z157
  have ne_a1_b157 : a1 ≠ b157 := Nat.ne_of_lt (Nat.lt_of_lt_of_le V_a1.lt z157)
  have ne_b157_a1 := Ne.symm ne_a1_b157
  have ne_b155_b157 : b155 ≠ b157 := Nat.ne_of_lt (Nat.lt_of_lt_of_le X_b155.lt z157)
  have ne_b157_b155 := Ne.symm ne_b155_b157
  have sz_b157 : h0.size ≤ b157 := Nat.le_trans K.1 z157
  have hn := Nat.le_trans hn K157.1
  replace V_a1 := V_a1.keep K157 nin0
  replace X_b155 := X_b155.keep K157
  replace F_coder_b155 := F_coder_b155.keep K157 nin0
  replace F_value_b155 := F_value_b155.keep K157 nin0
  have K := K.trans K157 all0
  refine ⟨[], all0, ?_⟩
  refine OAt.cast (st' := [(.ref b157), (.ref b155), (.ref b155)]) rfl ?_
  refine Own.iconst (0 : Int32) d17_19 rfl ?_
  refine Own.callI_ b155 [(.ref b157), (.int (0 : Int32))] [(.ref b155)] 1 (rmBB l Z a0 hw [] b155 b157 h156 n0 hn X_b155 g_b155 F_value_b155 F_coder_b155) (allS (List.mem_of_getElem? (i := 0) rfl) all0) (hw _ (List.mem_of_getElem? (i := 118) rfl)) (hw _ (List.mem_of_getElem? (i := 119) rfl)) (hw _ (List.mem_of_getElem? (i := 3) rfl)) (hw _ (List.mem_of_getElem? (i := 120) rfl)) rfl (by decide) d17_20 pd_12 rfl rfl rfl rfl (by decide) (by decide) (by decide) (by decide) (fun v158 h158 S158 hq158 => ?_)
  obtain ⟨rfl, K159, G1, G2⟩ := hq158
  have hn := Nat.le_trans hn K159.1
  replace V_a1 := V_a1.keep K159 (ninS ne_a1_b155 nin0)
  replace X_b155 := X_b155.keep K159
  replace V157 := V157.keep K159 (ninS ne_b157_b155 nin0)
  have K := K.trans K159 (allS (Or.inr sz_b155) all0)
  have F_value_b155 := G1
  have F_coder_b155 := G2
  refine ⟨[], all0, ?_⟩
  refine OAt.cast (st' := [(.ref b155)]) rfl ?_
  refine Own.ret_ref (t := (.object "java/lang/String")) rfl rfl rfl d17_23 (by decide) (by decide) (fun Sf hSf => ?_)
  exact ⟨K, b155, b157, k157, rfl, X_b155, F_value_b155, F_coder_b155, V157⟩
def Q_rmSub3_4 (Z : State) (a1 : Addr) (b : Addr) (kb : ClassId) (zc : Int32) (vf : Value) (x0 : Int32) (x1 : Int32) (x2 : Int32) (x3 : Int32) (h0 : Heap) (n0 : Nat) (v : Option Value) (h : Heap) (Sf : Addr → Prop) : Prop := Keep h0 h [] ∧ ∃ (a b : Addr) (kb : ClassId), v = some (.ref a) ∧ Exa Z h a "java/lang/String" ∧ Fld Z h a "java/lang/String" "value" "[B" (.ref b) ∧ Fld Z h a "java/lang/String" "coder" "B" (.int (0 : Int32)) ∧ Arl Z h b kb .byte [(.int x3)]
theorem ef_rmSub3_4 (m : MethodId) (a1 : Addr)  : entryFrame m #[(.ref a1), (.int (3 : Int32)), (.int (4 : Int32))] 5 = mkF m 0 #[.val (.ref a1), .val (.int (3 : Int32)), .val (.int (4 : Int32)), .unset, .unset] [] := by first | (simp [entryFrame, mkF, argsToLocals, Value.category]; done) | rfl
set_option maxRecDepth 65536 in
set_option maxHeartbeats 40000000 in
theorem rmSub3_4 (l : Launch) (Z : State) (a0 : Array Value) (hw : ∀ d ∈ tables_1, d.before a0 Z = true) (ws : List Jvm.Cond) (a1 : Addr) (b : Addr) (kb : ClassId) (zc : Int32) (vf : Value) (x0 : Int32) (x1 : Int32) (x2 : Int32) (x3 : Int32) (h0 : Heap) (n0 : Nat) (hn : n0 ≤ h0.size) (X_a1 : Exa Z h0 a1 "java/lang/String") (F_value_a1 : Fld Z h0 a1 "java/lang/String" "value" "[B" (.ref b)) (F_coder_a1 : Fld Z h0 a1 "java/lang/String" "coder" "B" (.int (0 : Int32))) (V_b : Arl Z h0 b kb .byte [(.int x0), (.int x1), (.int x2), (.int x3)]) (S_C : Sta Z h0 "java/lang/String" "COMPACT_STRINGS" "Z" (.int zc)) (S_F : Sta Z h0 "jdk/internal/util/Preconditions" "SIOOBE_FORMATTER" "Ljava/util/function/BiFunction;" vf) (hz : ¬ zc = 0) (hvf : vf.isRef = true) :
    Met own_EL l Z (⟨"java/lang/String", "substring", "(II)Ljava/lang/String;"⟩ : MethodName) jdk_42_method_92_code 5 (some (.object "java/lang/String")) ({ frames := 6, cells := 3, slots := 16, locals := 110 } : Room) ws #[(.ref a1), (.int (3 : Int32)), (.int (4 : Int32))] h0 n0 [] (Q_rmSub3_4 Z a1 b kb zc vf x0 x1 x2 x3 h0 n0) := by
  refine Met.of pn_11 (fun m => ef_rmSub3_4 m a1) ?_
  have K := Keep.refl h0 []
  refine Own.aloadN d11_0 rfl rfl ?_
  refine Own.callVP a1 [] [] 0 (rm_len_4 l Z a0 hw [] a1 b kb _ zc h0 n0 hn X_a1 F_value_a1 F_coder_a1 V_b rfl S_C hz) (hw _ (List.mem_of_getElem? (i := 64) rfl)) (hw _ (List.mem_of_getElem? (i := 65) rfl)) (fun s hZ => notFace_of_selects (args := #[]) (mvT hZ (hw _ (List.mem_of_getElem? (i := 67) rfl)))) (hw _ (List.mem_of_getElem? (i := 67) rfl)) (hw _ (List.mem_of_getElem? (i := 66) rfl)) (hw _ (List.mem_of_getElem? (i := 3) rfl)) (hw _ (List.mem_of_getElem? (i := 68) rfl)) (by decide) X_a1 d11_1 pd_1 rfl rfl rfl rfl (by decide) (by decide) (by decide) (by decide) ?_
  refine Own.istoreN #[.val (.ref a1), .val (.int (3 : Int32)), .val (.int (4 : Int32)), .val (.int (4 : Int32)), .unset] d11_4 rfl ?_
  refine Own.iloadN d11_5 rfl ?_
  refine Own.iloadN d11_6 rfl ?_
  refine Own.iloadN d11_7 rfl ?_
  refine Own.callS0 [(.int (3 : Int32)), (.int (4 : Int32)), (.int (4 : Int32))] [] 0 (rmCB3_4 l Z a0 hw [] vf h0 n0 hn S_F hvf) (hw _ (List.mem_of_getElem? (i := 74) rfl)) (hw _ (List.mem_of_getElem? (i := 75) rfl)) (hw _ (List.mem_of_getElem? (i := 3) rfl)) (hw _ (List.mem_of_getElem? (i := 76) rfl)) (by decide) d11_8 pd_8 rfl rfl rfl rfl (by decide) (by decide) (by decide) (by decide) ?_
  refine Own.iloadN d11_11 rfl ?_
  refine Own.if_ne 22 d11_12 (by decide) rfl (fun _ => ?_) (fun q => absurd q (by decide))
  refine Own.iloadN d11_22 rfl ?_
  refine Own.iloadN d11_23 rfl ?_
  refine Own.isub d11_24 ?_
  refine OAt.cast (st' := [(.int (1 : Int32))]) rfl ?_
  refine Own.istore #[.val (.ref a1), .val (.int (3 : Int32)), .val (.int (4 : Int32)), .val (.int (4 : Int32)), .val (.int (1 : Int32))] d11_25 rfl ?_
  refine Own.aloadN d11_27 rfl rfl ?_
  refine Own.callVP a1 [] [] 0 (rm_lat_4 l Z a0 hw [] a1 b kb _ zc h0 n0 hn X_a1 F_value_a1 F_coder_a1 V_b rfl S_C hz) (hw _ (List.mem_of_getElem? (i := 82) rfl)) (hw _ (List.mem_of_getElem? (i := 83) rfl)) (fun s hZ => notFace_of_selects (args := #[]) (mvT hZ (hw _ (List.mem_of_getElem? (i := 85) rfl)))) (hw _ (List.mem_of_getElem? (i := 85) rfl)) (hw _ (List.mem_of_getElem? (i := 84) rfl)) (hw _ (List.mem_of_getElem? (i := 3) rfl)) (hw _ (List.mem_of_getElem? (i := 86) rfl)) (by decide) X_a1 d11_28 pd_4 rfl rfl rfl rfl (by decide) (by decide) (by decide) (by decide) ?_
  refine Own.if_eq 47 d11_31 (by decide) rfl (fun q => absurd q (by decide)) (fun _ => ?_)
  refine Own.aloadN d11_34 rfl rfl ?_
  refine Own.getF_ (host := "") (Or.inl (hw _ (List.mem_of_getElem? (i := 28) rfl))) Via.refl F_value_a1 d11_35 ?_
  refine Own.iloadN d11_38 rfl ?_
  refine Own.iload d11_39 rfl ?_
  refine Own.callS_ [(.ref b), (.int (3 : Int32)), (.int (1 : Int32))] [] 0 (rmNS3_4 l Z a0 hw [] b kb x0 x1 x2 x3 h0 n0 hn V_b) all0 (hw _ (List.mem_of_getElem? (i := 87) rfl)) (hw _ (List.mem_of_getElem? (i := 88) rfl)) (hw _ (List.mem_of_getElem? (i := 89) rfl)) (hw _ (List.mem_of_getElem? (i := 90) rfl)) (by decide) d11_41 pd_14 rfl rfl rfl rfl (by decide) (by decide) (by decide) (by decide) (fun v160 h160 S160 hq160 => ?_)
  obtain ⟨K161, s161, t161, kt161, rfl, X_s161, F_value_s161, F_coder_s161, V_t161⟩ := hq160
  have hn := Nat.le_trans hn K161.1
  replace S_C := sta_keep S_C K161 ns0
  replace S_F := sta_keep S_F K161 ns0
  replace X_a1 := X_a1.keep K161
  replace F_value_a1 := F_value_a1.keep K161 nin0
  replace F_coder_a1 := F_coder_a1.keep K161 nin0
  replace V_b := V_b.keep K161 nin0
  have K := K.trans K161 all0
  refine ⟨[], all0, ?_⟩
  refine OAt.cast (st' := [(.ref s161)]) rfl ?_
  refine Own.goto_ 57 d11_44 (by decide) rfl ?_
  refine Own.ret_ref (t := (.object "java/lang/String")) rfl rfl rfl d11_57 (by decide) (by decide) (fun Sf hSf => ?_)
  exact ⟨K, s161, t161, kt161, rfl, X_s161, F_value_s161, F_coder_s161, V_t161⟩
def Q_rmCut3_4 (Z : State) (x0 : Int32) (x1 : Int32) (x2 : Int32) (x3 : Int32) (h0 : Heap) (n0 : Nat) (v : Option Value) (h : Heap) (Sf : Addr → Prop) : Prop := Keep h0 h [] ∧ ∃ (a b : Addr) (kb : ClassId), v = some (.ref a) ∧ Exa Z h a "java/lang/String" ∧ Fld Z h a "java/lang/String" "value" "[B" (.ref b) ∧ Fld Z h a "java/lang/String" "coder" "B" (.int (0 : Int32)) ∧ Arl Z h b kb .byte [(.int x3)]
theorem ef_rmCut3_4 (m : MethodId) (a1 : Addr)  : entryFrame m #[(.ref a1)] 1 = mkF m 0 #[.val (.ref a1)] [] := by first | (simp [entryFrame, mkF, argsToLocals, Value.category]; done) | rfl
set_option maxRecDepth 65536 in
set_option maxHeartbeats 40000000 in
theorem rmCut3_4 (l : Launch) (Z : State) (a0 : Array Value) (hw : ∀ d ∈ tables_1, d.before a0 Z = true) (ws : List Jvm.Cond) (a1 : Addr) (a2 : Addr) (b : Addr) (kb : ClassId) (zc : Int32) (vf : Value) (x0 : Int32) (x1 : Int32) (x2 : Int32) (x3 : Int32) (h0 : Heap) (n0 : Nat) (hn : n0 ≤ h0.size) (X_a2 : Exa Z h0 a2 "java/lang/String") (F_value_a2 : Fld Z h0 a2 "java/lang/String" "value" "[B" (.ref b)) (F_coder_a2 : Fld Z h0 a2 "java/lang/String" "coder" "B" (.int (0 : Int32))) (V_b : Arl Z h0 b kb .byte [(.int x0), (.int x1), (.int x2), (.int x3)]) (S_C : Sta Z h0 "java/lang/String" "COMPACT_STRINGS" "Z" (.int zc)) (S_F : Sta Z h0 "jdk/internal/util/Preconditions" "SIOOBE_FORMATTER" "Ljava/util/function/BiFunction;" vf) (hz : ¬ zc = 0) (hvf : vf.isRef = true) (F_text_a1 : Fld Z h0 a1 "com/example/cytorelay/cytorelay/core/Hl7Syntax$Span" "text" "Ljava/lang/String;" (.ref a2)) (F_from_a1 : Fld Z h0 a1 "com/example/cytorelay/cytorelay/core/Hl7Syntax$Span" "from" "I" (.int (3 : Int32))) (F_to_a1 : Fld Z h0 a1 "com/example/cytorelay/cytorelay/core/Hl7Syntax$Span" "to" "I" (.int (4 : Int32))) :
    Met own_EL l Z (⟨"com/example/cytorelay/cytorelay/core/Hl7Syntax$Span", "cut", "()Ljava/lang/String;"⟩ : MethodName) prog_32_method_4_code 1 (some (.object "java/lang/String")) ({ frames := 7, cells := 3, slots := 16, locals := 130 } : Room) ws #[(.ref a1)] h0 n0 [] (Q_rmCut3_4 Z x0 x1 x2 x3 h0 n0) := by
  refine Met.of pn_10 (fun m => ef_rmCut3_4 m a1) ?_
  have K := Keep.refl h0 []
  refine Own.aloadN d10_0 rfl rfl ?_
  refine Own.getF_ (host := "") (Or.inl (hw _ (List.mem_of_getElem? (i := 43) rfl))) Via.refl F_text_a1 d10_1 ?_
  refine Own.aloadN d10_4 rfl rfl ?_
  refine Own.getF_ (host := "") (Or.inl (hw _ (List.mem_of_getElem? (i := 45) rfl))) Via.refl F_from_a1 d10_5 ?_
  refine Own.aloadN d10_8 rfl rfl ?_
  refine Own.getF_ (host := "") (Or.inl (hw _ (List.mem_of_getElem? (i := 47) rfl))) Via.refl F_to_a1 d10_9 ?_
  refine Own.callV_ a2 [(.int (3 : Int32)), (.int (4 : Int32))] [] 0 (rmSub3_4 l Z a0 hw [] a2 b kb zc vf x0 x1 x2 x3 h0 n0 hn X_a2 F_value_a2 F_coder_a2 V_b S_C S_F hz hvf) all0 (hw _ (List.mem_of_getElem? (i := 59) rfl)) (hw _ (List.mem_of_getElem? (i := 60) rfl)) (fun s hZ => notFace_of_selects (args := #[]) (mvT hZ (hw _ (List.mem_of_getElem? (i := 62) rfl)))) (hw _ (List.mem_of_getElem? (i := 62) rfl)) (hw _ (List.mem_of_getElem? (i := 61) rfl)) (hw _ (List.mem_of_getElem? (i := 3) rfl)) (hw _ (List.mem_of_getElem? (i := 63) rfl)) (by decide) X_a2 d10_12 pd_6 rfl rfl rfl rfl (by decide) (by decide) (by decide) (by decide) (fun v162 h162 S162 hq162 => ?_)
  obtain ⟨K163, s163, t163, kt163, rfl, X_s163, F_value_s163, F_coder_s163, V_t163⟩ := hq162
  have hn := Nat.le_trans hn K163.1
  replace S_C := sta_keep S_C K163 ns0
  replace S_F := sta_keep S_F K163 ns0
  replace X_a2 := X_a2.keep K163
  replace F_value_a2 := F_value_a2.keep K163 nin0
  replace F_coder_a2 := F_coder_a2.keep K163 nin0
  replace V_b := V_b.keep K163 nin0
  replace F_text_a1 := F_text_a1.keep K163 nin0
  replace F_from_a1 := F_from_a1.keep K163 nin0
  replace F_to_a1 := F_to_a1.keep K163 nin0
  have K := K.trans K163 all0
  refine ⟨[], all0, ?_⟩
  refine OAt.cast (st' := [(.ref s163)]) rfl ?_
  refine Own.ret_ref (t := (.object "java/lang/String")) rfl rfl rfl d10_15 (by decide) (by decide) (fun Sf hSf => ?_)
  exact ⟨K, s163, t163, kt163, rfl, X_s163, F_value_s163, F_coder_s163, V_t163⟩
theorem ef_rmSE4_4 (m : MethodId) (a1 : Addr)  : entryFrame m #[(.ref a1)] 1 = mkF m 0 #[.val (.ref a1)] [] := by first | (simp [entryFrame, mkF, argsToLocals, Value.category]; done) | rfl
set_option maxRecDepth 65536 in
set_option maxHeartbeats 40000000 in
theorem rmSE4_4 (l : Launch) (Z : State) (a0 : Array Value) (hw : ∀ d ∈ tables_1, d.before a0 Z = true) (ws : List Jvm.Cond) (a1 : Addr) (h0 : Heap) (n0 : Nat) (hn : n0 ≤ h0.size) (F_from : Fld Z h0 a1 "com/example/cytorelay/cytorelay/core/Hl7Syntax$Span" "from" "I" (.int (4 : Int32))) (F_to : Fld Z h0 a1 "com/example/cytorelay/cytorelay/core/Hl7Syntax$Span" "to" "I" (.int (4 : Int32))) :
    Met own_EL l Z (⟨"com/example/cytorelay/cytorelay/core/Hl7Syntax$Span", "isEmpty", "()Z"⟩ : MethodName) prog_32_method_3_code 1 (some .boolean) ({ frames := 0, cells := 0, slots := 0, locals := 0 } : Room) ws #[(.ref a1)] h0 n0 [] (Pur (.int (1 : Int32)) h0) := by
  refine Met.of pn_9 (fun m => ef_rmSE4_4 m a1) ?_
  refine Own.aloadN d9_0 rfl rfl ?_
  refine Own.getF_ (host := "") (Or.inl (hw _ (List.mem_of_getElem? (i := 45) rfl))) Via.refl F_from d9_1 ?_
  refine Own.aloadN d9_4 rfl rfl ?_
  refine Own.getF_ (host := "") (Or.inl (hw _ (List.mem_of_getElem? (i := 47) rfl))) Via.refl F_to d9_5 ?_
  refine Own.icmp_ne 15 d9_8 (by decide) rfl (fun q => absurd (by decide) q) (fun _ => ?_)
  refine Own.iconst (1 : Int32) d9_11 rfl ?_
  refine Own.goto_ 16 d9_12 (by decide) rfl ?_
  refine Own.ret_nar (t := .boolean) (by simp) rfl d9_16 (by decide) (by decide) (fun Sf hSf => ?_)
  exact ⟨rfl, rfl⟩
theorem ef_rmPF4_4 (m : MethodId) (vf : Value) (hr_3 : (vf).isRef = true) : entryFrame m #[(.int (4 : Int32)), (.int (4 : Int32)), (.int (4 : Int32)), vf] 4 = mkF m 0 #[.val (.int (4 : Int32)), .val (.int (4 : Int32)), .val (.int (4 : Int32)), .val vf] [] := by rcases ref_cases hr_3 with rfl | ⟨z3, rfl⟩ <;> first | (simp [entryFrame, mkF, argsToLocals, Value.category]; done) | rfl
set_option maxRecDepth 65536 in
set_option maxHeartbeats 40000000 in
theorem rmPF4_4 (l : Launch) (Z : State) (a0 : Array Value) (hw : ∀ d ∈ tables_1, d.before a0 Z = true) (ws : List Jvm.Cond) (vf : Value) (h0 : Heap) (n0 : Nat) (hn : n0 ≤ h0.size) (hvf : vf.isRef = true) :
    Met own_EL l Z (⟨"jdk/internal/util/Preconditions", "checkFromToIndex", "(IIILjava/util/function/BiFunction;)I"⟩ : MethodName) jdk_41_method_12_code 4 (some .int) ({ frames := 0, cells := 0, slots := 0, locals := 0 } : Room) ws #[(.int (4 : Int32)), (.int (4 : Int32)), (.int (4 : Int32)), vf] h0 n0 [] (Pur (.int (4 : Int32)) h0) := by
  refine Met.of pn_15 (fun m => ef_rmPF4_4 m vf hvf) ?_
  refine Own.iloadN d15_0 rfl ?_
  refine Own.if_lt 14 d15_1 (by decide) rfl (fun q => absurd q (by decide)) (fun _ => ?_)
  refine Own.iloadN d15_4 rfl ?_
  refine Own.iloadN d15_5 rfl ?_
  refine Own.icmp_gt 14 d15_6 (by decide) rfl (fun q => absurd q (by decide)) (fun _ => ?_)
  refine Own.iloadN d15_9 rfl ?_
  refine Own.iloadN d15_10 rfl ?_
  refine Own.icmp_le 22 d15_11 (by decide) rfl (fun _ => ?_) (fun q => absurd q (by decide))
  refine Own.iloadN d15_22 rfl ?_
  refine Own.ret_int rfl d15_23 (by decide) (by decide) (fun Sf hSf => ?_)
  exact ⟨rfl, rfl⟩
theorem ef_rmCB4_4 (m : MethodId)   : entryFrame m #[(.int (4 : Int32)), (.int (4 : Int32)), (.int (4 : Int32))] 3 = mkF m 0 #[.val (.int (4 : Int32)), .val (.int (4 : Int32)), .val (.int (4 : Int32))] [] := by first | (simp [entryFrame, mkF, argsToLocals, Value.category]; done) | rfl
set_option maxRecDepth 65536 in
set_option maxHeartbeats 40000000 in
theorem rmCB4_4 (l : Launch) (Z : State) (a0 : Array Value) (hw : ∀ d ∈ tables_1, d.before a0 Z = true) (ws : List Jvm.Cond) (vf : Value) (h0 : Heap) (n0 : Nat) (hn : n0 ≤ h0.size) (S_F : Sta Z h0 "jdk/internal/util/Preconditions" "SIOOBE_FORMATTER" "Ljava/util/function/BiFunction;" vf) (hvf : vf.isRef = true) :
    Met own_EL l Z (⟨"java/lang/String", "checkBoundsBeginEnd", "(III)V"⟩ : MethodName) jdk_42_method_158_code 3 none ({ frames := 1, cells := 0, slots := 0, locals := 15 } : Room) ws #[(.int (4 : Int32)), (.int (4 : Int32)), (.int (4 : Int32))] h0 n0 [] (Pur0 h0) := by
  refine Met.of pn_14 (fun m => ef_rmCB4_4 m ) ?_
  refine Own.iloadN d14_0 rfl ?_
  refine Own.iloadN d14_1 rfl ?_
  refine Own.iloadN d14_2 rfl ?_
  refine Own.getS_ (host := "") (Or.inl (hw _ (List.mem_of_getElem? (i := 77) rfl))) Via.refl S_F d14_3 ?_
  refine Own.callSP [(.int (4 : Int32)), (.int (4 : Int32)), (.int (4 : Int32)), vf] [] 0 (rmPF4_4 l Z a0 hw [] vf h0 n0 hn hvf) (hw _ (List.mem_of_getElem? (i := 79) rfl)) (hw _ (List.mem_of_getElem? (i := 80) rfl)) (hw _ (List.mem_of_getElem? (i := 78) rfl)) (hw _ (List.mem_of_getElem? (i := 81) rfl)) (by decide) d14_6 pd_9 rfl rfl rfl rfl (by decide) (by decide) (by decide) (by decide) ?_
  refine Own.pop d14_9 rfl ?_
  refine Own.ret_void rfl d14_10 (by decide) (by decide) (fun Sf hSf => ?_)
  exact ⟨rfl, rfl⟩
def Q_rmNS4_4 (Z : State)  (h0 : Heap) (n0 : Nat) (v : Option Value) (h : Heap) (Sf : Addr → Prop) : Prop := Keep h0 h [] ∧ ∃ (a b : Addr) (kb : ClassId), v = some (.ref a) ∧ Exa Z h a "java/lang/String" ∧ Fld Z h a "java/lang/String" "value" "[B" (.ref b) ∧ Fld Z h a "java/lang/String" "coder" "B" (.int (0 : Int32)) ∧ Arl Z h b kb .byte []
theorem ef_rmNS4_4 (m : MethodId) (a1 : Addr)  : entryFrame m #[(.ref a1), (.int (4 : Int32)), (.int (0 : Int32))] 3 = mkF m 0 #[.val (.ref a1), .val (.int (4 : Int32)), .val (.int (0 : Int32))] [] := by first | (simp [entryFrame, mkF, argsToLocals, Value.category]; done) | rfl
set_option maxRecDepth 65536 in
set_option maxHeartbeats 40000000 in
theorem rmNS4_4 (l : Launch) (Z : State) (a0 : Array Value) (hw : ∀ d ∈ tables_1, d.before a0 Z = true) (ws : List Jvm.Cond) (a1 : Addr) (ka : ClassId) (x0 : Int32) (x1 : Int32) (x2 : Int32) (x3 : Int32) (h0 : Heap) (n0 : Nat) (hn : n0 ≤ h0.size) (V_a1 : Arl Z h0 a1 ka .byte [(.int x0), (.int x1), (.int x2), (.int x3)]) :
    Met own_EL l Z (⟨"java/lang/StringLatin1", "newString", "([BII)Ljava/lang/String;"⟩ : MethodName) jdk_43_method_47_code 3 (some (.object "java/lang/String")) ({ frames := 5, cells := 3, slots := 16, locals := 90 } : Room) ws #[(.ref a1), (.int (4 : Int32)), (.int (0 : Int32))] h0 n0 [] (Q_rmNS4_4 Z  h0 n0) := by
  refine Met.of pn_17 (fun m => ef_rmNS4_4 m a1) ?_
  have K := Keep.refl h0 []
  refine Own.iloadN d17_0 rfl ?_
  refine Own.if_ne 7 d17_1 (by decide) rfl (fun q => absurd (by decide) q) (fun _ => ?_)
  refine Own.ldcC_ (vs := []) (z := (0 : Int32)) 0 (hw _ (List.mem_of_getElem? (i := 91) rfl)) (own_wS hw) (List.mem_of_getElem? (i := 0) rfl) (own_EW hw) ⟨by decide, by decide⟩ rfl d17_4 (by decide) (by decide) (by decide) (by decide) (fun h164 b164 t164 kt164 E164 X_b164 F_coder_b164 F_value_b164 V_t164 hne164 => ?_)
  have hn := Nat.le_trans hn E164.1
  replace V_a1 := V_a1.ext E164
  have K := K.ext E164
  refine Own.ret_ref (t := (.object "java/lang/String")) rfl rfl rfl d17_6 (by decide) (by decide) (fun Sf hSf => ?_)
  exact ⟨K, b164, t164, kt164, rfl, X_b164, F_value_b164, F_coder_b164, V_t164⟩
def Q_rmSub4_4 (Z : State) (a1 : Addr) (b : Addr) (kb : ClassId) (zc : Int32) (vf : Value) (x0 : Int32) (x1 : Int32) (x2 : Int32) (x3 : Int32) (h0 : Heap) (n0 : Nat) (v : Option Value) (h : Heap) (Sf : Addr → Prop) : Prop := Keep h0 h [] ∧ ∃ (a b : Addr) (kb : ClassId), v = some (.ref a) ∧ Exa Z h a "java/lang/String" ∧ Fld Z h a "java/lang/String" "value" "[B" (.ref b) ∧ Fld Z h a "java/lang/String" "coder" "B" (.int (0 : Int32)) ∧ Arl Z h b kb .byte []
theorem ef_rmSub4_4 (m : MethodId) (a1 : Addr)  : entryFrame m #[(.ref a1), (.int (4 : Int32)), (.int (4 : Int32))] 5 = mkF m 0 #[.val (.ref a1), .val (.int (4 : Int32)), .val (.int (4 : Int32)), .unset, .unset] [] := by first | (simp [entryFrame, mkF, argsToLocals, Value.category]; done) | rfl
set_option maxRecDepth 65536 in
set_option maxHeartbeats 40000000 in
theorem rmSub4_4 (l : Launch) (Z : State) (a0 : Array Value) (hw : ∀ d ∈ tables_1, d.before a0 Z = true) (ws : List Jvm.Cond) (a1 : Addr) (b : Addr) (kb : ClassId) (zc : Int32) (vf : Value) (x0 : Int32) (x1 : Int32) (x2 : Int32) (x3 : Int32) (h0 : Heap) (n0 : Nat) (hn : n0 ≤ h0.size) (X_a1 : Exa Z h0 a1 "java/lang/String") (F_value_a1 : Fld Z h0 a1 "java/lang/String" "value" "[B" (.ref b)) (F_coder_a1 : Fld Z h0 a1 "java/lang/String" "coder" "B" (.int (0 : Int32))) (V_b : Arl Z h0 b kb .byte [(.int x0), (.int x1), (.int x2), (.int x3)]) (S_C : Sta Z h0 "java/lang/String" "COMPACT_STRINGS" "Z" (.int zc)) (S_F : Sta Z h0 "jdk/internal/util/Preconditions" "SIOOBE_FORMATTER" "Ljava/util/function/BiFunction;" vf) (hz : ¬ zc = 0) (hvf : vf.isRef = true) :
    Met own_EL l Z (⟨"java/lang/String", "substring", "(II)Ljava/lang/String;"⟩ : MethodName) jdk_42_method_92_code 5 (some (.object "java/lang/String")) ({ frames := 6, cells := 3, slots := 16, locals := 110 } : Room) ws #[(.ref a1), (.int (4 : Int32)), (.int (4 : Int32))] h0 n0 [] (Q_rmSub4_4 Z a1 b kb zc vf x0 x1 x2 x3 h0 n0) := by
  refine Met.of pn_11 (fun m => ef_rmSub4_4 m a1) ?_
  have K := Keep.refl h0 []
  refine Own.aloadN d11_0 rfl rfl ?_
  refine Own.callVP a1 [] [] 0 (rm_len_4 l Z a0 hw [] a1 b kb _ zc h0 n0 hn X_a1 F_value_a1 F_coder_a1 V_b rfl S_C hz) (hw _ (List.mem_of_getElem? (i := 64) rfl)) (hw _ (List.mem_of_getElem? (i := 65) rfl)) (fun s hZ => notFace_of_selects (args := #[]) (mvT hZ (hw _ (List.mem_of_getElem? (i := 67) rfl)))) (hw _ (List.mem_of_getElem? (i := 67) rfl)) (hw _ (List.mem_of_getElem? (i := 66) rfl)) (hw _ (List.mem_of_getElem? (i := 3) rfl)) (hw _ (List.mem_of_getElem? (i := 68) rfl)) (by decide) X_a1 d11_1 pd_1 rfl rfl rfl rfl (by decide) (by decide) (by decide) (by decide) ?_
  refine Own.istoreN #[.val (.ref a1), .val (.int (4 : Int32)), .val (.int (4 : Int32)), .val (.int (4 : Int32)), .unset] d11_4 rfl ?_
  refine Own.iloadN d11_5 rfl ?_
  refine Own.iloadN d11_6 rfl ?_
  refine Own.iloadN d11_7 rfl ?_
  refine Own.callS0 [(.int (4 : Int32)), (.int (4 : Int32)), (.int (4 : Int32))] [] 0 (rmCB4_4 l Z a0 hw [] vf h0 n0 hn S_F hvf) (hw _ (List.mem_of_getElem? (i := 74) rfl)) (hw _ (List.mem_of_getElem? (i := 75) rfl)) (hw _ (List.mem_of_getElem? (i := 3) rfl)) (hw _ (List.mem_of_getElem? (i := 76) rfl)) (by decide) d11_8 pd_8 rfl rfl rfl rfl (by decide) (by decide) (by decide) (by decide) ?_
  refine Own.iloadN d11_11 rfl ?_
  refine Own.if_ne 22 d11_12 (by decide) rfl (fun _ => ?_) (fun q => absurd q (by decide))
  refine Own.iloadN d11_22 rfl ?_
  refine Own.iloadN d11_23 rfl ?_
  refine Own.isub d11_24 ?_
  refine OAt.cast (st' := [(.int (0 : Int32))]) rfl ?_
  refine Own.istore #[.val (.ref a1), .val (.int (4 : Int32)), .val (.int (4 : Int32)), .val (.int (4 : Int32)), .val (.int (0 : Int32))] d11_25 rfl ?_
  refine Own.aloadN d11_27 rfl rfl ?_
  refine Own.callVP a1 [] [] 0 (rm_lat_4 l Z a0 hw [] a1 b kb _ zc h0 n0 hn X_a1 F_value_a1 F_coder_a1 V_b rfl S_C hz) (hw _ (List.mem_of_getElem? (i := 82) rfl)) (hw _ (List.mem_of_getElem? (i := 83) rfl)) (fun s hZ => notFace_of_selects (args := #[]) (mvT hZ (hw _ (List.mem_of_getElem? (i := 85) rfl)))) (hw _ (List.mem_of_getElem? (i := 85) rfl)) (hw _ (List.mem_of_getElem? (i := 84) rfl)) (hw _ (List.mem_of_getElem? (i := 3) rfl)) (hw _ (List.mem_of_getElem? (i := 86) rfl)) (by decide) X_a1 d11_28 pd_4 rfl rfl rfl rfl (by decide) (by decide) (by decide) (by decide) ?_
  refine Own.if_eq 47 d11_31 (by decide) rfl (fun q => absurd q (by decide)) (fun _ => ?_)
  refine Own.aloadN d11_34 rfl rfl ?_
  refine Own.getF_ (host := "") (Or.inl (hw _ (List.mem_of_getElem? (i := 28) rfl))) Via.refl F_value_a1 d11_35 ?_
  refine Own.iloadN d11_38 rfl ?_
  refine Own.iload d11_39 rfl ?_
  refine Own.callS_ [(.ref b), (.int (4 : Int32)), (.int (0 : Int32))] [] 0 (rmNS4_4 l Z a0 hw [] b kb x0 x1 x2 x3 h0 n0 hn V_b) all0 (hw _ (List.mem_of_getElem? (i := 87) rfl)) (hw _ (List.mem_of_getElem? (i := 88) rfl)) (hw _ (List.mem_of_getElem? (i := 89) rfl)) (hw _ (List.mem_of_getElem? (i := 90) rfl)) (by decide) d11_41 pd_14 rfl rfl rfl rfl (by decide) (by decide) (by decide) (by decide) (fun v165 h165 S165 hq165 => ?_)
  obtain ⟨K166, s166, t166, kt166, rfl, X_s166, F_value_s166, F_coder_s166, V_t166⟩ := hq165
  have hn := Nat.le_trans hn K166.1
  replace S_C := sta_keep S_C K166 ns0
  replace S_F := sta_keep S_F K166 ns0
  replace X_a1 := X_a1.keep K166
  replace F_value_a1 := F_value_a1.keep K166 nin0
  replace F_coder_a1 := F_coder_a1.keep K166 nin0
  replace V_b := V_b.keep K166 nin0
  have K := K.trans K166 all0
  refine ⟨[], all0, ?_⟩
  refine OAt.cast (st' := [(.ref s166)]) rfl ?_
  refine Own.goto_ 57 d11_44 (by decide) rfl ?_
  refine Own.ret_ref (t := (.object "java/lang/String")) rfl rfl rfl d11_57 (by decide) (by decide) (fun Sf hSf => ?_)
  exact ⟨K, s166, t166, kt166, rfl, X_s166, F_value_s166, F_coder_s166, V_t166⟩
def Q_rmCut4_4 (Z : State) (x0 : Int32) (x1 : Int32) (x2 : Int32) (x3 : Int32) (h0 : Heap) (n0 : Nat) (v : Option Value) (h : Heap) (Sf : Addr → Prop) : Prop := Keep h0 h [] ∧ ∃ (a b : Addr) (kb : ClassId), v = some (.ref a) ∧ Exa Z h a "java/lang/String" ∧ Fld Z h a "java/lang/String" "value" "[B" (.ref b) ∧ Fld Z h a "java/lang/String" "coder" "B" (.int (0 : Int32)) ∧ Arl Z h b kb .byte []
theorem ef_rmCut4_4 (m : MethodId) (a1 : Addr)  : entryFrame m #[(.ref a1)] 1 = mkF m 0 #[.val (.ref a1)] [] := by first | (simp [entryFrame, mkF, argsToLocals, Value.category]; done) | rfl
set_option maxRecDepth 65536 in
set_option maxHeartbeats 40000000 in
theorem rmCut4_4 (l : Launch) (Z : State) (a0 : Array Value) (hw : ∀ d ∈ tables_1, d.before a0 Z = true) (ws : List Jvm.Cond) (a1 : Addr) (a2 : Addr) (b : Addr) (kb : ClassId) (zc : Int32) (vf : Value) (x0 : Int32) (x1 : Int32) (x2 : Int32) (x3 : Int32) (h0 : Heap) (n0 : Nat) (hn : n0 ≤ h0.size) (X_a2 : Exa Z h0 a2 "java/lang/String") (F_value_a2 : Fld Z h0 a2 "java/lang/String" "value" "[B" (.ref b)) (F_coder_a2 : Fld Z h0 a2 "java/lang/String" "coder" "B" (.int (0 : Int32))) (V_b : Arl Z h0 b kb .byte [(.int x0), (.int x1), (.int x2), (.int x3)]) (S_C : Sta Z h0 "java/lang/String" "COMPACT_STRINGS" "Z" (.int zc)) (S_F : Sta Z h0 "jdk/internal/util/Preconditions" "SIOOBE_FORMATTER" "Ljava/util/function/BiFunction;" vf) (hz : ¬ zc = 0) (hvf : vf.isRef = true) (F_text_a1 : Fld Z h0 a1 "com/example/cytorelay/cytorelay/core/Hl7Syntax$Span" "text" "Ljava/lang/String;" (.ref a2)) (F_from_a1 : Fld Z h0 a1 "com/example/cytorelay/cytorelay/core/Hl7Syntax$Span" "from" "I" (.int (4 : Int32))) (F_to_a1 : Fld Z h0 a1 "com/example/cytorelay/cytorelay/core/Hl7Syntax$Span" "to" "I" (.int (4 : Int32))) :
    Met own_EL l Z (⟨"com/example/cytorelay/cytorelay/core/Hl7Syntax$Span", "cut", "()Ljava/lang/String;"⟩ : MethodName) prog_32_method_4_code 1 (some (.object "java/lang/String")) ({ frames := 7, cells := 3, slots := 16, locals := 130 } : Room) ws #[(.ref a1)] h0 n0 [] (Q_rmCut4_4 Z x0 x1 x2 x3 h0 n0) := by
  refine Met.of pn_10 (fun m => ef_rmCut4_4 m a1) ?_
  have K := Keep.refl h0 []
  refine Own.aloadN d10_0 rfl rfl ?_
  refine Own.getF_ (host := "") (Or.inl (hw _ (List.mem_of_getElem? (i := 43) rfl))) Via.refl F_text_a1 d10_1 ?_
  refine Own.aloadN d10_4 rfl rfl ?_
  refine Own.getF_ (host := "") (Or.inl (hw _ (List.mem_of_getElem? (i := 45) rfl))) Via.refl F_from_a1 d10_5 ?_
  refine Own.aloadN d10_8 rfl rfl ?_
  refine Own.getF_ (host := "") (Or.inl (hw _ (List.mem_of_getElem? (i := 47) rfl))) Via.refl F_to_a1 d10_9 ?_
  refine Own.callV_ a2 [(.int (4 : Int32)), (.int (4 : Int32))] [] 0 (rmSub4_4 l Z a0 hw [] a2 b kb zc vf x0 x1 x2 x3 h0 n0 hn X_a2 F_value_a2 F_coder_a2 V_b S_C S_F hz hvf) all0 (hw _ (List.mem_of_getElem? (i := 59) rfl)) (hw _ (List.mem_of_getElem? (i := 60) rfl)) (fun s hZ => notFace_of_selects (args := #[]) (mvT hZ (hw _ (List.mem_of_getElem? (i := 62) rfl)))) (hw _ (List.mem_of_getElem? (i := 62) rfl)) (hw _ (List.mem_of_getElem? (i := 61) rfl)) (hw _ (List.mem_of_getElem? (i := 3) rfl)) (hw _ (List.mem_of_getElem? (i := 63) rfl)) (by decide) X_a2 d10_12 pd_6 rfl rfl rfl rfl (by decide) (by decide) (by decide) (by decide) (fun v167 h167 S167 hq167 => ?_)
  obtain ⟨K168, s168, t168, kt168, rfl, X_s168, F_value_s168, F_coder_s168, V_t168⟩ := hq167
  have hn := Nat.le_trans hn K168.1
  replace S_C := sta_keep S_C K168 ns0
  replace S_F := sta_keep S_F K168 ns0
  replace X_a2 := X_a2.keep K168
  replace F_value_a2 := F_value_a2.keep K168 nin0
  replace F_coder_a2 := F_coder_a2.keep K168 nin0
  replace V_b := V_b.keep K168 nin0
  replace F_text_a1 := F_text_a1.keep K168 nin0
  replace F_from_a1 := F_from_a1.keep K168 nin0
  replace F_to_a1 := F_to_a1.keep K168 nin0
  have K := K.trans K168 all0
  refine ⟨[], all0, ?_⟩
  refine OAt.cast (st' := [(.ref s168)]) rfl ?_
  refine Own.ret_ref (t := (.object "java/lang/String")) rfl rfl rfl d10_15 (by decide) (by decide) (fun Sf hSf => ?_)
  exact ⟨K, s168, t168, kt168, rfl, X_s168, F_value_s168, F_coder_s168, V_t168⟩
theorem pd_16 : parseMethodDescriptor "([C)V" = some ⟨[(.array .char)], none⟩ := by decide +kernel
theorem pd_11 : parseMethodDescriptor "(Ljava/lang/String;II)V" = some ⟨[(.object "java/lang/String"), .int, .int], none⟩ := by decide +kernel
theorem pd_2 : parseMethodDescriptor "()Ljava/lang/String;" = some ⟨[], some (.object "java/lang/String")⟩ := by decide +kernel
def Q_rm0 (Z : State)  (h0 : Heap) (n0 : Nat) (v : Option Value) (h : Heap) (Sf : Addr → Prop) : Prop := v = some (.int 1)
theorem ef_rm0 (m : MethodId) (p0 : Int32) (p1 : Int32) (p2 : Int32) (p3 : Int32)  : entryFrame m #[(.int p0), (.int p1), (.int p2), (.int p3)] maxLocals = mkF m 0 #[.val (.int p0), .val (.int p1), .val (.int p2), .val (.int p3), .unset, .unset, .unset, .unset, .unset, .unset, .unset, .unset] [] := by first | (simp [entryFrame, mkF, argsToLocals, Value.category, maxLocals]; done) | rfl
theorem pn_0 : plainFor (⟨"com/example/cytorelay/cytorelay/core/SpanIsEmptyPinLaw", "law", "(IIII)Z"⟩ : MethodName) = true := plainFor_of_name (show plainName "com/example/cytorelay/cytorelay/core/SpanIsEmptyPinLaw" = true by first | (simp [plainName, overriddenIn]; done) | decide +kernel)
set_option maxRecDepth 65536 in
set_option maxHeartbeats 40000000 in
theorem rm0 (l : Launch) (Z : State) (a0 : Array Value) (hw : ∀ d ∈ tables_1, d.before a0 Z = true) (ws : List Jvm.Cond) (p0 : Int32) (p1 : Int32) (p2 : Int32) (p3 : Int32) (zc : Int32) (vf : Value) (h0 : Heap) (n0 : Nat) (hn : n0 ≤ h0.size) (S_C : Sta Z h0 "java/lang/String" "COMPACT_STRINGS" "Z" (.int zc)) (S_F : Sta Z h0 "jdk/internal/util/Preconditions" "SIOOBE_FORMATTER" "Ljava/util/function/BiFunction;" vf) (hz : ¬ zc = 0) (hvf : vf.isRef = true) :
    Met own_EL l Z x code maxLocals ret room_1 ws #[(.int p0), (.int p1), (.int p2), (.int p3)] h0 n0 [] (Q_rm0 Z  h0 n0) := by
  refine Met.of pn_0 (fun m => ef_rm0 m p0 p1 p2 p3) ?_
  refine Own.iconst (4 : Int32) at_0 rfl ?_
  refine Own.newarray_ 4 .char rfl (hw _ (List.mem_of_getElem? (i := 0) rfl)) at_1 (N := 4) rfl (by decide) (by decide) (by decide) (by decide) rfl (fun h169 b169 k169 gb169 E169 V169 => ?_)
  have g_b169 : n0 ≤ b169 := by rw [gb169]; exact hn
  have hn := Nat.le_trans hn E169.1
  replace S_C := S_C.ext E169
  replace S_F := S_F.ext E169
  replace V169 : Arl Z h169 b169 k169 .char [(.int (0 : Int32)), (.int (0 : Int32)), (.int (0 : Int32)), (.int (0 : Int32))] := V169
  refine Own.astore #[.val (.int p0), .val (.int p1), .val (.int p2), .val (.int p3), .val (.ref b169), .unset, .unset, .unset, .unset, .unset, .unset, .unset] at_3 rfl rfl ?_
  refine Own.aload at_5 rfl rfl ?_
  refine Own.iconst (0 : Int32) at_7 rfl ?_
  refine Own.iloadN at_8 rfl ?_
  refine Own.sipush (255 : Int32) at_9 rfl ?_
  refine Own.iand at_12 ?_
  refine Own.i2c at_13 ?_
  refine Own.castore_ V169 (i := 0) rfl (Nat.le_of_ble_eq_true rfl) g_b169 (List.mem_of_getElem? (i := 0) rfl) at_14 (fun h170 W170 V170 => ?_)
  have hn : n0 ≤ h170.size := by rw [W170.size]; exact hn
  replace S_C := S_C.wr W170
  replace S_F := S_F.wr W170
  clear V169
  replace V170 : Arl Z h170 b169 k169 .char [(.int (nar .char ((p0 &&& (255 : Int32)).toUInt32.toUInt16.toUInt32.toInt32))), (.int (0 : Int32)), (.int (0 : Int32)), (.int (0 : Int32))] := V170
  refine Own.aload at_15 rfl rfl ?_
  refine Own.iconst (1 : Int32) at_17 rfl ?_
  refine Own.iloadN at_18 rfl ?_
  refine Own.bipush (8 : Int32) at_19 rfl ?_
  refine Own.iushr at_21 ?_
  refine Own.sipush (255 : Int32) at_22 rfl ?_
  refine Own.iand at_25 ?_
  refine Own.i2c at_26 ?_
  refine Own.castore_ V170 (i := 1) rfl (Nat.le_of_ble_eq_true rfl) g_b169 (List.mem_of_getElem? (i := 0) rfl) at_27 (fun h171 W171 V171 => ?_)
  have hn : n0 ≤ h171.size := by rw [W171.size]; exact hn
  replace S_C := S_C.wr W171
  replace S_F := S_F.wr W171
  clear V170
  replace V171 : Arl Z h171 b169 k169 .char [(.int (nar .char ((p0 &&& (255 : Int32)).toUInt32.toUInt16.toUInt32.toInt32))), (.int (nar .char ((((p0.toUInt32 >>> ((8 : Int32) &&& 31).toUInt32).toInt32) &&& (255 : Int32)).toUInt32.toUInt16.toUInt32.toInt32))), (.int (0 : Int32)), (.int (0 : Int32))] := V171
  refine Own.aload at_28 rfl rfl ?_
  refine Own.iconst (2 : Int32) at_30 rfl ?_
  refine Own.iloadN at_31 rfl ?_
  refine Own.bipush (16 : Int32) at_32 rfl ?_
  refine Own.iushr at_34 ?_
  refine Own.sipush (255 : Int32) at_35 rfl ?_
  refine Own.iand at_38 ?_
  refine Own.i2c at_39 ?_
  refine Own.castore_ V171 (i := 2) rfl (Nat.le_of_ble_eq_true rfl) g_b169 (List.mem_of_getElem? (i := 0) rfl) at_40 (fun h172 W172 V172 => ?_)
  have hn : n0 ≤ h172.size := by rw [W172.size]; exact hn
  replace S_C := S_C.wr W172
  replace S_F := S_F.wr W172
  clear V171
  replace V172 : Arl Z h172 b169 k169 .char [(.int (nar .char ((p0 &&& (255 : Int32)).toUInt32.toUInt16.toUInt32.toInt32))), (.int (nar .char ((((p0.toUInt32 >>> ((8 : Int32) &&& 31).toUInt32).toInt32) &&& (255 : Int32)).toUInt32.toUInt16.toUInt32.toInt32))), (.int (nar .char ((((p0.toUInt32 >>> ((16 : Int32) &&& 31).toUInt32).toInt32) &&& (255 : Int32)).toUInt32.toUInt16.toUInt32.toInt32))), (.int (0 : Int32))] := V172
  refine Own.aload at_41 rfl rfl ?_
  refine Own.iconst (3 : Int32) at_43 rfl ?_
  refine Own.iloadN at_44 rfl ?_
  refine Own.bipush (24 : Int32) at_45 rfl ?_
  refine Own.iushr at_47 ?_
  refine Own.sipush (255 : Int32) at_48 rfl ?_
  refine Own.iand at_51 ?_
  refine Own.i2c at_52 ?_
  refine Own.castore_ V172 (i := 3) rfl (Nat.le_of_ble_eq_true rfl) g_b169 (List.mem_of_getElem? (i := 0) rfl) at_53 (fun h173 W173 V173 => ?_)
  have hn : n0 ≤ h173.size := by rw [W173.size]; exact hn
  replace S_C := S_C.wr W173
  replace S_F := S_F.wr W173
  clear V172
  replace V173 : Arl Z h173 b169 k169 .char [(.int (nar .char ((p0 &&& (255 : Int32)).toUInt32.toUInt16.toUInt32.toInt32))), (.int (nar .char ((((p0.toUInt32 >>> ((8 : Int32) &&& 31).toUInt32).toInt32) &&& (255 : Int32)).toUInt32.toUInt16.toUInt32.toInt32))), (.int (nar .char ((((p0.toUInt32 >>> ((16 : Int32) &&& 31).toUInt32).toInt32) &&& (255 : Int32)).toUInt32.toUInt16.toUInt32.toInt32))), (.int (nar .char ((((p0.toUInt32 >>> ((24 : Int32) &&& 31).toUInt32).toInt32) &&& (255 : Int32)).toUInt32.toUInt16.toUInt32.toInt32)))] := V173
  refine Own.new_ (hw _ (List.mem_of_getElem? (i := 1) rfl)) (hw _ (List.mem_of_getElem? (i := 2) rfl)) (hw _ (List.mem_of_getElem? (i := 3) rfl)) at_54 (by decide) (by decide) (fun h174 b174 gb174 E174 X174 D174 => ?_)
  have g_b174 : n0 ≤ b174 := by rw [gb174]; exact hn
  have ne_b169_b174 : b169 ≠ b174 := fun q => Nat.ne_of_lt V173.lt (q.trans gb174)
  have ne_b174_b169 := Ne.symm ne_b169_b174
  have hn := Nat.le_trans hn E174.1
  replace S_C := S_C.ext E174
  replace S_F := S_F.ext E174
  replace V173 := V173.ext E174
  have X_b174 := X174
  have F_coder_b174 : Fld Z h174 b174 "java/lang/String" "coder" "B" (.int (0 : Int32)) := D174 (Or.inr (hw _ (List.mem_of_getElem? (i := 27) rfl))) (ty := .byte) (by decide)
  have F_value_b174 : Fld Z h174 b174 "java/lang/String" "value" "[B" .null := D174 (Or.inr (hw _ (List.mem_of_getElem? (i := 29) rfl))) (ty := (.array .byte)) (by decide)
  refine Own.dup at_57 rfl ?_
  refine Own.aload at_58 rfl rfl ?_
  refine Own.callI_ b174 [(.ref b169)] [(.ref b174)] 1 (rm1k4 l Z a0 hw [] b174 b169 k169 zc (nar .char ((p0 &&& (255 : Int32)).toUInt32.toUInt16.toUInt32.toInt32)) (nar .char ((((p0.toUInt32 >>> ((8 : Int32) &&& 31).toUInt32).toInt32) &&& (255 : Int32)).toUInt32.toUInt16.toUInt32.toInt32)) (nar .char ((((p0.toUInt32 >>> ((16 : Int32) &&& 31).toUInt32).toInt32) &&& (255 : Int32)).toUInt32.toUInt16.toUInt32.toInt32)) (nar .char ((((p0.toUInt32 >>> ((24 : Int32) &&& 31).toUInt32).toInt32) &&& (255 : Int32)).toUInt32.toUInt16.toUInt32.toInt32)) h174 n0 hn X_b174 g_b174 F_value_b174 F_coder_b174 V173 ne_b169_b174 S_C hz (own_255 _) (own_255 _) (own_255 _) (own_255 _)) (allS (List.mem_of_getElem? (i := 0) rfl) all0) (hw _ (List.mem_of_getElem? (i := 4) rfl)) (hw _ (List.mem_of_getElem? (i := 5) rfl)) (hw _ (List.mem_of_getElem? (i := 3) rfl)) (hw _ (List.mem_of_getElem? (i := 6) rfl)) rfl (by decide) at_60 pd_16 rfl rfl rfl rfl (by decide) (by decide) (by decide) (by decide) (fun v175 h175 S175 hq175 => ?_)
  obtain ⟨rfl, K176, b176, k176, z176, Fv176, Fc176, V176⟩ := hq175
  have g_b176 : n0 ≤ b176 := Nat.le_trans hn z176
  have ne_b169_b176 : b169 ≠ b176 := Nat.ne_of_lt (Nat.lt_of_lt_of_le V173.lt z176)
  have ne_b176_b169 := Ne.symm ne_b169_b176
  have ne_b174_b176 : b174 ≠ b176 := Nat.ne_of_lt (Nat.lt_of_lt_of_le X_b174.lt z176)
  have ne_b176_b174 := Ne.symm ne_b174_b176
  have hn := Nat.le_trans hn K176.1
  replace S_C := sta_keep S_C K176 (nsS X_b174.nostat ns0)
  replace S_F := sta_keep S_F K176 (nsS X_b174.nostat ns0)
  replace V173 := V173.keep K176 (ninS ne_b169_b174 nin0)
  replace X_b174 := X_b174.keep K176
  have F_value_b174 := Fv176
  have F_coder_b174 := Fc176
  refine ⟨[], all0, ?_⟩
  refine OAt.cast (st' := [(.ref b174)]) rfl ?_
  refine Own.astore #[.val (.int p0), .val (.int p1), .val (.int p2), .val (.int p3), .val (.ref b169), .val (.ref b174), .unset, .unset, .unset, .unset, .unset, .unset] at_63 rfl rfl ?_
  refine Own.iloadN at_65 rfl ?_
  refine Own.ldcInt (hw _ (List.mem_of_getElem? (i := 30) rfl)) at_66 ?_
  refine Own.iand at_68 ?_
  refine Own.iconst (5 : Int32) at_69 rfl ?_
  refine Own.irem_ at_70 (by decide) ?_
  obtain ⟨uf, e_uf⟩ : ∃ z : Int32, z = ((p1 &&& (2147483647 : Int32)) % (5 : Int32)) := ⟨_, rfl⟩
  rw [← e_uf]
  refine Own.istore #[.val (.int p0), .val (.int p1), .val (.int p2), .val (.int p3), .val (.ref b169), .val (.ref b174), .val (.int uf), .unset, .unset, .unset, .unset, .unset] at_71 rfl ?_
  refine Own.iload at_73 rfl ?_
  refine Own.iloadN at_75 rfl ?_
  refine Own.ldcInt (hw _ (List.mem_of_getElem? (i := 30) rfl)) at_76 ?_
  refine Own.iand at_78 ?_
  refine Own.iconst (5 : Int32) at_79 rfl ?_
  refine Own.iload at_80 rfl ?_
  refine Own.isub at_82 ?_
  refine Own.irem_ at_83 (by intro q; rcases (show uf = 0 ∨ uf = 1 ∨ uf = 2 ∨ uf = 3 ∨ uf = 4 by rw [e_uf]; exact own_f5 p1) with rfl | rfl | rfl | rfl | rfl <;> exact absurd q (by decide)) ?_
  refine Own.iadd at_84 ?_
  obtain ⟨uo, e_uo⟩ : ∃ z : Int32, z = (uf + ((p2 &&& (2147483647 : Int32)) % ((5 : Int32) - uf))) := ⟨_, rfl⟩
  rw [← e_uo]
  refine Own.istore #[.val (.int p0), .val (.int p1), .val (.int p2), .val (.int p3), .val (.ref b169), .val (.ref b174), .val (.int uf), .val (.int uo), .unset, .unset, .unset, .unset] at_85 rfl ?_
  have hf : uf = 0 ∨ uf = 1 ∨ uf = 2 ∨ uf = 3 ∨ uf = 4 := by rw [e_uf]; exact own_f5 p1
  rcases hf with rfl | rfl | rfl | rfl | rfl
  · have ht : uo = 0 ∨ uo = 1 ∨ uo = 2 ∨ uo = 3 ∨ uo = 4 := by rw [e_uo]; exact own_t0 p2
    rcases ht with rfl | rfl | rfl | rfl | rfl
    · refine Own.new_ (hw _ (List.mem_of_getElem? (i := 31) rfl)) (hw _ (List.mem_of_getElem? (i := 32) rfl)) (hw _ (List.mem_of_getElem? (i := 33) rfl)) at_87 (by decide) (by decide) (fun h177 b177 gb177 E177 X177 D177 => ?_)
      have g_b177 : n0 ≤ b177 := by rw [gb177]; exact hn
      have ne_b169_b177 : b169 ≠ b177 := fun q => Nat.ne_of_lt V173.lt (q.trans gb177)
      have ne_b177_b169 := Ne.symm ne_b169_b177
      have ne_b174_b177 : b174 ≠ b177 := fun q => Nat.ne_of_lt X_b174.lt (q.trans gb177)
      have ne_b177_b174 := Ne.symm ne_b174_b177
      have ne_b176_b177 : b176 ≠ b177 := fun q => Nat.ne_of_lt V176.lt (q.trans gb177)
      have ne_b177_b176 := Ne.symm ne_b176_b177
      have hn := Nat.le_trans hn E177.1
      replace S_C := S_C.ext E177
      replace S_F := S_F.ext E177
      replace V173 := V173.ext E177
      replace X_b174 := X_b174.ext E177
      replace F_value_b174 := F_value_b174.ext E177
      replace F_coder_b174 := F_coder_b174.ext E177
      replace V176 := V176.ext E177
      have X_b177 := X177
      have F_text_b177 : Fld Z h177 b177 "com/example/cytorelay/cytorelay/core/Hl7Syntax$Span" "text" "Ljava/lang/String;" .null := D177 (Or.inr (hw _ (List.mem_of_getElem? (i := 44) rfl))) (ty := (.object "java/lang/String")) (by decide)
      have F_from_b177 : Fld Z h177 b177 "com/example/cytorelay/cytorelay/core/Hl7Syntax$Span" "from" "I" (.int (0 : Int32)) := D177 (Or.inr (hw _ (List.mem_of_getElem? (i := 46) rfl))) (ty := .int) (by decide)
      have F_to_b177 : Fld Z h177 b177 "com/example/cytorelay/cytorelay/core/Hl7Syntax$Span" "to" "I" (.int (0 : Int32)) := D177 (Or.inr (hw _ (List.mem_of_getElem? (i := 48) rfl))) (ty := .int) (by decide)
      refine Own.dup at_90 rfl ?_
      refine Own.aload at_91 rfl rfl ?_
      refine Own.iload at_93 rfl ?_
      refine Own.iload at_95 rfl ?_
      refine Own.callI_ b177 [(.ref b174), (.int (0 : Int32)), (.int (0 : Int32))] [(.ref b177)] 1 (rmSP l Z a0 hw [] b177 b174 (0 : Int32) (0 : Int32) h177 n0 hn g_b177 X_b177 F_text_b177 F_from_b177 F_to_b177) (allS (List.mem_of_getElem? (i := 0) rfl) all0) (hw _ (List.mem_of_getElem? (i := 34) rfl)) (hw _ (List.mem_of_getElem? (i := 35) rfl)) (hw _ (List.mem_of_getElem? (i := 33) rfl)) (hw _ (List.mem_of_getElem? (i := 36) rfl)) rfl (by decide) at_97 pd_11 rfl rfl rfl rfl (by decide) (by decide) (by decide) (by decide) (fun v178 h178 S178 hq178 => ?_)
      obtain ⟨rfl, K179, G1, G2, G3⟩ := hq178
      have hn := Nat.le_trans hn K179.1
      replace S_C := sta_keep S_C K179 (nsS X_b177.nostat ns0)
      replace S_F := sta_keep S_F K179 (nsS X_b177.nostat ns0)
      replace V173 := V173.keep K179 (ninS ne_b169_b177 nin0)
      replace X_b174 := X_b174.keep K179
      replace F_value_b174 := F_value_b174.keep K179 (ninS ne_b174_b177 nin0)
      replace F_coder_b174 := F_coder_b174.keep K179 (ninS ne_b174_b177 nin0)
      replace V176 := V176.keep K179 (ninS ne_b176_b177 nin0)
      replace X_b177 := X_b177.keep K179
      have F_text_b177 := G1
      have F_from_b177 := G2
      have F_to_b177 := G3
      refine ⟨[], all0, ?_⟩
      refine OAt.cast (st' := [(.ref b177)]) rfl ?_
      refine Own.astore #[.val (.int p0), .val (.int p1), .val (.int p2), .val (.int p3), .val (.ref b169), .val (.ref b174), .val (.int (0 : Int32)), .val (.int (0 : Int32)), .val (.ref b177), .unset, .unset, .unset] at_100 rfl rfl ?_
      refine Own.aload at_102 rfl rfl ?_
      refine Own.callVP b177 [] [] 0 (rmSE0_0 l Z a0 hw [] b177  h178 n0 hn F_from_b177 F_to_b177) (hw _ (List.mem_of_getElem? (i := 49) rfl)) (hw _ (List.mem_of_getElem? (i := 50) rfl)) (fun s hZ => notFace_of_selects (args := #[]) (mvT hZ (hw _ (List.mem_of_getElem? (i := 52) rfl)))) (hw _ (List.mem_of_getElem? (i := 52) rfl)) (hw _ (List.mem_of_getElem? (i := 51) rfl)) (hw _ (List.mem_of_getElem? (i := 33) rfl)) (hw _ (List.mem_of_getElem? (i := 53) rfl)) (by decide) X_b177 at_104 pd_4 rfl rfl rfl rfl (by decide) (by decide) (by decide) (by decide) ?_
      refine Own.istore #[.val (.int p0), .val (.int p1), .val (.int p2), .val (.int p3), .val (.ref b169), .val (.ref b174), .val (.int (0 : Int32)), .val (.int (0 : Int32)), .val (.ref b177), .val (.int (1 : Int32)), .unset, .unset] at_107 rfl ?_
      refine Own.aload at_109 rfl rfl ?_
      refine Own.callV_ b177 [] [] 0 (rmCut0_0 l Z a0 hw [] b177 b174 b176 k176 zc vf (nar .byte ((nar .char ((p0 &&& (255 : Int32)).toUInt32.toUInt16.toUInt32.toInt32)).toInt8.toInt32)) (nar .byte ((nar .char ((((p0.toUInt32 >>> ((8 : Int32) &&& 31).toUInt32).toInt32) &&& (255 : Int32)).toUInt32.toUInt16.toUInt32.toInt32)).toInt8.toInt32)) (nar .byte ((nar .char ((((p0.toUInt32 >>> ((16 : Int32) &&& 31).toUInt32).toInt32) &&& (255 : Int32)).toUInt32.toUInt16.toUInt32.toInt32)).toInt8.toInt32)) (nar .byte ((nar .char ((((p0.toUInt32 >>> ((24 : Int32) &&& 31).toUInt32).toInt32) &&& (255 : Int32)).toUInt32.toUInt16.toUInt32.toInt32)).toInt8.toInt32)) h178 n0 hn X_b174 F_value_b174 F_coder_b174 V176 S_C S_F hz hvf F_text_b177 F_from_b177 F_to_b177) all0 (hw _ (List.mem_of_getElem? (i := 54) rfl)) (hw _ (List.mem_of_getElem? (i := 55) rfl)) (fun s hZ => notFace_of_selects (args := #[]) (mvT hZ (hw _ (List.mem_of_getElem? (i := 57) rfl)))) (hw _ (List.mem_of_getElem? (i := 57) rfl)) (hw _ (List.mem_of_getElem? (i := 56) rfl)) (hw _ (List.mem_of_getElem? (i := 33) rfl)) (hw _ (List.mem_of_getElem? (i := 58) rfl)) (by decide) X_b177 at_111 pd_2 rfl rfl rfl rfl (by decide) (by decide) (by decide) (by decide) (fun v180 h180 S180 hq180 => ?_)
      obtain ⟨K181, s181, t181, kt181, rfl, X_s181, F_value_s181, F_coder_s181, V_t181⟩ := hq180
      have hn := Nat.le_trans hn K181.1
      replace S_C := sta_keep S_C K181 ns0
      replace S_F := sta_keep S_F K181 ns0
      replace V173 := V173.keep K181 nin0
      replace X_b174 := X_b174.keep K181
      replace F_value_b174 := F_value_b174.keep K181 nin0
      replace F_coder_b174 := F_coder_b174.keep K181 nin0
      replace V176 := V176.keep K181 nin0
      replace X_b177 := X_b177.keep K181
      replace F_text_b177 := F_text_b177.keep K181 nin0
      replace F_from_b177 := F_from_b177.keep K181 nin0
      replace F_to_b177 := F_to_b177.keep K181 nin0
      refine ⟨[], all0, ?_⟩
      refine OAt.cast (st' := [(.ref s181)]) rfl ?_
      refine Own.callVP s181 [] [] 0 (rm_empty_0 l Z a0 hw [] s181 t181 kt181 _ zc h180 n0 hn X_s181 F_value_s181 F_coder_s181 V_t181 rfl S_C hz) (hw _ (List.mem_of_getElem? (i := 94) rfl)) (hw _ (List.mem_of_getElem? (i := 95) rfl)) (fun s hZ => notFace_of_selects (args := #[]) (mvT hZ (hw _ (List.mem_of_getElem? (i := 97) rfl)))) (hw _ (List.mem_of_getElem? (i := 97) rfl)) (hw _ (List.mem_of_getElem? (i := 96) rfl)) (hw _ (List.mem_of_getElem? (i := 3) rfl)) (hw _ (List.mem_of_getElem? (i := 98) rfl)) (by decide) X_s181 at_114 pd_4 rfl rfl rfl rfl (by decide) (by decide) (by decide) (by decide) ?_
      refine Own.istore #[.val (.int p0), .val (.int p1), .val (.int p2), .val (.int p3), .val (.ref b169), .val (.ref b174), .val (.int (0 : Int32)), .val (.int (0 : Int32)), .val (.ref b177), .val (.int (1 : Int32)), .val (.int (1 : Int32)), .unset] at_117 rfl ?_
      refine Own.new_ (hw _ (List.mem_of_getElem? (i := 31) rfl)) (hw _ (List.mem_of_getElem? (i := 32) rfl)) (hw _ (List.mem_of_getElem? (i := 33) rfl)) at_119 (by decide) (by decide) (fun h182 b182 gb182 E182 X182 D182 => ?_)
      have g_b182 : n0 ≤ b182 := by rw [gb182]; exact hn
      have ne_b169_b182 : b169 ≠ b182 := fun q => Nat.ne_of_lt V173.lt (q.trans gb182)
      have ne_b182_b169 := Ne.symm ne_b169_b182
      have ne_b174_b182 : b174 ≠ b182 := fun q => Nat.ne_of_lt X_b174.lt (q.trans gb182)
      have ne_b182_b174 := Ne.symm ne_b174_b182
      have ne_b176_b182 : b176 ≠ b182 := fun q => Nat.ne_of_lt V176.lt (q.trans gb182)
      have ne_b182_b176 := Ne.symm ne_b176_b182
      have ne_b177_b182 : b177 ≠ b182 := fun q => Nat.ne_of_lt X_b177.lt (q.trans gb182)
      have ne_b182_b177 := Ne.symm ne_b177_b182
      have ne_s181_b182 : s181 ≠ b182 := fun q => Nat.ne_of_lt X_s181.lt (q.trans gb182)
      have ne_b182_s181 := Ne.symm ne_s181_b182
      have ne_t181_b182 : t181 ≠ b182 := fun q => Nat.ne_of_lt V_t181.lt (q.trans gb182)
      have ne_b182_t181 := Ne.symm ne_t181_b182
      have hn := Nat.le_trans hn E182.1
      replace S_C := S_C.ext E182
      replace S_F := S_F.ext E182
      replace V173 := V173.ext E182
      replace X_b174 := X_b174.ext E182
      replace F_value_b174 := F_value_b174.ext E182
      replace F_coder_b174 := F_coder_b174.ext E182
      replace V176 := V176.ext E182
      replace X_b177 := X_b177.ext E182
      replace F_text_b177 := F_text_b177.ext E182
      replace F_from_b177 := F_from_b177.ext E182
      replace F_to_b177 := F_to_b177.ext E182
      replace X_s181 := X_s181.ext E182
      replace F_value_s181 := F_value_s181.ext E182
      replace F_coder_s181 := F_coder_s181.ext E182
      replace V_t181 := V_t181.ext E182
      have X_b182 := X182
      have F_text_b182 : Fld Z h182 b182 "com/example/cytorelay/cytorelay/core/Hl7Syntax$Span" "text" "Ljava/lang/String;" .null := D182 (Or.inr (hw _ (List.mem_of_getElem? (i := 44) rfl))) (ty := (.object "java/lang/String")) (by decide)
      have F_from_b182 : Fld Z h182 b182 "com/example/cytorelay/cytorelay/core/Hl7Syntax$Span" "from" "I" (.int (0 : Int32)) := D182 (Or.inr (hw _ (List.mem_of_getElem? (i := 46) rfl))) (ty := .int) (by decide)
      have F_to_b182 : Fld Z h182 b182 "com/example/cytorelay/cytorelay/core/Hl7Syntax$Span" "to" "I" (.int (0 : Int32)) := D182 (Or.inr (hw _ (List.mem_of_getElem? (i := 48) rfl))) (ty := .int) (by decide)
      refine Own.dup at_122 rfl ?_
      refine Own.aload at_123 rfl rfl ?_
      refine Own.iloadN at_125 rfl ?_
      refine Own.iloadN at_126 rfl ?_
      refine Own.callI_ b182 [(.ref b174), (.int p3), (.int p3)] [(.ref b182)] 1 (rmSP l Z a0 hw [] b182 b174 p3 p3 h182 n0 hn g_b182 X_b182 F_text_b182 F_from_b182 F_to_b182) (allS (List.mem_of_getElem? (i := 0) rfl) all0) (hw _ (List.mem_of_getElem? (i := 34) rfl)) (hw _ (List.mem_of_getElem? (i := 35) rfl)) (hw _ (List.mem_of_getElem? (i := 33) rfl)) (hw _ (List.mem_of_getElem? (i := 36) rfl)) rfl (by decide) at_127 pd_11 rfl rfl rfl rfl (by decide) (by decide) (by decide) (by decide) (fun v183 h183 S183 hq183 => ?_)
      obtain ⟨rfl, K184, G1, G2, G3⟩ := hq183
      have hn := Nat.le_trans hn K184.1
      replace S_C := sta_keep S_C K184 (nsS X_b182.nostat ns0)
      replace S_F := sta_keep S_F K184 (nsS X_b182.nostat ns0)
      replace V173 := V173.keep K184 (ninS ne_b169_b182 nin0)
      replace X_b174 := X_b174.keep K184
      replace F_value_b174 := F_value_b174.keep K184 (ninS ne_b174_b182 nin0)
      replace F_coder_b174 := F_coder_b174.keep K184 (ninS ne_b174_b182 nin0)
      replace V176 := V176.keep K184 (ninS ne_b176_b182 nin0)
      replace X_b177 := X_b177.keep K184
      replace F_text_b177 := F_text_b177.keep K184 (ninS ne_b177_b182 nin0)
      replace F_from_b177 := F_from_b177.keep K184 (ninS ne_b177_b182 nin0)
      replace F_to_b177 := F_to_b177.keep K184 (ninS ne_b177_b182 nin0)
      replace X_s181 := X_s181.keep K184
      replace F_value_s181 := F_value_s181.keep K184 (ninS ne_s181_b182 nin0)
      replace F_coder_s181 := F_coder_s181.keep K184 (ninS ne_s181_b182 nin0)
      replace V_t181 := V_t181.keep K184 (ninS ne_t181_b182 nin0)
      replace X_b182 := X_b182.keep K184
      have F_text_b182 := G1
      have F_from_b182 := G2
      have F_to_b182 := G3
      refine ⟨[], all0, ?_⟩
      refine OAt.cast (st' := [(.ref b182)]) rfl ?_
      refine Own.callVP b182 [] [] 0 (rmSEq l Z a0 hw [] b182 p3 h183 n0 hn F_from_b182 F_to_b182) (hw _ (List.mem_of_getElem? (i := 49) rfl)) (hw _ (List.mem_of_getElem? (i := 50) rfl)) (fun s hZ => notFace_of_selects (args := #[]) (mvT hZ (hw _ (List.mem_of_getElem? (i := 52) rfl)))) (hw _ (List.mem_of_getElem? (i := 52) rfl)) (hw _ (List.mem_of_getElem? (i := 51) rfl)) (hw _ (List.mem_of_getElem? (i := 33) rfl)) (hw _ (List.mem_of_getElem? (i := 53) rfl)) (by decide) X_b182 at_130 pd_4 rfl rfl rfl rfl (by decide) (by decide) (by decide) (by decide) ?_
      refine Own.istore #[.val (.int p0), .val (.int p1), .val (.int p2), .val (.int p3), .val (.ref b169), .val (.ref b174), .val (.int (0 : Int32)), .val (.int (0 : Int32)), .val (.ref b177), .val (.int (1 : Int32)), .val (.int (1 : Int32)), .val (.int (1 : Int32))] at_133 rfl ?_
      refine Own.iload at_135 rfl ?_
      refine Own.iload at_137 rfl ?_
      refine Own.icmp_ne 151 at_139 (by decide) rfl (fun q => absurd (by decide) q) (fun _ => ?_)
      refine Own.iload at_142 rfl ?_
      refine Own.if_eq 151 at_144 (by decide) rfl (fun q => absurd q (by decide)) (fun _ => ?_)
      refine Own.iconst (1 : Int32) at_147 rfl ?_
      refine Own.goto_ 152 at_148 (by decide) rfl ?_
      refine Own.ret_nar (t := .boolean) (by simp) rfl at_152 (by decide) (by decide) (fun Sf hSf => ?_)
      exact rfl
    · refine Own.new_ (hw _ (List.mem_of_getElem? (i := 31) rfl)) (hw _ (List.mem_of_getElem? (i := 32) rfl)) (hw _ (List.mem_of_getElem? (i := 33) rfl)) at_87 (by decide) (by decide) (fun h185 b185 gb185 E185 X185 D185 => ?_)
      have g_b185 : n0 ≤ b185 := by rw [gb185]; exact hn
      have ne_b169_b185 : b169 ≠ b185 := fun q => Nat.ne_of_lt V173.lt (q.trans gb185)
      have ne_b185_b169 := Ne.symm ne_b169_b185
      have ne_b174_b185 : b174 ≠ b185 := fun q => Nat.ne_of_lt X_b174.lt (q.trans gb185)
      have ne_b185_b174 := Ne.symm ne_b174_b185
      have ne_b176_b185 : b176 ≠ b185 := fun q => Nat.ne_of_lt V176.lt (q.trans gb185)
      have ne_b185_b176 := Ne.symm ne_b176_b185
      have hn := Nat.le_trans hn E185.1
      replace S_C := S_C.ext E185
      replace S_F := S_F.ext E185
      replace V173 := V173.ext E185
      replace X_b174 := X_b174.ext E185
      replace F_value_b174 := F_value_b174.ext E185
      replace F_coder_b174 := F_coder_b174.ext E185
      replace V176 := V176.ext E185
      have X_b185 := X185
      have F_text_b185 : Fld Z h185 b185 "com/example/cytorelay/cytorelay/core/Hl7Syntax$Span" "text" "Ljava/lang/String;" .null := D185 (Or.inr (hw _ (List.mem_of_getElem? (i := 44) rfl))) (ty := (.object "java/lang/String")) (by decide)
      have F_from_b185 : Fld Z h185 b185 "com/example/cytorelay/cytorelay/core/Hl7Syntax$Span" "from" "I" (.int (0 : Int32)) := D185 (Or.inr (hw _ (List.mem_of_getElem? (i := 46) rfl))) (ty := .int) (by decide)
      have F_to_b185 : Fld Z h185 b185 "com/example/cytorelay/cytorelay/core/Hl7Syntax$Span" "to" "I" (.int (0 : Int32)) := D185 (Or.inr (hw _ (List.mem_of_getElem? (i := 48) rfl))) (ty := .int) (by decide)
      refine Own.dup at_90 rfl ?_
      refine Own.aload at_91 rfl rfl ?_
      refine Own.iload at_93 rfl ?_
      refine Own.iload at_95 rfl ?_
      refine Own.callI_ b185 [(.ref b174), (.int (0 : Int32)), (.int (1 : Int32))] [(.ref b185)] 1 (rmSP l Z a0 hw [] b185 b174 (0 : Int32) (1 : Int32) h185 n0 hn g_b185 X_b185 F_text_b185 F_from_b185 F_to_b185) (allS (List.mem_of_getElem? (i := 0) rfl) all0) (hw _ (List.mem_of_getElem? (i := 34) rfl)) (hw _ (List.mem_of_getElem? (i := 35) rfl)) (hw _ (List.mem_of_getElem? (i := 33) rfl)) (hw _ (List.mem_of_getElem? (i := 36) rfl)) rfl (by decide) at_97 pd_11 rfl rfl rfl rfl (by decide) (by decide) (by decide) (by decide) (fun v186 h186 S186 hq186 => ?_)
      obtain ⟨rfl, K187, G1, G2, G3⟩ := hq186
      have hn := Nat.le_trans hn K187.1
      replace S_C := sta_keep S_C K187 (nsS X_b185.nostat ns0)
      replace S_F := sta_keep S_F K187 (nsS X_b185.nostat ns0)
      replace V173 := V173.keep K187 (ninS ne_b169_b185 nin0)
      replace X_b174 := X_b174.keep K187
      replace F_value_b174 := F_value_b174.keep K187 (ninS ne_b174_b185 nin0)
      replace F_coder_b174 := F_coder_b174.keep K187 (ninS ne_b174_b185 nin0)
      replace V176 := V176.keep K187 (ninS ne_b176_b185 nin0)
      replace X_b185 := X_b185.keep K187
      have F_text_b185 := G1
      have F_from_b185 := G2
      have F_to_b185 := G3
      refine ⟨[], all0, ?_⟩
      refine OAt.cast (st' := [(.ref b185)]) rfl ?_
      refine Own.astore #[.val (.int p0), .val (.int p1), .val (.int p2), .val (.int p3), .val (.ref b169), .val (.ref b174), .val (.int (0 : Int32)), .val (.int (1 : Int32)), .val (.ref b185), .unset, .unset, .unset] at_100 rfl rfl ?_
      refine Own.aload at_102 rfl rfl ?_
      refine Own.callVP b185 [] [] 0 (rmSE0_1 l Z a0 hw [] b185  h186 n0 hn F_from_b185 F_to_b185) (hw _ (List.mem_of_getElem? (i := 49) rfl)) (hw _ (List.mem_of_getElem? (i := 50) rfl)) (fun s hZ => notFace_of_selects (args := #[]) (mvT hZ (hw _ (List.mem_of_getElem? (i := 52) rfl)))) (hw _ (List.mem_of_getElem? (i := 52) rfl)) (hw _ (List.mem_of_getElem? (i := 51) rfl)) (hw _ (List.mem_of_getElem? (i := 33) rfl)) (hw _ (List.mem_of_getElem? (i := 53) rfl)) (by decide) X_b185 at_104 pd_4 rfl rfl rfl rfl (by decide) (by decide) (by decide) (by decide) ?_
      refine Own.istore #[.val (.int p0), .val (.int p1), .val (.int p2), .val (.int p3), .val (.ref b169), .val (.ref b174), .val (.int (0 : Int32)), .val (.int (1 : Int32)), .val (.ref b185), .val (.int (0 : Int32)), .unset, .unset] at_107 rfl ?_
      refine Own.aload at_109 rfl rfl ?_
      refine Own.callV_ b185 [] [] 0 (rmCut0_1 l Z a0 hw [] b185 b174 b176 k176 zc vf (nar .byte ((nar .char ((p0 &&& (255 : Int32)).toUInt32.toUInt16.toUInt32.toInt32)).toInt8.toInt32)) (nar .byte ((nar .char ((((p0.toUInt32 >>> ((8 : Int32) &&& 31).toUInt32).toInt32) &&& (255 : Int32)).toUInt32.toUInt16.toUInt32.toInt32)).toInt8.toInt32)) (nar .byte ((nar .char ((((p0.toUInt32 >>> ((16 : Int32) &&& 31).toUInt32).toInt32) &&& (255 : Int32)).toUInt32.toUInt16.toUInt32.toInt32)).toInt8.toInt32)) (nar .byte ((nar .char ((((p0.toUInt32 >>> ((24 : Int32) &&& 31).toUInt32).toInt32) &&& (255 : Int32)).toUInt32.toUInt16.toUInt32.toInt32)).toInt8.toInt32)) h186 n0 hn X_b174 F_value_b174 F_coder_b174 V176 S_C S_F hz hvf F_text_b185 F_from_b185 F_to_b185) all0 (hw _ (List.mem_of_getElem? (i := 54) rfl)) (hw _ (List.mem_of_getElem? (i := 55) rfl)) (fun s hZ => notFace_of_selects (args := #[]) (mvT hZ (hw _ (List.mem_of_getElem? (i := 57) rfl)))) (hw _ (List.mem_of_getElem? (i := 57) rfl)) (hw _ (List.mem_of_getElem? (i := 56) rfl)) (hw _ (List.mem_of_getElem? (i := 33) rfl)) (hw _ (List.mem_of_getElem? (i := 58) rfl)) (by decide) X_b185 at_111 pd_2 rfl rfl rfl rfl (by decide) (by decide) (by decide) (by decide) (fun v188 h188 S188 hq188 => ?_)
      obtain ⟨K189, s189, t189, kt189, rfl, X_s189, F_value_s189, F_coder_s189, V_t189⟩ := hq188
      have hn := Nat.le_trans hn K189.1
      replace S_C := sta_keep S_C K189 ns0
      replace S_F := sta_keep S_F K189 ns0
      replace V173 := V173.keep K189 nin0
      replace X_b174 := X_b174.keep K189
      replace F_value_b174 := F_value_b174.keep K189 nin0
      replace F_coder_b174 := F_coder_b174.keep K189 nin0
      replace V176 := V176.keep K189 nin0
      replace X_b185 := X_b185.keep K189
      replace F_text_b185 := F_text_b185.keep K189 nin0
      replace F_from_b185 := F_from_b185.keep K189 nin0
      replace F_to_b185 := F_to_b185.keep K189 nin0
      refine ⟨[], all0, ?_⟩
      refine OAt.cast (st' := [(.ref s189)]) rfl ?_
      refine Own.callVP s189 [] [] 0 (rm_empty_1 l Z a0 hw [] s189 t189 kt189 _ zc h188 n0 hn X_s189 F_value_s189 F_coder_s189 V_t189 rfl S_C hz) (hw _ (List.mem_of_getElem? (i := 94) rfl)) (hw _ (List.mem_of_getElem? (i := 95) rfl)) (fun s hZ => notFace_of_selects (args := #[]) (mvT hZ (hw _ (List.mem_of_getElem? (i := 97) rfl)))) (hw _ (List.mem_of_getElem? (i := 97) rfl)) (hw _ (List.mem_of_getElem? (i := 96) rfl)) (hw _ (List.mem_of_getElem? (i := 3) rfl)) (hw _ (List.mem_of_getElem? (i := 98) rfl)) (by decide) X_s189 at_114 pd_4 rfl rfl rfl rfl (by decide) (by decide) (by decide) (by decide) ?_
      refine Own.istore #[.val (.int p0), .val (.int p1), .val (.int p2), .val (.int p3), .val (.ref b169), .val (.ref b174), .val (.int (0 : Int32)), .val (.int (1 : Int32)), .val (.ref b185), .val (.int (0 : Int32)), .val (.int (0 : Int32)), .unset] at_117 rfl ?_
      refine Own.new_ (hw _ (List.mem_of_getElem? (i := 31) rfl)) (hw _ (List.mem_of_getElem? (i := 32) rfl)) (hw _ (List.mem_of_getElem? (i := 33) rfl)) at_119 (by decide) (by decide) (fun h190 b190 gb190 E190 X190 D190 => ?_)
      have g_b190 : n0 ≤ b190 := by rw [gb190]; exact hn
      have ne_b169_b190 : b169 ≠ b190 := fun q => Nat.ne_of_lt V173.lt (q.trans gb190)
      have ne_b190_b169 := Ne.symm ne_b169_b190
      have ne_b174_b190 : b174 ≠ b190 := fun q => Nat.ne_of_lt X_b174.lt (q.trans gb190)
      have ne_b190_b174 := Ne.symm ne_b174_b190
      have ne_b176_b190 : b176 ≠ b190 := fun q => Nat.ne_of_lt V176.lt (q.trans gb190)
      have ne_b190_b176 := Ne.symm ne_b176_b190
      have ne_b185_b190 : b185 ≠ b190 := fun q => Nat.ne_of_lt X_b185.lt (q.trans gb190)
      have ne_b190_b185 := Ne.symm ne_b185_b190
      have ne_s189_b190 : s189 ≠ b190 := fun q => Nat.ne_of_lt X_s189.lt (q.trans gb190)
      have ne_b190_s189 := Ne.symm ne_s189_b190
      have ne_t189_b190 : t189 ≠ b190 := fun q => Nat.ne_of_lt V_t189.lt (q.trans gb190)
      have ne_b190_t189 := Ne.symm ne_t189_b190
      have hn := Nat.le_trans hn E190.1
      replace S_C := S_C.ext E190
      replace S_F := S_F.ext E190
      replace V173 := V173.ext E190
      replace X_b174 := X_b174.ext E190
      replace F_value_b174 := F_value_b174.ext E190
      replace F_coder_b174 := F_coder_b174.ext E190
      replace V176 := V176.ext E190
      replace X_b185 := X_b185.ext E190
      replace F_text_b185 := F_text_b185.ext E190
      replace F_from_b185 := F_from_b185.ext E190
      replace F_to_b185 := F_to_b185.ext E190
      replace X_s189 := X_s189.ext E190
      replace F_value_s189 := F_value_s189.ext E190
      replace F_coder_s189 := F_coder_s189.ext E190
      replace V_t189 := V_t189.ext E190
      have X_b190 := X190
      have F_text_b190 : Fld Z h190 b190 "com/example/cytorelay/cytorelay/core/Hl7Syntax$Span" "text" "Ljava/lang/String;" .null := D190 (Or.inr (hw _ (List.mem_of_getElem? (i := 44) rfl))) (ty := (.object "java/lang/String")) (by decide)
      have F_from_b190 : Fld Z h190 b190 "com/example/cytorelay/cytorelay/core/Hl7Syntax$Span" "from" "I" (.int (0 : Int32)) := D190 (Or.inr (hw _ (List.mem_of_getElem? (i := 46) rfl))) (ty := .int) (by decide)
      have F_to_b190 : Fld Z h190 b190 "com/example/cytorelay/cytorelay/core/Hl7Syntax$Span" "to" "I" (.int (0 : Int32)) := D190 (Or.inr (hw _ (List.mem_of_getElem? (i := 48) rfl))) (ty := .int) (by decide)
      refine Own.dup at_122 rfl ?_
      refine Own.aload at_123 rfl rfl ?_
      refine Own.iloadN at_125 rfl ?_
      refine Own.iloadN at_126 rfl ?_
      refine Own.callI_ b190 [(.ref b174), (.int p3), (.int p3)] [(.ref b190)] 1 (rmSP l Z a0 hw [] b190 b174 p3 p3 h190 n0 hn g_b190 X_b190 F_text_b190 F_from_b190 F_to_b190) (allS (List.mem_of_getElem? (i := 0) rfl) all0) (hw _ (List.mem_of_getElem? (i := 34) rfl)) (hw _ (List.mem_of_getElem? (i := 35) rfl)) (hw _ (List.mem_of_getElem? (i := 33) rfl)) (hw _ (List.mem_of_getElem? (i := 36) rfl)) rfl (by decide) at_127 pd_11 rfl rfl rfl rfl (by decide) (by decide) (by decide) (by decide) (fun v191 h191 S191 hq191 => ?_)
      obtain ⟨rfl, K192, G1, G2, G3⟩ := hq191
      have hn := Nat.le_trans hn K192.1
      replace S_C := sta_keep S_C K192 (nsS X_b190.nostat ns0)
      replace S_F := sta_keep S_F K192 (nsS X_b190.nostat ns0)
      replace V173 := V173.keep K192 (ninS ne_b169_b190 nin0)
      replace X_b174 := X_b174.keep K192
      replace F_value_b174 := F_value_b174.keep K192 (ninS ne_b174_b190 nin0)
      replace F_coder_b174 := F_coder_b174.keep K192 (ninS ne_b174_b190 nin0)
      replace V176 := V176.keep K192 (ninS ne_b176_b190 nin0)
      replace X_b185 := X_b185.keep K192
      replace F_text_b185 := F_text_b185.keep K192 (ninS ne_b185_b190 nin0)
      replace F_from_b185 := F_from_b185.keep K192 (ninS ne_b185_b190 nin0)
      replace F_to_b185 := F_to_b185.keep K192 (ninS ne_b185_b190 nin0)
      replace X_s189 := X_s189.keep K192
      replace F_value_s189 := F_value_s189.keep K192 (ninS ne_s189_b190 nin0)
      replace F_coder_s189 := F_coder_s189.keep K192 (ninS ne_s189_b190 nin0)
      replace V_t189 := V_t189.keep K192 (ninS ne_t189_b190 nin0)
      replace X_b190 := X_b190.keep K192
      have F_text_b190 := G1
      have F_from_b190 := G2
      have F_to_b190 := G3
      refine ⟨[], all0, ?_⟩
      refine OAt.cast (st' := [(.ref b190)]) rfl ?_
      refine Own.callVP b190 [] [] 0 (rmSEq l Z a0 hw [] b190 p3 h191 n0 hn F_from_b190 F_to_b190) (hw _ (List.mem_of_getElem? (i := 49) rfl)) (hw _ (List.mem_of_getElem? (i := 50) rfl)) (fun s hZ => notFace_of_selects (args := #[]) (mvT hZ (hw _ (List.mem_of_getElem? (i := 52) rfl)))) (hw _ (List.mem_of_getElem? (i := 52) rfl)) (hw _ (List.mem_of_getElem? (i := 51) rfl)) (hw _ (List.mem_of_getElem? (i := 33) rfl)) (hw _ (List.mem_of_getElem? (i := 53) rfl)) (by decide) X_b190 at_130 pd_4 rfl rfl rfl rfl (by decide) (by decide) (by decide) (by decide) ?_
      refine Own.istore #[.val (.int p0), .val (.int p1), .val (.int p2), .val (.int p3), .val (.ref b169), .val (.ref b174), .val (.int (0 : Int32)), .val (.int (1 : Int32)), .val (.ref b185), .val (.int (0 : Int32)), .val (.int (0 : Int32)), .val (.int (1 : Int32))] at_133 rfl ?_
      refine Own.iload at_135 rfl ?_
      refine Own.iload at_137 rfl ?_
      refine Own.icmp_ne 151 at_139 (by decide) rfl (fun q => absurd (by decide) q) (fun _ => ?_)
      refine Own.iload at_142 rfl ?_
      refine Own.if_eq 151 at_144 (by decide) rfl (fun q => absurd q (by decide)) (fun _ => ?_)
      refine Own.iconst (1 : Int32) at_147 rfl ?_
      refine Own.goto_ 152 at_148 (by decide) rfl ?_
      refine Own.ret_nar (t := .boolean) (by simp) rfl at_152 (by decide) (by decide) (fun Sf hSf => ?_)
      exact rfl
    · refine Own.new_ (hw _ (List.mem_of_getElem? (i := 31) rfl)) (hw _ (List.mem_of_getElem? (i := 32) rfl)) (hw _ (List.mem_of_getElem? (i := 33) rfl)) at_87 (by decide) (by decide) (fun h193 b193 gb193 E193 X193 D193 => ?_)
      have g_b193 : n0 ≤ b193 := by rw [gb193]; exact hn
      have ne_b169_b193 : b169 ≠ b193 := fun q => Nat.ne_of_lt V173.lt (q.trans gb193)
      have ne_b193_b169 := Ne.symm ne_b169_b193
      have ne_b174_b193 : b174 ≠ b193 := fun q => Nat.ne_of_lt X_b174.lt (q.trans gb193)
      have ne_b193_b174 := Ne.symm ne_b174_b193
      have ne_b176_b193 : b176 ≠ b193 := fun q => Nat.ne_of_lt V176.lt (q.trans gb193)
      have ne_b193_b176 := Ne.symm ne_b176_b193
      have hn := Nat.le_trans hn E193.1
      replace S_C := S_C.ext E193
      replace S_F := S_F.ext E193
      replace V173 := V173.ext E193
      replace X_b174 := X_b174.ext E193
      replace F_value_b174 := F_value_b174.ext E193
      replace F_coder_b174 := F_coder_b174.ext E193
      replace V176 := V176.ext E193
      have X_b193 := X193
      have F_text_b193 : Fld Z h193 b193 "com/example/cytorelay/cytorelay/core/Hl7Syntax$Span" "text" "Ljava/lang/String;" .null := D193 (Or.inr (hw _ (List.mem_of_getElem? (i := 44) rfl))) (ty := (.object "java/lang/String")) (by decide)
      have F_from_b193 : Fld Z h193 b193 "com/example/cytorelay/cytorelay/core/Hl7Syntax$Span" "from" "I" (.int (0 : Int32)) := D193 (Or.inr (hw _ (List.mem_of_getElem? (i := 46) rfl))) (ty := .int) (by decide)
      have F_to_b193 : Fld Z h193 b193 "com/example/cytorelay/cytorelay/core/Hl7Syntax$Span" "to" "I" (.int (0 : Int32)) := D193 (Or.inr (hw _ (List.mem_of_getElem? (i := 48) rfl))) (ty := .int) (by decide)
      refine Own.dup at_90 rfl ?_
      refine Own.aload at_91 rfl rfl ?_
      refine Own.iload at_93 rfl ?_
      refine Own.iload at_95 rfl ?_
      refine Own.callI_ b193 [(.ref b174), (.int (0 : Int32)), (.int (2 : Int32))] [(.ref b193)] 1 (rmSP l Z a0 hw [] b193 b174 (0 : Int32) (2 : Int32) h193 n0 hn g_b193 X_b193 F_text_b193 F_from_b193 F_to_b193) (allS (List.mem_of_getElem? (i := 0) rfl) all0) (hw _ (List.mem_of_getElem? (i := 34) rfl)) (hw _ (List.mem_of_getElem? (i := 35) rfl)) (hw _ (List.mem_of_getElem? (i := 33) rfl)) (hw _ (List.mem_of_getElem? (i := 36) rfl)) rfl (by decide) at_97 pd_11 rfl rfl rfl rfl (by decide) (by decide) (by decide) (by decide) (fun v194 h194 S194 hq194 => ?_)
      obtain ⟨rfl, K195, G1, G2, G3⟩ := hq194
      have hn := Nat.le_trans hn K195.1
      replace S_C := sta_keep S_C K195 (nsS X_b193.nostat ns0)
      replace S_F := sta_keep S_F K195 (nsS X_b193.nostat ns0)
      replace V173 := V173.keep K195 (ninS ne_b169_b193 nin0)
      replace X_b174 := X_b174.keep K195
      replace F_value_b174 := F_value_b174.keep K195 (ninS ne_b174_b193 nin0)
      replace F_coder_b174 := F_coder_b174.keep K195 (ninS ne_b174_b193 nin0)
      replace V176 := V176.keep K195 (ninS ne_b176_b193 nin0)
      replace X_b193 := X_b193.keep K195
      have F_text_b193 := G1
      have F_from_b193 := G2
      have F_to_b193 := G3
      refine ⟨[], all0, ?_⟩
      refine OAt.cast (st' := [(.ref b193)]) rfl ?_
      refine Own.astore #[.val (.int p0), .val (.int p1), .val (.int p2), .val (.int p3), .val (.ref b169), .val (.ref b174), .val (.int (0 : Int32)), .val (.int (2 : Int32)), .val (.ref b193), .unset, .unset, .unset] at_100 rfl rfl ?_
      refine Own.aload at_102 rfl rfl ?_
      refine Own.callVP b193 [] [] 0 (rmSE0_2 l Z a0 hw [] b193  h194 n0 hn F_from_b193 F_to_b193) (hw _ (List.mem_of_getElem? (i := 49) rfl)) (hw _ (List.mem_of_getElem? (i := 50) rfl)) (fun s hZ => notFace_of_selects (args := #[]) (mvT hZ (hw _ (List.mem_of_getElem? (i := 52) rfl)))) (hw _ (List.mem_of_getElem? (i := 52) rfl)) (hw _ (List.mem_of_getElem? (i := 51) rfl)) (hw _ (List.mem_of_getElem? (i := 33) rfl)) (hw _ (List.mem_of_getElem? (i := 53) rfl)) (by decide) X_b193 at_104 pd_4 rfl rfl rfl rfl (by decide) (by decide) (by decide) (by decide) ?_
      refine Own.istore #[.val (.int p0), .val (.int p1), .val (.int p2), .val (.int p3), .val (.ref b169), .val (.ref b174), .val (.int (0 : Int32)), .val (.int (2 : Int32)), .val (.ref b193), .val (.int (0 : Int32)), .unset, .unset] at_107 rfl ?_
      refine Own.aload at_109 rfl rfl ?_
      refine Own.callV_ b193 [] [] 0 (rmCut0_2 l Z a0 hw [] b193 b174 b176 k176 zc vf (nar .byte ((nar .char ((p0 &&& (255 : Int32)).toUInt32.toUInt16.toUInt32.toInt32)).toInt8.toInt32)) (nar .byte ((nar .char ((((p0.toUInt32 >>> ((8 : Int32) &&& 31).toUInt32).toInt32) &&& (255 : Int32)).toUInt32.toUInt16.toUInt32.toInt32)).toInt8.toInt32)) (nar .byte ((nar .char ((((p0.toUInt32 >>> ((16 : Int32) &&& 31).toUInt32).toInt32) &&& (255 : Int32)).toUInt32.toUInt16.toUInt32.toInt32)).toInt8.toInt32)) (nar .byte ((nar .char ((((p0.toUInt32 >>> ((24 : Int32) &&& 31).toUInt32).toInt32) &&& (255 : Int32)).toUInt32.toUInt16.toUInt32.toInt32)).toInt8.toInt32)) h194 n0 hn X_b174 F_value_b174 F_coder_b174 V176 S_C S_F hz hvf F_text_b193 F_from_b193 F_to_b193) all0 (hw _ (List.mem_of_getElem? (i := 54) rfl)) (hw _ (List.mem_of_getElem? (i := 55) rfl)) (fun s hZ => notFace_of_selects (args := #[]) (mvT hZ (hw _ (List.mem_of_getElem? (i := 57) rfl)))) (hw _ (List.mem_of_getElem? (i := 57) rfl)) (hw _ (List.mem_of_getElem? (i := 56) rfl)) (hw _ (List.mem_of_getElem? (i := 33) rfl)) (hw _ (List.mem_of_getElem? (i := 58) rfl)) (by decide) X_b193 at_111 pd_2 rfl rfl rfl rfl (by decide) (by decide) (by decide) (by decide) (fun v196 h196 S196 hq196 => ?_)
      obtain ⟨K197, s197, t197, kt197, rfl, X_s197, F_value_s197, F_coder_s197, V_t197⟩ := hq196
      have hn := Nat.le_trans hn K197.1
      replace S_C := sta_keep S_C K197 ns0
      replace S_F := sta_keep S_F K197 ns0
      replace V173 := V173.keep K197 nin0
      replace X_b174 := X_b174.keep K197
      replace F_value_b174 := F_value_b174.keep K197 nin0
      replace F_coder_b174 := F_coder_b174.keep K197 nin0
      replace V176 := V176.keep K197 nin0
      replace X_b193 := X_b193.keep K197
      replace F_text_b193 := F_text_b193.keep K197 nin0
      replace F_from_b193 := F_from_b193.keep K197 nin0
      replace F_to_b193 := F_to_b193.keep K197 nin0
      refine ⟨[], all0, ?_⟩
      refine OAt.cast (st' := [(.ref s197)]) rfl ?_
      refine Own.callVP s197 [] [] 0 (rm_empty_2 l Z a0 hw [] s197 t197 kt197 _ zc h196 n0 hn X_s197 F_value_s197 F_coder_s197 V_t197 rfl S_C hz) (hw _ (List.mem_of_getElem? (i := 94) rfl)) (hw _ (List.mem_of_getElem? (i := 95) rfl)) (fun s hZ => notFace_of_selects (args := #[]) (mvT hZ (hw _ (List.mem_of_getElem? (i := 97) rfl)))) (hw _ (List.mem_of_getElem? (i := 97) rfl)) (hw _ (List.mem_of_getElem? (i := 96) rfl)) (hw _ (List.mem_of_getElem? (i := 3) rfl)) (hw _ (List.mem_of_getElem? (i := 98) rfl)) (by decide) X_s197 at_114 pd_4 rfl rfl rfl rfl (by decide) (by decide) (by decide) (by decide) ?_
      refine Own.istore #[.val (.int p0), .val (.int p1), .val (.int p2), .val (.int p3), .val (.ref b169), .val (.ref b174), .val (.int (0 : Int32)), .val (.int (2 : Int32)), .val (.ref b193), .val (.int (0 : Int32)), .val (.int (0 : Int32)), .unset] at_117 rfl ?_
      refine Own.new_ (hw _ (List.mem_of_getElem? (i := 31) rfl)) (hw _ (List.mem_of_getElem? (i := 32) rfl)) (hw _ (List.mem_of_getElem? (i := 33) rfl)) at_119 (by decide) (by decide) (fun h198 b198 gb198 E198 X198 D198 => ?_)
      have g_b198 : n0 ≤ b198 := by rw [gb198]; exact hn
      have ne_b169_b198 : b169 ≠ b198 := fun q => Nat.ne_of_lt V173.lt (q.trans gb198)
      have ne_b198_b169 := Ne.symm ne_b169_b198
      have ne_b174_b198 : b174 ≠ b198 := fun q => Nat.ne_of_lt X_b174.lt (q.trans gb198)
      have ne_b198_b174 := Ne.symm ne_b174_b198
      have ne_b176_b198 : b176 ≠ b198 := fun q => Nat.ne_of_lt V176.lt (q.trans gb198)
      have ne_b198_b176 := Ne.symm ne_b176_b198
      have ne_b193_b198 : b193 ≠ b198 := fun q => Nat.ne_of_lt X_b193.lt (q.trans gb198)
      have ne_b198_b193 := Ne.symm ne_b193_b198
      have ne_s197_b198 : s197 ≠ b198 := fun q => Nat.ne_of_lt X_s197.lt (q.trans gb198)
      have ne_b198_s197 := Ne.symm ne_s197_b198
      have ne_t197_b198 : t197 ≠ b198 := fun q => Nat.ne_of_lt V_t197.lt (q.trans gb198)
      have ne_b198_t197 := Ne.symm ne_t197_b198
      have hn := Nat.le_trans hn E198.1
      replace S_C := S_C.ext E198
      replace S_F := S_F.ext E198
      replace V173 := V173.ext E198
      replace X_b174 := X_b174.ext E198
      replace F_value_b174 := F_value_b174.ext E198
      replace F_coder_b174 := F_coder_b174.ext E198
      replace V176 := V176.ext E198
      replace X_b193 := X_b193.ext E198
      replace F_text_b193 := F_text_b193.ext E198
      replace F_from_b193 := F_from_b193.ext E198
      replace F_to_b193 := F_to_b193.ext E198
      replace X_s197 := X_s197.ext E198
      replace F_value_s197 := F_value_s197.ext E198
      replace F_coder_s197 := F_coder_s197.ext E198
      replace V_t197 := V_t197.ext E198
      have X_b198 := X198
      have F_text_b198 : Fld Z h198 b198 "com/example/cytorelay/cytorelay/core/Hl7Syntax$Span" "text" "Ljava/lang/String;" .null := D198 (Or.inr (hw _ (List.mem_of_getElem? (i := 44) rfl))) (ty := (.object "java/lang/String")) (by decide)
      have F_from_b198 : Fld Z h198 b198 "com/example/cytorelay/cytorelay/core/Hl7Syntax$Span" "from" "I" (.int (0 : Int32)) := D198 (Or.inr (hw _ (List.mem_of_getElem? (i := 46) rfl))) (ty := .int) (by decide)
      have F_to_b198 : Fld Z h198 b198 "com/example/cytorelay/cytorelay/core/Hl7Syntax$Span" "to" "I" (.int (0 : Int32)) := D198 (Or.inr (hw _ (List.mem_of_getElem? (i := 48) rfl))) (ty := .int) (by decide)
      refine Own.dup at_122 rfl ?_
      refine Own.aload at_123 rfl rfl ?_
      refine Own.iloadN at_125 rfl ?_
      refine Own.iloadN at_126 rfl ?_
      refine Own.callI_ b198 [(.ref b174), (.int p3), (.int p3)] [(.ref b198)] 1 (rmSP l Z a0 hw [] b198 b174 p3 p3 h198 n0 hn g_b198 X_b198 F_text_b198 F_from_b198 F_to_b198) (allS (List.mem_of_getElem? (i := 0) rfl) all0) (hw _ (List.mem_of_getElem? (i := 34) rfl)) (hw _ (List.mem_of_getElem? (i := 35) rfl)) (hw _ (List.mem_of_getElem? (i := 33) rfl)) (hw _ (List.mem_of_getElem? (i := 36) rfl)) rfl (by decide) at_127 pd_11 rfl rfl rfl rfl (by decide) (by decide) (by decide) (by decide) (fun v199 h199 S199 hq199 => ?_)
      obtain ⟨rfl, K200, G1, G2, G3⟩ := hq199
      have hn := Nat.le_trans hn K200.1
      replace S_C := sta_keep S_C K200 (nsS X_b198.nostat ns0)
      replace S_F := sta_keep S_F K200 (nsS X_b198.nostat ns0)
      replace V173 := V173.keep K200 (ninS ne_b169_b198 nin0)
      replace X_b174 := X_b174.keep K200
      replace F_value_b174 := F_value_b174.keep K200 (ninS ne_b174_b198 nin0)
      replace F_coder_b174 := F_coder_b174.keep K200 (ninS ne_b174_b198 nin0)
      replace V176 := V176.keep K200 (ninS ne_b176_b198 nin0)
      replace X_b193 := X_b193.keep K200
      replace F_text_b193 := F_text_b193.keep K200 (ninS ne_b193_b198 nin0)
      replace F_from_b193 := F_from_b193.keep K200 (ninS ne_b193_b198 nin0)
      replace F_to_b193 := F_to_b193.keep K200 (ninS ne_b193_b198 nin0)
      replace X_s197 := X_s197.keep K200
      replace F_value_s197 := F_value_s197.keep K200 (ninS ne_s197_b198 nin0)
      replace F_coder_s197 := F_coder_s197.keep K200 (ninS ne_s197_b198 nin0)
      replace V_t197 := V_t197.keep K200 (ninS ne_t197_b198 nin0)
      replace X_b198 := X_b198.keep K200
      have F_text_b198 := G1
      have F_from_b198 := G2
      have F_to_b198 := G3
      refine ⟨[], all0, ?_⟩
      refine OAt.cast (st' := [(.ref b198)]) rfl ?_
      refine Own.callVP b198 [] [] 0 (rmSEq l Z a0 hw [] b198 p3 h199 n0 hn F_from_b198 F_to_b198) (hw _ (List.mem_of_getElem? (i := 49) rfl)) (hw _ (List.mem_of_getElem? (i := 50) rfl)) (fun s hZ => notFace_of_selects (args := #[]) (mvT hZ (hw _ (List.mem_of_getElem? (i := 52) rfl)))) (hw _ (List.mem_of_getElem? (i := 52) rfl)) (hw _ (List.mem_of_getElem? (i := 51) rfl)) (hw _ (List.mem_of_getElem? (i := 33) rfl)) (hw _ (List.mem_of_getElem? (i := 53) rfl)) (by decide) X_b198 at_130 pd_4 rfl rfl rfl rfl (by decide) (by decide) (by decide) (by decide) ?_
      refine Own.istore #[.val (.int p0), .val (.int p1), .val (.int p2), .val (.int p3), .val (.ref b169), .val (.ref b174), .val (.int (0 : Int32)), .val (.int (2 : Int32)), .val (.ref b193), .val (.int (0 : Int32)), .val (.int (0 : Int32)), .val (.int (1 : Int32))] at_133 rfl ?_
      refine Own.iload at_135 rfl ?_
      refine Own.iload at_137 rfl ?_
      refine Own.icmp_ne 151 at_139 (by decide) rfl (fun q => absurd (by decide) q) (fun _ => ?_)
      refine Own.iload at_142 rfl ?_
      refine Own.if_eq 151 at_144 (by decide) rfl (fun q => absurd q (by decide)) (fun _ => ?_)
      refine Own.iconst (1 : Int32) at_147 rfl ?_
      refine Own.goto_ 152 at_148 (by decide) rfl ?_
      refine Own.ret_nar (t := .boolean) (by simp) rfl at_152 (by decide) (by decide) (fun Sf hSf => ?_)
      exact rfl
    · refine Own.new_ (hw _ (List.mem_of_getElem? (i := 31) rfl)) (hw _ (List.mem_of_getElem? (i := 32) rfl)) (hw _ (List.mem_of_getElem? (i := 33) rfl)) at_87 (by decide) (by decide) (fun h201 b201 gb201 E201 X201 D201 => ?_)
      have g_b201 : n0 ≤ b201 := by rw [gb201]; exact hn
      have ne_b169_b201 : b169 ≠ b201 := fun q => Nat.ne_of_lt V173.lt (q.trans gb201)
      have ne_b201_b169 := Ne.symm ne_b169_b201
      have ne_b174_b201 : b174 ≠ b201 := fun q => Nat.ne_of_lt X_b174.lt (q.trans gb201)
      have ne_b201_b174 := Ne.symm ne_b174_b201
      have ne_b176_b201 : b176 ≠ b201 := fun q => Nat.ne_of_lt V176.lt (q.trans gb201)
      have ne_b201_b176 := Ne.symm ne_b176_b201
      have hn := Nat.le_trans hn E201.1
      replace S_C := S_C.ext E201
      replace S_F := S_F.ext E201
      replace V173 := V173.ext E201
      replace X_b174 := X_b174.ext E201
      replace F_value_b174 := F_value_b174.ext E201
      replace F_coder_b174 := F_coder_b174.ext E201
      replace V176 := V176.ext E201
      have X_b201 := X201
      have F_text_b201 : Fld Z h201 b201 "com/example/cytorelay/cytorelay/core/Hl7Syntax$Span" "text" "Ljava/lang/String;" .null := D201 (Or.inr (hw _ (List.mem_of_getElem? (i := 44) rfl))) (ty := (.object "java/lang/String")) (by decide)
      have F_from_b201 : Fld Z h201 b201 "com/example/cytorelay/cytorelay/core/Hl7Syntax$Span" "from" "I" (.int (0 : Int32)) := D201 (Or.inr (hw _ (List.mem_of_getElem? (i := 46) rfl))) (ty := .int) (by decide)
      have F_to_b201 : Fld Z h201 b201 "com/example/cytorelay/cytorelay/core/Hl7Syntax$Span" "to" "I" (.int (0 : Int32)) := D201 (Or.inr (hw _ (List.mem_of_getElem? (i := 48) rfl))) (ty := .int) (by decide)
      refine Own.dup at_90 rfl ?_
      refine Own.aload at_91 rfl rfl ?_
      refine Own.iload at_93 rfl ?_
      refine Own.iload at_95 rfl ?_
      refine Own.callI_ b201 [(.ref b174), (.int (0 : Int32)), (.int (3 : Int32))] [(.ref b201)] 1 (rmSP l Z a0 hw [] b201 b174 (0 : Int32) (3 : Int32) h201 n0 hn g_b201 X_b201 F_text_b201 F_from_b201 F_to_b201) (allS (List.mem_of_getElem? (i := 0) rfl) all0) (hw _ (List.mem_of_getElem? (i := 34) rfl)) (hw _ (List.mem_of_getElem? (i := 35) rfl)) (hw _ (List.mem_of_getElem? (i := 33) rfl)) (hw _ (List.mem_of_getElem? (i := 36) rfl)) rfl (by decide) at_97 pd_11 rfl rfl rfl rfl (by decide) (by decide) (by decide) (by decide) (fun v202 h202 S202 hq202 => ?_)
      obtain ⟨rfl, K203, G1, G2, G3⟩ := hq202
      have hn := Nat.le_trans hn K203.1
      replace S_C := sta_keep S_C K203 (nsS X_b201.nostat ns0)
      replace S_F := sta_keep S_F K203 (nsS X_b201.nostat ns0)
      replace V173 := V173.keep K203 (ninS ne_b169_b201 nin0)
      replace X_b174 := X_b174.keep K203
      replace F_value_b174 := F_value_b174.keep K203 (ninS ne_b174_b201 nin0)
      replace F_coder_b174 := F_coder_b174.keep K203 (ninS ne_b174_b201 nin0)
      replace V176 := V176.keep K203 (ninS ne_b176_b201 nin0)
      replace X_b201 := X_b201.keep K203
      have F_text_b201 := G1
      have F_from_b201 := G2
      have F_to_b201 := G3
      refine ⟨[], all0, ?_⟩
      refine OAt.cast (st' := [(.ref b201)]) rfl ?_
      refine Own.astore #[.val (.int p0), .val (.int p1), .val (.int p2), .val (.int p3), .val (.ref b169), .val (.ref b174), .val (.int (0 : Int32)), .val (.int (3 : Int32)), .val (.ref b201), .unset, .unset, .unset] at_100 rfl rfl ?_
      refine Own.aload at_102 rfl rfl ?_
      refine Own.callVP b201 [] [] 0 (rmSE0_3 l Z a0 hw [] b201  h202 n0 hn F_from_b201 F_to_b201) (hw _ (List.mem_of_getElem? (i := 49) rfl)) (hw _ (List.mem_of_getElem? (i := 50) rfl)) (fun s hZ => notFace_of_selects (args := #[]) (mvT hZ (hw _ (List.mem_of_getElem? (i := 52) rfl)))) (hw _ (List.mem_of_getElem? (i := 52) rfl)) (hw _ (List.mem_of_getElem? (i := 51) rfl)) (hw _ (List.mem_of_getElem? (i := 33) rfl)) (hw _ (List.mem_of_getElem? (i := 53) rfl)) (by decide) X_b201 at_104 pd_4 rfl rfl rfl rfl (by decide) (by decide) (by decide) (by decide) ?_
      refine Own.istore #[.val (.int p0), .val (.int p1), .val (.int p2), .val (.int p3), .val (.ref b169), .val (.ref b174), .val (.int (0 : Int32)), .val (.int (3 : Int32)), .val (.ref b201), .val (.int (0 : Int32)), .unset, .unset] at_107 rfl ?_
      refine Own.aload at_109 rfl rfl ?_
      refine Own.callV_ b201 [] [] 0 (rmCut0_3 l Z a0 hw [] b201 b174 b176 k176 zc vf (nar .byte ((nar .char ((p0 &&& (255 : Int32)).toUInt32.toUInt16.toUInt32.toInt32)).toInt8.toInt32)) (nar .byte ((nar .char ((((p0.toUInt32 >>> ((8 : Int32) &&& 31).toUInt32).toInt32) &&& (255 : Int32)).toUInt32.toUInt16.toUInt32.toInt32)).toInt8.toInt32)) (nar .byte ((nar .char ((((p0.toUInt32 >>> ((16 : Int32) &&& 31).toUInt32).toInt32) &&& (255 : Int32)).toUInt32.toUInt16.toUInt32.toInt32)).toInt8.toInt32)) (nar .byte ((nar .char ((((p0.toUInt32 >>> ((24 : Int32) &&& 31).toUInt32).toInt32) &&& (255 : Int32)).toUInt32.toUInt16.toUInt32.toInt32)).toInt8.toInt32)) h202 n0 hn X_b174 F_value_b174 F_coder_b174 V176 S_C S_F hz hvf F_text_b201 F_from_b201 F_to_b201) all0 (hw _ (List.mem_of_getElem? (i := 54) rfl)) (hw _ (List.mem_of_getElem? (i := 55) rfl)) (fun s hZ => notFace_of_selects (args := #[]) (mvT hZ (hw _ (List.mem_of_getElem? (i := 57) rfl)))) (hw _ (List.mem_of_getElem? (i := 57) rfl)) (hw _ (List.mem_of_getElem? (i := 56) rfl)) (hw _ (List.mem_of_getElem? (i := 33) rfl)) (hw _ (List.mem_of_getElem? (i := 58) rfl)) (by decide) X_b201 at_111 pd_2 rfl rfl rfl rfl (by decide) (by decide) (by decide) (by decide) (fun v204 h204 S204 hq204 => ?_)
      obtain ⟨K205, s205, t205, kt205, rfl, X_s205, F_value_s205, F_coder_s205, V_t205⟩ := hq204
      have hn := Nat.le_trans hn K205.1
      replace S_C := sta_keep S_C K205 ns0
      replace S_F := sta_keep S_F K205 ns0
      replace V173 := V173.keep K205 nin0
      replace X_b174 := X_b174.keep K205
      replace F_value_b174 := F_value_b174.keep K205 nin0
      replace F_coder_b174 := F_coder_b174.keep K205 nin0
      replace V176 := V176.keep K205 nin0
      replace X_b201 := X_b201.keep K205
      replace F_text_b201 := F_text_b201.keep K205 nin0
      replace F_from_b201 := F_from_b201.keep K205 nin0
      replace F_to_b201 := F_to_b201.keep K205 nin0
      refine ⟨[], all0, ?_⟩
      refine OAt.cast (st' := [(.ref s205)]) rfl ?_
      refine Own.callVP s205 [] [] 0 (rm_empty_3 l Z a0 hw [] s205 t205 kt205 _ zc h204 n0 hn X_s205 F_value_s205 F_coder_s205 V_t205 rfl S_C hz) (hw _ (List.mem_of_getElem? (i := 94) rfl)) (hw _ (List.mem_of_getElem? (i := 95) rfl)) (fun s hZ => notFace_of_selects (args := #[]) (mvT hZ (hw _ (List.mem_of_getElem? (i := 97) rfl)))) (hw _ (List.mem_of_getElem? (i := 97) rfl)) (hw _ (List.mem_of_getElem? (i := 96) rfl)) (hw _ (List.mem_of_getElem? (i := 3) rfl)) (hw _ (List.mem_of_getElem? (i := 98) rfl)) (by decide) X_s205 at_114 pd_4 rfl rfl rfl rfl (by decide) (by decide) (by decide) (by decide) ?_
      refine Own.istore #[.val (.int p0), .val (.int p1), .val (.int p2), .val (.int p3), .val (.ref b169), .val (.ref b174), .val (.int (0 : Int32)), .val (.int (3 : Int32)), .val (.ref b201), .val (.int (0 : Int32)), .val (.int (0 : Int32)), .unset] at_117 rfl ?_
      refine Own.new_ (hw _ (List.mem_of_getElem? (i := 31) rfl)) (hw _ (List.mem_of_getElem? (i := 32) rfl)) (hw _ (List.mem_of_getElem? (i := 33) rfl)) at_119 (by decide) (by decide) (fun h206 b206 gb206 E206 X206 D206 => ?_)
      have g_b206 : n0 ≤ b206 := by rw [gb206]; exact hn
      have ne_b169_b206 : b169 ≠ b206 := fun q => Nat.ne_of_lt V173.lt (q.trans gb206)
      have ne_b206_b169 := Ne.symm ne_b169_b206
      have ne_b174_b206 : b174 ≠ b206 := fun q => Nat.ne_of_lt X_b174.lt (q.trans gb206)
      have ne_b206_b174 := Ne.symm ne_b174_b206
      have ne_b176_b206 : b176 ≠ b206 := fun q => Nat.ne_of_lt V176.lt (q.trans gb206)
      have ne_b206_b176 := Ne.symm ne_b176_b206
      have ne_b201_b206 : b201 ≠ b206 := fun q => Nat.ne_of_lt X_b201.lt (q.trans gb206)
      have ne_b206_b201 := Ne.symm ne_b201_b206
      have ne_s205_b206 : s205 ≠ b206 := fun q => Nat.ne_of_lt X_s205.lt (q.trans gb206)
      have ne_b206_s205 := Ne.symm ne_s205_b206
      have ne_t205_b206 : t205 ≠ b206 := fun q => Nat.ne_of_lt V_t205.lt (q.trans gb206)
      have ne_b206_t205 := Ne.symm ne_t205_b206
      have hn := Nat.le_trans hn E206.1
      replace S_C := S_C.ext E206
      replace S_F := S_F.ext E206
      replace V173 := V173.ext E206
      replace X_b174 := X_b174.ext E206
      replace F_value_b174 := F_value_b174.ext E206
      replace F_coder_b174 := F_coder_b174.ext E206
      replace V176 := V176.ext E206
      replace X_b201 := X_b201.ext E206
      replace F_text_b201 := F_text_b201.ext E206
      replace F_from_b201 := F_from_b201.ext E206
      replace F_to_b201 := F_to_b201.ext E206
      replace X_s205 := X_s205.ext E206
      replace F_value_s205 := F_value_s205.ext E206
      replace F_coder_s205 := F_coder_s205.ext E206
      replace V_t205 := V_t205.ext E206
      have X_b206 := X206
      have F_text_b206 : Fld Z h206 b206 "com/example/cytorelay/cytorelay/core/Hl7Syntax$Span" "text" "Ljava/lang/String;" .null := D206 (Or.inr (hw _ (List.mem_of_getElem? (i := 44) rfl))) (ty := (.object "java/lang/String")) (by decide)
      have F_from_b206 : Fld Z h206 b206 "com/example/cytorelay/cytorelay/core/Hl7Syntax$Span" "from" "I" (.int (0 : Int32)) := D206 (Or.inr (hw _ (List.mem_of_getElem? (i := 46) rfl))) (ty := .int) (by decide)
      have F_to_b206 : Fld Z h206 b206 "com/example/cytorelay/cytorelay/core/Hl7Syntax$Span" "to" "I" (.int (0 : Int32)) := D206 (Or.inr (hw _ (List.mem_of_getElem? (i := 48) rfl))) (ty := .int) (by decide)
      refine Own.dup at_122 rfl ?_
      refine Own.aload at_123 rfl rfl ?_
      refine Own.iloadN at_125 rfl ?_
      refine Own.iloadN at_126 rfl ?_
      refine Own.callI_ b206 [(.ref b174), (.int p3), (.int p3)] [(.ref b206)] 1 (rmSP l Z a0 hw [] b206 b174 p3 p3 h206 n0 hn g_b206 X_b206 F_text_b206 F_from_b206 F_to_b206) (allS (List.mem_of_getElem? (i := 0) rfl) all0) (hw _ (List.mem_of_getElem? (i := 34) rfl)) (hw _ (List.mem_of_getElem? (i := 35) rfl)) (hw _ (List.mem_of_getElem? (i := 33) rfl)) (hw _ (List.mem_of_getElem? (i := 36) rfl)) rfl (by decide) at_127 pd_11 rfl rfl rfl rfl (by decide) (by decide) (by decide) (by decide) (fun v207 h207 S207 hq207 => ?_)
      obtain ⟨rfl, K208, G1, G2, G3⟩ := hq207
      have hn := Nat.le_trans hn K208.1
      replace S_C := sta_keep S_C K208 (nsS X_b206.nostat ns0)
      replace S_F := sta_keep S_F K208 (nsS X_b206.nostat ns0)
      replace V173 := V173.keep K208 (ninS ne_b169_b206 nin0)
      replace X_b174 := X_b174.keep K208
      replace F_value_b174 := F_value_b174.keep K208 (ninS ne_b174_b206 nin0)
      replace F_coder_b174 := F_coder_b174.keep K208 (ninS ne_b174_b206 nin0)
      replace V176 := V176.keep K208 (ninS ne_b176_b206 nin0)
      replace X_b201 := X_b201.keep K208
      replace F_text_b201 := F_text_b201.keep K208 (ninS ne_b201_b206 nin0)
      replace F_from_b201 := F_from_b201.keep K208 (ninS ne_b201_b206 nin0)
      replace F_to_b201 := F_to_b201.keep K208 (ninS ne_b201_b206 nin0)
      replace X_s205 := X_s205.keep K208
      replace F_value_s205 := F_value_s205.keep K208 (ninS ne_s205_b206 nin0)
      replace F_coder_s205 := F_coder_s205.keep K208 (ninS ne_s205_b206 nin0)
      replace V_t205 := V_t205.keep K208 (ninS ne_t205_b206 nin0)
      replace X_b206 := X_b206.keep K208
      have F_text_b206 := G1
      have F_from_b206 := G2
      have F_to_b206 := G3
      refine ⟨[], all0, ?_⟩
      refine OAt.cast (st' := [(.ref b206)]) rfl ?_
      refine Own.callVP b206 [] [] 0 (rmSEq l Z a0 hw [] b206 p3 h207 n0 hn F_from_b206 F_to_b206) (hw _ (List.mem_of_getElem? (i := 49) rfl)) (hw _ (List.mem_of_getElem? (i := 50) rfl)) (fun s hZ => notFace_of_selects (args := #[]) (mvT hZ (hw _ (List.mem_of_getElem? (i := 52) rfl)))) (hw _ (List.mem_of_getElem? (i := 52) rfl)) (hw _ (List.mem_of_getElem? (i := 51) rfl)) (hw _ (List.mem_of_getElem? (i := 33) rfl)) (hw _ (List.mem_of_getElem? (i := 53) rfl)) (by decide) X_b206 at_130 pd_4 rfl rfl rfl rfl (by decide) (by decide) (by decide) (by decide) ?_
      refine Own.istore #[.val (.int p0), .val (.int p1), .val (.int p2), .val (.int p3), .val (.ref b169), .val (.ref b174), .val (.int (0 : Int32)), .val (.int (3 : Int32)), .val (.ref b201), .val (.int (0 : Int32)), .val (.int (0 : Int32)), .val (.int (1 : Int32))] at_133 rfl ?_
      refine Own.iload at_135 rfl ?_
      refine Own.iload at_137 rfl ?_
      refine Own.icmp_ne 151 at_139 (by decide) rfl (fun q => absurd (by decide) q) (fun _ => ?_)
      refine Own.iload at_142 rfl ?_
      refine Own.if_eq 151 at_144 (by decide) rfl (fun q => absurd q (by decide)) (fun _ => ?_)
      refine Own.iconst (1 : Int32) at_147 rfl ?_
      refine Own.goto_ 152 at_148 (by decide) rfl ?_
      refine Own.ret_nar (t := .boolean) (by simp) rfl at_152 (by decide) (by decide) (fun Sf hSf => ?_)
      exact rfl
    · refine Own.new_ (hw _ (List.mem_of_getElem? (i := 31) rfl)) (hw _ (List.mem_of_getElem? (i := 32) rfl)) (hw _ (List.mem_of_getElem? (i := 33) rfl)) at_87 (by decide) (by decide) (fun h209 b209 gb209 E209 X209 D209 => ?_)
      have g_b209 : n0 ≤ b209 := by rw [gb209]; exact hn
      have ne_b169_b209 : b169 ≠ b209 := fun q => Nat.ne_of_lt V173.lt (q.trans gb209)
      have ne_b209_b169 := Ne.symm ne_b169_b209
      have ne_b174_b209 : b174 ≠ b209 := fun q => Nat.ne_of_lt X_b174.lt (q.trans gb209)
      have ne_b209_b174 := Ne.symm ne_b174_b209
      have ne_b176_b209 : b176 ≠ b209 := fun q => Nat.ne_of_lt V176.lt (q.trans gb209)
      have ne_b209_b176 := Ne.symm ne_b176_b209
      have hn := Nat.le_trans hn E209.1
      replace S_C := S_C.ext E209
      replace S_F := S_F.ext E209
      replace V173 := V173.ext E209
      replace X_b174 := X_b174.ext E209
      replace F_value_b174 := F_value_b174.ext E209
      replace F_coder_b174 := F_coder_b174.ext E209
      replace V176 := V176.ext E209
      have X_b209 := X209
      have F_text_b209 : Fld Z h209 b209 "com/example/cytorelay/cytorelay/core/Hl7Syntax$Span" "text" "Ljava/lang/String;" .null := D209 (Or.inr (hw _ (List.mem_of_getElem? (i := 44) rfl))) (ty := (.object "java/lang/String")) (by decide)
      have F_from_b209 : Fld Z h209 b209 "com/example/cytorelay/cytorelay/core/Hl7Syntax$Span" "from" "I" (.int (0 : Int32)) := D209 (Or.inr (hw _ (List.mem_of_getElem? (i := 46) rfl))) (ty := .int) (by decide)
      have F_to_b209 : Fld Z h209 b209 "com/example/cytorelay/cytorelay/core/Hl7Syntax$Span" "to" "I" (.int (0 : Int32)) := D209 (Or.inr (hw _ (List.mem_of_getElem? (i := 48) rfl))) (ty := .int) (by decide)
      refine Own.dup at_90 rfl ?_
      refine Own.aload at_91 rfl rfl ?_
      refine Own.iload at_93 rfl ?_
      refine Own.iload at_95 rfl ?_
      refine Own.callI_ b209 [(.ref b174), (.int (0 : Int32)), (.int (4 : Int32))] [(.ref b209)] 1 (rmSP l Z a0 hw [] b209 b174 (0 : Int32) (4 : Int32) h209 n0 hn g_b209 X_b209 F_text_b209 F_from_b209 F_to_b209) (allS (List.mem_of_getElem? (i := 0) rfl) all0) (hw _ (List.mem_of_getElem? (i := 34) rfl)) (hw _ (List.mem_of_getElem? (i := 35) rfl)) (hw _ (List.mem_of_getElem? (i := 33) rfl)) (hw _ (List.mem_of_getElem? (i := 36) rfl)) rfl (by decide) at_97 pd_11 rfl rfl rfl rfl (by decide) (by decide) (by decide) (by decide) (fun v210 h210 S210 hq210 => ?_)
      obtain ⟨rfl, K211, G1, G2, G3⟩ := hq210
      have hn := Nat.le_trans hn K211.1
      replace S_C := sta_keep S_C K211 (nsS X_b209.nostat ns0)
      replace S_F := sta_keep S_F K211 (nsS X_b209.nostat ns0)
      replace V173 := V173.keep K211 (ninS ne_b169_b209 nin0)
      replace X_b174 := X_b174.keep K211
      replace F_value_b174 := F_value_b174.keep K211 (ninS ne_b174_b209 nin0)
      replace F_coder_b174 := F_coder_b174.keep K211 (ninS ne_b174_b209 nin0)
      replace V176 := V176.keep K211 (ninS ne_b176_b209 nin0)
      replace X_b209 := X_b209.keep K211
      have F_text_b209 := G1
      have F_from_b209 := G2
      have F_to_b209 := G3
      refine ⟨[], all0, ?_⟩
      refine OAt.cast (st' := [(.ref b209)]) rfl ?_
      refine Own.astore #[.val (.int p0), .val (.int p1), .val (.int p2), .val (.int p3), .val (.ref b169), .val (.ref b174), .val (.int (0 : Int32)), .val (.int (4 : Int32)), .val (.ref b209), .unset, .unset, .unset] at_100 rfl rfl ?_
      refine Own.aload at_102 rfl rfl ?_
      refine Own.callVP b209 [] [] 0 (rmSE0_4 l Z a0 hw [] b209  h210 n0 hn F_from_b209 F_to_b209) (hw _ (List.mem_of_getElem? (i := 49) rfl)) (hw _ (List.mem_of_getElem? (i := 50) rfl)) (fun s hZ => notFace_of_selects (args := #[]) (mvT hZ (hw _ (List.mem_of_getElem? (i := 52) rfl)))) (hw _ (List.mem_of_getElem? (i := 52) rfl)) (hw _ (List.mem_of_getElem? (i := 51) rfl)) (hw _ (List.mem_of_getElem? (i := 33) rfl)) (hw _ (List.mem_of_getElem? (i := 53) rfl)) (by decide) X_b209 at_104 pd_4 rfl rfl rfl rfl (by decide) (by decide) (by decide) (by decide) ?_
      refine Own.istore #[.val (.int p0), .val (.int p1), .val (.int p2), .val (.int p3), .val (.ref b169), .val (.ref b174), .val (.int (0 : Int32)), .val (.int (4 : Int32)), .val (.ref b209), .val (.int (0 : Int32)), .unset, .unset] at_107 rfl ?_
      refine Own.aload at_109 rfl rfl ?_
      refine Own.callV_ b209 [] [] 0 (rmCut0_4 l Z a0 hw [] b209 b174 b176 k176 zc vf (nar .byte ((nar .char ((p0 &&& (255 : Int32)).toUInt32.toUInt16.toUInt32.toInt32)).toInt8.toInt32)) (nar .byte ((nar .char ((((p0.toUInt32 >>> ((8 : Int32) &&& 31).toUInt32).toInt32) &&& (255 : Int32)).toUInt32.toUInt16.toUInt32.toInt32)).toInt8.toInt32)) (nar .byte ((nar .char ((((p0.toUInt32 >>> ((16 : Int32) &&& 31).toUInt32).toInt32) &&& (255 : Int32)).toUInt32.toUInt16.toUInt32.toInt32)).toInt8.toInt32)) (nar .byte ((nar .char ((((p0.toUInt32 >>> ((24 : Int32) &&& 31).toUInt32).toInt32) &&& (255 : Int32)).toUInt32.toUInt16.toUInt32.toInt32)).toInt8.toInt32)) h210 n0 hn X_b174 F_value_b174 F_coder_b174 V176 S_C S_F hz hvf F_text_b209 F_from_b209 F_to_b209) all0 (hw _ (List.mem_of_getElem? (i := 54) rfl)) (hw _ (List.mem_of_getElem? (i := 55) rfl)) (fun s hZ => notFace_of_selects (args := #[]) (mvT hZ (hw _ (List.mem_of_getElem? (i := 57) rfl)))) (hw _ (List.mem_of_getElem? (i := 57) rfl)) (hw _ (List.mem_of_getElem? (i := 56) rfl)) (hw _ (List.mem_of_getElem? (i := 33) rfl)) (hw _ (List.mem_of_getElem? (i := 58) rfl)) (by decide) X_b209 at_111 pd_2 rfl rfl rfl rfl (by decide) (by decide) (by decide) (by decide) (fun v212 h212 S212 hq212 => ?_)
      obtain ⟨K213, s213, t213, kt213, rfl, X_s213, F_value_s213, F_coder_s213, V_t213⟩ := hq212
      have hn := Nat.le_trans hn K213.1
      replace S_C := sta_keep S_C K213 ns0
      replace S_F := sta_keep S_F K213 ns0
      replace V173 := V173.keep K213 nin0
      replace X_b174 := X_b174.keep K213
      replace F_value_b174 := F_value_b174.keep K213 nin0
      replace F_coder_b174 := F_coder_b174.keep K213 nin0
      replace V176 := V176.keep K213 nin0
      replace X_b209 := X_b209.keep K213
      replace F_text_b209 := F_text_b209.keep K213 nin0
      replace F_from_b209 := F_from_b209.keep K213 nin0
      replace F_to_b209 := F_to_b209.keep K213 nin0
      refine ⟨[], all0, ?_⟩
      refine OAt.cast (st' := [(.ref s213)]) rfl ?_
      refine Own.callVP s213 [] [] 0 (rm_empty_4 l Z a0 hw [] s213 t213 kt213 _ zc h212 n0 hn X_s213 F_value_s213 F_coder_s213 V_t213 rfl S_C hz) (hw _ (List.mem_of_getElem? (i := 94) rfl)) (hw _ (List.mem_of_getElem? (i := 95) rfl)) (fun s hZ => notFace_of_selects (args := #[]) (mvT hZ (hw _ (List.mem_of_getElem? (i := 97) rfl)))) (hw _ (List.mem_of_getElem? (i := 97) rfl)) (hw _ (List.mem_of_getElem? (i := 96) rfl)) (hw _ (List.mem_of_getElem? (i := 3) rfl)) (hw _ (List.mem_of_getElem? (i := 98) rfl)) (by decide) X_s213 at_114 pd_4 rfl rfl rfl rfl (by decide) (by decide) (by decide) (by decide) ?_
      refine Own.istore #[.val (.int p0), .val (.int p1), .val (.int p2), .val (.int p3), .val (.ref b169), .val (.ref b174), .val (.int (0 : Int32)), .val (.int (4 : Int32)), .val (.ref b209), .val (.int (0 : Int32)), .val (.int (0 : Int32)), .unset] at_117 rfl ?_
      refine Own.new_ (hw _ (List.mem_of_getElem? (i := 31) rfl)) (hw _ (List.mem_of_getElem? (i := 32) rfl)) (hw _ (List.mem_of_getElem? (i := 33) rfl)) at_119 (by decide) (by decide) (fun h214 b214 gb214 E214 X214 D214 => ?_)
      have g_b214 : n0 ≤ b214 := by rw [gb214]; exact hn
      have ne_b169_b214 : b169 ≠ b214 := fun q => Nat.ne_of_lt V173.lt (q.trans gb214)
      have ne_b214_b169 := Ne.symm ne_b169_b214
      have ne_b174_b214 : b174 ≠ b214 := fun q => Nat.ne_of_lt X_b174.lt (q.trans gb214)
      have ne_b214_b174 := Ne.symm ne_b174_b214
      have ne_b176_b214 : b176 ≠ b214 := fun q => Nat.ne_of_lt V176.lt (q.trans gb214)
      have ne_b214_b176 := Ne.symm ne_b176_b214
      have ne_b209_b214 : b209 ≠ b214 := fun q => Nat.ne_of_lt X_b209.lt (q.trans gb214)
      have ne_b214_b209 := Ne.symm ne_b209_b214
      have ne_s213_b214 : s213 ≠ b214 := fun q => Nat.ne_of_lt X_s213.lt (q.trans gb214)
      have ne_b214_s213 := Ne.symm ne_s213_b214
      have ne_t213_b214 : t213 ≠ b214 := fun q => Nat.ne_of_lt V_t213.lt (q.trans gb214)
      have ne_b214_t213 := Ne.symm ne_t213_b214
      have hn := Nat.le_trans hn E214.1
      replace S_C := S_C.ext E214
      replace S_F := S_F.ext E214
      replace V173 := V173.ext E214
      replace X_b174 := X_b174.ext E214
      replace F_value_b174 := F_value_b174.ext E214
      replace F_coder_b174 := F_coder_b174.ext E214
      replace V176 := V176.ext E214
      replace X_b209 := X_b209.ext E214
      replace F_text_b209 := F_text_b209.ext E214
      replace F_from_b209 := F_from_b209.ext E214
      replace F_to_b209 := F_to_b209.ext E214
      replace X_s213 := X_s213.ext E214
      replace F_value_s213 := F_value_s213.ext E214
      replace F_coder_s213 := F_coder_s213.ext E214
      replace V_t213 := V_t213.ext E214
      have X_b214 := X214
      have F_text_b214 : Fld Z h214 b214 "com/example/cytorelay/cytorelay/core/Hl7Syntax$Span" "text" "Ljava/lang/String;" .null := D214 (Or.inr (hw _ (List.mem_of_getElem? (i := 44) rfl))) (ty := (.object "java/lang/String")) (by decide)
      have F_from_b214 : Fld Z h214 b214 "com/example/cytorelay/cytorelay/core/Hl7Syntax$Span" "from" "I" (.int (0 : Int32)) := D214 (Or.inr (hw _ (List.mem_of_getElem? (i := 46) rfl))) (ty := .int) (by decide)
      have F_to_b214 : Fld Z h214 b214 "com/example/cytorelay/cytorelay/core/Hl7Syntax$Span" "to" "I" (.int (0 : Int32)) := D214 (Or.inr (hw _ (List.mem_of_getElem? (i := 48) rfl))) (ty := .int) (by decide)
      refine Own.dup at_122 rfl ?_
      refine Own.aload at_123 rfl rfl ?_
      refine Own.iloadN at_125 rfl ?_
      refine Own.iloadN at_126 rfl ?_
      refine Own.callI_ b214 [(.ref b174), (.int p3), (.int p3)] [(.ref b214)] 1 (rmSP l Z a0 hw [] b214 b174 p3 p3 h214 n0 hn g_b214 X_b214 F_text_b214 F_from_b214 F_to_b214) (allS (List.mem_of_getElem? (i := 0) rfl) all0) (hw _ (List.mem_of_getElem? (i := 34) rfl)) (hw _ (List.mem_of_getElem? (i := 35) rfl)) (hw _ (List.mem_of_getElem? (i := 33) rfl)) (hw _ (List.mem_of_getElem? (i := 36) rfl)) rfl (by decide) at_127 pd_11 rfl rfl rfl rfl (by decide) (by decide) (by decide) (by decide) (fun v215 h215 S215 hq215 => ?_)
      obtain ⟨rfl, K216, G1, G2, G3⟩ := hq215
      have hn := Nat.le_trans hn K216.1
      replace S_C := sta_keep S_C K216 (nsS X_b214.nostat ns0)
      replace S_F := sta_keep S_F K216 (nsS X_b214.nostat ns0)
      replace V173 := V173.keep K216 (ninS ne_b169_b214 nin0)
      replace X_b174 := X_b174.keep K216
      replace F_value_b174 := F_value_b174.keep K216 (ninS ne_b174_b214 nin0)
      replace F_coder_b174 := F_coder_b174.keep K216 (ninS ne_b174_b214 nin0)
      replace V176 := V176.keep K216 (ninS ne_b176_b214 nin0)
      replace X_b209 := X_b209.keep K216
      replace F_text_b209 := F_text_b209.keep K216 (ninS ne_b209_b214 nin0)
      replace F_from_b209 := F_from_b209.keep K216 (ninS ne_b209_b214 nin0)
      replace F_to_b209 := F_to_b209.keep K216 (ninS ne_b209_b214 nin0)
      replace X_s213 := X_s213.keep K216
      replace F_value_s213 := F_value_s213.keep K216 (ninS ne_s213_b214 nin0)
      replace F_coder_s213 := F_coder_s213.keep K216 (ninS ne_s213_b214 nin0)
      replace V_t213 := V_t213.keep K216 (ninS ne_t213_b214 nin0)
      replace X_b214 := X_b214.keep K216
      have F_text_b214 := G1
      have F_from_b214 := G2
      have F_to_b214 := G3
      refine ⟨[], all0, ?_⟩
      refine OAt.cast (st' := [(.ref b214)]) rfl ?_
      refine Own.callVP b214 [] [] 0 (rmSEq l Z a0 hw [] b214 p3 h215 n0 hn F_from_b214 F_to_b214) (hw _ (List.mem_of_getElem? (i := 49) rfl)) (hw _ (List.mem_of_getElem? (i := 50) rfl)) (fun s hZ => notFace_of_selects (args := #[]) (mvT hZ (hw _ (List.mem_of_getElem? (i := 52) rfl)))) (hw _ (List.mem_of_getElem? (i := 52) rfl)) (hw _ (List.mem_of_getElem? (i := 51) rfl)) (hw _ (List.mem_of_getElem? (i := 33) rfl)) (hw _ (List.mem_of_getElem? (i := 53) rfl)) (by decide) X_b214 at_130 pd_4 rfl rfl rfl rfl (by decide) (by decide) (by decide) (by decide) ?_
      refine Own.istore #[.val (.int p0), .val (.int p1), .val (.int p2), .val (.int p3), .val (.ref b169), .val (.ref b174), .val (.int (0 : Int32)), .val (.int (4 : Int32)), .val (.ref b209), .val (.int (0 : Int32)), .val (.int (0 : Int32)), .val (.int (1 : Int32))] at_133 rfl ?_
      refine Own.iload at_135 rfl ?_
      refine Own.iload at_137 rfl ?_
      refine Own.icmp_ne 151 at_139 (by decide) rfl (fun q => absurd (by decide) q) (fun _ => ?_)
      refine Own.iload at_142 rfl ?_
      refine Own.if_eq 151 at_144 (by decide) rfl (fun q => absurd q (by decide)) (fun _ => ?_)
      refine Own.iconst (1 : Int32) at_147 rfl ?_
      refine Own.goto_ 152 at_148 (by decide) rfl ?_
      refine Own.ret_nar (t := .boolean) (by simp) rfl at_152 (by decide) (by decide) (fun Sf hSf => ?_)
      exact rfl
  · have ht : uo = 1 ∨ uo = 2 ∨ uo = 3 ∨ uo = 4 := by rw [e_uo]; exact own_t1 p2
    rcases ht with rfl | rfl | rfl | rfl
    · refine Own.new_ (hw _ (List.mem_of_getElem? (i := 31) rfl)) (hw _ (List.mem_of_getElem? (i := 32) rfl)) (hw _ (List.mem_of_getElem? (i := 33) rfl)) at_87 (by decide) (by decide) (fun h217 b217 gb217 E217 X217 D217 => ?_)
      have g_b217 : n0 ≤ b217 := by rw [gb217]; exact hn
      have ne_b169_b217 : b169 ≠ b217 := fun q => Nat.ne_of_lt V173.lt (q.trans gb217)
      have ne_b217_b169 := Ne.symm ne_b169_b217
      have ne_b174_b217 : b174 ≠ b217 := fun q => Nat.ne_of_lt X_b174.lt (q.trans gb217)
      have ne_b217_b174 := Ne.symm ne_b174_b217
      have ne_b176_b217 : b176 ≠ b217 := fun q => Nat.ne_of_lt V176.lt (q.trans gb217)
      have ne_b217_b176 := Ne.symm ne_b176_b217
      have hn := Nat.le_trans hn E217.1
      replace S_C := S_C.ext E217
      replace S_F := S_F.ext E217
      replace V173 := V173.ext E217
      replace X_b174 := X_b174.ext E217
      replace F_value_b174 := F_value_b174.ext E217
      replace F_coder_b174 := F_coder_b174.ext E217
      replace V176 := V176.ext E217
      have X_b217 := X217
      have F_text_b217 : Fld Z h217 b217 "com/example/cytorelay/cytorelay/core/Hl7Syntax$Span" "text" "Ljava/lang/String;" .null := D217 (Or.inr (hw _ (List.mem_of_getElem? (i := 44) rfl))) (ty := (.object "java/lang/String")) (by decide)
      have F_from_b217 : Fld Z h217 b217 "com/example/cytorelay/cytorelay/core/Hl7Syntax$Span" "from" "I" (.int (0 : Int32)) := D217 (Or.inr (hw _ (List.mem_of_getElem? (i := 46) rfl))) (ty := .int) (by decide)
      have F_to_b217 : Fld Z h217 b217 "com/example/cytorelay/cytorelay/core/Hl7Syntax$Span" "to" "I" (.int (0 : Int32)) := D217 (Or.inr (hw _ (List.mem_of_getElem? (i := 48) rfl))) (ty := .int) (by decide)
      refine Own.dup at_90 rfl ?_
      refine Own.aload at_91 rfl rfl ?_
      refine Own.iload at_93 rfl ?_
      refine Own.iload at_95 rfl ?_
      refine Own.callI_ b217 [(.ref b174), (.int (1 : Int32)), (.int (1 : Int32))] [(.ref b217)] 1 (rmSP l Z a0 hw [] b217 b174 (1 : Int32) (1 : Int32) h217 n0 hn g_b217 X_b217 F_text_b217 F_from_b217 F_to_b217) (allS (List.mem_of_getElem? (i := 0) rfl) all0) (hw _ (List.mem_of_getElem? (i := 34) rfl)) (hw _ (List.mem_of_getElem? (i := 35) rfl)) (hw _ (List.mem_of_getElem? (i := 33) rfl)) (hw _ (List.mem_of_getElem? (i := 36) rfl)) rfl (by decide) at_97 pd_11 rfl rfl rfl rfl (by decide) (by decide) (by decide) (by decide) (fun v218 h218 S218 hq218 => ?_)
      obtain ⟨rfl, K219, G1, G2, G3⟩ := hq218
      have hn := Nat.le_trans hn K219.1
      replace S_C := sta_keep S_C K219 (nsS X_b217.nostat ns0)
      replace S_F := sta_keep S_F K219 (nsS X_b217.nostat ns0)
      replace V173 := V173.keep K219 (ninS ne_b169_b217 nin0)
      replace X_b174 := X_b174.keep K219
      replace F_value_b174 := F_value_b174.keep K219 (ninS ne_b174_b217 nin0)
      replace F_coder_b174 := F_coder_b174.keep K219 (ninS ne_b174_b217 nin0)
      replace V176 := V176.keep K219 (ninS ne_b176_b217 nin0)
      replace X_b217 := X_b217.keep K219
      have F_text_b217 := G1
      have F_from_b217 := G2
      have F_to_b217 := G3
      refine ⟨[], all0, ?_⟩
      refine OAt.cast (st' := [(.ref b217)]) rfl ?_
      refine Own.astore #[.val (.int p0), .val (.int p1), .val (.int p2), .val (.int p3), .val (.ref b169), .val (.ref b174), .val (.int (1 : Int32)), .val (.int (1 : Int32)), .val (.ref b217), .unset, .unset, .unset] at_100 rfl rfl ?_
      refine Own.aload at_102 rfl rfl ?_
      refine Own.callVP b217 [] [] 0 (rmSE1_1 l Z a0 hw [] b217  h218 n0 hn F_from_b217 F_to_b217) (hw _ (List.mem_of_getElem? (i := 49) rfl)) (hw _ (List.mem_of_getElem? (i := 50) rfl)) (fun s hZ => notFace_of_selects (args := #[]) (mvT hZ (hw _ (List.mem_of_getElem? (i := 52) rfl)))) (hw _ (List.mem_of_getElem? (i := 52) rfl)) (hw _ (List.mem_of_getElem? (i := 51) rfl)) (hw _ (List.mem_of_getElem? (i := 33) rfl)) (hw _ (List.mem_of_getElem? (i := 53) rfl)) (by decide) X_b217 at_104 pd_4 rfl rfl rfl rfl (by decide) (by decide) (by decide) (by decide) ?_
      refine Own.istore #[.val (.int p0), .val (.int p1), .val (.int p2), .val (.int p3), .val (.ref b169), .val (.ref b174), .val (.int (1 : Int32)), .val (.int (1 : Int32)), .val (.ref b217), .val (.int (1 : Int32)), .unset, .unset] at_107 rfl ?_
      refine Own.aload at_109 rfl rfl ?_
      refine Own.callV_ b217 [] [] 0 (rmCut1_1 l Z a0 hw [] b217 b174 b176 k176 zc vf (nar .byte ((nar .char ((p0 &&& (255 : Int32)).toUInt32.toUInt16.toUInt32.toInt32)).toInt8.toInt32)) (nar .byte ((nar .char ((((p0.toUInt32 >>> ((8 : Int32) &&& 31).toUInt32).toInt32) &&& (255 : Int32)).toUInt32.toUInt16.toUInt32.toInt32)).toInt8.toInt32)) (nar .byte ((nar .char ((((p0.toUInt32 >>> ((16 : Int32) &&& 31).toUInt32).toInt32) &&& (255 : Int32)).toUInt32.toUInt16.toUInt32.toInt32)).toInt8.toInt32)) (nar .byte ((nar .char ((((p0.toUInt32 >>> ((24 : Int32) &&& 31).toUInt32).toInt32) &&& (255 : Int32)).toUInt32.toUInt16.toUInt32.toInt32)).toInt8.toInt32)) h218 n0 hn X_b174 F_value_b174 F_coder_b174 V176 S_C S_F hz hvf F_text_b217 F_from_b217 F_to_b217) all0 (hw _ (List.mem_of_getElem? (i := 54) rfl)) (hw _ (List.mem_of_getElem? (i := 55) rfl)) (fun s hZ => notFace_of_selects (args := #[]) (mvT hZ (hw _ (List.mem_of_getElem? (i := 57) rfl)))) (hw _ (List.mem_of_getElem? (i := 57) rfl)) (hw _ (List.mem_of_getElem? (i := 56) rfl)) (hw _ (List.mem_of_getElem? (i := 33) rfl)) (hw _ (List.mem_of_getElem? (i := 58) rfl)) (by decide) X_b217 at_111 pd_2 rfl rfl rfl rfl (by decide) (by decide) (by decide) (by decide) (fun v220 h220 S220 hq220 => ?_)
      obtain ⟨K221, s221, t221, kt221, rfl, X_s221, F_value_s221, F_coder_s221, V_t221⟩ := hq220
      have hn := Nat.le_trans hn K221.1
      replace S_C := sta_keep S_C K221 ns0
      replace S_F := sta_keep S_F K221 ns0
      replace V173 := V173.keep K221 nin0
      replace X_b174 := X_b174.keep K221
      replace F_value_b174 := F_value_b174.keep K221 nin0
      replace F_coder_b174 := F_coder_b174.keep K221 nin0
      replace V176 := V176.keep K221 nin0
      replace X_b217 := X_b217.keep K221
      replace F_text_b217 := F_text_b217.keep K221 nin0
      replace F_from_b217 := F_from_b217.keep K221 nin0
      replace F_to_b217 := F_to_b217.keep K221 nin0
      refine ⟨[], all0, ?_⟩
      refine OAt.cast (st' := [(.ref s221)]) rfl ?_
      refine Own.callVP s221 [] [] 0 (rm_empty_0 l Z a0 hw [] s221 t221 kt221 _ zc h220 n0 hn X_s221 F_value_s221 F_coder_s221 V_t221 rfl S_C hz) (hw _ (List.mem_of_getElem? (i := 94) rfl)) (hw _ (List.mem_of_getElem? (i := 95) rfl)) (fun s hZ => notFace_of_selects (args := #[]) (mvT hZ (hw _ (List.mem_of_getElem? (i := 97) rfl)))) (hw _ (List.mem_of_getElem? (i := 97) rfl)) (hw _ (List.mem_of_getElem? (i := 96) rfl)) (hw _ (List.mem_of_getElem? (i := 3) rfl)) (hw _ (List.mem_of_getElem? (i := 98) rfl)) (by decide) X_s221 at_114 pd_4 rfl rfl rfl rfl (by decide) (by decide) (by decide) (by decide) ?_
      refine Own.istore #[.val (.int p0), .val (.int p1), .val (.int p2), .val (.int p3), .val (.ref b169), .val (.ref b174), .val (.int (1 : Int32)), .val (.int (1 : Int32)), .val (.ref b217), .val (.int (1 : Int32)), .val (.int (1 : Int32)), .unset] at_117 rfl ?_
      refine Own.new_ (hw _ (List.mem_of_getElem? (i := 31) rfl)) (hw _ (List.mem_of_getElem? (i := 32) rfl)) (hw _ (List.mem_of_getElem? (i := 33) rfl)) at_119 (by decide) (by decide) (fun h222 b222 gb222 E222 X222 D222 => ?_)
      have g_b222 : n0 ≤ b222 := by rw [gb222]; exact hn
      have ne_b169_b222 : b169 ≠ b222 := fun q => Nat.ne_of_lt V173.lt (q.trans gb222)
      have ne_b222_b169 := Ne.symm ne_b169_b222
      have ne_b174_b222 : b174 ≠ b222 := fun q => Nat.ne_of_lt X_b174.lt (q.trans gb222)
      have ne_b222_b174 := Ne.symm ne_b174_b222
      have ne_b176_b222 : b176 ≠ b222 := fun q => Nat.ne_of_lt V176.lt (q.trans gb222)
      have ne_b222_b176 := Ne.symm ne_b176_b222
      have ne_b217_b222 : b217 ≠ b222 := fun q => Nat.ne_of_lt X_b217.lt (q.trans gb222)
      have ne_b222_b217 := Ne.symm ne_b217_b222
      have ne_s221_b222 : s221 ≠ b222 := fun q => Nat.ne_of_lt X_s221.lt (q.trans gb222)
      have ne_b222_s221 := Ne.symm ne_s221_b222
      have ne_t221_b222 : t221 ≠ b222 := fun q => Nat.ne_of_lt V_t221.lt (q.trans gb222)
      have ne_b222_t221 := Ne.symm ne_t221_b222
      have hn := Nat.le_trans hn E222.1
      replace S_C := S_C.ext E222
      replace S_F := S_F.ext E222
      replace V173 := V173.ext E222
      replace X_b174 := X_b174.ext E222
      replace F_value_b174 := F_value_b174.ext E222
      replace F_coder_b174 := F_coder_b174.ext E222
      replace V176 := V176.ext E222
      replace X_b217 := X_b217.ext E222
      replace F_text_b217 := F_text_b217.ext E222
      replace F_from_b217 := F_from_b217.ext E222
      replace F_to_b217 := F_to_b217.ext E222
      replace X_s221 := X_s221.ext E222
      replace F_value_s221 := F_value_s221.ext E222
      replace F_coder_s221 := F_coder_s221.ext E222
      replace V_t221 := V_t221.ext E222
      have X_b222 := X222
      have F_text_b222 : Fld Z h222 b222 "com/example/cytorelay/cytorelay/core/Hl7Syntax$Span" "text" "Ljava/lang/String;" .null := D222 (Or.inr (hw _ (List.mem_of_getElem? (i := 44) rfl))) (ty := (.object "java/lang/String")) (by decide)
      have F_from_b222 : Fld Z h222 b222 "com/example/cytorelay/cytorelay/core/Hl7Syntax$Span" "from" "I" (.int (0 : Int32)) := D222 (Or.inr (hw _ (List.mem_of_getElem? (i := 46) rfl))) (ty := .int) (by decide)
      have F_to_b222 : Fld Z h222 b222 "com/example/cytorelay/cytorelay/core/Hl7Syntax$Span" "to" "I" (.int (0 : Int32)) := D222 (Or.inr (hw _ (List.mem_of_getElem? (i := 48) rfl))) (ty := .int) (by decide)
      refine Own.dup at_122 rfl ?_
      refine Own.aload at_123 rfl rfl ?_
      refine Own.iloadN at_125 rfl ?_
      refine Own.iloadN at_126 rfl ?_
      refine Own.callI_ b222 [(.ref b174), (.int p3), (.int p3)] [(.ref b222)] 1 (rmSP l Z a0 hw [] b222 b174 p3 p3 h222 n0 hn g_b222 X_b222 F_text_b222 F_from_b222 F_to_b222) (allS (List.mem_of_getElem? (i := 0) rfl) all0) (hw _ (List.mem_of_getElem? (i := 34) rfl)) (hw _ (List.mem_of_getElem? (i := 35) rfl)) (hw _ (List.mem_of_getElem? (i := 33) rfl)) (hw _ (List.mem_of_getElem? (i := 36) rfl)) rfl (by decide) at_127 pd_11 rfl rfl rfl rfl (by decide) (by decide) (by decide) (by decide) (fun v223 h223 S223 hq223 => ?_)
      obtain ⟨rfl, K224, G1, G2, G3⟩ := hq223
      have hn := Nat.le_trans hn K224.1
      replace S_C := sta_keep S_C K224 (nsS X_b222.nostat ns0)
      replace S_F := sta_keep S_F K224 (nsS X_b222.nostat ns0)
      replace V173 := V173.keep K224 (ninS ne_b169_b222 nin0)
      replace X_b174 := X_b174.keep K224
      replace F_value_b174 := F_value_b174.keep K224 (ninS ne_b174_b222 nin0)
      replace F_coder_b174 := F_coder_b174.keep K224 (ninS ne_b174_b222 nin0)
      replace V176 := V176.keep K224 (ninS ne_b176_b222 nin0)
      replace X_b217 := X_b217.keep K224
      replace F_text_b217 := F_text_b217.keep K224 (ninS ne_b217_b222 nin0)
      replace F_from_b217 := F_from_b217.keep K224 (ninS ne_b217_b222 nin0)
      replace F_to_b217 := F_to_b217.keep K224 (ninS ne_b217_b222 nin0)
      replace X_s221 := X_s221.keep K224
      replace F_value_s221 := F_value_s221.keep K224 (ninS ne_s221_b222 nin0)
      replace F_coder_s221 := F_coder_s221.keep K224 (ninS ne_s221_b222 nin0)
      replace V_t221 := V_t221.keep K224 (ninS ne_t221_b222 nin0)
      replace X_b222 := X_b222.keep K224
      have F_text_b222 := G1
      have F_from_b222 := G2
      have F_to_b222 := G3
      refine ⟨[], all0, ?_⟩
      refine OAt.cast (st' := [(.ref b222)]) rfl ?_
      refine Own.callVP b222 [] [] 0 (rmSEq l Z a0 hw [] b222 p3 h223 n0 hn F_from_b222 F_to_b222) (hw _ (List.mem_of_getElem? (i := 49) rfl)) (hw _ (List.mem_of_getElem? (i := 50) rfl)) (fun s hZ => notFace_of_selects (args := #[]) (mvT hZ (hw _ (List.mem_of_getElem? (i := 52) rfl)))) (hw _ (List.mem_of_getElem? (i := 52) rfl)) (hw _ (List.mem_of_getElem? (i := 51) rfl)) (hw _ (List.mem_of_getElem? (i := 33) rfl)) (hw _ (List.mem_of_getElem? (i := 53) rfl)) (by decide) X_b222 at_130 pd_4 rfl rfl rfl rfl (by decide) (by decide) (by decide) (by decide) ?_
      refine Own.istore #[.val (.int p0), .val (.int p1), .val (.int p2), .val (.int p3), .val (.ref b169), .val (.ref b174), .val (.int (1 : Int32)), .val (.int (1 : Int32)), .val (.ref b217), .val (.int (1 : Int32)), .val (.int (1 : Int32)), .val (.int (1 : Int32))] at_133 rfl ?_
      refine Own.iload at_135 rfl ?_
      refine Own.iload at_137 rfl ?_
      refine Own.icmp_ne 151 at_139 (by decide) rfl (fun q => absurd (by decide) q) (fun _ => ?_)
      refine Own.iload at_142 rfl ?_
      refine Own.if_eq 151 at_144 (by decide) rfl (fun q => absurd q (by decide)) (fun _ => ?_)
      refine Own.iconst (1 : Int32) at_147 rfl ?_
      refine Own.goto_ 152 at_148 (by decide) rfl ?_
      refine Own.ret_nar (t := .boolean) (by simp) rfl at_152 (by decide) (by decide) (fun Sf hSf => ?_)
      exact rfl
    · refine Own.new_ (hw _ (List.mem_of_getElem? (i := 31) rfl)) (hw _ (List.mem_of_getElem? (i := 32) rfl)) (hw _ (List.mem_of_getElem? (i := 33) rfl)) at_87 (by decide) (by decide) (fun h225 b225 gb225 E225 X225 D225 => ?_)
      have g_b225 : n0 ≤ b225 := by rw [gb225]; exact hn
      have ne_b169_b225 : b169 ≠ b225 := fun q => Nat.ne_of_lt V173.lt (q.trans gb225)
      have ne_b225_b169 := Ne.symm ne_b169_b225
      have ne_b174_b225 : b174 ≠ b225 := fun q => Nat.ne_of_lt X_b174.lt (q.trans gb225)
      have ne_b225_b174 := Ne.symm ne_b174_b225
      have ne_b176_b225 : b176 ≠ b225 := fun q => Nat.ne_of_lt V176.lt (q.trans gb225)
      have ne_b225_b176 := Ne.symm ne_b176_b225
      have hn := Nat.le_trans hn E225.1
      replace S_C := S_C.ext E225
      replace S_F := S_F.ext E225
      replace V173 := V173.ext E225
      replace X_b174 := X_b174.ext E225
      replace F_value_b174 := F_value_b174.ext E225
      replace F_coder_b174 := F_coder_b174.ext E225
      replace V176 := V176.ext E225
      have X_b225 := X225
      have F_text_b225 : Fld Z h225 b225 "com/example/cytorelay/cytorelay/core/Hl7Syntax$Span" "text" "Ljava/lang/String;" .null := D225 (Or.inr (hw _ (List.mem_of_getElem? (i := 44) rfl))) (ty := (.object "java/lang/String")) (by decide)
      have F_from_b225 : Fld Z h225 b225 "com/example/cytorelay/cytorelay/core/Hl7Syntax$Span" "from" "I" (.int (0 : Int32)) := D225 (Or.inr (hw _ (List.mem_of_getElem? (i := 46) rfl))) (ty := .int) (by decide)
      have F_to_b225 : Fld Z h225 b225 "com/example/cytorelay/cytorelay/core/Hl7Syntax$Span" "to" "I" (.int (0 : Int32)) := D225 (Or.inr (hw _ (List.mem_of_getElem? (i := 48) rfl))) (ty := .int) (by decide)
      refine Own.dup at_90 rfl ?_
      refine Own.aload at_91 rfl rfl ?_
      refine Own.iload at_93 rfl ?_
      refine Own.iload at_95 rfl ?_
      refine Own.callI_ b225 [(.ref b174), (.int (1 : Int32)), (.int (2 : Int32))] [(.ref b225)] 1 (rmSP l Z a0 hw [] b225 b174 (1 : Int32) (2 : Int32) h225 n0 hn g_b225 X_b225 F_text_b225 F_from_b225 F_to_b225) (allS (List.mem_of_getElem? (i := 0) rfl) all0) (hw _ (List.mem_of_getElem? (i := 34) rfl)) (hw _ (List.mem_of_getElem? (i := 35) rfl)) (hw _ (List.mem_of_getElem? (i := 33) rfl)) (hw _ (List.mem_of_getElem? (i := 36) rfl)) rfl (by decide) at_97 pd_11 rfl rfl rfl rfl (by decide) (by decide) (by decide) (by decide) (fun v226 h226 S226 hq226 => ?_)
      obtain ⟨rfl, K227, G1, G2, G3⟩ := hq226
      have hn := Nat.le_trans hn K227.1
      replace S_C := sta_keep S_C K227 (nsS X_b225.nostat ns0)
      replace S_F := sta_keep S_F K227 (nsS X_b225.nostat ns0)
      replace V173 := V173.keep K227 (ninS ne_b169_b225 nin0)
      replace X_b174 := X_b174.keep K227
      replace F_value_b174 := F_value_b174.keep K227 (ninS ne_b174_b225 nin0)
      replace F_coder_b174 := F_coder_b174.keep K227 (ninS ne_b174_b225 nin0)
      replace V176 := V176.keep K227 (ninS ne_b176_b225 nin0)
      replace X_b225 := X_b225.keep K227
      have F_text_b225 := G1
      have F_from_b225 := G2
      have F_to_b225 := G3
      refine ⟨[], all0, ?_⟩
      refine OAt.cast (st' := [(.ref b225)]) rfl ?_
      refine Own.astore #[.val (.int p0), .val (.int p1), .val (.int p2), .val (.int p3), .val (.ref b169), .val (.ref b174), .val (.int (1 : Int32)), .val (.int (2 : Int32)), .val (.ref b225), .unset, .unset, .unset] at_100 rfl rfl ?_
      refine Own.aload at_102 rfl rfl ?_
      refine Own.callVP b225 [] [] 0 (rmSE1_2 l Z a0 hw [] b225  h226 n0 hn F_from_b225 F_to_b225) (hw _ (List.mem_of_getElem? (i := 49) rfl)) (hw _ (List.mem_of_getElem? (i := 50) rfl)) (fun s hZ => notFace_of_selects (args := #[]) (mvT hZ (hw _ (List.mem_of_getElem? (i := 52) rfl)))) (hw _ (List.mem_of_getElem? (i := 52) rfl)) (hw _ (List.mem_of_getElem? (i := 51) rfl)) (hw _ (List.mem_of_getElem? (i := 33) rfl)) (hw _ (List.mem_of_getElem? (i := 53) rfl)) (by decide) X_b225 at_104 pd_4 rfl rfl rfl rfl (by decide) (by decide) (by decide) (by decide) ?_
      refine Own.istore #[.val (.int p0), .val (.int p1), .val (.int p2), .val (.int p3), .val (.ref b169), .val (.ref b174), .val (.int (1 : Int32)), .val (.int (2 : Int32)), .val (.ref b225), .val (.int (0 : Int32)), .unset, .unset] at_107 rfl ?_
      refine Own.aload at_109 rfl rfl ?_
      refine Own.callV_ b225 [] [] 0 (rmCut1_2 l Z a0 hw [] b225 b174 b176 k176 zc vf (nar .byte ((nar .char ((p0 &&& (255 : Int32)).toUInt32.toUInt16.toUInt32.toInt32)).toInt8.toInt32)) (nar .byte ((nar .char ((((p0.toUInt32 >>> ((8 : Int32) &&& 31).toUInt32).toInt32) &&& (255 : Int32)).toUInt32.toUInt16.toUInt32.toInt32)).toInt8.toInt32)) (nar .byte ((nar .char ((((p0.toUInt32 >>> ((16 : Int32) &&& 31).toUInt32).toInt32) &&& (255 : Int32)).toUInt32.toUInt16.toUInt32.toInt32)).toInt8.toInt32)) (nar .byte ((nar .char ((((p0.toUInt32 >>> ((24 : Int32) &&& 31).toUInt32).toInt32) &&& (255 : Int32)).toUInt32.toUInt16.toUInt32.toInt32)).toInt8.toInt32)) h226 n0 hn X_b174 F_value_b174 F_coder_b174 V176 S_C S_F hz hvf F_text_b225 F_from_b225 F_to_b225) all0 (hw _ (List.mem_of_getElem? (i := 54) rfl)) (hw _ (List.mem_of_getElem? (i := 55) rfl)) (fun s hZ => notFace_of_selects (args := #[]) (mvT hZ (hw _ (List.mem_of_getElem? (i := 57) rfl)))) (hw _ (List.mem_of_getElem? (i := 57) rfl)) (hw _ (List.mem_of_getElem? (i := 56) rfl)) (hw _ (List.mem_of_getElem? (i := 33) rfl)) (hw _ (List.mem_of_getElem? (i := 58) rfl)) (by decide) X_b225 at_111 pd_2 rfl rfl rfl rfl (by decide) (by decide) (by decide) (by decide) (fun v228 h228 S228 hq228 => ?_)
      obtain ⟨K229, s229, t229, kt229, rfl, X_s229, F_value_s229, F_coder_s229, V_t229⟩ := hq228
      have hn := Nat.le_trans hn K229.1
      replace S_C := sta_keep S_C K229 ns0
      replace S_F := sta_keep S_F K229 ns0
      replace V173 := V173.keep K229 nin0
      replace X_b174 := X_b174.keep K229
      replace F_value_b174 := F_value_b174.keep K229 nin0
      replace F_coder_b174 := F_coder_b174.keep K229 nin0
      replace V176 := V176.keep K229 nin0
      replace X_b225 := X_b225.keep K229
      replace F_text_b225 := F_text_b225.keep K229 nin0
      replace F_from_b225 := F_from_b225.keep K229 nin0
      replace F_to_b225 := F_to_b225.keep K229 nin0
      refine ⟨[], all0, ?_⟩
      refine OAt.cast (st' := [(.ref s229)]) rfl ?_
      refine Own.callVP s229 [] [] 0 (rm_empty_1 l Z a0 hw [] s229 t229 kt229 _ zc h228 n0 hn X_s229 F_value_s229 F_coder_s229 V_t229 rfl S_C hz) (hw _ (List.mem_of_getElem? (i := 94) rfl)) (hw _ (List.mem_of_getElem? (i := 95) rfl)) (fun s hZ => notFace_of_selects (args := #[]) (mvT hZ (hw _ (List.mem_of_getElem? (i := 97) rfl)))) (hw _ (List.mem_of_getElem? (i := 97) rfl)) (hw _ (List.mem_of_getElem? (i := 96) rfl)) (hw _ (List.mem_of_getElem? (i := 3) rfl)) (hw _ (List.mem_of_getElem? (i := 98) rfl)) (by decide) X_s229 at_114 pd_4 rfl rfl rfl rfl (by decide) (by decide) (by decide) (by decide) ?_
      refine Own.istore #[.val (.int p0), .val (.int p1), .val (.int p2), .val (.int p3), .val (.ref b169), .val (.ref b174), .val (.int (1 : Int32)), .val (.int (2 : Int32)), .val (.ref b225), .val (.int (0 : Int32)), .val (.int (0 : Int32)), .unset] at_117 rfl ?_
      refine Own.new_ (hw _ (List.mem_of_getElem? (i := 31) rfl)) (hw _ (List.mem_of_getElem? (i := 32) rfl)) (hw _ (List.mem_of_getElem? (i := 33) rfl)) at_119 (by decide) (by decide) (fun h230 b230 gb230 E230 X230 D230 => ?_)
      have g_b230 : n0 ≤ b230 := by rw [gb230]; exact hn
      have ne_b169_b230 : b169 ≠ b230 := fun q => Nat.ne_of_lt V173.lt (q.trans gb230)
      have ne_b230_b169 := Ne.symm ne_b169_b230
      have ne_b174_b230 : b174 ≠ b230 := fun q => Nat.ne_of_lt X_b174.lt (q.trans gb230)
      have ne_b230_b174 := Ne.symm ne_b174_b230
      have ne_b176_b230 : b176 ≠ b230 := fun q => Nat.ne_of_lt V176.lt (q.trans gb230)
      have ne_b230_b176 := Ne.symm ne_b176_b230
      have ne_b225_b230 : b225 ≠ b230 := fun q => Nat.ne_of_lt X_b225.lt (q.trans gb230)
      have ne_b230_b225 := Ne.symm ne_b225_b230
      have ne_s229_b230 : s229 ≠ b230 := fun q => Nat.ne_of_lt X_s229.lt (q.trans gb230)
      have ne_b230_s229 := Ne.symm ne_s229_b230
      have ne_t229_b230 : t229 ≠ b230 := fun q => Nat.ne_of_lt V_t229.lt (q.trans gb230)
      have ne_b230_t229 := Ne.symm ne_t229_b230
      have hn := Nat.le_trans hn E230.1
      replace S_C := S_C.ext E230
      replace S_F := S_F.ext E230
      replace V173 := V173.ext E230
      replace X_b174 := X_b174.ext E230
      replace F_value_b174 := F_value_b174.ext E230
      replace F_coder_b174 := F_coder_b174.ext E230
      replace V176 := V176.ext E230
      replace X_b225 := X_b225.ext E230
      replace F_text_b225 := F_text_b225.ext E230
      replace F_from_b225 := F_from_b225.ext E230
      replace F_to_b225 := F_to_b225.ext E230
      replace X_s229 := X_s229.ext E230
      replace F_value_s229 := F_value_s229.ext E230
      replace F_coder_s229 := F_coder_s229.ext E230
      replace V_t229 := V_t229.ext E230
      have X_b230 := X230
      have F_text_b230 : Fld Z h230 b230 "com/example/cytorelay/cytorelay/core/Hl7Syntax$Span" "text" "Ljava/lang/String;" .null := D230 (Or.inr (hw _ (List.mem_of_getElem? (i := 44) rfl))) (ty := (.object "java/lang/String")) (by decide)
      have F_from_b230 : Fld Z h230 b230 "com/example/cytorelay/cytorelay/core/Hl7Syntax$Span" "from" "I" (.int (0 : Int32)) := D230 (Or.inr (hw _ (List.mem_of_getElem? (i := 46) rfl))) (ty := .int) (by decide)
      have F_to_b230 : Fld Z h230 b230 "com/example/cytorelay/cytorelay/core/Hl7Syntax$Span" "to" "I" (.int (0 : Int32)) := D230 (Or.inr (hw _ (List.mem_of_getElem? (i := 48) rfl))) (ty := .int) (by decide)
      refine Own.dup at_122 rfl ?_
      refine Own.aload at_123 rfl rfl ?_
      refine Own.iloadN at_125 rfl ?_
      refine Own.iloadN at_126 rfl ?_
      refine Own.callI_ b230 [(.ref b174), (.int p3), (.int p3)] [(.ref b230)] 1 (rmSP l Z a0 hw [] b230 b174 p3 p3 h230 n0 hn g_b230 X_b230 F_text_b230 F_from_b230 F_to_b230) (allS (List.mem_of_getElem? (i := 0) rfl) all0) (hw _ (List.mem_of_getElem? (i := 34) rfl)) (hw _ (List.mem_of_getElem? (i := 35) rfl)) (hw _ (List.mem_of_getElem? (i := 33) rfl)) (hw _ (List.mem_of_getElem? (i := 36) rfl)) rfl (by decide) at_127 pd_11 rfl rfl rfl rfl (by decide) (by decide) (by decide) (by decide) (fun v231 h231 S231 hq231 => ?_)
      obtain ⟨rfl, K232, G1, G2, G3⟩ := hq231
      have hn := Nat.le_trans hn K232.1
      replace S_C := sta_keep S_C K232 (nsS X_b230.nostat ns0)
      replace S_F := sta_keep S_F K232 (nsS X_b230.nostat ns0)
      replace V173 := V173.keep K232 (ninS ne_b169_b230 nin0)
      replace X_b174 := X_b174.keep K232
      replace F_value_b174 := F_value_b174.keep K232 (ninS ne_b174_b230 nin0)
      replace F_coder_b174 := F_coder_b174.keep K232 (ninS ne_b174_b230 nin0)
      replace V176 := V176.keep K232 (ninS ne_b176_b230 nin0)
      replace X_b225 := X_b225.keep K232
      replace F_text_b225 := F_text_b225.keep K232 (ninS ne_b225_b230 nin0)
      replace F_from_b225 := F_from_b225.keep K232 (ninS ne_b225_b230 nin0)
      replace F_to_b225 := F_to_b225.keep K232 (ninS ne_b225_b230 nin0)
      replace X_s229 := X_s229.keep K232
      replace F_value_s229 := F_value_s229.keep K232 (ninS ne_s229_b230 nin0)
      replace F_coder_s229 := F_coder_s229.keep K232 (ninS ne_s229_b230 nin0)
      replace V_t229 := V_t229.keep K232 (ninS ne_t229_b230 nin0)
      replace X_b230 := X_b230.keep K232
      have F_text_b230 := G1
      have F_from_b230 := G2
      have F_to_b230 := G3
      refine ⟨[], all0, ?_⟩
      refine OAt.cast (st' := [(.ref b230)]) rfl ?_
      refine Own.callVP b230 [] [] 0 (rmSEq l Z a0 hw [] b230 p3 h231 n0 hn F_from_b230 F_to_b230) (hw _ (List.mem_of_getElem? (i := 49) rfl)) (hw _ (List.mem_of_getElem? (i := 50) rfl)) (fun s hZ => notFace_of_selects (args := #[]) (mvT hZ (hw _ (List.mem_of_getElem? (i := 52) rfl)))) (hw _ (List.mem_of_getElem? (i := 52) rfl)) (hw _ (List.mem_of_getElem? (i := 51) rfl)) (hw _ (List.mem_of_getElem? (i := 33) rfl)) (hw _ (List.mem_of_getElem? (i := 53) rfl)) (by decide) X_b230 at_130 pd_4 rfl rfl rfl rfl (by decide) (by decide) (by decide) (by decide) ?_
      refine Own.istore #[.val (.int p0), .val (.int p1), .val (.int p2), .val (.int p3), .val (.ref b169), .val (.ref b174), .val (.int (1 : Int32)), .val (.int (2 : Int32)), .val (.ref b225), .val (.int (0 : Int32)), .val (.int (0 : Int32)), .val (.int (1 : Int32))] at_133 rfl ?_
      refine Own.iload at_135 rfl ?_
      refine Own.iload at_137 rfl ?_
      refine Own.icmp_ne 151 at_139 (by decide) rfl (fun q => absurd (by decide) q) (fun _ => ?_)
      refine Own.iload at_142 rfl ?_
      refine Own.if_eq 151 at_144 (by decide) rfl (fun q => absurd q (by decide)) (fun _ => ?_)
      refine Own.iconst (1 : Int32) at_147 rfl ?_
      refine Own.goto_ 152 at_148 (by decide) rfl ?_
      refine Own.ret_nar (t := .boolean) (by simp) rfl at_152 (by decide) (by decide) (fun Sf hSf => ?_)
      exact rfl
    · refine Own.new_ (hw _ (List.mem_of_getElem? (i := 31) rfl)) (hw _ (List.mem_of_getElem? (i := 32) rfl)) (hw _ (List.mem_of_getElem? (i := 33) rfl)) at_87 (by decide) (by decide) (fun h233 b233 gb233 E233 X233 D233 => ?_)
      have g_b233 : n0 ≤ b233 := by rw [gb233]; exact hn
      have ne_b169_b233 : b169 ≠ b233 := fun q => Nat.ne_of_lt V173.lt (q.trans gb233)
      have ne_b233_b169 := Ne.symm ne_b169_b233
      have ne_b174_b233 : b174 ≠ b233 := fun q => Nat.ne_of_lt X_b174.lt (q.trans gb233)
      have ne_b233_b174 := Ne.symm ne_b174_b233
      have ne_b176_b233 : b176 ≠ b233 := fun q => Nat.ne_of_lt V176.lt (q.trans gb233)
      have ne_b233_b176 := Ne.symm ne_b176_b233
      have hn := Nat.le_trans hn E233.1
      replace S_C := S_C.ext E233
      replace S_F := S_F.ext E233
      replace V173 := V173.ext E233
      replace X_b174 := X_b174.ext E233
      replace F_value_b174 := F_value_b174.ext E233
      replace F_coder_b174 := F_coder_b174.ext E233
      replace V176 := V176.ext E233
      have X_b233 := X233
      have F_text_b233 : Fld Z h233 b233 "com/example/cytorelay/cytorelay/core/Hl7Syntax$Span" "text" "Ljava/lang/String;" .null := D233 (Or.inr (hw _ (List.mem_of_getElem? (i := 44) rfl))) (ty := (.object "java/lang/String")) (by decide)
      have F_from_b233 : Fld Z h233 b233 "com/example/cytorelay/cytorelay/core/Hl7Syntax$Span" "from" "I" (.int (0 : Int32)) := D233 (Or.inr (hw _ (List.mem_of_getElem? (i := 46) rfl))) (ty := .int) (by decide)
      have F_to_b233 : Fld Z h233 b233 "com/example/cytorelay/cytorelay/core/Hl7Syntax$Span" "to" "I" (.int (0 : Int32)) := D233 (Or.inr (hw _ (List.mem_of_getElem? (i := 48) rfl))) (ty := .int) (by decide)
      refine Own.dup at_90 rfl ?_
      refine Own.aload at_91 rfl rfl ?_
      refine Own.iload at_93 rfl ?_
      refine Own.iload at_95 rfl ?_
      refine Own.callI_ b233 [(.ref b174), (.int (1 : Int32)), (.int (3 : Int32))] [(.ref b233)] 1 (rmSP l Z a0 hw [] b233 b174 (1 : Int32) (3 : Int32) h233 n0 hn g_b233 X_b233 F_text_b233 F_from_b233 F_to_b233) (allS (List.mem_of_getElem? (i := 0) rfl) all0) (hw _ (List.mem_of_getElem? (i := 34) rfl)) (hw _ (List.mem_of_getElem? (i := 35) rfl)) (hw _ (List.mem_of_getElem? (i := 33) rfl)) (hw _ (List.mem_of_getElem? (i := 36) rfl)) rfl (by decide) at_97 pd_11 rfl rfl rfl rfl (by decide) (by decide) (by decide) (by decide) (fun v234 h234 S234 hq234 => ?_)
      obtain ⟨rfl, K235, G1, G2, G3⟩ := hq234
      have hn := Nat.le_trans hn K235.1
      replace S_C := sta_keep S_C K235 (nsS X_b233.nostat ns0)
      replace S_F := sta_keep S_F K235 (nsS X_b233.nostat ns0)
      replace V173 := V173.keep K235 (ninS ne_b169_b233 nin0)
      replace X_b174 := X_b174.keep K235
      replace F_value_b174 := F_value_b174.keep K235 (ninS ne_b174_b233 nin0)
      replace F_coder_b174 := F_coder_b174.keep K235 (ninS ne_b174_b233 nin0)
      replace V176 := V176.keep K235 (ninS ne_b176_b233 nin0)
      replace X_b233 := X_b233.keep K235
      have F_text_b233 := G1
      have F_from_b233 := G2
      have F_to_b233 := G3
      refine ⟨[], all0, ?_⟩
      refine OAt.cast (st' := [(.ref b233)]) rfl ?_
      refine Own.astore #[.val (.int p0), .val (.int p1), .val (.int p2), .val (.int p3), .val (.ref b169), .val (.ref b174), .val (.int (1 : Int32)), .val (.int (3 : Int32)), .val (.ref b233), .unset, .unset, .unset] at_100 rfl rfl ?_
      refine Own.aload at_102 rfl rfl ?_
      refine Own.callVP b233 [] [] 0 (rmSE1_3 l Z a0 hw [] b233  h234 n0 hn F_from_b233 F_to_b233) (hw _ (List.mem_of_getElem? (i := 49) rfl)) (hw _ (List.mem_of_getElem? (i := 50) rfl)) (fun s hZ => notFace_of_selects (args := #[]) (mvT hZ (hw _ (List.mem_of_getElem? (i := 52) rfl)))) (hw _ (List.mem_of_getElem? (i := 52) rfl)) (hw _ (List.mem_of_getElem? (i := 51) rfl)) (hw _ (List.mem_of_getElem? (i := 33) rfl)) (hw _ (List.mem_of_getElem? (i := 53) rfl)) (by decide) X_b233 at_104 pd_4 rfl rfl rfl rfl (by decide) (by decide) (by decide) (by decide) ?_
      refine Own.istore #[.val (.int p0), .val (.int p1), .val (.int p2), .val (.int p3), .val (.ref b169), .val (.ref b174), .val (.int (1 : Int32)), .val (.int (3 : Int32)), .val (.ref b233), .val (.int (0 : Int32)), .unset, .unset] at_107 rfl ?_
      refine Own.aload at_109 rfl rfl ?_
      refine Own.callV_ b233 [] [] 0 (rmCut1_3 l Z a0 hw [] b233 b174 b176 k176 zc vf (nar .byte ((nar .char ((p0 &&& (255 : Int32)).toUInt32.toUInt16.toUInt32.toInt32)).toInt8.toInt32)) (nar .byte ((nar .char ((((p0.toUInt32 >>> ((8 : Int32) &&& 31).toUInt32).toInt32) &&& (255 : Int32)).toUInt32.toUInt16.toUInt32.toInt32)).toInt8.toInt32)) (nar .byte ((nar .char ((((p0.toUInt32 >>> ((16 : Int32) &&& 31).toUInt32).toInt32) &&& (255 : Int32)).toUInt32.toUInt16.toUInt32.toInt32)).toInt8.toInt32)) (nar .byte ((nar .char ((((p0.toUInt32 >>> ((24 : Int32) &&& 31).toUInt32).toInt32) &&& (255 : Int32)).toUInt32.toUInt16.toUInt32.toInt32)).toInt8.toInt32)) h234 n0 hn X_b174 F_value_b174 F_coder_b174 V176 S_C S_F hz hvf F_text_b233 F_from_b233 F_to_b233) all0 (hw _ (List.mem_of_getElem? (i := 54) rfl)) (hw _ (List.mem_of_getElem? (i := 55) rfl)) (fun s hZ => notFace_of_selects (args := #[]) (mvT hZ (hw _ (List.mem_of_getElem? (i := 57) rfl)))) (hw _ (List.mem_of_getElem? (i := 57) rfl)) (hw _ (List.mem_of_getElem? (i := 56) rfl)) (hw _ (List.mem_of_getElem? (i := 33) rfl)) (hw _ (List.mem_of_getElem? (i := 58) rfl)) (by decide) X_b233 at_111 pd_2 rfl rfl rfl rfl (by decide) (by decide) (by decide) (by decide) (fun v236 h236 S236 hq236 => ?_)
      obtain ⟨K237, s237, t237, kt237, rfl, X_s237, F_value_s237, F_coder_s237, V_t237⟩ := hq236
      have hn := Nat.le_trans hn K237.1
      replace S_C := sta_keep S_C K237 ns0
      replace S_F := sta_keep S_F K237 ns0
      replace V173 := V173.keep K237 nin0
      replace X_b174 := X_b174.keep K237
      replace F_value_b174 := F_value_b174.keep K237 nin0
      replace F_coder_b174 := F_coder_b174.keep K237 nin0
      replace V176 := V176.keep K237 nin0
      replace X_b233 := X_b233.keep K237
      replace F_text_b233 := F_text_b233.keep K237 nin0
      replace F_from_b233 := F_from_b233.keep K237 nin0
      replace F_to_b233 := F_to_b233.keep K237 nin0
      refine ⟨[], all0, ?_⟩
      refine OAt.cast (st' := [(.ref s237)]) rfl ?_
      refine Own.callVP s237 [] [] 0 (rm_empty_2 l Z a0 hw [] s237 t237 kt237 _ zc h236 n0 hn X_s237 F_value_s237 F_coder_s237 V_t237 rfl S_C hz) (hw _ (List.mem_of_getElem? (i := 94) rfl)) (hw _ (List.mem_of_getElem? (i := 95) rfl)) (fun s hZ => notFace_of_selects (args := #[]) (mvT hZ (hw _ (List.mem_of_getElem? (i := 97) rfl)))) (hw _ (List.mem_of_getElem? (i := 97) rfl)) (hw _ (List.mem_of_getElem? (i := 96) rfl)) (hw _ (List.mem_of_getElem? (i := 3) rfl)) (hw _ (List.mem_of_getElem? (i := 98) rfl)) (by decide) X_s237 at_114 pd_4 rfl rfl rfl rfl (by decide) (by decide) (by decide) (by decide) ?_
      refine Own.istore #[.val (.int p0), .val (.int p1), .val (.int p2), .val (.int p3), .val (.ref b169), .val (.ref b174), .val (.int (1 : Int32)), .val (.int (3 : Int32)), .val (.ref b233), .val (.int (0 : Int32)), .val (.int (0 : Int32)), .unset] at_117 rfl ?_
      refine Own.new_ (hw _ (List.mem_of_getElem? (i := 31) rfl)) (hw _ (List.mem_of_getElem? (i := 32) rfl)) (hw _ (List.mem_of_getElem? (i := 33) rfl)) at_119 (by decide) (by decide) (fun h238 b238 gb238 E238 X238 D238 => ?_)
      have g_b238 : n0 ≤ b238 := by rw [gb238]; exact hn
      have ne_b169_b238 : b169 ≠ b238 := fun q => Nat.ne_of_lt V173.lt (q.trans gb238)
      have ne_b238_b169 := Ne.symm ne_b169_b238
      have ne_b174_b238 : b174 ≠ b238 := fun q => Nat.ne_of_lt X_b174.lt (q.trans gb238)
      have ne_b238_b174 := Ne.symm ne_b174_b238
      have ne_b176_b238 : b176 ≠ b238 := fun q => Nat.ne_of_lt V176.lt (q.trans gb238)
      have ne_b238_b176 := Ne.symm ne_b176_b238
      have ne_b233_b238 : b233 ≠ b238 := fun q => Nat.ne_of_lt X_b233.lt (q.trans gb238)
      have ne_b238_b233 := Ne.symm ne_b233_b238
      have ne_s237_b238 : s237 ≠ b238 := fun q => Nat.ne_of_lt X_s237.lt (q.trans gb238)
      have ne_b238_s237 := Ne.symm ne_s237_b238
      have ne_t237_b238 : t237 ≠ b238 := fun q => Nat.ne_of_lt V_t237.lt (q.trans gb238)
      have ne_b238_t237 := Ne.symm ne_t237_b238
      have hn := Nat.le_trans hn E238.1
      replace S_C := S_C.ext E238
      replace S_F := S_F.ext E238
      replace V173 := V173.ext E238
      replace X_b174 := X_b174.ext E238
      replace F_value_b174 := F_value_b174.ext E238
      replace F_coder_b174 := F_coder_b174.ext E238
      replace V176 := V176.ext E238
      replace X_b233 := X_b233.ext E238
      replace F_text_b233 := F_text_b233.ext E238
      replace F_from_b233 := F_from_b233.ext E238
      replace F_to_b233 := F_to_b233.ext E238
      replace X_s237 := X_s237.ext E238
      replace F_value_s237 := F_value_s237.ext E238
      replace F_coder_s237 := F_coder_s237.ext E238
      replace V_t237 := V_t237.ext E238
      have X_b238 := X238
      have F_text_b238 : Fld Z h238 b238 "com/example/cytorelay/cytorelay/core/Hl7Syntax$Span" "text" "Ljava/lang/String;" .null := D238 (Or.inr (hw _ (List.mem_of_getElem? (i := 44) rfl))) (ty := (.object "java/lang/String")) (by decide)
      have F_from_b238 : Fld Z h238 b238 "com/example/cytorelay/cytorelay/core/Hl7Syntax$Span" "from" "I" (.int (0 : Int32)) := D238 (Or.inr (hw _ (List.mem_of_getElem? (i := 46) rfl))) (ty := .int) (by decide)
      have F_to_b238 : Fld Z h238 b238 "com/example/cytorelay/cytorelay/core/Hl7Syntax$Span" "to" "I" (.int (0 : Int32)) := D238 (Or.inr (hw _ (List.mem_of_getElem? (i := 48) rfl))) (ty := .int) (by decide)
      refine Own.dup at_122 rfl ?_
      refine Own.aload at_123 rfl rfl ?_
      refine Own.iloadN at_125 rfl ?_
      refine Own.iloadN at_126 rfl ?_
      refine Own.callI_ b238 [(.ref b174), (.int p3), (.int p3)] [(.ref b238)] 1 (rmSP l Z a0 hw [] b238 b174 p3 p3 h238 n0 hn g_b238 X_b238 F_text_b238 F_from_b238 F_to_b238) (allS (List.mem_of_getElem? (i := 0) rfl) all0) (hw _ (List.mem_of_getElem? (i := 34) rfl)) (hw _ (List.mem_of_getElem? (i := 35) rfl)) (hw _ (List.mem_of_getElem? (i := 33) rfl)) (hw _ (List.mem_of_getElem? (i := 36) rfl)) rfl (by decide) at_127 pd_11 rfl rfl rfl rfl (by decide) (by decide) (by decide) (by decide) (fun v239 h239 S239 hq239 => ?_)
      obtain ⟨rfl, K240, G1, G2, G3⟩ := hq239
      have hn := Nat.le_trans hn K240.1
      replace S_C := sta_keep S_C K240 (nsS X_b238.nostat ns0)
      replace S_F := sta_keep S_F K240 (nsS X_b238.nostat ns0)
      replace V173 := V173.keep K240 (ninS ne_b169_b238 nin0)
      replace X_b174 := X_b174.keep K240
      replace F_value_b174 := F_value_b174.keep K240 (ninS ne_b174_b238 nin0)
      replace F_coder_b174 := F_coder_b174.keep K240 (ninS ne_b174_b238 nin0)
      replace V176 := V176.keep K240 (ninS ne_b176_b238 nin0)
      replace X_b233 := X_b233.keep K240
      replace F_text_b233 := F_text_b233.keep K240 (ninS ne_b233_b238 nin0)
      replace F_from_b233 := F_from_b233.keep K240 (ninS ne_b233_b238 nin0)
      replace F_to_b233 := F_to_b233.keep K240 (ninS ne_b233_b238 nin0)
      replace X_s237 := X_s237.keep K240
      replace F_value_s237 := F_value_s237.keep K240 (ninS ne_s237_b238 nin0)
      replace F_coder_s237 := F_coder_s237.keep K240 (ninS ne_s237_b238 nin0)
      replace V_t237 := V_t237.keep K240 (ninS ne_t237_b238 nin0)
      replace X_b238 := X_b238.keep K240
      have F_text_b238 := G1
      have F_from_b238 := G2
      have F_to_b238 := G3
      refine ⟨[], all0, ?_⟩
      refine OAt.cast (st' := [(.ref b238)]) rfl ?_
      refine Own.callVP b238 [] [] 0 (rmSEq l Z a0 hw [] b238 p3 h239 n0 hn F_from_b238 F_to_b238) (hw _ (List.mem_of_getElem? (i := 49) rfl)) (hw _ (List.mem_of_getElem? (i := 50) rfl)) (fun s hZ => notFace_of_selects (args := #[]) (mvT hZ (hw _ (List.mem_of_getElem? (i := 52) rfl)))) (hw _ (List.mem_of_getElem? (i := 52) rfl)) (hw _ (List.mem_of_getElem? (i := 51) rfl)) (hw _ (List.mem_of_getElem? (i := 33) rfl)) (hw _ (List.mem_of_getElem? (i := 53) rfl)) (by decide) X_b238 at_130 pd_4 rfl rfl rfl rfl (by decide) (by decide) (by decide) (by decide) ?_
      refine Own.istore #[.val (.int p0), .val (.int p1), .val (.int p2), .val (.int p3), .val (.ref b169), .val (.ref b174), .val (.int (1 : Int32)), .val (.int (3 : Int32)), .val (.ref b233), .val (.int (0 : Int32)), .val (.int (0 : Int32)), .val (.int (1 : Int32))] at_133 rfl ?_
      refine Own.iload at_135 rfl ?_
      refine Own.iload at_137 rfl ?_
      refine Own.icmp_ne 151 at_139 (by decide) rfl (fun q => absurd (by decide) q) (fun _ => ?_)
      refine Own.iload at_142 rfl ?_
      refine Own.if_eq 151 at_144 (by decide) rfl (fun q => absurd q (by decide)) (fun _ => ?_)
      refine Own.iconst (1 : Int32) at_147 rfl ?_
      refine Own.goto_ 152 at_148 (by decide) rfl ?_
      refine Own.ret_nar (t := .boolean) (by simp) rfl at_152 (by decide) (by decide) (fun Sf hSf => ?_)
      exact rfl
    · refine Own.new_ (hw _ (List.mem_of_getElem? (i := 31) rfl)) (hw _ (List.mem_of_getElem? (i := 32) rfl)) (hw _ (List.mem_of_getElem? (i := 33) rfl)) at_87 (by decide) (by decide) (fun h241 b241 gb241 E241 X241 D241 => ?_)
      have g_b241 : n0 ≤ b241 := by rw [gb241]; exact hn
      have ne_b169_b241 : b169 ≠ b241 := fun q => Nat.ne_of_lt V173.lt (q.trans gb241)
      have ne_b241_b169 := Ne.symm ne_b169_b241
      have ne_b174_b241 : b174 ≠ b241 := fun q => Nat.ne_of_lt X_b174.lt (q.trans gb241)
      have ne_b241_b174 := Ne.symm ne_b174_b241
      have ne_b176_b241 : b176 ≠ b241 := fun q => Nat.ne_of_lt V176.lt (q.trans gb241)
      have ne_b241_b176 := Ne.symm ne_b176_b241
      have hn := Nat.le_trans hn E241.1
      replace S_C := S_C.ext E241
      replace S_F := S_F.ext E241
      replace V173 := V173.ext E241
      replace X_b174 := X_b174.ext E241
      replace F_value_b174 := F_value_b174.ext E241
      replace F_coder_b174 := F_coder_b174.ext E241
      replace V176 := V176.ext E241
      have X_b241 := X241
      have F_text_b241 : Fld Z h241 b241 "com/example/cytorelay/cytorelay/core/Hl7Syntax$Span" "text" "Ljava/lang/String;" .null := D241 (Or.inr (hw _ (List.mem_of_getElem? (i := 44) rfl))) (ty := (.object "java/lang/String")) (by decide)
      have F_from_b241 : Fld Z h241 b241 "com/example/cytorelay/cytorelay/core/Hl7Syntax$Span" "from" "I" (.int (0 : Int32)) := D241 (Or.inr (hw _ (List.mem_of_getElem? (i := 46) rfl))) (ty := .int) (by decide)
      have F_to_b241 : Fld Z h241 b241 "com/example/cytorelay/cytorelay/core/Hl7Syntax$Span" "to" "I" (.int (0 : Int32)) := D241 (Or.inr (hw _ (List.mem_of_getElem? (i := 48) rfl))) (ty := .int) (by decide)
      refine Own.dup at_90 rfl ?_
      refine Own.aload at_91 rfl rfl ?_
      refine Own.iload at_93 rfl ?_
      refine Own.iload at_95 rfl ?_
      refine Own.callI_ b241 [(.ref b174), (.int (1 : Int32)), (.int (4 : Int32))] [(.ref b241)] 1 (rmSP l Z a0 hw [] b241 b174 (1 : Int32) (4 : Int32) h241 n0 hn g_b241 X_b241 F_text_b241 F_from_b241 F_to_b241) (allS (List.mem_of_getElem? (i := 0) rfl) all0) (hw _ (List.mem_of_getElem? (i := 34) rfl)) (hw _ (List.mem_of_getElem? (i := 35) rfl)) (hw _ (List.mem_of_getElem? (i := 33) rfl)) (hw _ (List.mem_of_getElem? (i := 36) rfl)) rfl (by decide) at_97 pd_11 rfl rfl rfl rfl (by decide) (by decide) (by decide) (by decide) (fun v242 h242 S242 hq242 => ?_)
      obtain ⟨rfl, K243, G1, G2, G3⟩ := hq242
      have hn := Nat.le_trans hn K243.1
      replace S_C := sta_keep S_C K243 (nsS X_b241.nostat ns0)
      replace S_F := sta_keep S_F K243 (nsS X_b241.nostat ns0)
      replace V173 := V173.keep K243 (ninS ne_b169_b241 nin0)
      replace X_b174 := X_b174.keep K243
      replace F_value_b174 := F_value_b174.keep K243 (ninS ne_b174_b241 nin0)
      replace F_coder_b174 := F_coder_b174.keep K243 (ninS ne_b174_b241 nin0)
      replace V176 := V176.keep K243 (ninS ne_b176_b241 nin0)
      replace X_b241 := X_b241.keep K243
      have F_text_b241 := G1
      have F_from_b241 := G2
      have F_to_b241 := G3
      refine ⟨[], all0, ?_⟩
      refine OAt.cast (st' := [(.ref b241)]) rfl ?_
      refine Own.astore #[.val (.int p0), .val (.int p1), .val (.int p2), .val (.int p3), .val (.ref b169), .val (.ref b174), .val (.int (1 : Int32)), .val (.int (4 : Int32)), .val (.ref b241), .unset, .unset, .unset] at_100 rfl rfl ?_
      refine Own.aload at_102 rfl rfl ?_
      refine Own.callVP b241 [] [] 0 (rmSE1_4 l Z a0 hw [] b241  h242 n0 hn F_from_b241 F_to_b241) (hw _ (List.mem_of_getElem? (i := 49) rfl)) (hw _ (List.mem_of_getElem? (i := 50) rfl)) (fun s hZ => notFace_of_selects (args := #[]) (mvT hZ (hw _ (List.mem_of_getElem? (i := 52) rfl)))) (hw _ (List.mem_of_getElem? (i := 52) rfl)) (hw _ (List.mem_of_getElem? (i := 51) rfl)) (hw _ (List.mem_of_getElem? (i := 33) rfl)) (hw _ (List.mem_of_getElem? (i := 53) rfl)) (by decide) X_b241 at_104 pd_4 rfl rfl rfl rfl (by decide) (by decide) (by decide) (by decide) ?_
      refine Own.istore #[.val (.int p0), .val (.int p1), .val (.int p2), .val (.int p3), .val (.ref b169), .val (.ref b174), .val (.int (1 : Int32)), .val (.int (4 : Int32)), .val (.ref b241), .val (.int (0 : Int32)), .unset, .unset] at_107 rfl ?_
      refine Own.aload at_109 rfl rfl ?_
      refine Own.callV_ b241 [] [] 0 (rmCut1_4 l Z a0 hw [] b241 b174 b176 k176 zc vf (nar .byte ((nar .char ((p0 &&& (255 : Int32)).toUInt32.toUInt16.toUInt32.toInt32)).toInt8.toInt32)) (nar .byte ((nar .char ((((p0.toUInt32 >>> ((8 : Int32) &&& 31).toUInt32).toInt32) &&& (255 : Int32)).toUInt32.toUInt16.toUInt32.toInt32)).toInt8.toInt32)) (nar .byte ((nar .char ((((p0.toUInt32 >>> ((16 : Int32) &&& 31).toUInt32).toInt32) &&& (255 : Int32)).toUInt32.toUInt16.toUInt32.toInt32)).toInt8.toInt32)) (nar .byte ((nar .char ((((p0.toUInt32 >>> ((24 : Int32) &&& 31).toUInt32).toInt32) &&& (255 : Int32)).toUInt32.toUInt16.toUInt32.toInt32)).toInt8.toInt32)) h242 n0 hn X_b174 F_value_b174 F_coder_b174 V176 S_C S_F hz hvf F_text_b241 F_from_b241 F_to_b241) all0 (hw _ (List.mem_of_getElem? (i := 54) rfl)) (hw _ (List.mem_of_getElem? (i := 55) rfl)) (fun s hZ => notFace_of_selects (args := #[]) (mvT hZ (hw _ (List.mem_of_getElem? (i := 57) rfl)))) (hw _ (List.mem_of_getElem? (i := 57) rfl)) (hw _ (List.mem_of_getElem? (i := 56) rfl)) (hw _ (List.mem_of_getElem? (i := 33) rfl)) (hw _ (List.mem_of_getElem? (i := 58) rfl)) (by decide) X_b241 at_111 pd_2 rfl rfl rfl rfl (by decide) (by decide) (by decide) (by decide) (fun v244 h244 S244 hq244 => ?_)
      obtain ⟨K245, s245, t245, kt245, rfl, X_s245, F_value_s245, F_coder_s245, V_t245⟩ := hq244
      have hn := Nat.le_trans hn K245.1
      replace S_C := sta_keep S_C K245 ns0
      replace S_F := sta_keep S_F K245 ns0
      replace V173 := V173.keep K245 nin0
      replace X_b174 := X_b174.keep K245
      replace F_value_b174 := F_value_b174.keep K245 nin0
      replace F_coder_b174 := F_coder_b174.keep K245 nin0
      replace V176 := V176.keep K245 nin0
      replace X_b241 := X_b241.keep K245
      replace F_text_b241 := F_text_b241.keep K245 nin0
      replace F_from_b241 := F_from_b241.keep K245 nin0
      replace F_to_b241 := F_to_b241.keep K245 nin0
      refine ⟨[], all0, ?_⟩
      refine OAt.cast (st' := [(.ref s245)]) rfl ?_
      refine Own.callVP s245 [] [] 0 (rm_empty_3 l Z a0 hw [] s245 t245 kt245 _ zc h244 n0 hn X_s245 F_value_s245 F_coder_s245 V_t245 rfl S_C hz) (hw _ (List.mem_of_getElem? (i := 94) rfl)) (hw _ (List.mem_of_getElem? (i := 95) rfl)) (fun s hZ => notFace_of_selects (args := #[]) (mvT hZ (hw _ (List.mem_of_getElem? (i := 97) rfl)))) (hw _ (List.mem_of_getElem? (i := 97) rfl)) (hw _ (List.mem_of_getElem? (i := 96) rfl)) (hw _ (List.mem_of_getElem? (i := 3) rfl)) (hw _ (List.mem_of_getElem? (i := 98) rfl)) (by decide) X_s245 at_114 pd_4 rfl rfl rfl rfl (by decide) (by decide) (by decide) (by decide) ?_
      refine Own.istore #[.val (.int p0), .val (.int p1), .val (.int p2), .val (.int p3), .val (.ref b169), .val (.ref b174), .val (.int (1 : Int32)), .val (.int (4 : Int32)), .val (.ref b241), .val (.int (0 : Int32)), .val (.int (0 : Int32)), .unset] at_117 rfl ?_
      refine Own.new_ (hw _ (List.mem_of_getElem? (i := 31) rfl)) (hw _ (List.mem_of_getElem? (i := 32) rfl)) (hw _ (List.mem_of_getElem? (i := 33) rfl)) at_119 (by decide) (by decide) (fun h246 b246 gb246 E246 X246 D246 => ?_)
      have g_b246 : n0 ≤ b246 := by rw [gb246]; exact hn
      have ne_b169_b246 : b169 ≠ b246 := fun q => Nat.ne_of_lt V173.lt (q.trans gb246)
      have ne_b246_b169 := Ne.symm ne_b169_b246
      have ne_b174_b246 : b174 ≠ b246 := fun q => Nat.ne_of_lt X_b174.lt (q.trans gb246)
      have ne_b246_b174 := Ne.symm ne_b174_b246
      have ne_b176_b246 : b176 ≠ b246 := fun q => Nat.ne_of_lt V176.lt (q.trans gb246)
      have ne_b246_b176 := Ne.symm ne_b176_b246
      have ne_b241_b246 : b241 ≠ b246 := fun q => Nat.ne_of_lt X_b241.lt (q.trans gb246)
      have ne_b246_b241 := Ne.symm ne_b241_b246
      have ne_s245_b246 : s245 ≠ b246 := fun q => Nat.ne_of_lt X_s245.lt (q.trans gb246)
      have ne_b246_s245 := Ne.symm ne_s245_b246
      have ne_t245_b246 : t245 ≠ b246 := fun q => Nat.ne_of_lt V_t245.lt (q.trans gb246)
      have ne_b246_t245 := Ne.symm ne_t245_b246
      have hn := Nat.le_trans hn E246.1
      replace S_C := S_C.ext E246
      replace S_F := S_F.ext E246
      replace V173 := V173.ext E246
      replace X_b174 := X_b174.ext E246
      replace F_value_b174 := F_value_b174.ext E246
      replace F_coder_b174 := F_coder_b174.ext E246
      replace V176 := V176.ext E246
      replace X_b241 := X_b241.ext E246
      replace F_text_b241 := F_text_b241.ext E246
      replace F_from_b241 := F_from_b241.ext E246
      replace F_to_b241 := F_to_b241.ext E246
      replace X_s245 := X_s245.ext E246
      replace F_value_s245 := F_value_s245.ext E246
      replace F_coder_s245 := F_coder_s245.ext E246
      replace V_t245 := V_t245.ext E246
      have X_b246 := X246
      have F_text_b246 : Fld Z h246 b246 "com/example/cytorelay/cytorelay/core/Hl7Syntax$Span" "text" "Ljava/lang/String;" .null := D246 (Or.inr (hw _ (List.mem_of_getElem? (i := 44) rfl))) (ty := (.object "java/lang/String")) (by decide)
      have F_from_b246 : Fld Z h246 b246 "com/example/cytorelay/cytorelay/core/Hl7Syntax$Span" "from" "I" (.int (0 : Int32)) := D246 (Or.inr (hw _ (List.mem_of_getElem? (i := 46) rfl))) (ty := .int) (by decide)
      have F_to_b246 : Fld Z h246 b246 "com/example/cytorelay/cytorelay/core/Hl7Syntax$Span" "to" "I" (.int (0 : Int32)) := D246 (Or.inr (hw _ (List.mem_of_getElem? (i := 48) rfl))) (ty := .int) (by decide)
      refine Own.dup at_122 rfl ?_
      refine Own.aload at_123 rfl rfl ?_
      refine Own.iloadN at_125 rfl ?_
      refine Own.iloadN at_126 rfl ?_
      refine Own.callI_ b246 [(.ref b174), (.int p3), (.int p3)] [(.ref b246)] 1 (rmSP l Z a0 hw [] b246 b174 p3 p3 h246 n0 hn g_b246 X_b246 F_text_b246 F_from_b246 F_to_b246) (allS (List.mem_of_getElem? (i := 0) rfl) all0) (hw _ (List.mem_of_getElem? (i := 34) rfl)) (hw _ (List.mem_of_getElem? (i := 35) rfl)) (hw _ (List.mem_of_getElem? (i := 33) rfl)) (hw _ (List.mem_of_getElem? (i := 36) rfl)) rfl (by decide) at_127 pd_11 rfl rfl rfl rfl (by decide) (by decide) (by decide) (by decide) (fun v247 h247 S247 hq247 => ?_)
      obtain ⟨rfl, K248, G1, G2, G3⟩ := hq247
      have hn := Nat.le_trans hn K248.1
      replace S_C := sta_keep S_C K248 (nsS X_b246.nostat ns0)
      replace S_F := sta_keep S_F K248 (nsS X_b246.nostat ns0)
      replace V173 := V173.keep K248 (ninS ne_b169_b246 nin0)
      replace X_b174 := X_b174.keep K248
      replace F_value_b174 := F_value_b174.keep K248 (ninS ne_b174_b246 nin0)
      replace F_coder_b174 := F_coder_b174.keep K248 (ninS ne_b174_b246 nin0)
      replace V176 := V176.keep K248 (ninS ne_b176_b246 nin0)
      replace X_b241 := X_b241.keep K248
      replace F_text_b241 := F_text_b241.keep K248 (ninS ne_b241_b246 nin0)
      replace F_from_b241 := F_from_b241.keep K248 (ninS ne_b241_b246 nin0)
      replace F_to_b241 := F_to_b241.keep K248 (ninS ne_b241_b246 nin0)
      replace X_s245 := X_s245.keep K248
      replace F_value_s245 := F_value_s245.keep K248 (ninS ne_s245_b246 nin0)
      replace F_coder_s245 := F_coder_s245.keep K248 (ninS ne_s245_b246 nin0)
      replace V_t245 := V_t245.keep K248 (ninS ne_t245_b246 nin0)
      replace X_b246 := X_b246.keep K248
      have F_text_b246 := G1
      have F_from_b246 := G2
      have F_to_b246 := G3
      refine ⟨[], all0, ?_⟩
      refine OAt.cast (st' := [(.ref b246)]) rfl ?_
      refine Own.callVP b246 [] [] 0 (rmSEq l Z a0 hw [] b246 p3 h247 n0 hn F_from_b246 F_to_b246) (hw _ (List.mem_of_getElem? (i := 49) rfl)) (hw _ (List.mem_of_getElem? (i := 50) rfl)) (fun s hZ => notFace_of_selects (args := #[]) (mvT hZ (hw _ (List.mem_of_getElem? (i := 52) rfl)))) (hw _ (List.mem_of_getElem? (i := 52) rfl)) (hw _ (List.mem_of_getElem? (i := 51) rfl)) (hw _ (List.mem_of_getElem? (i := 33) rfl)) (hw _ (List.mem_of_getElem? (i := 53) rfl)) (by decide) X_b246 at_130 pd_4 rfl rfl rfl rfl (by decide) (by decide) (by decide) (by decide) ?_
      refine Own.istore #[.val (.int p0), .val (.int p1), .val (.int p2), .val (.int p3), .val (.ref b169), .val (.ref b174), .val (.int (1 : Int32)), .val (.int (4 : Int32)), .val (.ref b241), .val (.int (0 : Int32)), .val (.int (0 : Int32)), .val (.int (1 : Int32))] at_133 rfl ?_
      refine Own.iload at_135 rfl ?_
      refine Own.iload at_137 rfl ?_
      refine Own.icmp_ne 151 at_139 (by decide) rfl (fun q => absurd (by decide) q) (fun _ => ?_)
      refine Own.iload at_142 rfl ?_
      refine Own.if_eq 151 at_144 (by decide) rfl (fun q => absurd q (by decide)) (fun _ => ?_)
      refine Own.iconst (1 : Int32) at_147 rfl ?_
      refine Own.goto_ 152 at_148 (by decide) rfl ?_
      refine Own.ret_nar (t := .boolean) (by simp) rfl at_152 (by decide) (by decide) (fun Sf hSf => ?_)
      exact rfl
  · have ht : uo = 2 ∨ uo = 3 ∨ uo = 4 := by rw [e_uo]; exact own_t2 p2
    rcases ht with rfl | rfl | rfl
    · refine Own.new_ (hw _ (List.mem_of_getElem? (i := 31) rfl)) (hw _ (List.mem_of_getElem? (i := 32) rfl)) (hw _ (List.mem_of_getElem? (i := 33) rfl)) at_87 (by decide) (by decide) (fun h249 b249 gb249 E249 X249 D249 => ?_)
      have g_b249 : n0 ≤ b249 := by rw [gb249]; exact hn
      have ne_b169_b249 : b169 ≠ b249 := fun q => Nat.ne_of_lt V173.lt (q.trans gb249)
      have ne_b249_b169 := Ne.symm ne_b169_b249
      have ne_b174_b249 : b174 ≠ b249 := fun q => Nat.ne_of_lt X_b174.lt (q.trans gb249)
      have ne_b249_b174 := Ne.symm ne_b174_b249
      have ne_b176_b249 : b176 ≠ b249 := fun q => Nat.ne_of_lt V176.lt (q.trans gb249)
      have ne_b249_b176 := Ne.symm ne_b176_b249
      have hn := Nat.le_trans hn E249.1
      replace S_C := S_C.ext E249
      replace S_F := S_F.ext E249
      replace V173 := V173.ext E249
      replace X_b174 := X_b174.ext E249
      replace F_value_b174 := F_value_b174.ext E249
      replace F_coder_b174 := F_coder_b174.ext E249
      replace V176 := V176.ext E249
      have X_b249 := X249
      have F_text_b249 : Fld Z h249 b249 "com/example/cytorelay/cytorelay/core/Hl7Syntax$Span" "text" "Ljava/lang/String;" .null := D249 (Or.inr (hw _ (List.mem_of_getElem? (i := 44) rfl))) (ty := (.object "java/lang/String")) (by decide)
      have F_from_b249 : Fld Z h249 b249 "com/example/cytorelay/cytorelay/core/Hl7Syntax$Span" "from" "I" (.int (0 : Int32)) := D249 (Or.inr (hw _ (List.mem_of_getElem? (i := 46) rfl))) (ty := .int) (by decide)
      have F_to_b249 : Fld Z h249 b249 "com/example/cytorelay/cytorelay/core/Hl7Syntax$Span" "to" "I" (.int (0 : Int32)) := D249 (Or.inr (hw _ (List.mem_of_getElem? (i := 48) rfl))) (ty := .int) (by decide)
      refine Own.dup at_90 rfl ?_
      refine Own.aload at_91 rfl rfl ?_
      refine Own.iload at_93 rfl ?_
      refine Own.iload at_95 rfl ?_
      refine Own.callI_ b249 [(.ref b174), (.int (2 : Int32)), (.int (2 : Int32))] [(.ref b249)] 1 (rmSP l Z a0 hw [] b249 b174 (2 : Int32) (2 : Int32) h249 n0 hn g_b249 X_b249 F_text_b249 F_from_b249 F_to_b249) (allS (List.mem_of_getElem? (i := 0) rfl) all0) (hw _ (List.mem_of_getElem? (i := 34) rfl)) (hw _ (List.mem_of_getElem? (i := 35) rfl)) (hw _ (List.mem_of_getElem? (i := 33) rfl)) (hw _ (List.mem_of_getElem? (i := 36) rfl)) rfl (by decide) at_97 pd_11 rfl rfl rfl rfl (by decide) (by decide) (by decide) (by decide) (fun v250 h250 S250 hq250 => ?_)
      obtain ⟨rfl, K251, G1, G2, G3⟩ := hq250
      have hn := Nat.le_trans hn K251.1
      replace S_C := sta_keep S_C K251 (nsS X_b249.nostat ns0)
      replace S_F := sta_keep S_F K251 (nsS X_b249.nostat ns0)
      replace V173 := V173.keep K251 (ninS ne_b169_b249 nin0)
      replace X_b174 := X_b174.keep K251
      replace F_value_b174 := F_value_b174.keep K251 (ninS ne_b174_b249 nin0)
      replace F_coder_b174 := F_coder_b174.keep K251 (ninS ne_b174_b249 nin0)
      replace V176 := V176.keep K251 (ninS ne_b176_b249 nin0)
      replace X_b249 := X_b249.keep K251
      have F_text_b249 := G1
      have F_from_b249 := G2
      have F_to_b249 := G3
      refine ⟨[], all0, ?_⟩
      refine OAt.cast (st' := [(.ref b249)]) rfl ?_
      refine Own.astore #[.val (.int p0), .val (.int p1), .val (.int p2), .val (.int p3), .val (.ref b169), .val (.ref b174), .val (.int (2 : Int32)), .val (.int (2 : Int32)), .val (.ref b249), .unset, .unset, .unset] at_100 rfl rfl ?_
      refine Own.aload at_102 rfl rfl ?_
      refine Own.callVP b249 [] [] 0 (rmSE2_2 l Z a0 hw [] b249  h250 n0 hn F_from_b249 F_to_b249) (hw _ (List.mem_of_getElem? (i := 49) rfl)) (hw _ (List.mem_of_getElem? (i := 50) rfl)) (fun s hZ => notFace_of_selects (args := #[]) (mvT hZ (hw _ (List.mem_of_getElem? (i := 52) rfl)))) (hw _ (List.mem_of_getElem? (i := 52) rfl)) (hw _ (List.mem_of_getElem? (i := 51) rfl)) (hw _ (List.mem_of_getElem? (i := 33) rfl)) (hw _ (List.mem_of_getElem? (i := 53) rfl)) (by decide) X_b249 at_104 pd_4 rfl rfl rfl rfl (by decide) (by decide) (by decide) (by decide) ?_
      refine Own.istore #[.val (.int p0), .val (.int p1), .val (.int p2), .val (.int p3), .val (.ref b169), .val (.ref b174), .val (.int (2 : Int32)), .val (.int (2 : Int32)), .val (.ref b249), .val (.int (1 : Int32)), .unset, .unset] at_107 rfl ?_
      refine Own.aload at_109 rfl rfl ?_
      refine Own.callV_ b249 [] [] 0 (rmCut2_2 l Z a0 hw [] b249 b174 b176 k176 zc vf (nar .byte ((nar .char ((p0 &&& (255 : Int32)).toUInt32.toUInt16.toUInt32.toInt32)).toInt8.toInt32)) (nar .byte ((nar .char ((((p0.toUInt32 >>> ((8 : Int32) &&& 31).toUInt32).toInt32) &&& (255 : Int32)).toUInt32.toUInt16.toUInt32.toInt32)).toInt8.toInt32)) (nar .byte ((nar .char ((((p0.toUInt32 >>> ((16 : Int32) &&& 31).toUInt32).toInt32) &&& (255 : Int32)).toUInt32.toUInt16.toUInt32.toInt32)).toInt8.toInt32)) (nar .byte ((nar .char ((((p0.toUInt32 >>> ((24 : Int32) &&& 31).toUInt32).toInt32) &&& (255 : Int32)).toUInt32.toUInt16.toUInt32.toInt32)).toInt8.toInt32)) h250 n0 hn X_b174 F_value_b174 F_coder_b174 V176 S_C S_F hz hvf F_text_b249 F_from_b249 F_to_b249) all0 (hw _ (List.mem_of_getElem? (i := 54) rfl)) (hw _ (List.mem_of_getElem? (i := 55) rfl)) (fun s hZ => notFace_of_selects (args := #[]) (mvT hZ (hw _ (List.mem_of_getElem? (i := 57) rfl)))) (hw _ (List.mem_of_getElem? (i := 57) rfl)) (hw _ (List.mem_of_getElem? (i := 56) rfl)) (hw _ (List.mem_of_getElem? (i := 33) rfl)) (hw _ (List.mem_of_getElem? (i := 58) rfl)) (by decide) X_b249 at_111 pd_2 rfl rfl rfl rfl (by decide) (by decide) (by decide) (by decide) (fun v252 h252 S252 hq252 => ?_)
      obtain ⟨K253, s253, t253, kt253, rfl, X_s253, F_value_s253, F_coder_s253, V_t253⟩ := hq252
      have hn := Nat.le_trans hn K253.1
      replace S_C := sta_keep S_C K253 ns0
      replace S_F := sta_keep S_F K253 ns0
      replace V173 := V173.keep K253 nin0
      replace X_b174 := X_b174.keep K253
      replace F_value_b174 := F_value_b174.keep K253 nin0
      replace F_coder_b174 := F_coder_b174.keep K253 nin0
      replace V176 := V176.keep K253 nin0
      replace X_b249 := X_b249.keep K253
      replace F_text_b249 := F_text_b249.keep K253 nin0
      replace F_from_b249 := F_from_b249.keep K253 nin0
      replace F_to_b249 := F_to_b249.keep K253 nin0
      refine ⟨[], all0, ?_⟩
      refine OAt.cast (st' := [(.ref s253)]) rfl ?_
      refine Own.callVP s253 [] [] 0 (rm_empty_0 l Z a0 hw [] s253 t253 kt253 _ zc h252 n0 hn X_s253 F_value_s253 F_coder_s253 V_t253 rfl S_C hz) (hw _ (List.mem_of_getElem? (i := 94) rfl)) (hw _ (List.mem_of_getElem? (i := 95) rfl)) (fun s hZ => notFace_of_selects (args := #[]) (mvT hZ (hw _ (List.mem_of_getElem? (i := 97) rfl)))) (hw _ (List.mem_of_getElem? (i := 97) rfl)) (hw _ (List.mem_of_getElem? (i := 96) rfl)) (hw _ (List.mem_of_getElem? (i := 3) rfl)) (hw _ (List.mem_of_getElem? (i := 98) rfl)) (by decide) X_s253 at_114 pd_4 rfl rfl rfl rfl (by decide) (by decide) (by decide) (by decide) ?_
      refine Own.istore #[.val (.int p0), .val (.int p1), .val (.int p2), .val (.int p3), .val (.ref b169), .val (.ref b174), .val (.int (2 : Int32)), .val (.int (2 : Int32)), .val (.ref b249), .val (.int (1 : Int32)), .val (.int (1 : Int32)), .unset] at_117 rfl ?_
      refine Own.new_ (hw _ (List.mem_of_getElem? (i := 31) rfl)) (hw _ (List.mem_of_getElem? (i := 32) rfl)) (hw _ (List.mem_of_getElem? (i := 33) rfl)) at_119 (by decide) (by decide) (fun h254 b254 gb254 E254 X254 D254 => ?_)
      have g_b254 : n0 ≤ b254 := by rw [gb254]; exact hn
      have ne_b169_b254 : b169 ≠ b254 := fun q => Nat.ne_of_lt V173.lt (q.trans gb254)
      have ne_b254_b169 := Ne.symm ne_b169_b254
      have ne_b174_b254 : b174 ≠ b254 := fun q => Nat.ne_of_lt X_b174.lt (q.trans gb254)
      have ne_b254_b174 := Ne.symm ne_b174_b254
      have ne_b176_b254 : b176 ≠ b254 := fun q => Nat.ne_of_lt V176.lt (q.trans gb254)
      have ne_b254_b176 := Ne.symm ne_b176_b254
      have ne_b249_b254 : b249 ≠ b254 := fun q => Nat.ne_of_lt X_b249.lt (q.trans gb254)
      have ne_b254_b249 := Ne.symm ne_b249_b254
      have ne_s253_b254 : s253 ≠ b254 := fun q => Nat.ne_of_lt X_s253.lt (q.trans gb254)
      have ne_b254_s253 := Ne.symm ne_s253_b254
      have ne_t253_b254 : t253 ≠ b254 := fun q => Nat.ne_of_lt V_t253.lt (q.trans gb254)
      have ne_b254_t253 := Ne.symm ne_t253_b254
      have hn := Nat.le_trans hn E254.1
      replace S_C := S_C.ext E254
      replace S_F := S_F.ext E254
      replace V173 := V173.ext E254
      replace X_b174 := X_b174.ext E254
      replace F_value_b174 := F_value_b174.ext E254
      replace F_coder_b174 := F_coder_b174.ext E254
      replace V176 := V176.ext E254
      replace X_b249 := X_b249.ext E254
      replace F_text_b249 := F_text_b249.ext E254
      replace F_from_b249 := F_from_b249.ext E254
      replace F_to_b249 := F_to_b249.ext E254
      replace X_s253 := X_s253.ext E254
      replace F_value_s253 := F_value_s253.ext E254
      replace F_coder_s253 := F_coder_s253.ext E254
      replace V_t253 := V_t253.ext E254
      have X_b254 := X254
      have F_text_b254 : Fld Z h254 b254 "com/example/cytorelay/cytorelay/core/Hl7Syntax$Span" "text" "Ljava/lang/String;" .null := D254 (Or.inr (hw _ (List.mem_of_getElem? (i := 44) rfl))) (ty := (.object "java/lang/String")) (by decide)
      have F_from_b254 : Fld Z h254 b254 "com/example/cytorelay/cytorelay/core/Hl7Syntax$Span" "from" "I" (.int (0 : Int32)) := D254 (Or.inr (hw _ (List.mem_of_getElem? (i := 46) rfl))) (ty := .int) (by decide)
      have F_to_b254 : Fld Z h254 b254 "com/example/cytorelay/cytorelay/core/Hl7Syntax$Span" "to" "I" (.int (0 : Int32)) := D254 (Or.inr (hw _ (List.mem_of_getElem? (i := 48) rfl))) (ty := .int) (by decide)
      refine Own.dup at_122 rfl ?_
      refine Own.aload at_123 rfl rfl ?_
      refine Own.iloadN at_125 rfl ?_
      refine Own.iloadN at_126 rfl ?_
      refine Own.callI_ b254 [(.ref b174), (.int p3), (.int p3)] [(.ref b254)] 1 (rmSP l Z a0 hw [] b254 b174 p3 p3 h254 n0 hn g_b254 X_b254 F_text_b254 F_from_b254 F_to_b254) (allS (List.mem_of_getElem? (i := 0) rfl) all0) (hw _ (List.mem_of_getElem? (i := 34) rfl)) (hw _ (List.mem_of_getElem? (i := 35) rfl)) (hw _ (List.mem_of_getElem? (i := 33) rfl)) (hw _ (List.mem_of_getElem? (i := 36) rfl)) rfl (by decide) at_127 pd_11 rfl rfl rfl rfl (by decide) (by decide) (by decide) (by decide) (fun v255 h255 S255 hq255 => ?_)
      obtain ⟨rfl, K256, G1, G2, G3⟩ := hq255
      have hn := Nat.le_trans hn K256.1
      replace S_C := sta_keep S_C K256 (nsS X_b254.nostat ns0)
      replace S_F := sta_keep S_F K256 (nsS X_b254.nostat ns0)
      replace V173 := V173.keep K256 (ninS ne_b169_b254 nin0)
      replace X_b174 := X_b174.keep K256
      replace F_value_b174 := F_value_b174.keep K256 (ninS ne_b174_b254 nin0)
      replace F_coder_b174 := F_coder_b174.keep K256 (ninS ne_b174_b254 nin0)
      replace V176 := V176.keep K256 (ninS ne_b176_b254 nin0)
      replace X_b249 := X_b249.keep K256
      replace F_text_b249 := F_text_b249.keep K256 (ninS ne_b249_b254 nin0)
      replace F_from_b249 := F_from_b249.keep K256 (ninS ne_b249_b254 nin0)
      replace F_to_b249 := F_to_b249.keep K256 (ninS ne_b249_b254 nin0)
      replace X_s253 := X_s253.keep K256
      replace F_value_s253 := F_value_s253.keep K256 (ninS ne_s253_b254 nin0)
      replace F_coder_s253 := F_coder_s253.keep K256 (ninS ne_s253_b254 nin0)
      replace V_t253 := V_t253.keep K256 (ninS ne_t253_b254 nin0)
      replace X_b254 := X_b254.keep K256
      have F_text_b254 := G1
      have F_from_b254 := G2
      have F_to_b254 := G3
      refine ⟨[], all0, ?_⟩
      refine OAt.cast (st' := [(.ref b254)]) rfl ?_
      refine Own.callVP b254 [] [] 0 (rmSEq l Z a0 hw [] b254 p3 h255 n0 hn F_from_b254 F_to_b254) (hw _ (List.mem_of_getElem? (i := 49) rfl)) (hw _ (List.mem_of_getElem? (i := 50) rfl)) (fun s hZ => notFace_of_selects (args := #[]) (mvT hZ (hw _ (List.mem_of_getElem? (i := 52) rfl)))) (hw _ (List.mem_of_getElem? (i := 52) rfl)) (hw _ (List.mem_of_getElem? (i := 51) rfl)) (hw _ (List.mem_of_getElem? (i := 33) rfl)) (hw _ (List.mem_of_getElem? (i := 53) rfl)) (by decide) X_b254 at_130 pd_4 rfl rfl rfl rfl (by decide) (by decide) (by decide) (by decide) ?_
      refine Own.istore #[.val (.int p0), .val (.int p1), .val (.int p2), .val (.int p3), .val (.ref b169), .val (.ref b174), .val (.int (2 : Int32)), .val (.int (2 : Int32)), .val (.ref b249), .val (.int (1 : Int32)), .val (.int (1 : Int32)), .val (.int (1 : Int32))] at_133 rfl ?_
      refine Own.iload at_135 rfl ?_
      refine Own.iload at_137 rfl ?_
      refine Own.icmp_ne 151 at_139 (by decide) rfl (fun q => absurd (by decide) q) (fun _ => ?_)
      refine Own.iload at_142 rfl ?_
      refine Own.if_eq 151 at_144 (by decide) rfl (fun q => absurd q (by decide)) (fun _ => ?_)
      refine Own.iconst (1 : Int32) at_147 rfl ?_
      refine Own.goto_ 152 at_148 (by decide) rfl ?_
      refine Own.ret_nar (t := .boolean) (by simp) rfl at_152 (by decide) (by decide) (fun Sf hSf => ?_)
      exact rfl
    · refine Own.new_ (hw _ (List.mem_of_getElem? (i := 31) rfl)) (hw _ (List.mem_of_getElem? (i := 32) rfl)) (hw _ (List.mem_of_getElem? (i := 33) rfl)) at_87 (by decide) (by decide) (fun h257 b257 gb257 E257 X257 D257 => ?_)
      have g_b257 : n0 ≤ b257 := by rw [gb257]; exact hn
      have ne_b169_b257 : b169 ≠ b257 := fun q => Nat.ne_of_lt V173.lt (q.trans gb257)
      have ne_b257_b169 := Ne.symm ne_b169_b257
      have ne_b174_b257 : b174 ≠ b257 := fun q => Nat.ne_of_lt X_b174.lt (q.trans gb257)
      have ne_b257_b174 := Ne.symm ne_b174_b257
      have ne_b176_b257 : b176 ≠ b257 := fun q => Nat.ne_of_lt V176.lt (q.trans gb257)
      have ne_b257_b176 := Ne.symm ne_b176_b257
      have hn := Nat.le_trans hn E257.1
      replace S_C := S_C.ext E257
      replace S_F := S_F.ext E257
      replace V173 := V173.ext E257
      replace X_b174 := X_b174.ext E257
      replace F_value_b174 := F_value_b174.ext E257
      replace F_coder_b174 := F_coder_b174.ext E257
      replace V176 := V176.ext E257
      have X_b257 := X257
      have F_text_b257 : Fld Z h257 b257 "com/example/cytorelay/cytorelay/core/Hl7Syntax$Span" "text" "Ljava/lang/String;" .null := D257 (Or.inr (hw _ (List.mem_of_getElem? (i := 44) rfl))) (ty := (.object "java/lang/String")) (by decide)
      have F_from_b257 : Fld Z h257 b257 "com/example/cytorelay/cytorelay/core/Hl7Syntax$Span" "from" "I" (.int (0 : Int32)) := D257 (Or.inr (hw _ (List.mem_of_getElem? (i := 46) rfl))) (ty := .int) (by decide)
      have F_to_b257 : Fld Z h257 b257 "com/example/cytorelay/cytorelay/core/Hl7Syntax$Span" "to" "I" (.int (0 : Int32)) := D257 (Or.inr (hw _ (List.mem_of_getElem? (i := 48) rfl))) (ty := .int) (by decide)
      refine Own.dup at_90 rfl ?_
      refine Own.aload at_91 rfl rfl ?_
      refine Own.iload at_93 rfl ?_
      refine Own.iload at_95 rfl ?_
      refine Own.callI_ b257 [(.ref b174), (.int (2 : Int32)), (.int (3 : Int32))] [(.ref b257)] 1 (rmSP l Z a0 hw [] b257 b174 (2 : Int32) (3 : Int32) h257 n0 hn g_b257 X_b257 F_text_b257 F_from_b257 F_to_b257) (allS (List.mem_of_getElem? (i := 0) rfl) all0) (hw _ (List.mem_of_getElem? (i := 34) rfl)) (hw _ (List.mem_of_getElem? (i := 35) rfl)) (hw _ (List.mem_of_getElem? (i := 33) rfl)) (hw _ (List.mem_of_getElem? (i := 36) rfl)) rfl (by decide) at_97 pd_11 rfl rfl rfl rfl (by decide) (by decide) (by decide) (by decide) (fun v258 h258 S258 hq258 => ?_)
      obtain ⟨rfl, K259, G1, G2, G3⟩ := hq258
      have hn := Nat.le_trans hn K259.1
      replace S_C := sta_keep S_C K259 (nsS X_b257.nostat ns0)
      replace S_F := sta_keep S_F K259 (nsS X_b257.nostat ns0)
      replace V173 := V173.keep K259 (ninS ne_b169_b257 nin0)
      replace X_b174 := X_b174.keep K259
      replace F_value_b174 := F_value_b174.keep K259 (ninS ne_b174_b257 nin0)
      replace F_coder_b174 := F_coder_b174.keep K259 (ninS ne_b174_b257 nin0)
      replace V176 := V176.keep K259 (ninS ne_b176_b257 nin0)
      replace X_b257 := X_b257.keep K259
      have F_text_b257 := G1
      have F_from_b257 := G2
      have F_to_b257 := G3
      refine ⟨[], all0, ?_⟩
      refine OAt.cast (st' := [(.ref b257)]) rfl ?_
      refine Own.astore #[.val (.int p0), .val (.int p1), .val (.int p2), .val (.int p3), .val (.ref b169), .val (.ref b174), .val (.int (2 : Int32)), .val (.int (3 : Int32)), .val (.ref b257), .unset, .unset, .unset] at_100 rfl rfl ?_
      refine Own.aload at_102 rfl rfl ?_
      refine Own.callVP b257 [] [] 0 (rmSE2_3 l Z a0 hw [] b257  h258 n0 hn F_from_b257 F_to_b257) (hw _ (List.mem_of_getElem? (i := 49) rfl)) (hw _ (List.mem_of_getElem? (i := 50) rfl)) (fun s hZ => notFace_of_selects (args := #[]) (mvT hZ (hw _ (List.mem_of_getElem? (i := 52) rfl)))) (hw _ (List.mem_of_getElem? (i := 52) rfl)) (hw _ (List.mem_of_getElem? (i := 51) rfl)) (hw _ (List.mem_of_getElem? (i := 33) rfl)) (hw _ (List.mem_of_getElem? (i := 53) rfl)) (by decide) X_b257 at_104 pd_4 rfl rfl rfl rfl (by decide) (by decide) (by decide) (by decide) ?_
      refine Own.istore #[.val (.int p0), .val (.int p1), .val (.int p2), .val (.int p3), .val (.ref b169), .val (.ref b174), .val (.int (2 : Int32)), .val (.int (3 : Int32)), .val (.ref b257), .val (.int (0 : Int32)), .unset, .unset] at_107 rfl ?_
      refine Own.aload at_109 rfl rfl ?_
      refine Own.callV_ b257 [] [] 0 (rmCut2_3 l Z a0 hw [] b257 b174 b176 k176 zc vf (nar .byte ((nar .char ((p0 &&& (255 : Int32)).toUInt32.toUInt16.toUInt32.toInt32)).toInt8.toInt32)) (nar .byte ((nar .char ((((p0.toUInt32 >>> ((8 : Int32) &&& 31).toUInt32).toInt32) &&& (255 : Int32)).toUInt32.toUInt16.toUInt32.toInt32)).toInt8.toInt32)) (nar .byte ((nar .char ((((p0.toUInt32 >>> ((16 : Int32) &&& 31).toUInt32).toInt32) &&& (255 : Int32)).toUInt32.toUInt16.toUInt32.toInt32)).toInt8.toInt32)) (nar .byte ((nar .char ((((p0.toUInt32 >>> ((24 : Int32) &&& 31).toUInt32).toInt32) &&& (255 : Int32)).toUInt32.toUInt16.toUInt32.toInt32)).toInt8.toInt32)) h258 n0 hn X_b174 F_value_b174 F_coder_b174 V176 S_C S_F hz hvf F_text_b257 F_from_b257 F_to_b257) all0 (hw _ (List.mem_of_getElem? (i := 54) rfl)) (hw _ (List.mem_of_getElem? (i := 55) rfl)) (fun s hZ => notFace_of_selects (args := #[]) (mvT hZ (hw _ (List.mem_of_getElem? (i := 57) rfl)))) (hw _ (List.mem_of_getElem? (i := 57) rfl)) (hw _ (List.mem_of_getElem? (i := 56) rfl)) (hw _ (List.mem_of_getElem? (i := 33) rfl)) (hw _ (List.mem_of_getElem? (i := 58) rfl)) (by decide) X_b257 at_111 pd_2 rfl rfl rfl rfl (by decide) (by decide) (by decide) (by decide) (fun v260 h260 S260 hq260 => ?_)
      obtain ⟨K261, s261, t261, kt261, rfl, X_s261, F_value_s261, F_coder_s261, V_t261⟩ := hq260
      have hn := Nat.le_trans hn K261.1
      replace S_C := sta_keep S_C K261 ns0
      replace S_F := sta_keep S_F K261 ns0
      replace V173 := V173.keep K261 nin0
      replace X_b174 := X_b174.keep K261
      replace F_value_b174 := F_value_b174.keep K261 nin0
      replace F_coder_b174 := F_coder_b174.keep K261 nin0
      replace V176 := V176.keep K261 nin0
      replace X_b257 := X_b257.keep K261
      replace F_text_b257 := F_text_b257.keep K261 nin0
      replace F_from_b257 := F_from_b257.keep K261 nin0
      replace F_to_b257 := F_to_b257.keep K261 nin0
      refine ⟨[], all0, ?_⟩
      refine OAt.cast (st' := [(.ref s261)]) rfl ?_
      refine Own.callVP s261 [] [] 0 (rm_empty_1 l Z a0 hw [] s261 t261 kt261 _ zc h260 n0 hn X_s261 F_value_s261 F_coder_s261 V_t261 rfl S_C hz) (hw _ (List.mem_of_getElem? (i := 94) rfl)) (hw _ (List.mem_of_getElem? (i := 95) rfl)) (fun s hZ => notFace_of_selects (args := #[]) (mvT hZ (hw _ (List.mem_of_getElem? (i := 97) rfl)))) (hw _ (List.mem_of_getElem? (i := 97) rfl)) (hw _ (List.mem_of_getElem? (i := 96) rfl)) (hw _ (List.mem_of_getElem? (i := 3) rfl)) (hw _ (List.mem_of_getElem? (i := 98) rfl)) (by decide) X_s261 at_114 pd_4 rfl rfl rfl rfl (by decide) (by decide) (by decide) (by decide) ?_
      refine Own.istore #[.val (.int p0), .val (.int p1), .val (.int p2), .val (.int p3), .val (.ref b169), .val (.ref b174), .val (.int (2 : Int32)), .val (.int (3 : Int32)), .val (.ref b257), .val (.int (0 : Int32)), .val (.int (0 : Int32)), .unset] at_117 rfl ?_
      refine Own.new_ (hw _ (List.mem_of_getElem? (i := 31) rfl)) (hw _ (List.mem_of_getElem? (i := 32) rfl)) (hw _ (List.mem_of_getElem? (i := 33) rfl)) at_119 (by decide) (by decide) (fun h262 b262 gb262 E262 X262 D262 => ?_)
      have g_b262 : n0 ≤ b262 := by rw [gb262]; exact hn
      have ne_b169_b262 : b169 ≠ b262 := fun q => Nat.ne_of_lt V173.lt (q.trans gb262)
      have ne_b262_b169 := Ne.symm ne_b169_b262
      have ne_b174_b262 : b174 ≠ b262 := fun q => Nat.ne_of_lt X_b174.lt (q.trans gb262)
      have ne_b262_b174 := Ne.symm ne_b174_b262
      have ne_b176_b262 : b176 ≠ b262 := fun q => Nat.ne_of_lt V176.lt (q.trans gb262)
      have ne_b262_b176 := Ne.symm ne_b176_b262
      have ne_b257_b262 : b257 ≠ b262 := fun q => Nat.ne_of_lt X_b257.lt (q.trans gb262)
      have ne_b262_b257 := Ne.symm ne_b257_b262
      have ne_s261_b262 : s261 ≠ b262 := fun q => Nat.ne_of_lt X_s261.lt (q.trans gb262)
      have ne_b262_s261 := Ne.symm ne_s261_b262
      have ne_t261_b262 : t261 ≠ b262 := fun q => Nat.ne_of_lt V_t261.lt (q.trans gb262)
      have ne_b262_t261 := Ne.symm ne_t261_b262
      have hn := Nat.le_trans hn E262.1
      replace S_C := S_C.ext E262
      replace S_F := S_F.ext E262
      replace V173 := V173.ext E262
      replace X_b174 := X_b174.ext E262
      replace F_value_b174 := F_value_b174.ext E262
      replace F_coder_b174 := F_coder_b174.ext E262
      replace V176 := V176.ext E262
      replace X_b257 := X_b257.ext E262
      replace F_text_b257 := F_text_b257.ext E262
      replace F_from_b257 := F_from_b257.ext E262
      replace F_to_b257 := F_to_b257.ext E262
      replace X_s261 := X_s261.ext E262
      replace F_value_s261 := F_value_s261.ext E262
      replace F_coder_s261 := F_coder_s261.ext E262
      replace V_t261 := V_t261.ext E262
      have X_b262 := X262
      have F_text_b262 : Fld Z h262 b262 "com/example/cytorelay/cytorelay/core/Hl7Syntax$Span" "text" "Ljava/lang/String;" .null := D262 (Or.inr (hw _ (List.mem_of_getElem? (i := 44) rfl))) (ty := (.object "java/lang/String")) (by decide)
      have F_from_b262 : Fld Z h262 b262 "com/example/cytorelay/cytorelay/core/Hl7Syntax$Span" "from" "I" (.int (0 : Int32)) := D262 (Or.inr (hw _ (List.mem_of_getElem? (i := 46) rfl))) (ty := .int) (by decide)
      have F_to_b262 : Fld Z h262 b262 "com/example/cytorelay/cytorelay/core/Hl7Syntax$Span" "to" "I" (.int (0 : Int32)) := D262 (Or.inr (hw _ (List.mem_of_getElem? (i := 48) rfl))) (ty := .int) (by decide)
      refine Own.dup at_122 rfl ?_
      refine Own.aload at_123 rfl rfl ?_
      refine Own.iloadN at_125 rfl ?_
      refine Own.iloadN at_126 rfl ?_
      refine Own.callI_ b262 [(.ref b174), (.int p3), (.int p3)] [(.ref b262)] 1 (rmSP l Z a0 hw [] b262 b174 p3 p3 h262 n0 hn g_b262 X_b262 F_text_b262 F_from_b262 F_to_b262) (allS (List.mem_of_getElem? (i := 0) rfl) all0) (hw _ (List.mem_of_getElem? (i := 34) rfl)) (hw _ (List.mem_of_getElem? (i := 35) rfl)) (hw _ (List.mem_of_getElem? (i := 33) rfl)) (hw _ (List.mem_of_getElem? (i := 36) rfl)) rfl (by decide) at_127 pd_11 rfl rfl rfl rfl (by decide) (by decide) (by decide) (by decide) (fun v263 h263 S263 hq263 => ?_)
      obtain ⟨rfl, K264, G1, G2, G3⟩ := hq263
      have hn := Nat.le_trans hn K264.1
      replace S_C := sta_keep S_C K264 (nsS X_b262.nostat ns0)
      replace S_F := sta_keep S_F K264 (nsS X_b262.nostat ns0)
      replace V173 := V173.keep K264 (ninS ne_b169_b262 nin0)
      replace X_b174 := X_b174.keep K264
      replace F_value_b174 := F_value_b174.keep K264 (ninS ne_b174_b262 nin0)
      replace F_coder_b174 := F_coder_b174.keep K264 (ninS ne_b174_b262 nin0)
      replace V176 := V176.keep K264 (ninS ne_b176_b262 nin0)
      replace X_b257 := X_b257.keep K264
      replace F_text_b257 := F_text_b257.keep K264 (ninS ne_b257_b262 nin0)
      replace F_from_b257 := F_from_b257.keep K264 (ninS ne_b257_b262 nin0)
      replace F_to_b257 := F_to_b257.keep K264 (ninS ne_b257_b262 nin0)
      replace X_s261 := X_s261.keep K264
      replace F_value_s261 := F_value_s261.keep K264 (ninS ne_s261_b262 nin0)
      replace F_coder_s261 := F_coder_s261.keep K264 (ninS ne_s261_b262 nin0)
      replace V_t261 := V_t261.keep K264 (ninS ne_t261_b262 nin0)
      replace X_b262 := X_b262.keep K264
      have F_text_b262 := G1
      have F_from_b262 := G2
      have F_to_b262 := G3
      refine ⟨[], all0, ?_⟩
      refine OAt.cast (st' := [(.ref b262)]) rfl ?_
      refine Own.callVP b262 [] [] 0 (rmSEq l Z a0 hw [] b262 p3 h263 n0 hn F_from_b262 F_to_b262) (hw _ (List.mem_of_getElem? (i := 49) rfl)) (hw _ (List.mem_of_getElem? (i := 50) rfl)) (fun s hZ => notFace_of_selects (args := #[]) (mvT hZ (hw _ (List.mem_of_getElem? (i := 52) rfl)))) (hw _ (List.mem_of_getElem? (i := 52) rfl)) (hw _ (List.mem_of_getElem? (i := 51) rfl)) (hw _ (List.mem_of_getElem? (i := 33) rfl)) (hw _ (List.mem_of_getElem? (i := 53) rfl)) (by decide) X_b262 at_130 pd_4 rfl rfl rfl rfl (by decide) (by decide) (by decide) (by decide) ?_
      refine Own.istore #[.val (.int p0), .val (.int p1), .val (.int p2), .val (.int p3), .val (.ref b169), .val (.ref b174), .val (.int (2 : Int32)), .val (.int (3 : Int32)), .val (.ref b257), .val (.int (0 : Int32)), .val (.int (0 : Int32)), .val (.int (1 : Int32))] at_133 rfl ?_
      refine Own.iload at_135 rfl ?_
      refine Own.iload at_137 rfl ?_
      refine Own.icmp_ne 151 at_139 (by decide) rfl (fun q => absurd (by decide) q) (fun _ => ?_)
      refine Own.iload at_142 rfl ?_
      refine Own.if_eq 151 at_144 (by decide) rfl (fun q => absurd q (by decide)) (fun _ => ?_)
      refine Own.iconst (1 : Int32) at_147 rfl ?_
      refine Own.goto_ 152 at_148 (by decide) rfl ?_
      refine Own.ret_nar (t := .boolean) (by simp) rfl at_152 (by decide) (by decide) (fun Sf hSf => ?_)
      exact rfl
    · refine Own.new_ (hw _ (List.mem_of_getElem? (i := 31) rfl)) (hw _ (List.mem_of_getElem? (i := 32) rfl)) (hw _ (List.mem_of_getElem? (i := 33) rfl)) at_87 (by decide) (by decide) (fun h265 b265 gb265 E265 X265 D265 => ?_)
      have g_b265 : n0 ≤ b265 := by rw [gb265]; exact hn
      have ne_b169_b265 : b169 ≠ b265 := fun q => Nat.ne_of_lt V173.lt (q.trans gb265)
      have ne_b265_b169 := Ne.symm ne_b169_b265
      have ne_b174_b265 : b174 ≠ b265 := fun q => Nat.ne_of_lt X_b174.lt (q.trans gb265)
      have ne_b265_b174 := Ne.symm ne_b174_b265
      have ne_b176_b265 : b176 ≠ b265 := fun q => Nat.ne_of_lt V176.lt (q.trans gb265)
      have ne_b265_b176 := Ne.symm ne_b176_b265
      have hn := Nat.le_trans hn E265.1
      replace S_C := S_C.ext E265
      replace S_F := S_F.ext E265
      replace V173 := V173.ext E265
      replace X_b174 := X_b174.ext E265
      replace F_value_b174 := F_value_b174.ext E265
      replace F_coder_b174 := F_coder_b174.ext E265
      replace V176 := V176.ext E265
      have X_b265 := X265
      have F_text_b265 : Fld Z h265 b265 "com/example/cytorelay/cytorelay/core/Hl7Syntax$Span" "text" "Ljava/lang/String;" .null := D265 (Or.inr (hw _ (List.mem_of_getElem? (i := 44) rfl))) (ty := (.object "java/lang/String")) (by decide)
      have F_from_b265 : Fld Z h265 b265 "com/example/cytorelay/cytorelay/core/Hl7Syntax$Span" "from" "I" (.int (0 : Int32)) := D265 (Or.inr (hw _ (List.mem_of_getElem? (i := 46) rfl))) (ty := .int) (by decide)
      have F_to_b265 : Fld Z h265 b265 "com/example/cytorelay/cytorelay/core/Hl7Syntax$Span" "to" "I" (.int (0 : Int32)) := D265 (Or.inr (hw _ (List.mem_of_getElem? (i := 48) rfl))) (ty := .int) (by decide)
      refine Own.dup at_90 rfl ?_
      refine Own.aload at_91 rfl rfl ?_
      refine Own.iload at_93 rfl ?_
      refine Own.iload at_95 rfl ?_
      refine Own.callI_ b265 [(.ref b174), (.int (2 : Int32)), (.int (4 : Int32))] [(.ref b265)] 1 (rmSP l Z a0 hw [] b265 b174 (2 : Int32) (4 : Int32) h265 n0 hn g_b265 X_b265 F_text_b265 F_from_b265 F_to_b265) (allS (List.mem_of_getElem? (i := 0) rfl) all0) (hw _ (List.mem_of_getElem? (i := 34) rfl)) (hw _ (List.mem_of_getElem? (i := 35) rfl)) (hw _ (List.mem_of_getElem? (i := 33) rfl)) (hw _ (List.mem_of_getElem? (i := 36) rfl)) rfl (by decide) at_97 pd_11 rfl rfl rfl rfl (by decide) (by decide) (by decide) (by decide) (fun v266 h266 S266 hq266 => ?_)
      obtain ⟨rfl, K267, G1, G2, G3⟩ := hq266
      have hn := Nat.le_trans hn K267.1
      replace S_C := sta_keep S_C K267 (nsS X_b265.nostat ns0)
      replace S_F := sta_keep S_F K267 (nsS X_b265.nostat ns0)
      replace V173 := V173.keep K267 (ninS ne_b169_b265 nin0)
      replace X_b174 := X_b174.keep K267
      replace F_value_b174 := F_value_b174.keep K267 (ninS ne_b174_b265 nin0)
      replace F_coder_b174 := F_coder_b174.keep K267 (ninS ne_b174_b265 nin0)
      replace V176 := V176.keep K267 (ninS ne_b176_b265 nin0)
      replace X_b265 := X_b265.keep K267
      have F_text_b265 := G1
      have F_from_b265 := G2
      have F_to_b265 := G3
      refine ⟨[], all0, ?_⟩
      refine OAt.cast (st' := [(.ref b265)]) rfl ?_
      refine Own.astore #[.val (.int p0), .val (.int p1), .val (.int p2), .val (.int p3), .val (.ref b169), .val (.ref b174), .val (.int (2 : Int32)), .val (.int (4 : Int32)), .val (.ref b265), .unset, .unset, .unset] at_100 rfl rfl ?_
      refine Own.aload at_102 rfl rfl ?_
      refine Own.callVP b265 [] [] 0 (rmSE2_4 l Z a0 hw [] b265  h266 n0 hn F_from_b265 F_to_b265) (hw _ (List.mem_of_getElem? (i := 49) rfl)) (hw _ (List.mem_of_getElem? (i := 50) rfl)) (fun s hZ => notFace_of_selects (args := #[]) (mvT hZ (hw _ (List.mem_of_getElem? (i := 52) rfl)))) (hw _ (List.mem_of_getElem? (i := 52) rfl)) (hw _ (List.mem_of_getElem? (i := 51) rfl)) (hw _ (List.mem_of_getElem? (i := 33) rfl)) (hw _ (List.mem_of_getElem? (i := 53) rfl)) (by decide) X_b265 at_104 pd_4 rfl rfl rfl rfl (by decide) (by decide) (by decide) (by decide) ?_
      refine Own.istore #[.val (.int p0), .val (.int p1), .val (.int p2), .val (.int p3), .val (.ref b169), .val (.ref b174), .val (.int (2 : Int32)), .val (.int (4 : Int32)), .val (.ref b265), .val (.int (0 : Int32)), .unset, .unset] at_107 rfl ?_
      refine Own.aload at_109 rfl rfl ?_
      refine Own.callV_ b265 [] [] 0 (rmCut2_4 l Z a0 hw [] b265 b174 b176 k176 zc vf (nar .byte ((nar .char ((p0 &&& (255 : Int32)).toUInt32.toUInt16.toUInt32.toInt32)).toInt8.toInt32)) (nar .byte ((nar .char ((((p0.toUInt32 >>> ((8 : Int32) &&& 31).toUInt32).toInt32) &&& (255 : Int32)).toUInt32.toUInt16.toUInt32.toInt32)).toInt8.toInt32)) (nar .byte ((nar .char ((((p0.toUInt32 >>> ((16 : Int32) &&& 31).toUInt32).toInt32) &&& (255 : Int32)).toUInt32.toUInt16.toUInt32.toInt32)).toInt8.toInt32)) (nar .byte ((nar .char ((((p0.toUInt32 >>> ((24 : Int32) &&& 31).toUInt32).toInt32) &&& (255 : Int32)).toUInt32.toUInt16.toUInt32.toInt32)).toInt8.toInt32)) h266 n0 hn X_b174 F_value_b174 F_coder_b174 V176 S_C S_F hz hvf F_text_b265 F_from_b265 F_to_b265) all0 (hw _ (List.mem_of_getElem? (i := 54) rfl)) (hw _ (List.mem_of_getElem? (i := 55) rfl)) (fun s hZ => notFace_of_selects (args := #[]) (mvT hZ (hw _ (List.mem_of_getElem? (i := 57) rfl)))) (hw _ (List.mem_of_getElem? (i := 57) rfl)) (hw _ (List.mem_of_getElem? (i := 56) rfl)) (hw _ (List.mem_of_getElem? (i := 33) rfl)) (hw _ (List.mem_of_getElem? (i := 58) rfl)) (by decide) X_b265 at_111 pd_2 rfl rfl rfl rfl (by decide) (by decide) (by decide) (by decide) (fun v268 h268 S268 hq268 => ?_)
      obtain ⟨K269, s269, t269, kt269, rfl, X_s269, F_value_s269, F_coder_s269, V_t269⟩ := hq268
      have hn := Nat.le_trans hn K269.1
      replace S_C := sta_keep S_C K269 ns0
      replace S_F := sta_keep S_F K269 ns0
      replace V173 := V173.keep K269 nin0
      replace X_b174 := X_b174.keep K269
      replace F_value_b174 := F_value_b174.keep K269 nin0
      replace F_coder_b174 := F_coder_b174.keep K269 nin0
      replace V176 := V176.keep K269 nin0
      replace X_b265 := X_b265.keep K269
      replace F_text_b265 := F_text_b265.keep K269 nin0
      replace F_from_b265 := F_from_b265.keep K269 nin0
      replace F_to_b265 := F_to_b265.keep K269 nin0
      refine ⟨[], all0, ?_⟩
      refine OAt.cast (st' := [(.ref s269)]) rfl ?_
      refine Own.callVP s269 [] [] 0 (rm_empty_2 l Z a0 hw [] s269 t269 kt269 _ zc h268 n0 hn X_s269 F_value_s269 F_coder_s269 V_t269 rfl S_C hz) (hw _ (List.mem_of_getElem? (i := 94) rfl)) (hw _ (List.mem_of_getElem? (i := 95) rfl)) (fun s hZ => notFace_of_selects (args := #[]) (mvT hZ (hw _ (List.mem_of_getElem? (i := 97) rfl)))) (hw _ (List.mem_of_getElem? (i := 97) rfl)) (hw _ (List.mem_of_getElem? (i := 96) rfl)) (hw _ (List.mem_of_getElem? (i := 3) rfl)) (hw _ (List.mem_of_getElem? (i := 98) rfl)) (by decide) X_s269 at_114 pd_4 rfl rfl rfl rfl (by decide) (by decide) (by decide) (by decide) ?_
      refine Own.istore #[.val (.int p0), .val (.int p1), .val (.int p2), .val (.int p3), .val (.ref b169), .val (.ref b174), .val (.int (2 : Int32)), .val (.int (4 : Int32)), .val (.ref b265), .val (.int (0 : Int32)), .val (.int (0 : Int32)), .unset] at_117 rfl ?_
      refine Own.new_ (hw _ (List.mem_of_getElem? (i := 31) rfl)) (hw _ (List.mem_of_getElem? (i := 32) rfl)) (hw _ (List.mem_of_getElem? (i := 33) rfl)) at_119 (by decide) (by decide) (fun h270 b270 gb270 E270 X270 D270 => ?_)
      have g_b270 : n0 ≤ b270 := by rw [gb270]; exact hn
      have ne_b169_b270 : b169 ≠ b270 := fun q => Nat.ne_of_lt V173.lt (q.trans gb270)
      have ne_b270_b169 := Ne.symm ne_b169_b270
      have ne_b174_b270 : b174 ≠ b270 := fun q => Nat.ne_of_lt X_b174.lt (q.trans gb270)
      have ne_b270_b174 := Ne.symm ne_b174_b270
      have ne_b176_b270 : b176 ≠ b270 := fun q => Nat.ne_of_lt V176.lt (q.trans gb270)
      have ne_b270_b176 := Ne.symm ne_b176_b270
      have ne_b265_b270 : b265 ≠ b270 := fun q => Nat.ne_of_lt X_b265.lt (q.trans gb270)
      have ne_b270_b265 := Ne.symm ne_b265_b270
      have ne_s269_b270 : s269 ≠ b270 := fun q => Nat.ne_of_lt X_s269.lt (q.trans gb270)
      have ne_b270_s269 := Ne.symm ne_s269_b270
      have ne_t269_b270 : t269 ≠ b270 := fun q => Nat.ne_of_lt V_t269.lt (q.trans gb270)
      have ne_b270_t269 := Ne.symm ne_t269_b270
      have hn := Nat.le_trans hn E270.1
      replace S_C := S_C.ext E270
      replace S_F := S_F.ext E270
      replace V173 := V173.ext E270
      replace X_b174 := X_b174.ext E270
      replace F_value_b174 := F_value_b174.ext E270
      replace F_coder_b174 := F_coder_b174.ext E270
      replace V176 := V176.ext E270
      replace X_b265 := X_b265.ext E270
      replace F_text_b265 := F_text_b265.ext E270
      replace F_from_b265 := F_from_b265.ext E270
      replace F_to_b265 := F_to_b265.ext E270
      replace X_s269 := X_s269.ext E270
      replace F_value_s269 := F_value_s269.ext E270
      replace F_coder_s269 := F_coder_s269.ext E270
      replace V_t269 := V_t269.ext E270
      have X_b270 := X270
      have F_text_b270 : Fld Z h270 b270 "com/example/cytorelay/cytorelay/core/Hl7Syntax$Span" "text" "Ljava/lang/String;" .null := D270 (Or.inr (hw _ (List.mem_of_getElem? (i := 44) rfl))) (ty := (.object "java/lang/String")) (by decide)
      have F_from_b270 : Fld Z h270 b270 "com/example/cytorelay/cytorelay/core/Hl7Syntax$Span" "from" "I" (.int (0 : Int32)) := D270 (Or.inr (hw _ (List.mem_of_getElem? (i := 46) rfl))) (ty := .int) (by decide)
      have F_to_b270 : Fld Z h270 b270 "com/example/cytorelay/cytorelay/core/Hl7Syntax$Span" "to" "I" (.int (0 : Int32)) := D270 (Or.inr (hw _ (List.mem_of_getElem? (i := 48) rfl))) (ty := .int) (by decide)
      refine Own.dup at_122 rfl ?_
      refine Own.aload at_123 rfl rfl ?_
      refine Own.iloadN at_125 rfl ?_
      refine Own.iloadN at_126 rfl ?_
      refine Own.callI_ b270 [(.ref b174), (.int p3), (.int p3)] [(.ref b270)] 1 (rmSP l Z a0 hw [] b270 b174 p3 p3 h270 n0 hn g_b270 X_b270 F_text_b270 F_from_b270 F_to_b270) (allS (List.mem_of_getElem? (i := 0) rfl) all0) (hw _ (List.mem_of_getElem? (i := 34) rfl)) (hw _ (List.mem_of_getElem? (i := 35) rfl)) (hw _ (List.mem_of_getElem? (i := 33) rfl)) (hw _ (List.mem_of_getElem? (i := 36) rfl)) rfl (by decide) at_127 pd_11 rfl rfl rfl rfl (by decide) (by decide) (by decide) (by decide) (fun v271 h271 S271 hq271 => ?_)
      obtain ⟨rfl, K272, G1, G2, G3⟩ := hq271
      have hn := Nat.le_trans hn K272.1
      replace S_C := sta_keep S_C K272 (nsS X_b270.nostat ns0)
      replace S_F := sta_keep S_F K272 (nsS X_b270.nostat ns0)
      replace V173 := V173.keep K272 (ninS ne_b169_b270 nin0)
      replace X_b174 := X_b174.keep K272
      replace F_value_b174 := F_value_b174.keep K272 (ninS ne_b174_b270 nin0)
      replace F_coder_b174 := F_coder_b174.keep K272 (ninS ne_b174_b270 nin0)
      replace V176 := V176.keep K272 (ninS ne_b176_b270 nin0)
      replace X_b265 := X_b265.keep K272
      replace F_text_b265 := F_text_b265.keep K272 (ninS ne_b265_b270 nin0)
      replace F_from_b265 := F_from_b265.keep K272 (ninS ne_b265_b270 nin0)
      replace F_to_b265 := F_to_b265.keep K272 (ninS ne_b265_b270 nin0)
      replace X_s269 := X_s269.keep K272
      replace F_value_s269 := F_value_s269.keep K272 (ninS ne_s269_b270 nin0)
      replace F_coder_s269 := F_coder_s269.keep K272 (ninS ne_s269_b270 nin0)
      replace V_t269 := V_t269.keep K272 (ninS ne_t269_b270 nin0)
      replace X_b270 := X_b270.keep K272
      have F_text_b270 := G1
      have F_from_b270 := G2
      have F_to_b270 := G3
      refine ⟨[], all0, ?_⟩
      refine OAt.cast (st' := [(.ref b270)]) rfl ?_
      refine Own.callVP b270 [] [] 0 (rmSEq l Z a0 hw [] b270 p3 h271 n0 hn F_from_b270 F_to_b270) (hw _ (List.mem_of_getElem? (i := 49) rfl)) (hw _ (List.mem_of_getElem? (i := 50) rfl)) (fun s hZ => notFace_of_selects (args := #[]) (mvT hZ (hw _ (List.mem_of_getElem? (i := 52) rfl)))) (hw _ (List.mem_of_getElem? (i := 52) rfl)) (hw _ (List.mem_of_getElem? (i := 51) rfl)) (hw _ (List.mem_of_getElem? (i := 33) rfl)) (hw _ (List.mem_of_getElem? (i := 53) rfl)) (by decide) X_b270 at_130 pd_4 rfl rfl rfl rfl (by decide) (by decide) (by decide) (by decide) ?_
      refine Own.istore #[.val (.int p0), .val (.int p1), .val (.int p2), .val (.int p3), .val (.ref b169), .val (.ref b174), .val (.int (2 : Int32)), .val (.int (4 : Int32)), .val (.ref b265), .val (.int (0 : Int32)), .val (.int (0 : Int32)), .val (.int (1 : Int32))] at_133 rfl ?_
      refine Own.iload at_135 rfl ?_
      refine Own.iload at_137 rfl ?_
      refine Own.icmp_ne 151 at_139 (by decide) rfl (fun q => absurd (by decide) q) (fun _ => ?_)
      refine Own.iload at_142 rfl ?_
      refine Own.if_eq 151 at_144 (by decide) rfl (fun q => absurd q (by decide)) (fun _ => ?_)
      refine Own.iconst (1 : Int32) at_147 rfl ?_
      refine Own.goto_ 152 at_148 (by decide) rfl ?_
      refine Own.ret_nar (t := .boolean) (by simp) rfl at_152 (by decide) (by decide) (fun Sf hSf => ?_)
      exact rfl
  · have ht : uo = 3 ∨ uo = 4 := by rw [e_uo]; exact own_t3 p2
    rcases ht with rfl | rfl
    · refine Own.new_ (hw _ (List.mem_of_getElem? (i := 31) rfl)) (hw _ (List.mem_of_getElem? (i := 32) rfl)) (hw _ (List.mem_of_getElem? (i := 33) rfl)) at_87 (by decide) (by decide) (fun h273 b273 gb273 E273 X273 D273 => ?_)
      have g_b273 : n0 ≤ b273 := by rw [gb273]; exact hn
      have ne_b169_b273 : b169 ≠ b273 := fun q => Nat.ne_of_lt V173.lt (q.trans gb273)
      have ne_b273_b169 := Ne.symm ne_b169_b273
      have ne_b174_b273 : b174 ≠ b273 := fun q => Nat.ne_of_lt X_b174.lt (q.trans gb273)
      have ne_b273_b174 := Ne.symm ne_b174_b273
      have ne_b176_b273 : b176 ≠ b273 := fun q => Nat.ne_of_lt V176.lt (q.trans gb273)
      have ne_b273_b176 := Ne.symm ne_b176_b273
      have hn := Nat.le_trans hn E273.1
      replace S_C := S_C.ext E273
      replace S_F := S_F.ext E273
      replace V173 := V173.ext E273
      replace X_b174 := X_b174.ext E273
      replace F_value_b174 := F_value_b174.ext E273
      replace F_coder_b174 := F_coder_b174.ext E273
      replace V176 := V176.ext E273
      have X_b273 := X273
      have F_text_b273 : Fld Z h273 b273 "com/example/cytorelay/cytorelay/core/Hl7Syntax$Span" "text" "Ljava/lang/String;" .null := D273 (Or.inr (hw _ (List.mem_of_getElem? (i := 44) rfl))) (ty := (.object "java/lang/String")) (by decide)
      have F_from_b273 : Fld Z h273 b273 "com/example/cytorelay/cytorelay/core/Hl7Syntax$Span" "from" "I" (.int (0 : Int32)) := D273 (Or.inr (hw _ (List.mem_of_getElem? (i := 46) rfl))) (ty := .int) (by decide)
      have F_to_b273 : Fld Z h273 b273 "com/example/cytorelay/cytorelay/core/Hl7Syntax$Span" "to" "I" (.int (0 : Int32)) := D273 (Or.inr (hw _ (List.mem_of_getElem? (i := 48) rfl))) (ty := .int) (by decide)
      refine Own.dup at_90 rfl ?_
      refine Own.aload at_91 rfl rfl ?_
      refine Own.iload at_93 rfl ?_
      refine Own.iload at_95 rfl ?_
      refine Own.callI_ b273 [(.ref b174), (.int (3 : Int32)), (.int (3 : Int32))] [(.ref b273)] 1 (rmSP l Z a0 hw [] b273 b174 (3 : Int32) (3 : Int32) h273 n0 hn g_b273 X_b273 F_text_b273 F_from_b273 F_to_b273) (allS (List.mem_of_getElem? (i := 0) rfl) all0) (hw _ (List.mem_of_getElem? (i := 34) rfl)) (hw _ (List.mem_of_getElem? (i := 35) rfl)) (hw _ (List.mem_of_getElem? (i := 33) rfl)) (hw _ (List.mem_of_getElem? (i := 36) rfl)) rfl (by decide) at_97 pd_11 rfl rfl rfl rfl (by decide) (by decide) (by decide) (by decide) (fun v274 h274 S274 hq274 => ?_)
      obtain ⟨rfl, K275, G1, G2, G3⟩ := hq274
      have hn := Nat.le_trans hn K275.1
      replace S_C := sta_keep S_C K275 (nsS X_b273.nostat ns0)
      replace S_F := sta_keep S_F K275 (nsS X_b273.nostat ns0)
      replace V173 := V173.keep K275 (ninS ne_b169_b273 nin0)
      replace X_b174 := X_b174.keep K275
      replace F_value_b174 := F_value_b174.keep K275 (ninS ne_b174_b273 nin0)
      replace F_coder_b174 := F_coder_b174.keep K275 (ninS ne_b174_b273 nin0)
      replace V176 := V176.keep K275 (ninS ne_b176_b273 nin0)
      replace X_b273 := X_b273.keep K275
      have F_text_b273 := G1
      have F_from_b273 := G2
      have F_to_b273 := G3
      refine ⟨[], all0, ?_⟩
      refine OAt.cast (st' := [(.ref b273)]) rfl ?_
      refine Own.astore #[.val (.int p0), .val (.int p1), .val (.int p2), .val (.int p3), .val (.ref b169), .val (.ref b174), .val (.int (3 : Int32)), .val (.int (3 : Int32)), .val (.ref b273), .unset, .unset, .unset] at_100 rfl rfl ?_
      refine Own.aload at_102 rfl rfl ?_
      refine Own.callVP b273 [] [] 0 (rmSE3_3 l Z a0 hw [] b273  h274 n0 hn F_from_b273 F_to_b273) (hw _ (List.mem_of_getElem? (i := 49) rfl)) (hw _ (List.mem_of_getElem? (i := 50) rfl)) (fun s hZ => notFace_of_selects (args := #[]) (mvT hZ (hw _ (List.mem_of_getElem? (i := 52) rfl)))) (hw _ (List.mem_of_getElem? (i := 52) rfl)) (hw _ (List.mem_of_getElem? (i := 51) rfl)) (hw _ (List.mem_of_getElem? (i := 33) rfl)) (hw _ (List.mem_of_getElem? (i := 53) rfl)) (by decide) X_b273 at_104 pd_4 rfl rfl rfl rfl (by decide) (by decide) (by decide) (by decide) ?_
      refine Own.istore #[.val (.int p0), .val (.int p1), .val (.int p2), .val (.int p3), .val (.ref b169), .val (.ref b174), .val (.int (3 : Int32)), .val (.int (3 : Int32)), .val (.ref b273), .val (.int (1 : Int32)), .unset, .unset] at_107 rfl ?_
      refine Own.aload at_109 rfl rfl ?_
      refine Own.callV_ b273 [] [] 0 (rmCut3_3 l Z a0 hw [] b273 b174 b176 k176 zc vf (nar .byte ((nar .char ((p0 &&& (255 : Int32)).toUInt32.toUInt16.toUInt32.toInt32)).toInt8.toInt32)) (nar .byte ((nar .char ((((p0.toUInt32 >>> ((8 : Int32) &&& 31).toUInt32).toInt32) &&& (255 : Int32)).toUInt32.toUInt16.toUInt32.toInt32)).toInt8.toInt32)) (nar .byte ((nar .char ((((p0.toUInt32 >>> ((16 : Int32) &&& 31).toUInt32).toInt32) &&& (255 : Int32)).toUInt32.toUInt16.toUInt32.toInt32)).toInt8.toInt32)) (nar .byte ((nar .char ((((p0.toUInt32 >>> ((24 : Int32) &&& 31).toUInt32).toInt32) &&& (255 : Int32)).toUInt32.toUInt16.toUInt32.toInt32)).toInt8.toInt32)) h274 n0 hn X_b174 F_value_b174 F_coder_b174 V176 S_C S_F hz hvf F_text_b273 F_from_b273 F_to_b273) all0 (hw _ (List.mem_of_getElem? (i := 54) rfl)) (hw _ (List.mem_of_getElem? (i := 55) rfl)) (fun s hZ => notFace_of_selects (args := #[]) (mvT hZ (hw _ (List.mem_of_getElem? (i := 57) rfl)))) (hw _ (List.mem_of_getElem? (i := 57) rfl)) (hw _ (List.mem_of_getElem? (i := 56) rfl)) (hw _ (List.mem_of_getElem? (i := 33) rfl)) (hw _ (List.mem_of_getElem? (i := 58) rfl)) (by decide) X_b273 at_111 pd_2 rfl rfl rfl rfl (by decide) (by decide) (by decide) (by decide) (fun v276 h276 S276 hq276 => ?_)
      obtain ⟨K277, s277, t277, kt277, rfl, X_s277, F_value_s277, F_coder_s277, V_t277⟩ := hq276
      have hn := Nat.le_trans hn K277.1
      replace S_C := sta_keep S_C K277 ns0
      replace S_F := sta_keep S_F K277 ns0
      replace V173 := V173.keep K277 nin0
      replace X_b174 := X_b174.keep K277
      replace F_value_b174 := F_value_b174.keep K277 nin0
      replace F_coder_b174 := F_coder_b174.keep K277 nin0
      replace V176 := V176.keep K277 nin0
      replace X_b273 := X_b273.keep K277
      replace F_text_b273 := F_text_b273.keep K277 nin0
      replace F_from_b273 := F_from_b273.keep K277 nin0
      replace F_to_b273 := F_to_b273.keep K277 nin0
      refine ⟨[], all0, ?_⟩
      refine OAt.cast (st' := [(.ref s277)]) rfl ?_
      refine Own.callVP s277 [] [] 0 (rm_empty_0 l Z a0 hw [] s277 t277 kt277 _ zc h276 n0 hn X_s277 F_value_s277 F_coder_s277 V_t277 rfl S_C hz) (hw _ (List.mem_of_getElem? (i := 94) rfl)) (hw _ (List.mem_of_getElem? (i := 95) rfl)) (fun s hZ => notFace_of_selects (args := #[]) (mvT hZ (hw _ (List.mem_of_getElem? (i := 97) rfl)))) (hw _ (List.mem_of_getElem? (i := 97) rfl)) (hw _ (List.mem_of_getElem? (i := 96) rfl)) (hw _ (List.mem_of_getElem? (i := 3) rfl)) (hw _ (List.mem_of_getElem? (i := 98) rfl)) (by decide) X_s277 at_114 pd_4 rfl rfl rfl rfl (by decide) (by decide) (by decide) (by decide) ?_
      refine Own.istore #[.val (.int p0), .val (.int p1), .val (.int p2), .val (.int p3), .val (.ref b169), .val (.ref b174), .val (.int (3 : Int32)), .val (.int (3 : Int32)), .val (.ref b273), .val (.int (1 : Int32)), .val (.int (1 : Int32)), .unset] at_117 rfl ?_
      refine Own.new_ (hw _ (List.mem_of_getElem? (i := 31) rfl)) (hw _ (List.mem_of_getElem? (i := 32) rfl)) (hw _ (List.mem_of_getElem? (i := 33) rfl)) at_119 (by decide) (by decide) (fun h278 b278 gb278 E278 X278 D278 => ?_)
      have g_b278 : n0 ≤ b278 := by rw [gb278]; exact hn
      have ne_b169_b278 : b169 ≠ b278 := fun q => Nat.ne_of_lt V173.lt (q.trans gb278)
      have ne_b278_b169 := Ne.symm ne_b169_b278
      have ne_b174_b278 : b174 ≠ b278 := fun q => Nat.ne_of_lt X_b174.lt (q.trans gb278)
      have ne_b278_b174 := Ne.symm ne_b174_b278
      have ne_b176_b278 : b176 ≠ b278 := fun q => Nat.ne_of_lt V176.lt (q.trans gb278)
      have ne_b278_b176 := Ne.symm ne_b176_b278
      have ne_b273_b278 : b273 ≠ b278 := fun q => Nat.ne_of_lt X_b273.lt (q.trans gb278)
      have ne_b278_b273 := Ne.symm ne_b273_b278
      have ne_s277_b278 : s277 ≠ b278 := fun q => Nat.ne_of_lt X_s277.lt (q.trans gb278)
      have ne_b278_s277 := Ne.symm ne_s277_b278
      have ne_t277_b278 : t277 ≠ b278 := fun q => Nat.ne_of_lt V_t277.lt (q.trans gb278)
      have ne_b278_t277 := Ne.symm ne_t277_b278
      have hn := Nat.le_trans hn E278.1
      replace S_C := S_C.ext E278
      replace S_F := S_F.ext E278
      replace V173 := V173.ext E278
      replace X_b174 := X_b174.ext E278
      replace F_value_b174 := F_value_b174.ext E278
      replace F_coder_b174 := F_coder_b174.ext E278
      replace V176 := V176.ext E278
      replace X_b273 := X_b273.ext E278
      replace F_text_b273 := F_text_b273.ext E278
      replace F_from_b273 := F_from_b273.ext E278
      replace F_to_b273 := F_to_b273.ext E278
      replace X_s277 := X_s277.ext E278
      replace F_value_s277 := F_value_s277.ext E278
      replace F_coder_s277 := F_coder_s277.ext E278
      replace V_t277 := V_t277.ext E278
      have X_b278 := X278
      have F_text_b278 : Fld Z h278 b278 "com/example/cytorelay/cytorelay/core/Hl7Syntax$Span" "text" "Ljava/lang/String;" .null := D278 (Or.inr (hw _ (List.mem_of_getElem? (i := 44) rfl))) (ty := (.object "java/lang/String")) (by decide)
      have F_from_b278 : Fld Z h278 b278 "com/example/cytorelay/cytorelay/core/Hl7Syntax$Span" "from" "I" (.int (0 : Int32)) := D278 (Or.inr (hw _ (List.mem_of_getElem? (i := 46) rfl))) (ty := .int) (by decide)
      have F_to_b278 : Fld Z h278 b278 "com/example/cytorelay/cytorelay/core/Hl7Syntax$Span" "to" "I" (.int (0 : Int32)) := D278 (Or.inr (hw _ (List.mem_of_getElem? (i := 48) rfl))) (ty := .int) (by decide)
      refine Own.dup at_122 rfl ?_
      refine Own.aload at_123 rfl rfl ?_
      refine Own.iloadN at_125 rfl ?_
      refine Own.iloadN at_126 rfl ?_
      refine Own.callI_ b278 [(.ref b174), (.int p3), (.int p3)] [(.ref b278)] 1 (rmSP l Z a0 hw [] b278 b174 p3 p3 h278 n0 hn g_b278 X_b278 F_text_b278 F_from_b278 F_to_b278) (allS (List.mem_of_getElem? (i := 0) rfl) all0) (hw _ (List.mem_of_getElem? (i := 34) rfl)) (hw _ (List.mem_of_getElem? (i := 35) rfl)) (hw _ (List.mem_of_getElem? (i := 33) rfl)) (hw _ (List.mem_of_getElem? (i := 36) rfl)) rfl (by decide) at_127 pd_11 rfl rfl rfl rfl (by decide) (by decide) (by decide) (by decide) (fun v279 h279 S279 hq279 => ?_)
      obtain ⟨rfl, K280, G1, G2, G3⟩ := hq279
      have hn := Nat.le_trans hn K280.1
      replace S_C := sta_keep S_C K280 (nsS X_b278.nostat ns0)
      replace S_F := sta_keep S_F K280 (nsS X_b278.nostat ns0)
      replace V173 := V173.keep K280 (ninS ne_b169_b278 nin0)
      replace X_b174 := X_b174.keep K280
      replace F_value_b174 := F_value_b174.keep K280 (ninS ne_b174_b278 nin0)
      replace F_coder_b174 := F_coder_b174.keep K280 (ninS ne_b174_b278 nin0)
      replace V176 := V176.keep K280 (ninS ne_b176_b278 nin0)
      replace X_b273 := X_b273.keep K280
      replace F_text_b273 := F_text_b273.keep K280 (ninS ne_b273_b278 nin0)
      replace F_from_b273 := F_from_b273.keep K280 (ninS ne_b273_b278 nin0)
      replace F_to_b273 := F_to_b273.keep K280 (ninS ne_b273_b278 nin0)
      replace X_s277 := X_s277.keep K280
      replace F_value_s277 := F_value_s277.keep K280 (ninS ne_s277_b278 nin0)
      replace F_coder_s277 := F_coder_s277.keep K280 (ninS ne_s277_b278 nin0)
      replace V_t277 := V_t277.keep K280 (ninS ne_t277_b278 nin0)
      replace X_b278 := X_b278.keep K280
      have F_text_b278 := G1
      have F_from_b278 := G2
      have F_to_b278 := G3
      refine ⟨[], all0, ?_⟩
      refine OAt.cast (st' := [(.ref b278)]) rfl ?_
      refine Own.callVP b278 [] [] 0 (rmSEq l Z a0 hw [] b278 p3 h279 n0 hn F_from_b278 F_to_b278) (hw _ (List.mem_of_getElem? (i := 49) rfl)) (hw _ (List.mem_of_getElem? (i := 50) rfl)) (fun s hZ => notFace_of_selects (args := #[]) (mvT hZ (hw _ (List.mem_of_getElem? (i := 52) rfl)))) (hw _ (List.mem_of_getElem? (i := 52) rfl)) (hw _ (List.mem_of_getElem? (i := 51) rfl)) (hw _ (List.mem_of_getElem? (i := 33) rfl)) (hw _ (List.mem_of_getElem? (i := 53) rfl)) (by decide) X_b278 at_130 pd_4 rfl rfl rfl rfl (by decide) (by decide) (by decide) (by decide) ?_
      refine Own.istore #[.val (.int p0), .val (.int p1), .val (.int p2), .val (.int p3), .val (.ref b169), .val (.ref b174), .val (.int (3 : Int32)), .val (.int (3 : Int32)), .val (.ref b273), .val (.int (1 : Int32)), .val (.int (1 : Int32)), .val (.int (1 : Int32))] at_133 rfl ?_
      refine Own.iload at_135 rfl ?_
      refine Own.iload at_137 rfl ?_
      refine Own.icmp_ne 151 at_139 (by decide) rfl (fun q => absurd (by decide) q) (fun _ => ?_)
      refine Own.iload at_142 rfl ?_
      refine Own.if_eq 151 at_144 (by decide) rfl (fun q => absurd q (by decide)) (fun _ => ?_)
      refine Own.iconst (1 : Int32) at_147 rfl ?_
      refine Own.goto_ 152 at_148 (by decide) rfl ?_
      refine Own.ret_nar (t := .boolean) (by simp) rfl at_152 (by decide) (by decide) (fun Sf hSf => ?_)
      exact rfl
    · refine Own.new_ (hw _ (List.mem_of_getElem? (i := 31) rfl)) (hw _ (List.mem_of_getElem? (i := 32) rfl)) (hw _ (List.mem_of_getElem? (i := 33) rfl)) at_87 (by decide) (by decide) (fun h281 b281 gb281 E281 X281 D281 => ?_)
      have g_b281 : n0 ≤ b281 := by rw [gb281]; exact hn
      have ne_b169_b281 : b169 ≠ b281 := fun q => Nat.ne_of_lt V173.lt (q.trans gb281)
      have ne_b281_b169 := Ne.symm ne_b169_b281
      have ne_b174_b281 : b174 ≠ b281 := fun q => Nat.ne_of_lt X_b174.lt (q.trans gb281)
      have ne_b281_b174 := Ne.symm ne_b174_b281
      have ne_b176_b281 : b176 ≠ b281 := fun q => Nat.ne_of_lt V176.lt (q.trans gb281)
      have ne_b281_b176 := Ne.symm ne_b176_b281
      have hn := Nat.le_trans hn E281.1
      replace S_C := S_C.ext E281
      replace S_F := S_F.ext E281
      replace V173 := V173.ext E281
      replace X_b174 := X_b174.ext E281
      replace F_value_b174 := F_value_b174.ext E281
      replace F_coder_b174 := F_coder_b174.ext E281
      replace V176 := V176.ext E281
      have X_b281 := X281
      have F_text_b281 : Fld Z h281 b281 "com/example/cytorelay/cytorelay/core/Hl7Syntax$Span" "text" "Ljava/lang/String;" .null := D281 (Or.inr (hw _ (List.mem_of_getElem? (i := 44) rfl))) (ty := (.object "java/lang/String")) (by decide)
      have F_from_b281 : Fld Z h281 b281 "com/example/cytorelay/cytorelay/core/Hl7Syntax$Span" "from" "I" (.int (0 : Int32)) := D281 (Or.inr (hw _ (List.mem_of_getElem? (i := 46) rfl))) (ty := .int) (by decide)
      have F_to_b281 : Fld Z h281 b281 "com/example/cytorelay/cytorelay/core/Hl7Syntax$Span" "to" "I" (.int (0 : Int32)) := D281 (Or.inr (hw _ (List.mem_of_getElem? (i := 48) rfl))) (ty := .int) (by decide)
      refine Own.dup at_90 rfl ?_
      refine Own.aload at_91 rfl rfl ?_
      refine Own.iload at_93 rfl ?_
      refine Own.iload at_95 rfl ?_
      refine Own.callI_ b281 [(.ref b174), (.int (3 : Int32)), (.int (4 : Int32))] [(.ref b281)] 1 (rmSP l Z a0 hw [] b281 b174 (3 : Int32) (4 : Int32) h281 n0 hn g_b281 X_b281 F_text_b281 F_from_b281 F_to_b281) (allS (List.mem_of_getElem? (i := 0) rfl) all0) (hw _ (List.mem_of_getElem? (i := 34) rfl)) (hw _ (List.mem_of_getElem? (i := 35) rfl)) (hw _ (List.mem_of_getElem? (i := 33) rfl)) (hw _ (List.mem_of_getElem? (i := 36) rfl)) rfl (by decide) at_97 pd_11 rfl rfl rfl rfl (by decide) (by decide) (by decide) (by decide) (fun v282 h282 S282 hq282 => ?_)
      obtain ⟨rfl, K283, G1, G2, G3⟩ := hq282
      have hn := Nat.le_trans hn K283.1
      replace S_C := sta_keep S_C K283 (nsS X_b281.nostat ns0)
      replace S_F := sta_keep S_F K283 (nsS X_b281.nostat ns0)
      replace V173 := V173.keep K283 (ninS ne_b169_b281 nin0)
      replace X_b174 := X_b174.keep K283
      replace F_value_b174 := F_value_b174.keep K283 (ninS ne_b174_b281 nin0)
      replace F_coder_b174 := F_coder_b174.keep K283 (ninS ne_b174_b281 nin0)
      replace V176 := V176.keep K283 (ninS ne_b176_b281 nin0)
      replace X_b281 := X_b281.keep K283
      have F_text_b281 := G1
      have F_from_b281 := G2
      have F_to_b281 := G3
      refine ⟨[], all0, ?_⟩
      refine OAt.cast (st' := [(.ref b281)]) rfl ?_
      refine Own.astore #[.val (.int p0), .val (.int p1), .val (.int p2), .val (.int p3), .val (.ref b169), .val (.ref b174), .val (.int (3 : Int32)), .val (.int (4 : Int32)), .val (.ref b281), .unset, .unset, .unset] at_100 rfl rfl ?_
      refine Own.aload at_102 rfl rfl ?_
      refine Own.callVP b281 [] [] 0 (rmSE3_4 l Z a0 hw [] b281  h282 n0 hn F_from_b281 F_to_b281) (hw _ (List.mem_of_getElem? (i := 49) rfl)) (hw _ (List.mem_of_getElem? (i := 50) rfl)) (fun s hZ => notFace_of_selects (args := #[]) (mvT hZ (hw _ (List.mem_of_getElem? (i := 52) rfl)))) (hw _ (List.mem_of_getElem? (i := 52) rfl)) (hw _ (List.mem_of_getElem? (i := 51) rfl)) (hw _ (List.mem_of_getElem? (i := 33) rfl)) (hw _ (List.mem_of_getElem? (i := 53) rfl)) (by decide) X_b281 at_104 pd_4 rfl rfl rfl rfl (by decide) (by decide) (by decide) (by decide) ?_
      refine Own.istore #[.val (.int p0), .val (.int p1), .val (.int p2), .val (.int p3), .val (.ref b169), .val (.ref b174), .val (.int (3 : Int32)), .val (.int (4 : Int32)), .val (.ref b281), .val (.int (0 : Int32)), .unset, .unset] at_107 rfl ?_
      refine Own.aload at_109 rfl rfl ?_
      refine Own.callV_ b281 [] [] 0 (rmCut3_4 l Z a0 hw [] b281 b174 b176 k176 zc vf (nar .byte ((nar .char ((p0 &&& (255 : Int32)).toUInt32.toUInt16.toUInt32.toInt32)).toInt8.toInt32)) (nar .byte ((nar .char ((((p0.toUInt32 >>> ((8 : Int32) &&& 31).toUInt32).toInt32) &&& (255 : Int32)).toUInt32.toUInt16.toUInt32.toInt32)).toInt8.toInt32)) (nar .byte ((nar .char ((((p0.toUInt32 >>> ((16 : Int32) &&& 31).toUInt32).toInt32) &&& (255 : Int32)).toUInt32.toUInt16.toUInt32.toInt32)).toInt8.toInt32)) (nar .byte ((nar .char ((((p0.toUInt32 >>> ((24 : Int32) &&& 31).toUInt32).toInt32) &&& (255 : Int32)).toUInt32.toUInt16.toUInt32.toInt32)).toInt8.toInt32)) h282 n0 hn X_b174 F_value_b174 F_coder_b174 V176 S_C S_F hz hvf F_text_b281 F_from_b281 F_to_b281) all0 (hw _ (List.mem_of_getElem? (i := 54) rfl)) (hw _ (List.mem_of_getElem? (i := 55) rfl)) (fun s hZ => notFace_of_selects (args := #[]) (mvT hZ (hw _ (List.mem_of_getElem? (i := 57) rfl)))) (hw _ (List.mem_of_getElem? (i := 57) rfl)) (hw _ (List.mem_of_getElem? (i := 56) rfl)) (hw _ (List.mem_of_getElem? (i := 33) rfl)) (hw _ (List.mem_of_getElem? (i := 58) rfl)) (by decide) X_b281 at_111 pd_2 rfl rfl rfl rfl (by decide) (by decide) (by decide) (by decide) (fun v284 h284 S284 hq284 => ?_)
      obtain ⟨K285, s285, t285, kt285, rfl, X_s285, F_value_s285, F_coder_s285, V_t285⟩ := hq284
      have hn := Nat.le_trans hn K285.1
      replace S_C := sta_keep S_C K285 ns0
      replace S_F := sta_keep S_F K285 ns0
      replace V173 := V173.keep K285 nin0
      replace X_b174 := X_b174.keep K285
      replace F_value_b174 := F_value_b174.keep K285 nin0
      replace F_coder_b174 := F_coder_b174.keep K285 nin0
      replace V176 := V176.keep K285 nin0
      replace X_b281 := X_b281.keep K285
      replace F_text_b281 := F_text_b281.keep K285 nin0
      replace F_from_b281 := F_from_b281.keep K285 nin0
      replace F_to_b281 := F_to_b281.keep K285 nin0
      refine ⟨[], all0, ?_⟩
      refine OAt.cast (st' := [(.ref s285)]) rfl ?_
      refine Own.callVP s285 [] [] 0 (rm_empty_1 l Z a0 hw [] s285 t285 kt285 _ zc h284 n0 hn X_s285 F_value_s285 F_coder_s285 V_t285 rfl S_C hz) (hw _ (List.mem_of_getElem? (i := 94) rfl)) (hw _ (List.mem_of_getElem? (i := 95) rfl)) (fun s hZ => notFace_of_selects (args := #[]) (mvT hZ (hw _ (List.mem_of_getElem? (i := 97) rfl)))) (hw _ (List.mem_of_getElem? (i := 97) rfl)) (hw _ (List.mem_of_getElem? (i := 96) rfl)) (hw _ (List.mem_of_getElem? (i := 3) rfl)) (hw _ (List.mem_of_getElem? (i := 98) rfl)) (by decide) X_s285 at_114 pd_4 rfl rfl rfl rfl (by decide) (by decide) (by decide) (by decide) ?_
      refine Own.istore #[.val (.int p0), .val (.int p1), .val (.int p2), .val (.int p3), .val (.ref b169), .val (.ref b174), .val (.int (3 : Int32)), .val (.int (4 : Int32)), .val (.ref b281), .val (.int (0 : Int32)), .val (.int (0 : Int32)), .unset] at_117 rfl ?_
      refine Own.new_ (hw _ (List.mem_of_getElem? (i := 31) rfl)) (hw _ (List.mem_of_getElem? (i := 32) rfl)) (hw _ (List.mem_of_getElem? (i := 33) rfl)) at_119 (by decide) (by decide) (fun h286 b286 gb286 E286 X286 D286 => ?_)
      have g_b286 : n0 ≤ b286 := by rw [gb286]; exact hn
      have ne_b169_b286 : b169 ≠ b286 := fun q => Nat.ne_of_lt V173.lt (q.trans gb286)
      have ne_b286_b169 := Ne.symm ne_b169_b286
      have ne_b174_b286 : b174 ≠ b286 := fun q => Nat.ne_of_lt X_b174.lt (q.trans gb286)
      have ne_b286_b174 := Ne.symm ne_b174_b286
      have ne_b176_b286 : b176 ≠ b286 := fun q => Nat.ne_of_lt V176.lt (q.trans gb286)
      have ne_b286_b176 := Ne.symm ne_b176_b286
      have ne_b281_b286 : b281 ≠ b286 := fun q => Nat.ne_of_lt X_b281.lt (q.trans gb286)
      have ne_b286_b281 := Ne.symm ne_b281_b286
      have ne_s285_b286 : s285 ≠ b286 := fun q => Nat.ne_of_lt X_s285.lt (q.trans gb286)
      have ne_b286_s285 := Ne.symm ne_s285_b286
      have ne_t285_b286 : t285 ≠ b286 := fun q => Nat.ne_of_lt V_t285.lt (q.trans gb286)
      have ne_b286_t285 := Ne.symm ne_t285_b286
      have hn := Nat.le_trans hn E286.1
      replace S_C := S_C.ext E286
      replace S_F := S_F.ext E286
      replace V173 := V173.ext E286
      replace X_b174 := X_b174.ext E286
      replace F_value_b174 := F_value_b174.ext E286
      replace F_coder_b174 := F_coder_b174.ext E286
      replace V176 := V176.ext E286
      replace X_b281 := X_b281.ext E286
      replace F_text_b281 := F_text_b281.ext E286
      replace F_from_b281 := F_from_b281.ext E286
      replace F_to_b281 := F_to_b281.ext E286
      replace X_s285 := X_s285.ext E286
      replace F_value_s285 := F_value_s285.ext E286
      replace F_coder_s285 := F_coder_s285.ext E286
      replace V_t285 := V_t285.ext E286
      have X_b286 := X286
      have F_text_b286 : Fld Z h286 b286 "com/example/cytorelay/cytorelay/core/Hl7Syntax$Span" "text" "Ljava/lang/String;" .null := D286 (Or.inr (hw _ (List.mem_of_getElem? (i := 44) rfl))) (ty := (.object "java/lang/String")) (by decide)
      have F_from_b286 : Fld Z h286 b286 "com/example/cytorelay/cytorelay/core/Hl7Syntax$Span" "from" "I" (.int (0 : Int32)) := D286 (Or.inr (hw _ (List.mem_of_getElem? (i := 46) rfl))) (ty := .int) (by decide)
      have F_to_b286 : Fld Z h286 b286 "com/example/cytorelay/cytorelay/core/Hl7Syntax$Span" "to" "I" (.int (0 : Int32)) := D286 (Or.inr (hw _ (List.mem_of_getElem? (i := 48) rfl))) (ty := .int) (by decide)
      refine Own.dup at_122 rfl ?_
      refine Own.aload at_123 rfl rfl ?_
      refine Own.iloadN at_125 rfl ?_
      refine Own.iloadN at_126 rfl ?_
      refine Own.callI_ b286 [(.ref b174), (.int p3), (.int p3)] [(.ref b286)] 1 (rmSP l Z a0 hw [] b286 b174 p3 p3 h286 n0 hn g_b286 X_b286 F_text_b286 F_from_b286 F_to_b286) (allS (List.mem_of_getElem? (i := 0) rfl) all0) (hw _ (List.mem_of_getElem? (i := 34) rfl)) (hw _ (List.mem_of_getElem? (i := 35) rfl)) (hw _ (List.mem_of_getElem? (i := 33) rfl)) (hw _ (List.mem_of_getElem? (i := 36) rfl)) rfl (by decide) at_127 pd_11 rfl rfl rfl rfl (by decide) (by decide) (by decide) (by decide) (fun v287 h287 S287 hq287 => ?_)
      obtain ⟨rfl, K288, G1, G2, G3⟩ := hq287
      have hn := Nat.le_trans hn K288.1
      replace S_C := sta_keep S_C K288 (nsS X_b286.nostat ns0)
      replace S_F := sta_keep S_F K288 (nsS X_b286.nostat ns0)
      replace V173 := V173.keep K288 (ninS ne_b169_b286 nin0)
      replace X_b174 := X_b174.keep K288
      replace F_value_b174 := F_value_b174.keep K288 (ninS ne_b174_b286 nin0)
      replace F_coder_b174 := F_coder_b174.keep K288 (ninS ne_b174_b286 nin0)
      replace V176 := V176.keep K288 (ninS ne_b176_b286 nin0)
      replace X_b281 := X_b281.keep K288
      replace F_text_b281 := F_text_b281.keep K288 (ninS ne_b281_b286 nin0)
      replace F_from_b281 := F_from_b281.keep K288 (ninS ne_b281_b286 nin0)
      replace F_to_b281 := F_to_b281.keep K288 (ninS ne_b281_b286 nin0)
      replace X_s285 := X_s285.keep K288
      replace F_value_s285 := F_value_s285.keep K288 (ninS ne_s285_b286 nin0)
      replace F_coder_s285 := F_coder_s285.keep K288 (ninS ne_s285_b286 nin0)
      replace V_t285 := V_t285.keep K288 (ninS ne_t285_b286 nin0)
      replace X_b286 := X_b286.keep K288
      have F_text_b286 := G1
      have F_from_b286 := G2
      have F_to_b286 := G3
      refine ⟨[], all0, ?_⟩
      refine OAt.cast (st' := [(.ref b286)]) rfl ?_
      refine Own.callVP b286 [] [] 0 (rmSEq l Z a0 hw [] b286 p3 h287 n0 hn F_from_b286 F_to_b286) (hw _ (List.mem_of_getElem? (i := 49) rfl)) (hw _ (List.mem_of_getElem? (i := 50) rfl)) (fun s hZ => notFace_of_selects (args := #[]) (mvT hZ (hw _ (List.mem_of_getElem? (i := 52) rfl)))) (hw _ (List.mem_of_getElem? (i := 52) rfl)) (hw _ (List.mem_of_getElem? (i := 51) rfl)) (hw _ (List.mem_of_getElem? (i := 33) rfl)) (hw _ (List.mem_of_getElem? (i := 53) rfl)) (by decide) X_b286 at_130 pd_4 rfl rfl rfl rfl (by decide) (by decide) (by decide) (by decide) ?_
      refine Own.istore #[.val (.int p0), .val (.int p1), .val (.int p2), .val (.int p3), .val (.ref b169), .val (.ref b174), .val (.int (3 : Int32)), .val (.int (4 : Int32)), .val (.ref b281), .val (.int (0 : Int32)), .val (.int (0 : Int32)), .val (.int (1 : Int32))] at_133 rfl ?_
      refine Own.iload at_135 rfl ?_
      refine Own.iload at_137 rfl ?_
      refine Own.icmp_ne 151 at_139 (by decide) rfl (fun q => absurd (by decide) q) (fun _ => ?_)
      refine Own.iload at_142 rfl ?_
      refine Own.if_eq 151 at_144 (by decide) rfl (fun q => absurd q (by decide)) (fun _ => ?_)
      refine Own.iconst (1 : Int32) at_147 rfl ?_
      refine Own.goto_ 152 at_148 (by decide) rfl ?_
      refine Own.ret_nar (t := .boolean) (by simp) rfl at_152 (by decide) (by decide) (fun Sf hSf => ?_)
      exact rfl
  · have ht : uo = 4 := by rw [e_uo]; exact own_t4 p2
    obtain rfl := ht
    refine Own.new_ (hw _ (List.mem_of_getElem? (i := 31) rfl)) (hw _ (List.mem_of_getElem? (i := 32) rfl)) (hw _ (List.mem_of_getElem? (i := 33) rfl)) at_87 (by decide) (by decide) (fun h289 b289 gb289 E289 X289 D289 => ?_)
    have g_b289 : n0 ≤ b289 := by rw [gb289]; exact hn
    have ne_b169_b289 : b169 ≠ b289 := fun q => Nat.ne_of_lt V173.lt (q.trans gb289)
    have ne_b289_b169 := Ne.symm ne_b169_b289
    have ne_b174_b289 : b174 ≠ b289 := fun q => Nat.ne_of_lt X_b174.lt (q.trans gb289)
    have ne_b289_b174 := Ne.symm ne_b174_b289
    have ne_b176_b289 : b176 ≠ b289 := fun q => Nat.ne_of_lt V176.lt (q.trans gb289)
    have ne_b289_b176 := Ne.symm ne_b176_b289
    have hn := Nat.le_trans hn E289.1
    replace S_C := S_C.ext E289
    replace S_F := S_F.ext E289
    replace V173 := V173.ext E289
    replace X_b174 := X_b174.ext E289
    replace F_value_b174 := F_value_b174.ext E289
    replace F_coder_b174 := F_coder_b174.ext E289
    replace V176 := V176.ext E289
    have X_b289 := X289
    have F_text_b289 : Fld Z h289 b289 "com/example/cytorelay/cytorelay/core/Hl7Syntax$Span" "text" "Ljava/lang/String;" .null := D289 (Or.inr (hw _ (List.mem_of_getElem? (i := 44) rfl))) (ty := (.object "java/lang/String")) (by decide)
    have F_from_b289 : Fld Z h289 b289 "com/example/cytorelay/cytorelay/core/Hl7Syntax$Span" "from" "I" (.int (0 : Int32)) := D289 (Or.inr (hw _ (List.mem_of_getElem? (i := 46) rfl))) (ty := .int) (by decide)
    have F_to_b289 : Fld Z h289 b289 "com/example/cytorelay/cytorelay/core/Hl7Syntax$Span" "to" "I" (.int (0 : Int32)) := D289 (Or.inr (hw _ (List.mem_of_getElem? (i := 48) rfl))) (ty := .int) (by decide)
    refine Own.dup at_90 rfl ?_
    refine Own.aload at_91 rfl rfl ?_
    refine Own.iload at_93 rfl ?_
    refine Own.iload at_95 rfl ?_
    refine Own.callI_ b289 [(.ref b174), (.int (4 : Int32)), (.int (4 : Int32))] [(.ref b289)] 1 (rmSP l Z a0 hw [] b289 b174 (4 : Int32) (4 : Int32) h289 n0 hn g_b289 X_b289 F_text_b289 F_from_b289 F_to_b289) (allS (List.mem_of_getElem? (i := 0) rfl) all0) (hw _ (List.mem_of_getElem? (i := 34) rfl)) (hw _ (List.mem_of_getElem? (i := 35) rfl)) (hw _ (List.mem_of_getElem? (i := 33) rfl)) (hw _ (List.mem_of_getElem? (i := 36) rfl)) rfl (by decide) at_97 pd_11 rfl rfl rfl rfl (by decide) (by decide) (by decide) (by decide) (fun v290 h290 S290 hq290 => ?_)
    obtain ⟨rfl, K291, G1, G2, G3⟩ := hq290
    have hn := Nat.le_trans hn K291.1
    replace S_C := sta_keep S_C K291 (nsS X_b289.nostat ns0)
    replace S_F := sta_keep S_F K291 (nsS X_b289.nostat ns0)
    replace V173 := V173.keep K291 (ninS ne_b169_b289 nin0)
    replace X_b174 := X_b174.keep K291
    replace F_value_b174 := F_value_b174.keep K291 (ninS ne_b174_b289 nin0)
    replace F_coder_b174 := F_coder_b174.keep K291 (ninS ne_b174_b289 nin0)
    replace V176 := V176.keep K291 (ninS ne_b176_b289 nin0)
    replace X_b289 := X_b289.keep K291
    have F_text_b289 := G1
    have F_from_b289 := G2
    have F_to_b289 := G3
    refine ⟨[], all0, ?_⟩
    refine OAt.cast (st' := [(.ref b289)]) rfl ?_
    refine Own.astore #[.val (.int p0), .val (.int p1), .val (.int p2), .val (.int p3), .val (.ref b169), .val (.ref b174), .val (.int (4 : Int32)), .val (.int (4 : Int32)), .val (.ref b289), .unset, .unset, .unset] at_100 rfl rfl ?_
    refine Own.aload at_102 rfl rfl ?_
    refine Own.callVP b289 [] [] 0 (rmSE4_4 l Z a0 hw [] b289  h290 n0 hn F_from_b289 F_to_b289) (hw _ (List.mem_of_getElem? (i := 49) rfl)) (hw _ (List.mem_of_getElem? (i := 50) rfl)) (fun s hZ => notFace_of_selects (args := #[]) (mvT hZ (hw _ (List.mem_of_getElem? (i := 52) rfl)))) (hw _ (List.mem_of_getElem? (i := 52) rfl)) (hw _ (List.mem_of_getElem? (i := 51) rfl)) (hw _ (List.mem_of_getElem? (i := 33) rfl)) (hw _ (List.mem_of_getElem? (i := 53) rfl)) (by decide) X_b289 at_104 pd_4 rfl rfl rfl rfl (by decide) (by decide) (by decide) (by decide) ?_
    refine Own.istore #[.val (.int p0), .val (.int p1), .val (.int p2), .val (.int p3), .val (.ref b169), .val (.ref b174), .val (.int (4 : Int32)), .val (.int (4 : Int32)), .val (.ref b289), .val (.int (1 : Int32)), .unset, .unset] at_107 rfl ?_
    refine Own.aload at_109 rfl rfl ?_
    refine Own.callV_ b289 [] [] 0 (rmCut4_4 l Z a0 hw [] b289 b174 b176 k176 zc vf (nar .byte ((nar .char ((p0 &&& (255 : Int32)).toUInt32.toUInt16.toUInt32.toInt32)).toInt8.toInt32)) (nar .byte ((nar .char ((((p0.toUInt32 >>> ((8 : Int32) &&& 31).toUInt32).toInt32) &&& (255 : Int32)).toUInt32.toUInt16.toUInt32.toInt32)).toInt8.toInt32)) (nar .byte ((nar .char ((((p0.toUInt32 >>> ((16 : Int32) &&& 31).toUInt32).toInt32) &&& (255 : Int32)).toUInt32.toUInt16.toUInt32.toInt32)).toInt8.toInt32)) (nar .byte ((nar .char ((((p0.toUInt32 >>> ((24 : Int32) &&& 31).toUInt32).toInt32) &&& (255 : Int32)).toUInt32.toUInt16.toUInt32.toInt32)).toInt8.toInt32)) h290 n0 hn X_b174 F_value_b174 F_coder_b174 V176 S_C S_F hz hvf F_text_b289 F_from_b289 F_to_b289) all0 (hw _ (List.mem_of_getElem? (i := 54) rfl)) (hw _ (List.mem_of_getElem? (i := 55) rfl)) (fun s hZ => notFace_of_selects (args := #[]) (mvT hZ (hw _ (List.mem_of_getElem? (i := 57) rfl)))) (hw _ (List.mem_of_getElem? (i := 57) rfl)) (hw _ (List.mem_of_getElem? (i := 56) rfl)) (hw _ (List.mem_of_getElem? (i := 33) rfl)) (hw _ (List.mem_of_getElem? (i := 58) rfl)) (by decide) X_b289 at_111 pd_2 rfl rfl rfl rfl (by decide) (by decide) (by decide) (by decide) (fun v292 h292 S292 hq292 => ?_)
    obtain ⟨K293, s293, t293, kt293, rfl, X_s293, F_value_s293, F_coder_s293, V_t293⟩ := hq292
    have hn := Nat.le_trans hn K293.1
    replace S_C := sta_keep S_C K293 ns0
    replace S_F := sta_keep S_F K293 ns0
    replace V173 := V173.keep K293 nin0
    replace X_b174 := X_b174.keep K293
    replace F_value_b174 := F_value_b174.keep K293 nin0
    replace F_coder_b174 := F_coder_b174.keep K293 nin0
    replace V176 := V176.keep K293 nin0
    replace X_b289 := X_b289.keep K293
    replace F_text_b289 := F_text_b289.keep K293 nin0
    replace F_from_b289 := F_from_b289.keep K293 nin0
    replace F_to_b289 := F_to_b289.keep K293 nin0
    refine ⟨[], all0, ?_⟩
    refine OAt.cast (st' := [(.ref s293)]) rfl ?_
    refine Own.callVP s293 [] [] 0 (rm_empty_0 l Z a0 hw [] s293 t293 kt293 _ zc h292 n0 hn X_s293 F_value_s293 F_coder_s293 V_t293 rfl S_C hz) (hw _ (List.mem_of_getElem? (i := 94) rfl)) (hw _ (List.mem_of_getElem? (i := 95) rfl)) (fun s hZ => notFace_of_selects (args := #[]) (mvT hZ (hw _ (List.mem_of_getElem? (i := 97) rfl)))) (hw _ (List.mem_of_getElem? (i := 97) rfl)) (hw _ (List.mem_of_getElem? (i := 96) rfl)) (hw _ (List.mem_of_getElem? (i := 3) rfl)) (hw _ (List.mem_of_getElem? (i := 98) rfl)) (by decide) X_s293 at_114 pd_4 rfl rfl rfl rfl (by decide) (by decide) (by decide) (by decide) ?_
    refine Own.istore #[.val (.int p0), .val (.int p1), .val (.int p2), .val (.int p3), .val (.ref b169), .val (.ref b174), .val (.int (4 : Int32)), .val (.int (4 : Int32)), .val (.ref b289), .val (.int (1 : Int32)), .val (.int (1 : Int32)), .unset] at_117 rfl ?_
    refine Own.new_ (hw _ (List.mem_of_getElem? (i := 31) rfl)) (hw _ (List.mem_of_getElem? (i := 32) rfl)) (hw _ (List.mem_of_getElem? (i := 33) rfl)) at_119 (by decide) (by decide) (fun h294 b294 gb294 E294 X294 D294 => ?_)
    have g_b294 : n0 ≤ b294 := by rw [gb294]; exact hn
    have ne_b169_b294 : b169 ≠ b294 := fun q => Nat.ne_of_lt V173.lt (q.trans gb294)
    have ne_b294_b169 := Ne.symm ne_b169_b294
    have ne_b174_b294 : b174 ≠ b294 := fun q => Nat.ne_of_lt X_b174.lt (q.trans gb294)
    have ne_b294_b174 := Ne.symm ne_b174_b294
    have ne_b176_b294 : b176 ≠ b294 := fun q => Nat.ne_of_lt V176.lt (q.trans gb294)
    have ne_b294_b176 := Ne.symm ne_b176_b294
    have ne_b289_b294 : b289 ≠ b294 := fun q => Nat.ne_of_lt X_b289.lt (q.trans gb294)
    have ne_b294_b289 := Ne.symm ne_b289_b294
    have ne_s293_b294 : s293 ≠ b294 := fun q => Nat.ne_of_lt X_s293.lt (q.trans gb294)
    have ne_b294_s293 := Ne.symm ne_s293_b294
    have ne_t293_b294 : t293 ≠ b294 := fun q => Nat.ne_of_lt V_t293.lt (q.trans gb294)
    have ne_b294_t293 := Ne.symm ne_t293_b294
    have hn := Nat.le_trans hn E294.1
    replace S_C := S_C.ext E294
    replace S_F := S_F.ext E294
    replace V173 := V173.ext E294
    replace X_b174 := X_b174.ext E294
    replace F_value_b174 := F_value_b174.ext E294
    replace F_coder_b174 := F_coder_b174.ext E294
    replace V176 := V176.ext E294
    replace X_b289 := X_b289.ext E294
    replace F_text_b289 := F_text_b289.ext E294
    replace F_from_b289 := F_from_b289.ext E294
    replace F_to_b289 := F_to_b289.ext E294
    replace X_s293 := X_s293.ext E294
    replace F_value_s293 := F_value_s293.ext E294
    replace F_coder_s293 := F_coder_s293.ext E294
    replace V_t293 := V_t293.ext E294
    have X_b294 := X294
    have F_text_b294 : Fld Z h294 b294 "com/example/cytorelay/cytorelay/core/Hl7Syntax$Span" "text" "Ljava/lang/String;" .null := D294 (Or.inr (hw _ (List.mem_of_getElem? (i := 44) rfl))) (ty := (.object "java/lang/String")) (by decide)
    have F_from_b294 : Fld Z h294 b294 "com/example/cytorelay/cytorelay/core/Hl7Syntax$Span" "from" "I" (.int (0 : Int32)) := D294 (Or.inr (hw _ (List.mem_of_getElem? (i := 46) rfl))) (ty := .int) (by decide)
    have F_to_b294 : Fld Z h294 b294 "com/example/cytorelay/cytorelay/core/Hl7Syntax$Span" "to" "I" (.int (0 : Int32)) := D294 (Or.inr (hw _ (List.mem_of_getElem? (i := 48) rfl))) (ty := .int) (by decide)
    refine Own.dup at_122 rfl ?_
    refine Own.aload at_123 rfl rfl ?_
    refine Own.iloadN at_125 rfl ?_
    refine Own.iloadN at_126 rfl ?_
    refine Own.callI_ b294 [(.ref b174), (.int p3), (.int p3)] [(.ref b294)] 1 (rmSP l Z a0 hw [] b294 b174 p3 p3 h294 n0 hn g_b294 X_b294 F_text_b294 F_from_b294 F_to_b294) (allS (List.mem_of_getElem? (i := 0) rfl) all0) (hw _ (List.mem_of_getElem? (i := 34) rfl)) (hw _ (List.mem_of_getElem? (i := 35) rfl)) (hw _ (List.mem_of_getElem? (i := 33) rfl)) (hw _ (List.mem_of_getElem? (i := 36) rfl)) rfl (by decide) at_127 pd_11 rfl rfl rfl rfl (by decide) (by decide) (by decide) (by decide) (fun v295 h295 S295 hq295 => ?_)
    obtain ⟨rfl, K296, G1, G2, G3⟩ := hq295
    have hn := Nat.le_trans hn K296.1
    replace S_C := sta_keep S_C K296 (nsS X_b294.nostat ns0)
    replace S_F := sta_keep S_F K296 (nsS X_b294.nostat ns0)
    replace V173 := V173.keep K296 (ninS ne_b169_b294 nin0)
    replace X_b174 := X_b174.keep K296
    replace F_value_b174 := F_value_b174.keep K296 (ninS ne_b174_b294 nin0)
    replace F_coder_b174 := F_coder_b174.keep K296 (ninS ne_b174_b294 nin0)
    replace V176 := V176.keep K296 (ninS ne_b176_b294 nin0)
    replace X_b289 := X_b289.keep K296
    replace F_text_b289 := F_text_b289.keep K296 (ninS ne_b289_b294 nin0)
    replace F_from_b289 := F_from_b289.keep K296 (ninS ne_b289_b294 nin0)
    replace F_to_b289 := F_to_b289.keep K296 (ninS ne_b289_b294 nin0)
    replace X_s293 := X_s293.keep K296
    replace F_value_s293 := F_value_s293.keep K296 (ninS ne_s293_b294 nin0)
    replace F_coder_s293 := F_coder_s293.keep K296 (ninS ne_s293_b294 nin0)
    replace V_t293 := V_t293.keep K296 (ninS ne_t293_b294 nin0)
    replace X_b294 := X_b294.keep K296
    have F_text_b294 := G1
    have F_from_b294 := G2
    have F_to_b294 := G3
    refine ⟨[], all0, ?_⟩
    refine OAt.cast (st' := [(.ref b294)]) rfl ?_
    refine Own.callVP b294 [] [] 0 (rmSEq l Z a0 hw [] b294 p3 h295 n0 hn F_from_b294 F_to_b294) (hw _ (List.mem_of_getElem? (i := 49) rfl)) (hw _ (List.mem_of_getElem? (i := 50) rfl)) (fun s hZ => notFace_of_selects (args := #[]) (mvT hZ (hw _ (List.mem_of_getElem? (i := 52) rfl)))) (hw _ (List.mem_of_getElem? (i := 52) rfl)) (hw _ (List.mem_of_getElem? (i := 51) rfl)) (hw _ (List.mem_of_getElem? (i := 33) rfl)) (hw _ (List.mem_of_getElem? (i := 53) rfl)) (by decide) X_b294 at_130 pd_4 rfl rfl rfl rfl (by decide) (by decide) (by decide) (by decide) ?_
    refine Own.istore #[.val (.int p0), .val (.int p1), .val (.int p2), .val (.int p3), .val (.ref b169), .val (.ref b174), .val (.int (4 : Int32)), .val (.int (4 : Int32)), .val (.ref b289), .val (.int (1 : Int32)), .val (.int (1 : Int32)), .val (.int (1 : Int32))] at_133 rfl ?_
    refine Own.iload at_135 rfl ?_
    refine Own.iload at_137 rfl ?_
    refine Own.icmp_ne 151 at_139 (by decide) rfl (fun q => absurd (by decide) q) (fun _ => ?_)
    refine Own.iload at_142 rfl ?_
    refine Own.if_eq 151 at_144 (by decide) rfl (fun q => absurd q (by decide)) (fun _ => ?_)
    refine Own.iconst (1 : Int32) at_147 rfl ?_
    refine Own.goto_ 152 at_148 (by decide) rfl ?_
    refine Own.ret_nar (t := .boolean) (by simp) rfl at_152 (by decide) (by decide) (fun Sf hSf => ?_)
    exact rfl
set_option maxRecDepth 65536 in
set_option maxHeartbeats 40000000 in
theorem comes_1 {Post : Tables → Env → Array Value → State → Outcome → State → Prop} (hpost : ∀ tb e args s v u, (limb_1_1.after args s (.returned v) u = true ∧ limb_1_2.after args s (.returned v) u = true ∧ True) → ReturnedEndW s (.returned v) u (Jvm.fieldLocs frame_1_writes args s ++ Jvm.arrayLocs frame_1_arrays args s ++ Jvm.staticLocs frame_1_statics s) 24 1152 → Post tb e args s (.returned v) u) :
    ArmFor flags0 classFile x code maxLocals ret World_1 tables_1 room_1 Calls_1 rest_1 Pre_1 Post := by
  intro l hfl _ _ p e ha hc hk s m args below hf hA hF happ hP
  obtain ⟨hcalls, hrest, hpre⟩ := hP
  obtain ⟨-, -, -, hnamed, -, -, -, hat⟩ := (Spec.applies_iff hf).mp happ
  obtain ⟨hg, hn⟩ := and_e (Cond.before_iff.mp (show (Jvm.Cond.and given_1 narrow_1).before args s = true from hpre))
  obtain ⟨gc, ga0⟩ := and_e hg
  obtain ⟨g0, ga1⟩ := and_e ga0
  obtain ⟨g1, ga2⟩ := and_e ga1
  obtain ⟨g2, ga3⟩ := and_e ga2
  have g3 := ga3
  obtain ⟨w0, w1, w2, w3, rfl⟩ : ∃ w0 w1 w2 w3 : Value, args = #[w0, w1, w2, w3] := by
    have hs : args.size = 4 := by simpa [Cond.value, given_1] using gc
    obtain ⟨L⟩ := args
    match L, hs with
    | [w0, w1, w2, w3], _ => exact ⟨w0, w1, w2, w3, rfl⟩
  have hw := fun d (hd : d ∈ tables_1) => atoms_spec (ws := Jvm.Cond.code x code maxLocals ret :: tables_1) hat d (List.mem_cons_of_mem _ hd)
  have hfit : Fit s := fun {y c} hc i hi => by
    obtain ⟨ha, rfl⟩ := Array.getElem?_eq_some_iff.mp hc
    have q := List.all_eq_true.mp ((Array.all_eq_true_iff_forall_mem.mp hF) _ (Array.getElem_mem ha)) i (List.mem_range.mpr hi)
    simpa [Array.getElem?_eq_getElem hi] using q
  obtain ⟨i0, ei0⟩ := is_v g0
  obtain rfl : w0 = (.int i0) := Option.some.inj ei0
  obtain ⟨i1, ei1⟩ := is_v g1
  obtain rfl : w1 = (.int i1) := Option.some.inj ei1
  obtain ⟨i2, ei2⟩ := is_v g2
  obtain rfl : w2 = (.int i2) := Option.some.inj ei2
  obtain ⟨i3, ei3⟩ := is_v g3
  obtain rfl : w3 = (.int i3) := Option.some.inj ei3
  obtain ⟨hsets, hown0⟩ := atoms_of _ (rest_1_c_eq ▸ (show rest_1_c.before _ s = true from hrest))
  obtain ⟨zc, ezc⟩ := is_v (Cond.before_iff.mp (hsets _ (List.mem_of_getElem? (i := 1) rfl)))
  have S_C := Sta.start ezc (Or.inl (hsets _ (List.mem_of_getElem? (i := 0) rfl)))
  have hz : ¬ zc = 0 := fun q => by
    have hq := Cond.before_iff.mp (hsets _ (List.mem_of_getElem? (i := 2) rfl))
    have h0 := not_v hq
    have h1 := eq_i ezc (Term.int_eval (0 : Int32)) (congrArg Value.int q) (idx := []) (o := none) (first := s)
    rw [h1] at h0; cases h0
  obtain ⟨vf, evf, hvf⟩ := isR_v (Cond.before_iff.mp (hsets _ (List.mem_of_getElem? (i := 8) rfl)))
  have S_F := Sta.start evf (Or.inl (hsets _ (List.mem_of_getElem? (i := 7) rfl)))
  have hCH : CHv s own_EL s.vm s.heap := CHv.start (own_EW hw) (fun p hp => hcalls.1 p hp) (show Jvm.Lit.compactW.before _ s = true from (hsets _ (List.mem_of_getElem? (i := 2) rfl))) (hw _ (List.mem_of_getElem? (i := 19) rfl)) (hw _ (List.mem_of_getElem? (i := 2) rfl))
  obtain ⟨n, o, h1, h2, h3, _, L, rfl, ⟨N, -, -, rfl⟩, hq⟩ := rm0 l s _ hw tables_1 i0 i1 i2 i3 zc vf s.heap s.heap.size (Nat.le_refl _) S_C S_F hz hvf p e ha hc hk s m _ below hf ((Spec.applies_iff_loose hf).mp happ).1 ⟨rfl, State.Warmed39.refl s, rfl, hCH, all0, _, own_EW hw⟩ trivial
  refine ⟨n, _, h1, h2, h3, hpost _ _ _ _ _ _ ⟨Cond.after_iff.mpr rfl, Cond.after_iff.mpr (eq_i res_at (Term.int_eval (1)) rfl), trivial⟩ ⟨hq.1, hq.2.1, hq.2.2.1, (hq.2.2.2.sift fun y hy => Or.inr (N y hy)).mono (by decide) (by decide)⟩⟩
theorem main_1_1 : Claimed_1_1 := comes_1 fun _ _ _ _ _ _ h hF => ⟨h.1, hF⟩
theorem main_1_2 : Claimed_1_2 := comes_1 fun _ _ _ _ _ _ h hF => ⟨h.2.1, hF⟩
end Jvm.Pilot.@@N@@
namespace Jvm.Pilot.@@N@@
open Jvm Jvm.ClassFile Sem Op Lib Jvm.Free Jvm.Stand Jvm.Pilot.@@N@@.Jvm.D
/-! MADE BY PROGRAM (witnessworld.py) out of the Statement's table words and the real class files: 24 classes; the members and pool entries that the words name. The judged class is class 1, her method 1. -/
namespace start1
open Jvm.ClassFile
def u (s : String) : CpInfo := .utf8 (stringToUtf16 s)
/-- a pool by its gaps: so many unusable entries, then the entry; so many at the end -/
def gap : Nat → List CpInfo → List CpInfo
  | 0, r => r
  | n + 1, r => .unusable :: gap n r
def poolList (es : List (Nat × CpInfo)) (last : Nat) : List CpInfo := es.foldr (fun e r => gap e.1 (e.2 :: r)) (gap last [])
def pool (es : List (Nat × CpInfo)) (last : Nat) : Array CpInfo := ⟨poolList es last⟩
def fileOf (pool : Array CpInfo) (this : Nat) (attrs : Array Attribute := #[]) (ms : Array MethodInfo := #[]) (fl : Nat := 33) (sup : Nat := 0) (ifs : Array Nat := #[]) (fds : Array FieldInfo := #[]) : ClassFile where
  minorVersion := 0
  majorVersion := 65
  constantPool := pool
  accessFlags := fl
  thisClass := this
  superClass := sup
  interfaces := ifs
  fields := fds
  methods := ms
  attributes := attrs
def plain (name : String) (sup : Option ClassId) : Class where
  name := name
  kind := .ordinary
  loader := none
  accessFlags := 33
  super := sup
  interfaces := #[]
  cf := none
  fields := #[]
  methods := #[]
  instanceTypes := #[]
  staticTypes := #[]
  resolved := #[]
  callSites := []
  init := .initialized
  statics := none
  mirror := none

def pool0 : Array CpInfo := pool [(5, u "<init>"), (0, u "()V"), (1, .class_ 10), (1, u "java/lang/Object")] 113

def k0c0 : Code := { maxStack := 0, maxLocals := 1, code := object_method_1_code, exceptionTable := #[], attributes := #[] }
def k0m0 : Method := { name := "<init>", desc := "()V", sig := { parameters := [], returnType := none }, accessFlags := 1, code := some k0c0 }
/-- java/lang/Object -/
def k0 : Class := { plain "java/lang/Object" none with
  accessFlags := 33
  interfaces := #[]
  cf := some (fileOf pool0 8 #[] #[{ accessFlags := 1, nameIndex := 5, descriptorIndex := 6, attributes := #[] }] 33 0 #[] #[])
  fields := #[]
  methods := #[k0m0]
  instanceTypes := #[]
  staticTypes := #[]
  resolved := Array.replicate 124 none
  statics := none }

def pool1 : Array CpInfo := pool [(2, .class_ 4), (1, u "java/lang/Object"), (0, u "<init>"), (0, u "()V"), (0, .class_ 8), (0, u "java/lang/String"), (0, .methodref 7 10), (0, .nameAndType 5 11), (0, u "([C)V"), (0, .integer 2147483647), (0, .class_ 14), (0, u "com/example/cytorelay/cytorelay/core/Hl7Syntax$Span"), (0, .methodref 13 16), (0, .nameAndType 5 17), (0, u "(Ljava/lang/String;II)V"), (0, .methodref 13 19), (0, .nameAndType 20 21), (0, u "isEmpty"), (0, u "()Z"), (0, .methodref 13 23), (0, .nameAndType 24 25), (0, u "cut"), (0, u "()Ljava/lang/String;"), (0, .methodref 7 19), (0, .class_ 28), (0, u "com/example/cytorelay/cytorelay/core/SpanIsEmptyPinLaw"), (2, u "law"), (0, u "(IIII)Z")] 9

def k1m0 : Method := { name := "<init>", desc := "()V", sig := { parameters := [], returnType := none }, accessFlags := 2, code := none }
def k1c1 : Code := { maxStack := 5, maxLocals := 12, code := code, exceptionTable := #[], attributes := #[] }
def k1m1 : Method := { name := "law", desc := "(IIII)Z", sig := { parameters := [.int, .int, .int, .int], returnType := some .boolean }, accessFlags := 9, code := some k1c1 }
/-- com/example/cytorelay/cytorelay/core/SpanIsEmptyPinLaw -/
def k1 : Class := { plain "com/example/cytorelay/cytorelay/core/SpanIsEmptyPinLaw" (some 0) with
  accessFlags := 49
  interfaces := #[]
  cf := some (fileOf pool1 27 #[] #[{ accessFlags := 2, nameIndex := 5, descriptorIndex := 6, attributes := #[] }, { accessFlags := 9, nameIndex := 31, descriptorIndex := 32, attributes := #[] }] 49 2 #[] #[])
  fields := #[]
  methods := #[k1m0, k1m1]
  instanceTypes := #[]
  staticTypes := #[]
  resolved := Array.replicate 42 none
  statics := none }

def pool2 : Array CpInfo := pool [(1, .class_ 2), (0, u "java/io/Serializable"), (0, .class_ 4), (0, u "java/lang/Object")] 2

/-- java/io/Serializable -/
def k2 : Class := { plain "java/io/Serializable" (some 0) with
  accessFlags := 1537
  interfaces := #[]
  cf := some (fileOf pool2 1 #[] #[] 1537 3 #[] #[])
  fields := #[]
  methods := #[]
  instanceTypes := #[]
  staticTypes := #[]
  resolved := Array.replicate 7 none
  statics := none }

def pool3 : Array CpInfo := pool [(1, .class_ 2), (0, u "java/lang/Comparable"), (0, .class_ 4), (0, u "java/lang/Object")] 7

/-- java/lang/Comparable -/
def k3 : Class := { plain "java/lang/Comparable" (some 0) with
  accessFlags := 1537
  interfaces := #[]
  cf := some (fileOf pool3 1 #[] #[] 1537 3 #[] #[])
  fields := #[]
  methods := #[]
  instanceTypes := #[]
  staticTypes := #[]
  resolved := Array.replicate 12 none
  statics := none }

def pool4 : Array CpInfo := pool [(2, .class_ 4), (1, u "java/lang/CharSequence"), (42, .class_ 48), (0, u "java/lang/CharSequence$1CodePointIterator"), (10, .class_ 60), (0, u "java/lang/CharSequence$1CharIterator"), (5, .class_ 67), (0, u "java/lang/Object")] 63

/-- java/lang/CharSequence -/
def k4 : Class := { plain "java/lang/CharSequence" (some 0) with
  accessFlags := 1537
  interfaces := #[]
  cf := some (fileOf pool4 2 #[.nestMembers #[47, 59]] #[] 1537 66 #[] #[])
  fields := #[]
  methods := #[]
  instanceTypes := #[]
  staticTypes := #[]
  resolved := Array.replicate 131 none
  statics := none }

def pool5 : Array CpInfo := pool [(1, .class_ 2), (0, u "java/lang/constant/Constable"), (0, .class_ 4), (0, u "java/lang/Object")] 6

/-- java/lang/constant/Constable -/
def k5 : Class := { plain "java/lang/constant/Constable" (some 0) with
  accessFlags := 1537
  interfaces := #[]
  cf := some (fileOf pool5 1 #[] #[] 1537 3 #[] #[])
  fields := #[]
  methods := #[]
  instanceTypes := #[]
  staticTypes := #[]
  resolved := Array.replicate 11 none
  statics := none }

def pool6 : Array CpInfo := pool [(1, .class_ 2), (0, u "java/lang/constant/ConstantDesc"), (0, .class_ 4), (0, u "java/lang/Object")] 32

/-- java/lang/constant/ConstantDesc -/
def k6 : Class := { plain "java/lang/constant/ConstantDesc" (some 0) with
  accessFlags := 1537
  interfaces := #[]
  cf := some (fileOf pool6 1 #[] #[] 1537 3 #[] #[])
  fields := #[]
  methods := #[]
  instanceTypes := #[]
  staticTypes := #[]
  resolved := Array.replicate 37 none
  statics := none }

def pool7 : Array CpInfo := pool [(1, .methodref 2 3), (0, .class_ 4), (0, .nameAndType 5 6), (0, u "java/lang/Object"), (0, u "<init>"), (0, u "()V"), (2, .fieldref 10 11), (0, .class_ 12), (0, .nameAndType 13 14), (0, u "java/lang/String"), (0, u "value"), (0, u "[B"), (0, .fieldref 10 16), (0, .nameAndType 17 18), (0, u "coder"), (0, u "B"), (2, u "hash"), (0, u "I"), (2, u "hashIsZero"), (0, u "Z"), (0, .methodref 10 28), (0, .nameAndType 5 29), (0, u "([CIILjava/lang/Void;)V"), (8, .fieldref 10 39), (0, .nameAndType 40 26), (0, u "COMPACT_STRINGS"), (1, .class_ 44), (1, u "java/lang/StringUTF16"), (0, u "compress"), (1, .methodref 42 48), (0, .nameAndType 49 50), (0, u "coderFromArrayLen"), (0, u "([BI)B"), (56, .class_ 109), (1, u "java/lang/StringLatin1"), (32, u "()Z"), (34, .methodref 42 178), (0, .nameAndType 45 179), (0, u "([CII)[B"), (31, u "([BB)V"), (122, u "()I"), (0, .methodref 10 336), (0, .nameAndType 17 337), (0, u "()B"), (154, .methodref 10 493), (0, .nameAndType 494 142), (0, u "isLatin1"), (10, .methodref 10 506), (0, .nameAndType 507 334), (0, u "length"), (5, u "checkFromToIndex"), (7, .methodref 10 522), (0, .nameAndType 523 524), (0, u "checkBoundsBeginEnd"), (0, u "(III)V"), (50, .class_ 576), (0, u "java/lang/CharSequence"), (22, u "CASE_INSENSITIVE_ORDER"), (0, u "Ljava/util/Comparator;"), (82, u "substring"), (0, u "(II)Ljava/lang/String;"), (0, .methodref 107 686), (0, .nameAndType 687 688), (0, u "newString"), (0, u "([BII)Ljava/lang/String;"), (3, u "isEmpty"), (317, u "([C)V"), (42, .fieldref 1054 1055), (0, .class_ 1056), (0, .nameAndType 1057 1058), (0, u "jdk/internal/util/Preconditions"), (0, u "SIOOBE_FORMATTER"), (0, u "Ljava/util/function/BiFunction;"), (3, .methodref 1054 1063), (0, .nameAndType 513 1064), (0, u "(IIILjava/util/function/BiFunction;)I"), (36, u "serialPersistentFields"), (0, u "[Ljava/io/ObjectStreamField;"), (0, .class_ 1104), (0, u "java/lang/String$CaseInsensitiveComparator"), (1, .class_ 1107), (0, u "java/io/Serializable"), (0, .class_ 1109), (0, u "java/lang/Comparable"), (0, .class_ 1111), (0, u "java/lang/constant/Constable"), (0, .class_ 1113), (0, u "java/lang/constant/ConstantDesc"), (2, u "serialVersionUID"), (0, u "J"), (3, u "REPL"), (0, u "C"), (2, u "LATIN1"), (1, u "UTF16")] 323

def k7m0 : Method := { name := "<init>", desc := "()V", sig := { parameters := [], returnType := none }, accessFlags := 1, code := none }
def k7c1 : Code := { maxStack := 5, maxLocals := 2, code := jdk_42_method_3_code, exceptionTable := #[], attributes := #[] }
def k7m1 : Method := { name := "<init>", desc := "([C)V", sig := { parameters := [(.array .char)], returnType := none }, accessFlags := 1, code := some k7c1 }
def k7c2 : Code := { maxStack := 2, maxLocals := 1, code := jdk_42_method_54_code, exceptionTable := #[], attributes := #[] }
def k7m2 : Method := { name := "length", desc := "()I", sig := { parameters := [], returnType := some .int }, accessFlags := 1, code := some k7c2 }
def k7c3 : Code := { maxStack := 1, maxLocals := 1, code := jdk_42_method_55_code, exceptionTable := #[], attributes := #[] }
def k7m3 : Method := { name := "isEmpty", desc := "()Z", sig := { parameters := [], returnType := some .boolean }, accessFlags := 1, code := some k7c3 }
def k7c4 : Code := { maxStack := 3, maxLocals := 5, code := jdk_42_method_92_code, exceptionTable := #[], attributes := #[] }
def k7m4 : Method := { name := "substring", desc := "(II)Ljava/lang/String;", sig := { parameters := [.int, .int], returnType := some (.object "java/lang/String") }, accessFlags := 1, code := some k7c4 }
def k7c5 : Code := { maxStack := 4, maxLocals := 6, code := jdk_42_method_149_code, exceptionTable := #[], attributes := #[] }
def k7m5 : Method := { name := "<init>", desc := "([CIILjava/lang/Void;)V", sig := { parameters := [(.array .char), .int, .int, (.object "java/lang/Void")], returnType := none }, accessFlags := 2, code := some k7c5 }
def k7c6 : Code := { maxStack := 2, maxLocals := 3, code := jdk_42_method_151_code, exceptionTable := #[], attributes := #[] }
def k7m6 : Method := { name := "<init>", desc := "([BB)V", sig := { parameters := [(.array .byte), .byte], returnType := none }, accessFlags := 0, code := some k7c6 }
def k7c7 : Code := { maxStack := 1, maxLocals := 1, code := jdk_42_method_152_code, exceptionTable := #[], attributes := #[] }
def k7m7 : Method := { name := "coder", desc := "()B", sig := { parameters := [], returnType := some .byte }, accessFlags := 0, code := some k7c7 }
def k7c8 : Code := { maxStack := 1, maxLocals := 1, code := jdk_42_method_154_code, exceptionTable := #[], attributes := #[] }
def k7m8 : Method := { name := "isLatin1", desc := "()Z", sig := { parameters := [], returnType := some .boolean }, accessFlags := 0, code := some k7c8 }
def k7c9 : Code := { maxStack := 4, maxLocals := 3, code := jdk_42_method_158_code, exceptionTable := #[], attributes := #[] }
def k7m9 : Method := { name := "checkBoundsBeginEnd", desc := "(III)V", sig := { parameters := [.int, .int, .int], returnType := none }, accessFlags := 8, code := some k7c9 }
/-- java/lang/String -/
def k7 : Class := { plain "java/lang/String" (some 0) with
  accessFlags := 49
  interfaces := #[2, 3, 4, 5, 6]
  cf := some (fileOf pool7 10 #[.nestMembers #[1103]] #[{ accessFlags := 1, nameIndex := 5, descriptorIndex := 6, attributes := #[] }, { accessFlags := 1, nameIndex := 5, descriptorIndex := 1010, attributes := #[] }, { accessFlags := 1, nameIndex := 507, descriptorIndex := 334, attributes := #[] }, { accessFlags := 1, nameIndex := 692, descriptorIndex := 142, attributes := #[] }, { accessFlags := 1, nameIndex := 683, descriptorIndex := 684, attributes := #[] }, { accessFlags := 2, nameIndex := 5, descriptorIndex := 29, attributes := #[] }, { accessFlags := 0, nameIndex := 5, descriptorIndex := 211, attributes := #[] }, { accessFlags := 0, nameIndex := 17, descriptorIndex := 337, attributes := #[] }, { accessFlags := 0, nameIndex := 494, descriptorIndex := 142, attributes := #[] }, { accessFlags := 8, nameIndex := 523, descriptorIndex := 524, attributes := #[] }] 49 2 #[1106, 1108, 575, 1110, 1112] #[{ accessFlags := 18, nameIndex := 13, descriptorIndex := 14, attributes := #[] }, { accessFlags := 18, nameIndex := 17, descriptorIndex := 18, attributes := #[] }, { accessFlags := 2, nameIndex := 21, descriptorIndex := 22, attributes := #[] }, { accessFlags := 2, nameIndex := 25, descriptorIndex := 26, attributes := #[] }, { accessFlags := 26, nameIndex := 1116, descriptorIndex := 1117, attributes := #[] }, { accessFlags := 24, nameIndex := 40, descriptorIndex := 26, attributes := #[] }, { accessFlags := 26, nameIndex := 1101, descriptorIndex := 1102, attributes := #[] }, { accessFlags := 26, nameIndex := 1121, descriptorIndex := 1122, attributes := #[] }, { accessFlags := 25, nameIndex := 599, descriptorIndex := 600, attributes := #[] }, { accessFlags := 24, nameIndex := 1125, descriptorIndex := 18, attributes := #[] }, { accessFlags := 24, nameIndex := 1127, descriptorIndex := 18, attributes := #[] }])
  fields := #[{ name := "value", type := (.array .byte), accessFlags := 18, slot := 0, constantValue := 0 }, { name := "coder", type := .byte, accessFlags := 18, slot := 1, constantValue := 0 }, { name := "hash", type := .int, accessFlags := 2, slot := 2, constantValue := 0 }, { name := "hashIsZero", type := .boolean, accessFlags := 2, slot := 3, constantValue := 0 }, { name := "serialVersionUID", type := .long, accessFlags := 26, slot := 0, constantValue := 0 }, { name := "COMPACT_STRINGS", type := .boolean, accessFlags := 24, slot := 1, constantValue := 0 }, { name := "serialPersistentFields", type := (.array (.object "java/io/ObjectStreamField")), accessFlags := 26, slot := 2, constantValue := 0 }, { name := "REPL", type := .char, accessFlags := 26, slot := 3, constantValue := 0 }, { name := "CASE_INSENSITIVE_ORDER", type := (.object "java/util/Comparator"), accessFlags := 25, slot := 4, constantValue := 0 }, { name := "LATIN1", type := .byte, accessFlags := 24, slot := 5, constantValue := 0 }, { name := "UTF16", type := .byte, accessFlags := 24, slot := 6, constantValue := 0 }]
  methods := #[k7m0, k7m1, k7m2, k7m3, k7m4, k7m5, k7m6, k7m7, k7m8, k7m9]
  instanceTypes := #[(.array .byte), .byte, .int, .boolean]
  staticTypes := #[.long, .boolean, (.array (.object "java/io/ObjectStreamField")), .char, (.object "java/util/Comparator"), .byte, .byte]
  resolved := Array.replicate 1451 none
  statics := some 0 }

def pool8 : Array CpInfo := pool [(6, .class_ 8), (1, u "java/lang/Object"), (0, u "<init>"), (0, u "()V"), (1, .class_ 14), (1, u "java/lang/StringUTF16"), (31, u "$assertionsDisabled"), (0, u "Z"), (13, u "HI_BYTE_SHIFT"), (0, u "I"), (2, u "LO_BYTE_SHIFT"), (49, .methodref 12 116), (0, .nameAndType 117 118), (0, u "compress"), (0, u "([CI[BII)I"), (3, u "([CII)[B"), (138, u "coderFromArrayLen"), (0, u "([BI)B"), (106, .class_ 371), (1, u "java/lang/StringUTF16$LinesSpliterator"), (58, u "MAX_LENGTH"), (196, .class_ 628), (0, u "java/lang/StringUTF16$CodePointsSpliterator"), (0, .class_ 630), (0, u "java/lang/StringUTF16$CharsSpliterator")] 4

def k8m0 : Method := { name := "<init>", desc := "()V", sig := { parameters := [], returnType := none }, accessFlags := 0, code := none }
def k8c1 : Code := { maxStack := 2, maxLocals := 2, code := jdk_52_method_15_code, exceptionTable := #[], attributes := #[] }
def k8m1 : Method := { name := "coderFromArrayLen", desc := "([BI)B", sig := { parameters := [(.array .byte), .int], returnType := some .byte }, accessFlags := 8, code := some k8c1 }
def k8c2 : Code := { maxStack := 5, maxLocals := 6, code := jdk_52_method_16_code, exceptionTable := #[], attributes := #[] }
def k8m2 : Method := { name := "compress", desc := "([CII)[B", sig := { parameters := [(.array .char), .int, .int], returnType := some (.array .byte) }, accessFlags := 9, code := some k8c2 }
def k8c3 : Code := { maxStack := 3, maxLocals := 7, code := jdk_52_method_21_code, exceptionTable := #[], attributes := #[] }
def k8m3 : Method := { name := "compress", desc := "([CI[BII)I", sig := { parameters := [(.array .char), .int, (.array .byte), .int, .int], returnType := some .int }, accessFlags := 9, code := some k8c3 }
/-- java/lang/StringUTF16 -/
def k8 : Class := { plain "java/lang/StringUTF16" (some 0) with
  accessFlags := 48
  interfaces := #[]
  cf := some (fileOf pool8 12 #[.nestMembers #[627, 629, 369]] #[{ accessFlags := 0, nameIndex := 9, descriptorIndex := 10, attributes := #[] }, { accessFlags := 8, nameIndex := 261, descriptorIndex := 262, attributes := #[] }, { accessFlags := 9, nameIndex := 117, descriptorIndex := 122, attributes := #[] }, { accessFlags := 9, nameIndex := 117, descriptorIndex := 118, attributes := #[] }] 48 6 #[] #[{ accessFlags := 26, nameIndex := 61, descriptorIndex := 62, attributes := #[] }, { accessFlags := 26, nameIndex := 65, descriptorIndex := 62, attributes := #[] }, { accessFlags := 24, nameIndex := 430, descriptorIndex := 62, attributes := #[] }, { accessFlags := 4120, nameIndex := 46, descriptorIndex := 47, attributes := #[] }])
  fields := #[{ name := "HI_BYTE_SHIFT", type := .int, accessFlags := 26, slot := 0, constantValue := 0 }, { name := "LO_BYTE_SHIFT", type := .int, accessFlags := 26, slot := 1, constantValue := 0 }, { name := "MAX_LENGTH", type := .int, accessFlags := 24, slot := 2, constantValue := 0 }, { name := "$assertionsDisabled", type := .boolean, accessFlags := 4120, slot := 3, constantValue := 0 }]
  methods := #[k8m0, k8m1, k8m2, k8m3]
  instanceTypes := #[]
  staticTypes := #[.int, .int, .int, .boolean]
  resolved := Array.replicate 635 none
  statics := none }

def pool9 : Array CpInfo := pool [(1, .methodref 2 3), (0, .class_ 4), (0, .nameAndType 5 6), (0, u "java/lang/Object"), (0, u "<init>"), (0, u "()V"), (0, .class_ 8), (0, u "java/lang/Record")] 13

def k9c0 : Code := { maxStack := 1, maxLocals := 1, code := jdk_30_method_1_code, exceptionTable := #[], attributes := #[] }
def k9m0 : Method := { name := "<init>", desc := "()V", sig := { parameters := [], returnType := none }, accessFlags := 4, code := some k9c0 }
/-- java/lang/Record -/
def k9 : Class := { plain "java/lang/Record" (some 0) with
  accessFlags := 1057
  interfaces := #[]
  cf := some (fileOf pool9 7 #[] #[{ accessFlags := 4, nameIndex := 5, descriptorIndex := 6, attributes := #[] }] 1057 2 #[] #[])
  fields := #[]
  methods := #[k9m0]
  instanceTypes := #[]
  staticTypes := #[]
  resolved := Array.replicate 22 none
  statics := none }

def pool10 : Array CpInfo := pool [(1, .class_ 2), (0, u "com/example/cytorelay/cytorelay/core/Hl7Syntax"), (0, .methodref 4 5), (0, .class_ 6), (0, .nameAndType 7 8), (0, u "java/lang/Record"), (0, u "<init>"), (0, u "()V"), (0, .fieldref 10 11), (0, .class_ 12), (0, .nameAndType 13 14), (0, u "com/example/cytorelay/cytorelay/core/Hl7Syntax$Span"), (0, u "text"), (0, u "Ljava/lang/String;"), (0, .fieldref 10 16), (0, .nameAndType 17 18), (0, u "from"), (0, u "I"), (0, .fieldref 10 20), (0, .nameAndType 21 18), (0, u "to"), (1, .class_ 25), (1, u "java/lang/String"), (4, u "(Ljava/lang/String;II)V"), (0, .methodref 23 32), (0, .nameAndType 33 34), (0, u "substring"), (0, u "(II)Ljava/lang/String;"), (38, u "isEmpty"), (0, u "()Z"), (1, u "cut"), (0, u "()Ljava/lang/String;")] 48

def k10c0 : Code := { maxStack := 2, maxLocals := 4, code := prog_32_method_1_code, exceptionTable := #[], attributes := #[] }
def k10m0 : Method := { name := "<init>", desc := "(Ljava/lang/String;II)V", sig := { parameters := [(.object "java/lang/String"), .int, .int], returnType := none }, accessFlags := 0, code := some k10c0 }
def k10c1 : Code := { maxStack := 2, maxLocals := 1, code := prog_32_method_3_code, exceptionTable := #[], attributes := #[] }
def k10m1 : Method := { name := "isEmpty", desc := "()Z", sig := { parameters := [], returnType := some .boolean }, accessFlags := 0, code := some k10c1 }
def k10c2 : Code := { maxStack := 3, maxLocals := 1, code := prog_32_method_4_code, exceptionTable := #[], attributes := #[] }
def k10m2 : Method := { name := "cut", desc := "()Ljava/lang/String;", sig := { parameters := [], returnType := some (.object "java/lang/String") }, accessFlags := 0, code := some k10c2 }
/-- com/example/cytorelay/cytorelay/core/Hl7Syntax$Span -/
def k10 : Class := { plain "com/example/cytorelay/cytorelay/core/Hl7Syntax$Span" (some 9) with
  accessFlags := 48
  interfaces := #[]
  cf := some (fileOf pool10 10 #[.nestHost 1] #[{ accessFlags := 0, nameIndex := 7, descriptorIndex := 30, attributes := #[] }, { accessFlags := 0, nameIndex := 73, descriptorIndex := 74, attributes := #[] }, { accessFlags := 0, nameIndex := 76, descriptorIndex := 77, attributes := #[] }] 48 4 #[] #[{ accessFlags := 18, nameIndex := 13, descriptorIndex := 14, attributes := #[] }, { accessFlags := 18, nameIndex := 17, descriptorIndex := 18, attributes := #[] }, { accessFlags := 18, nameIndex := 21, descriptorIndex := 18, attributes := #[] }])
  fields := #[{ name := "text", type := (.object "java/lang/String"), accessFlags := 18, slot := 0, constantValue := 0 }, { name := "from", type := .int, accessFlags := 18, slot := 1, constantValue := 0 }, { name := "to", type := .int, accessFlags := 18, slot := 2, constantValue := 0 }]
  methods := #[k10m0, k10m1, k10m2]
  instanceTypes := #[(.object "java/lang/String"), .int, .int]
  staticTypes := #[]
  resolved := Array.replicate 126 none
  statics := none }

def pool11 : Array CpInfo := pool [(2, .class_ 4), (1, u "java/lang/Object"), (0, u "<init>"), (0, u "()V"), (17, .class_ 26), (1, u "jdk/internal/util/Preconditions"), (20, u "checkFromToIndex"), (7, .class_ 56), (0, u "jdk/internal/util/Preconditions$4"), (57, .class_ 115), (0, u "jdk/internal/util/Preconditions$1"), (7, u "SIOOBE_FORMATTER"), (0, u "Ljava/util/function/BiFunction;"), (0, .class_ 126), (0, u "jdk/internal/util/Preconditions$2"), (3, u "AIOOBE_FORMATTER"), (0, .class_ 132), (0, u "jdk/internal/util/Preconditions$3"), (3, u "IOOBE_FORMATTER"), (46, u "(IIILjava/util/function/BiFunction;)I")] 10

def k11m0 : Method := { name := "<init>", desc := "()V", sig := { parameters := [], returnType := none }, accessFlags := 1, code := none }
def k11c1 : Code := { maxStack := 4, maxLocals := 4, code := jdk_41_method_12_code, exceptionTable := #[], attributes := #[] }
def k11m1 : Method := { name := "checkFromToIndex", desc := "(IIILjava/util/function/BiFunction;)I", sig := { parameters := [.int, .int, .int, (.object "java/util/function/BiFunction")], returnType := some .int }, accessFlags := 9, code := some k11c1 }
/-- jdk/internal/util/Preconditions -/
def k11 : Class := { plain "jdk/internal/util/Preconditions" (some 0) with
  accessFlags := 33
  interfaces := #[]
  cf := some (fileOf pool11 24 #[.nestMembers #[55, 131, 125, 114]] #[{ accessFlags := 1, nameIndex := 5, descriptorIndex := 6, attributes := #[] }, { accessFlags := 9, nameIndex := 47, descriptorIndex := 183, attributes := #[] }] 33 2 #[] #[{ accessFlags := 25, nameIndex := 123, descriptorIndex := 124, attributes := #[] }, { accessFlags := 25, nameIndex := 130, descriptorIndex := 124, attributes := #[] }, { accessFlags := 25, nameIndex := 136, descriptorIndex := 124, attributes := #[] }])
  fields := #[{ name := "SIOOBE_FORMATTER", type := (.object "java/util/function/BiFunction"), accessFlags := 25, slot := 0, constantValue := 0 }, { name := "AIOOBE_FORMATTER", type := (.object "java/util/function/BiFunction"), accessFlags := 25, slot := 1, constantValue := 0 }, { name := "IOOBE_FORMATTER", type := (.object "java/util/function/BiFunction"), accessFlags := 25, slot := 2, constantValue := 0 }]
  methods := #[k11m0, k11m1]
  instanceTypes := #[]
  staticTypes := #[(.object "java/util/function/BiFunction"), (.object "java/util/function/BiFunction"), (.object "java/util/function/BiFunction")]
  resolved := Array.replicate 194 none
  statics := some 1 }

def pool12 : Array CpInfo := pool [(1, .class_ 2), (0, u "java/lang/String"), (1, .class_ 6), (1, u "java/lang/Object"), (0, u "<init>"), (0, u "()V"), (5, .class_ 16), (1, u "java/lang/StringLatin1"), (95, .methodref 1 113), (0, .nameAndType 7 114), (0, u "([BB)V"), (6, u "$assertionsDisabled"), (0, u "Z"), (8, .class_ 133), (1, u "java/util/Arrays"), (17, .string 152), (0, u ""), (43, u "newString"), (0, u "([BII)Ljava/lang/String;"), (23, .class_ 223), (1, u "java/lang/StringLatin1$LinesSpliterator"), (8, .methodref 131 233), (0, .nameAndType 234 235), (0, u "copyOfRange"), (0, u "([BII)[B"), (154, .class_ 391), (0, u "java/lang/StringLatin1$CharsSpliterator")] 3

def k12m0 : Method := { name := "<init>", desc := "()V", sig := { parameters := [], returnType := none }, accessFlags := 0, code := none }
def k12c1 : Code := { maxStack := 6, maxLocals := 3, code := jdk_43_method_47_code, exceptionTable := #[], attributes := #[] }
def k12m1 : Method := { name := "newString", desc := "([BII)Ljava/lang/String;", sig := { parameters := [(.array .byte), .int, .int], returnType := some (.object "java/lang/String") }, accessFlags := 9, code := some k12c1 }
/-- java/lang/StringLatin1 -/
def k12 : Class := { plain "java/lang/StringLatin1" (some 0) with
  accessFlags := 48
  interfaces := #[]
  cf := some (fileOf pool12 14 #[.nestMembers #[390, 221]] #[{ accessFlags := 0, nameIndex := 7, descriptorIndex := 8, attributes := #[] }, { accessFlags := 9, nameIndex := 196, descriptorIndex := 197, attributes := #[] }] 48 4 #[] #[{ accessFlags := 4120, nameIndex := 121, descriptorIndex := 122, attributes := #[] }])
  fields := #[{ name := "$assertionsDisabled", type := .boolean, accessFlags := 4120, slot := 0, constantValue := 0 }]
  methods := #[k12m0, k12m1]
  instanceTypes := #[]
  staticTypes := #[.boolean]
  resolved := Array.replicate 395 none
  statics := none }

def pool13 : Array CpInfo := pool [(2, .class_ 4), (1, u "java/lang/Object"), (0, u "<init>"), (0, u "()V"), (7, .class_ 16), (1, u "java/util/Arrays"), (57, .class_ 76), (1, u "java/util/Arrays$NaturalOrder"), (36, .class_ 115), (1, u "java/util/Arrays$LegacyMergeSort"), (1, u "Z"), (21, u "copyOfRange"), (10, .methodref 151 152), (0, .class_ 153), (0, .nameAndType 154 155), (0, u "java/lang/System"), (0, u "arraycopy"), (0, u "(Ljava/lang/Object;ILjava/lang/Object;II)V"), (148, .methodref 305 306), (0, .class_ 307), (0, .nameAndType 308 309), (0, u "java/lang/Math"), (0, u "min"), (0, u "(II)I"), (29, .methodref 14 340), (0, .nameAndType 341 342), (0, u "copyOfRangeByte"), (0, u "([BII)[B"), (0, .methodref 14 344), (0, .nameAndType 345 346), (0, u "checkLength"), (0, u "(II)V"), (28, .class_ 376), (0, u "java/util/Arrays$ArrayList"), (68, u "$assertionsDisabled"), (269, u "MIN_ARRAY_SORT_GRAN"), (0, u "I"), (2, u "INSERTIONSORT_THRESHOLD"), (255, .class_ 976), (0, u "java/util/Arrays$ArrayItr")] 52

def k13m0 : Method := { name := "<init>", desc := "()V", sig := { parameters := [], returnType := none }, accessFlags := 2, code := none }
def k13c1 : Code := { maxStack := 4, maxLocals := 2, code := jdk_65_method_131_code, exceptionTable := #[], attributes := #[] }
def k13m1 : Method := { name := "checkLength", desc := "(II)V", sig := { parameters := [.int, .int], returnType := none }, accessFlags := 10, code := some k13c1 }
def k13c2 : Code := { maxStack := 3, maxLocals := 3, code := jdk_65_method_132_code, exceptionTable := #[], attributes := #[] }
def k13m2 : Method := { name := "copyOfRange", desc := "([BII)[B", sig := { parameters := [(.array .byte), .int, .int], returnType := some (.array .byte) }, accessFlags := 9, code := some k13c2 }
def k13c3 : Code := { maxStack := 6, maxLocals := 5, code := jdk_65_method_133_code, exceptionTable := #[], attributes := #[] }
def k13m3 : Method := { name := "copyOfRangeByte", desc := "([BII)[B", sig := { parameters := [(.array .byte), .int, .int], returnType := some (.array .byte) }, accessFlags := 10, code := some k13c3 }
/-- java/util/Arrays -/
def k13 : Class := { plain "java/util/Arrays" (some 0) with
  accessFlags := 49
  interfaces := #[]
  cf := some (fileOf pool13 14 #[.nestMembers #[975, 375, 113, 74]] #[{ accessFlags := 2, nameIndex := 5, descriptorIndex := 6, attributes := #[] }, { accessFlags := 10, nameIndex := 345, descriptorIndex := 346, attributes := #[] }, { accessFlags := 9, nameIndex := 139, descriptorIndex := 342, attributes := #[] }, { accessFlags := 10, nameIndex := 341, descriptorIndex := 342, attributes := #[] }] 49 2 #[] #[{ accessFlags := 26, nameIndex := 715, descriptorIndex := 716, attributes := #[] }, { accessFlags := 26, nameIndex := 719, descriptorIndex := 716, attributes := #[] }, { accessFlags := 4120, nameIndex := 445, descriptorIndex := 117, attributes := #[] }])
  fields := #[{ name := "MIN_ARRAY_SORT_GRAN", type := .int, accessFlags := 26, slot := 0, constantValue := 0 }, { name := "INSERTIONSORT_THRESHOLD", type := .int, accessFlags := 26, slot := 1, constantValue := 0 }, { name := "$assertionsDisabled", type := .boolean, accessFlags := 4120, slot := 2, constantValue := 0 }]
  methods := #[k13m0, k13m1, k13m2, k13m3]
  instanceTypes := #[]
  staticTypes := #[.int, .int, .boolean]
  resolved := Array.replicate 1029 none
  statics := none }

def pool14 : Array CpInfo := pool [(1, .class_ 2), (0, u "java/lang/Math"), (1, .class_ 6), (1, u "java/lang/Object"), (0, u "<init>"), (0, u "()V"), (89, .class_ 100), (1, u "java/lang/Math$RandomNumberGeneratorHolder"), (71, u "negativeZeroFloatBits"), (0, u "J"), (2, u "negativeZeroDoubleBits"), (24, u "min"), (43, u "$assertionsDisabled"), (0, u "Z"), (88, u "(II)I"), (2, u "twoToTheDoubleScaleDown"), (0, u "D"), (4, u "twoToTheDoubleScaleUp"), (9, u "E"), (3, u "PI"), (2, u "TAU"), (2, u "DEGREES_TO_RADIANS"), (0, u "RADIANS_TO_DEGREES")] 94

def k14m0 : Method := { name := "<init>", desc := "()V", sig := { parameters := [], returnType := none }, accessFlags := 2, code := none }
def k14c1 : Code := { maxStack := 2, maxLocals := 2, code := jdk_29_method_69_code, exceptionTable := #[], attributes := #[] }
def k14m1 : Method := { name := "min", desc := "(II)I", sig := { parameters := [.int, .int], returnType := some .int }, accessFlags := 9, code := some k14c1 }
/-- java/lang/Math -/
def k14 : Class := { plain "java/lang/Math" (some 0) with
  accessFlags := 49
  interfaces := #[]
  cf := some (fileOf pool14 1 #[.nestMembers #[98]] #[{ accessFlags := 2, nameIndex := 7, descriptorIndex := 8, attributes := #[] }, { accessFlags := 9, nameIndex := 201, descriptorIndex := 335, attributes := #[] }] 49 4 #[] #[{ accessFlags := 25, nameIndex := 354, descriptorIndex := 339, attributes := #[] }, { accessFlags := 25, nameIndex := 358, descriptorIndex := 339, attributes := #[] }, { accessFlags := 25, nameIndex := 361, descriptorIndex := 339, attributes := #[] }, { accessFlags := 26, nameIndex := 364, descriptorIndex := 339, attributes := #[] }, { accessFlags := 26, nameIndex := 365, descriptorIndex := 339, attributes := #[] }, { accessFlags := 26, nameIndex := 172, descriptorIndex := 173, attributes := #[] }, { accessFlags := 26, nameIndex := 176, descriptorIndex := 173, attributes := #[] }, { accessFlags := 8, nameIndex := 344, descriptorIndex := 339, attributes := #[] }, { accessFlags := 8, nameIndex := 338, descriptorIndex := 339, attributes := #[] }, { accessFlags := 4120, nameIndex := 245, descriptorIndex := 246, attributes := #[] }])
  fields := #[{ name := "E", type := .double, accessFlags := 25, slot := 0, constantValue := 0 }, { name := "PI", type := .double, accessFlags := 25, slot := 1, constantValue := 0 }, { name := "TAU", type := .double, accessFlags := 25, slot := 2, constantValue := 0 }, { name := "DEGREES_TO_RADIANS", type := .double, accessFlags := 26, slot := 3, constantValue := 0 }, { name := "RADIANS_TO_DEGREES", type := .double, accessFlags := 26, slot := 4, constantValue := 0 }, { name := "negativeZeroFloatBits", type := .long, accessFlags := 26, slot := 5, constantValue := 0 }, { name := "negativeZeroDoubleBits", type := .long, accessFlags := 26, slot := 6, constantValue := 0 }, { name := "twoToTheDoubleScaleUp", type := .double, accessFlags := 8, slot := 7, constantValue := 0 }, { name := "twoToTheDoubleScaleDown", type := .double, accessFlags := 8, slot := 8, constantValue := 0 }, { name := "$assertionsDisabled", type := .boolean, accessFlags := 4120, slot := 9, constantValue := 0 }]
  methods := #[k14m0, k14m1]
  instanceTypes := #[]
  staticTypes := #[.double, .double, .double, .double, .double, .long, .long, .double, .double, .boolean]
  resolved := Array.replicate 460 none
  statics := none }

def pool15 : Array CpInfo := pool [(2, .class_ 4), (1, u "java/lang/Object"), (0, u "<init>"), (0, u "()V"), (1, .class_ 10), (1, u "java/lang/System"), (0, u "allowSecurityManager"), (0, u "I"), (16, u "cons"), (0, u "Ljava/io/Console;"), (77, .class_ 110), (1, u "java/lang/System$CallersHolder"), (43, u "initialErrStream"), (0, u "Ljava/io/PrintStream;"), (19, u "security"), (0, u "Ljava/lang/SecurityManager;"), (31, .class_ 209), (0, u "java/lang/System$1"), (7, u "props"), (0, u "Ljava/util/Properties;"), (2, u "lineSeparator"), (0, u "Ljava/lang/String;"), (96, .class_ 321), (1, u "java/lang/System$LoggerFinder"), (5, .class_ 328), (0, u "java/lang/System$Logger"), (67, u "err"), (2, u "out"), (91, u "notSupportedJnuEncoding"), (15, u "in"), (17, u "initialIn"), (0, u "Ljava/io/InputStream;"), (35, u "bootLayer"), (0, u "Ljava/lang/ModuleLayer;"), (99, .class_ 664), (0, u "java/lang/System$2"), (9, u "NEVER"), (2, u "MAYBE"), (49, u "arraycopy"), (0, u "(Ljava/lang/Object;ILjava/lang/Object;II)V"), (72, .class_ 802), (0, u "java/lang/System$Logger$Level")] 31

def k15m0 : Method := { name := "<init>", desc := "()V", sig := { parameters := [], returnType := none }, accessFlags := 2, code := none }
def k15m1 : Method := { name := "arraycopy", desc := "(Ljava/lang/Object;ILjava/lang/Object;II)V", sig := { parameters := [(.object "java/lang/Object"), .int, (.object "java/lang/Object"), .int, .int], returnType := none }, accessFlags := 265, code := none }
/-- java/lang/System -/
def k15 : Class := { plain "java/lang/System" (some 0) with
  accessFlags := 49
  interfaces := #[]
  cf := some (fileOf pool15 8 #[.nestMembers #[319, 327, 801, 108, 663, 208]] #[{ accessFlags := 2, nameIndex := 5, descriptorIndex := 6, attributes := #[] }, { accessFlags := 265, nameIndex := 727, descriptorIndex := 728, attributes := #[] }] 49 2 #[] #[{ accessFlags := 25, nameIndex := 507, descriptorIndex := 526, attributes := #[] }, { accessFlags := 25, nameIndex := 399, descriptorIndex := 155, attributes := #[] }, { accessFlags := 25, nameIndex := 396, descriptorIndex := 155, attributes := #[] }, { accessFlags := 10, nameIndex := 525, descriptorIndex := 526, attributes := #[] }, { accessFlags := 26, nameIndex := 674, descriptorIndex := 12, attributes := #[] }, { accessFlags := 26, nameIndex := 677, descriptorIndex := 12, attributes := #[] }, { accessFlags := 10, nameIndex := 11, descriptorIndex := 12, attributes := #[] }, { accessFlags := 74, nameIndex := 175, descriptorIndex := 176, attributes := #[] }, { accessFlags := 10, nameIndex := 491, descriptorIndex := 222, attributes := #[] }, { accessFlags := 74, nameIndex := 29, descriptorIndex := 30, attributes := #[] }, { accessFlags := 74, nameIndex := 154, descriptorIndex := 155, attributes := #[] }, { accessFlags := 10, nameIndex := 217, descriptorIndex := 218, attributes := #[] }, { accessFlags := 10, nameIndex := 221, descriptorIndex := 222, attributes := #[] }, { accessFlags := 8, nameIndex := 562, descriptorIndex := 563, attributes := #[] }])
  fields := #[{ name := "in", type := (.object "java/io/InputStream"), accessFlags := 25, slot := 0, constantValue := 0 }, { name := "out", type := (.object "java/io/PrintStream"), accessFlags := 25, slot := 1, constantValue := 0 }, { name := "err", type := (.object "java/io/PrintStream"), accessFlags := 25, slot := 2, constantValue := 0 }, { name := "initialIn", type := (.object "java/io/InputStream"), accessFlags := 10, slot := 3, constantValue := 0 }, { name := "NEVER", type := .int, accessFlags := 26, slot := 4, constantValue := 0 }, { name := "MAYBE", type := .int, accessFlags := 26, slot := 5, constantValue := 0 }, { name := "allowSecurityManager", type := .int, accessFlags := 10, slot := 6, constantValue := 0 }, { name := "security", type := (.object "java/lang/SecurityManager"), accessFlags := 74, slot := 7, constantValue := 0 }, { name := "notSupportedJnuEncoding", type := (.object "java/lang/String"), accessFlags := 10, slot := 8, constantValue := 0 }, { name := "cons", type := (.object "java/io/Console"), accessFlags := 74, slot := 9, constantValue := 0 }, { name := "initialErrStream", type := (.object "java/io/PrintStream"), accessFlags := 74, slot := 10, constantValue := 0 }, { name := "props", type := (.object "java/util/Properties"), accessFlags := 10, slot := 11, constantValue := 0 }, { name := "lineSeparator", type := (.object "java/lang/String"), accessFlags := 10, slot := 12, constantValue := 0 }, { name := "bootLayer", type := (.object "java/lang/ModuleLayer"), accessFlags := 8, slot := 13, constantValue := 0 }]
  methods := #[k15m0, k15m1]
  instanceTypes := #[]
  staticTypes := #[(.object "java/io/InputStream"), (.object "java/io/PrintStream"), (.object "java/io/PrintStream"), (.object "java/io/InputStream"), .int, .int, .int, (.object "java/lang/SecurityManager"), (.object "java/lang/String"), (.object "java/io/Console"), (.object "java/io/PrintStream"), (.object "java/util/Properties"), (.object "java/lang/String"), (.object "java/lang/ModuleLayer")]
  resolved := Array.replicate 834 none
  statics := none }

def pool16 : Array CpInfo := pool [(9, u "<init>"), (6, .class_ 18), (1, u "java/lang/Object"), (0, u "()V"), (1, .class_ 23), (1, u "jdk/internal/util/ArraysSupport"), (0, u "LOG2_ARRAY_LONG_INDEX_SCALE"), (0, u "I"), (2, u "U"), (0, u "Ljdk/internal/misc/Unsafe;"), (8, u "BIG_ENDIAN"), (0, u "Z"), (8, u "LOG2_BYTE_BIT_SIZE"), (4, u "LOG2_ARRAY_INT_INDEX_SCALE"), (54, u "JLA"), (0, u "Ljdk/internal/access/JavaLangAccess;"), (11, u "LOG2_ARRAY_BOOLEAN_INDEX_SCALE"), (9, u "LOG2_ARRAY_BYTE_INDEX_SCALE"), (5, u "LOG2_ARRAY_CHAR_INDEX_SCALE"), (5, u "LOG2_ARRAY_SHORT_INDEX_SCALE"), (18, u "LOG2_ARRAY_FLOAT_INDEX_SCALE"), (24, u "LOG2_ARRAY_DOUBLE_INDEX_SCALE"), (89, u "T_BOOLEAN"), (2, u "T_CHAR"), (1, u "T_FLOAT"), (1, u "T_DOUBLE"), (1, u "T_BYTE"), (1, u "T_SHORT"), (1, u "T_INT"), (1, u "T_LONG"), (1, u "SOFT_MAX_ARRAY_LENGTH")] 83

def k16m0 : Method := { name := "<init>", desc := "()V", sig := { parameters := [], returnType := none }, accessFlags := 2, code := none }
/-- jdk/internal/util/ArraysSupport -/
def k16 : Class := { plain "jdk/internal/util/ArraysSupport" (some 0) with
  accessFlags := 33
  interfaces := #[]
  cf := some (fileOf pool16 21 #[] #[{ accessFlags := 2, nameIndex := 9, descriptorIndex := 19, attributes := #[] }] 33 16 #[] #[{ accessFlags := 24, nameIndex := 28, descriptorIndex := 29, attributes := #[] }, { accessFlags := 26, nameIndex := 38, descriptorIndex := 39, attributes := #[] }, { accessFlags := 25, nameIndex := 121, descriptorIndex := 25, attributes := #[] }, { accessFlags := 25, nameIndex := 131, descriptorIndex := 25, attributes := #[] }, { accessFlags := 25, nameIndex := 137, descriptorIndex := 25, attributes := #[] }, { accessFlags := 25, nameIndex := 143, descriptorIndex := 25, attributes := #[] }, { accessFlags := 25, nameIndex := 53, descriptorIndex := 25, attributes := #[] }, { accessFlags := 25, nameIndex := 24, descriptorIndex := 25, attributes := #[] }, { accessFlags := 25, nameIndex := 162, descriptorIndex := 25, attributes := #[] }, { accessFlags := 25, nameIndex := 187, descriptorIndex := 25, attributes := #[] }, { accessFlags := 26, nameIndex := 48, descriptorIndex := 25, attributes := #[] }, { accessFlags := 25, nameIndex := 277, descriptorIndex := 25, attributes := #[] }, { accessFlags := 25, nameIndex := 280, descriptorIndex := 25, attributes := #[] }, { accessFlags := 25, nameIndex := 282, descriptorIndex := 25, attributes := #[] }, { accessFlags := 25, nameIndex := 284, descriptorIndex := 25, attributes := #[] }, { accessFlags := 25, nameIndex := 286, descriptorIndex := 25, attributes := #[] }, { accessFlags := 25, nameIndex := 288, descriptorIndex := 25, attributes := #[] }, { accessFlags := 25, nameIndex := 290, descriptorIndex := 25, attributes := #[] }, { accessFlags := 25, nameIndex := 292, descriptorIndex := 25, attributes := #[] }, { accessFlags := 26, nameIndex := 108, descriptorIndex := 109, attributes := #[] }, { accessFlags := 25, nameIndex := 294, descriptorIndex := 25, attributes := #[] }])
  fields := #[{ name := "U", type := (.object "jdk/internal/misc/Unsafe"), accessFlags := 24, slot := 0, constantValue := 0 }, { name := "BIG_ENDIAN", type := .boolean, accessFlags := 26, slot := 1, constantValue := 0 }, { name := "LOG2_ARRAY_BOOLEAN_INDEX_SCALE", type := .int, accessFlags := 25, slot := 2, constantValue := 0 }, { name := "LOG2_ARRAY_BYTE_INDEX_SCALE", type := .int, accessFlags := 25, slot := 3, constantValue := 0 }, { name := "LOG2_ARRAY_CHAR_INDEX_SCALE", type := .int, accessFlags := 25, slot := 4, constantValue := 0 }, { name := "LOG2_ARRAY_SHORT_INDEX_SCALE", type := .int, accessFlags := 25, slot := 5, constantValue := 0 }, { name := "LOG2_ARRAY_INT_INDEX_SCALE", type := .int, accessFlags := 25, slot := 6, constantValue := 0 }, { name := "LOG2_ARRAY_LONG_INDEX_SCALE", type := .int, accessFlags := 25, slot := 7, constantValue := 0 }, { name := "LOG2_ARRAY_FLOAT_INDEX_SCALE", type := .int, accessFlags := 25, slot := 8, constantValue := 0 }, { name := "LOG2_ARRAY_DOUBLE_INDEX_SCALE", type := .int, accessFlags := 25, slot := 9, constantValue := 0 }, { name := "LOG2_BYTE_BIT_SIZE", type := .int, accessFlags := 26, slot := 10, constantValue := 0 }, { name := "T_BOOLEAN", type := .int, accessFlags := 25, slot := 11, constantValue := 0 }, { name := "T_CHAR", type := .int, accessFlags := 25, slot := 12, constantValue := 0 }, { name := "T_FLOAT", type := .int, accessFlags := 25, slot := 13, constantValue := 0 }, { name := "T_DOUBLE", type := .int, accessFlags := 25, slot := 14, constantValue := 0 }, { name := "T_BYTE", type := .int, accessFlags := 25, slot := 15, constantValue := 0 }, { name := "T_SHORT", type := .int, accessFlags := 25, slot := 16, constantValue := 0 }, { name := "T_INT", type := .int, accessFlags := 25, slot := 17, constantValue := 0 }, { name := "T_LONG", type := .int, accessFlags := 25, slot := 18, constantValue := 0 }, { name := "JLA", type := (.object "jdk/internal/access/JavaLangAccess"), accessFlags := 26, slot := 19, constantValue := 0 }, { name := "SOFT_MAX_ARRAY_LENGTH", type := .int, accessFlags := 25, slot := 20, constantValue := 0 }]
  methods := #[k16m0]
  instanceTypes := #[]
  staticTypes := #[(.object "jdk/internal/misc/Unsafe"), .boolean, .int, .int, .int, .int, .int, .int, .int, .int, .int, .int, .int, .int, .int, .int, .int, .int, .int, (.object "jdk/internal/access/JavaLangAccess"), .int]
  resolved := Array.replicate 378 none
  statics := none }

def pool17 : Array CpInfo := pool [(1, u "java/lang/Cloneable"), (0, .class_ 1), (0, u "java/lang/Object"), (0, .class_ 3)] 3

/-- java/lang/Cloneable -/
def k17 : Class := { plain "java/lang/Cloneable" (some 0) with
  accessFlags := 1537
  interfaces := #[]
  cf := some (fileOf pool17 2 #[] #[] 1537 4 #[] #[])
  fields := #[]
  methods := #[]
  instanceTypes := #[]
  staticTypes := #[]
  resolved := Array.replicate 8 none
  statics := none }

/-- the primitive byte -/
def k18 : Class := { plain "byte" none with kind := .primitive 'B', accessFlags := 0x411 }
/-- [B -/
def k19 : Class := { plain "[B" (some 0) with kind := .array 18 .byte, interfaces := #[17, 2], accessFlags := 1041 }

/-- the primitive char -/
def k20 : Class := { plain "char" none with kind := .primitive 'C', accessFlags := 0x411 }
/-- [C -/
def k21 : Class := { plain "[C" (some 0) with kind := .array 20 .char, interfaces := #[17, 2], accessFlags := 1041 }

/-- the primitive int -/
def k22 : Class := { plain "int" none with kind := .primitive 'I', accessFlags := 0x411 }
/-- [I -/
def k23 : Class := { plain "[I" (some 0) with kind := .array 22 .int, interfaces := #[17, 2], accessFlags := 1041 }

def heap : Heap := #[{ cls := 7, slots := #[.long 0, .int 1, .null, .int 0, .null, .int 0, .int 0], vm := .statics 7 },
  { cls := 11, slots := #[.null, .null, .null], vm := .statics 11 }]
def classes : Array Class := #[k0, k1, k2, k3, k4, k5, k6, k7, k8, k9, k10, k11, k12, k13, k14, k15, k16, k17, k18, k19, k20, k21, k22, k23]
def interned : List (Array UInt16 × Addr) := []
def slotsUsed : Nat := 10
def theMethod : MethodId := ⟨1, 1⟩
def args0 : Array Value := #[.int 1684234849, .int 1, .int 2, .int 9]
def aboutOver (below : List Frame) : State where
  vm := { classes := classes, interned := interned.toArray }
  heap := heap
  slotsUsed := slotsUsed
  threads := #[{ frames := .invoking theMethod args0 :: below }]
def below0 : List Frame := [.native { method := ⟨0, 0⟩, args := #[] }]
def about1 : State := aboutOver below0
def p0 : Program := .bare "" "" ""
def e0 : Env := launch0.env 0 0 0
theorem w_frames : about1.frames = Frame.invoking theMethod args0 :: below0 := rfl
set_option maxRecDepth 65536 in
theorem w_args : argsFit about1.vm theMethod args0 = true := by decide +kernel
set_option maxRecDepth 65536 in
theorem w_heap : heapFits about1 = true := by decide +kernel
set_option maxRecDepth 65536 in
theorem w_runnable : about1.curStatus? = some .runnable := by decide +kernel
set_option maxRecDepth 65536 in
theorem w_alone : about1.alone = true := by decide +kernel
set_option maxRecDepth 65536 in
theorem w_named : about1.methodNamed? x = some theMethod := by decide +kernel
set_option maxRecDepth 65536 in
theorem w_hears : about1.hears theMethod below0 = true := by decide +kernel
set_option maxRecDepth 65536 in
theorem w_ripe : about1.ripe theMethod args0 below0 = true := by decide +kernel
theorem w_running : about1.status = .running := rfl
set_option maxRecDepth 65536 in
theorem w_room : about1.hasRoom e0.platform room_1 = true :=
  launch0.hasRoom_least _ room_1 (by decide +kernel) (by decide +kernel) (by decide +kernel) (by decide +kernel) (by decide +kernel) (by decide +kernel)
theorem allAtoms_all (ts : List Jvm.Cond) (a : Array Jvm.Value) (st : Jvm.State) : (allAtoms ts).before a st = ts.all (fun c => c.before a st) := by
  induction ts with
  | nil => rfl
  | cons c t ih =>
    show (Jvm.Cond.and c (allAtoms t)).before a st = _
    rw [Jvm.Cond.before_and, ih, List.all_cons]
def words1 : List Jvm.Cond := Jvm.Cond.code x code maxLocals ret :: tables_1
/-- a 'code' word, met by the world's own term for the bytes: nothing is compared byte by byte -/
theorem code_word {y : MethodName} {bytes : ByteArray} {mx : Nat} {rt : Option FieldType} {a : Array Value} {s : State} {m : MethodId} {meth : Method} {c : Code} (h1 : s.methodNamed? y = some m) (h2 : s.vm.method? m = some meth) (h3 : meth.code = some c) (h4 : c.code = bytes)
    (h5 : (c.maxLocals == mx && c.exceptionTable.isEmpty && decide (c.maxStack ≤ mostOperands) && decide (meth.sig.returnType = rt) && !meth.locks && decide (parseMethodDescriptor y.desc = some meth.sig)) = true) : (Jvm.Cond.code y bytes mx rt).before a s = true := by
  simp only [Bool.and_eq_true, beq_iff_eq, Bool.not_eq_true', decide_eq_true_eq] at h5
  obtain ⟨⟨⟨⟨⟨g1, g2⟩, g3⟩, g4⟩, g5⟩, g6⟩ := h5
  simp [Cond.before, Cond.holds, Cond.value, h1, h2, h3, h4, g1, g2, g3, g4, g5, g6]
def isCode : Jvm.Cond → Bool
  | .code _ _ _ _ => true
  | _ => false
theorem all_split {L : List Jvm.Cond} {P : Jvm.Cond → Bool} (h1 : L.all (fun c => isCode c || P c) = true) (h2 : ∀ c ∈ L.filter isCode, P c = true) : L.all P = true := by
  refine List.all_eq_true.mpr fun c hc => ?_
  have h := List.all_eq_true.mp h1 c hc
  rcases Bool.eq_false_or_eq_true (isCode c) with hi | hi
  · exact h2 c (List.mem_filter.mpr ⟨hc, hi⟩)
  · simpa [hi] using h
set_option maxRecDepth 65536 in
theorem w_c0 : (Jvm.Cond.code x code maxLocals ret).before args0 about1 = true := code_word (m := ⟨1, 1⟩) (meth := k1m1) (c := k1c1) (by decide +kernel) rfl rfl rfl (by decide +kernel)
set_option maxRecDepth 65536 in
theorem w_c1 : (Jvm.Cond.code ({ cls := "java/lang/String", name := "<init>", desc := "([C)V" } : Jvm.MethodName) jdk_42_method_3_code (2 : Nat) (Option.none : Option Jvm.ClassFile.FieldType)).before args0 about1 = true := code_word (m := ⟨7, 1⟩) (meth := k7m1) (c := k7c1) (by decide +kernel) rfl rfl rfl (by decide +kernel)
set_option maxRecDepth 65536 in
theorem w_c2 : (Jvm.Cond.code ({ cls := "java/lang/String", name := "<init>", desc := "([CIILjava/lang/Void;)V" } : Jvm.MethodName) jdk_42_method_149_code (6 : Nat) (Option.none : Option Jvm.ClassFile.FieldType)).before args0 about1 = true := code_word (m := ⟨7, 5⟩) (meth := k7m5) (c := k7c5) (by decide +kernel) rfl rfl rfl (by decide +kernel)
set_option maxRecDepth 65536 in
theorem w_c3 : (Jvm.Cond.code ({ cls := "java/lang/Object", name := "<init>", desc := "()V" } : Jvm.MethodName) object_method_1_code (1 : Nat) (Option.none : Option Jvm.ClassFile.FieldType)).before args0 about1 = true := code_word (m := ⟨0, 0⟩) (meth := k0m0) (c := k0c0) (by decide +kernel) rfl rfl rfl (by decide +kernel)
set_option maxRecDepth 65536 in
theorem w_c4 : (Jvm.Cond.code ({ cls := "java/lang/StringUTF16", name := "compress", desc := "([CII)[B" } : Jvm.MethodName) jdk_52_method_16_code (6 : Nat) (Option.some (Jvm.ClassFile.FieldType.array Jvm.ClassFile.FieldType.byte))).before args0 about1 = true := code_word (m := ⟨8, 2⟩) (meth := k8m2) (c := k8c2) (by decide +kernel) rfl rfl rfl (by decide +kernel)
set_option maxRecDepth 65536 in
theorem w_c5 : (Jvm.Cond.code ({ cls := "java/lang/StringUTF16", name := "compress", desc := "([CI[BII)I" } : Jvm.MethodName) jdk_52_method_21_code (7 : Nat) (Option.some Jvm.ClassFile.FieldType.int)).before args0 about1 = true := code_word (m := ⟨8, 3⟩) (meth := k8m3) (c := k8c3) (by decide +kernel) rfl rfl rfl (by decide +kernel)
set_option maxRecDepth 65536 in
theorem w_c6 : (Jvm.Cond.code ({ cls := "java/lang/StringUTF16", name := "coderFromArrayLen", desc := "([BI)B" } : Jvm.MethodName) jdk_52_method_15_code (2 : Nat) (Option.some Jvm.ClassFile.FieldType.byte)).before args0 about1 = true := code_word (m := ⟨8, 1⟩) (meth := k8m1) (c := k8c1) (by decide +kernel) rfl rfl rfl (by decide +kernel)
set_option maxRecDepth 65536 in
theorem w_c7 : (Jvm.Cond.code ({ cls := "com/example/cytorelay/cytorelay/core/Hl7Syntax$Span", name := "<init>", desc := "(Ljava/lang/String;II)V" } : Jvm.MethodName) prog_32_method_1_code (4 : Nat) (Option.none : Option Jvm.ClassFile.FieldType)).before args0 about1 = true := code_word (m := ⟨10, 0⟩) (meth := k10m0) (c := k10c0) (by decide +kernel) rfl rfl rfl (by decide +kernel)
set_option maxRecDepth 65536 in
theorem w_c8 : (Jvm.Cond.code ({ cls := "java/lang/Record", name := "<init>", desc := "()V" } : Jvm.MethodName) jdk_30_method_1_code (1 : Nat) (Option.none : Option Jvm.ClassFile.FieldType)).before args0 about1 = true := code_word (m := ⟨9, 0⟩) (meth := k9m0) (c := k9c0) (by decide +kernel) rfl rfl rfl (by decide +kernel)
set_option maxRecDepth 65536 in
theorem w_c9 : (Jvm.Cond.code ({ cls := "com/example/cytorelay/cytorelay/core/Hl7Syntax$Span", name := "isEmpty", desc := "()Z" } : Jvm.MethodName) prog_32_method_3_code (1 : Nat) (Option.some Jvm.ClassFile.FieldType.boolean)).before args0 about1 = true := code_word (m := ⟨10, 1⟩) (meth := k10m1) (c := k10c1) (by decide +kernel) rfl rfl rfl (by decide +kernel)
set_option maxRecDepth 65536 in
theorem w_c10 : (Jvm.Cond.code ({ cls := "com/example/cytorelay/cytorelay/core/Hl7Syntax$Span", name := "cut", desc := "()Ljava/lang/String;" } : Jvm.MethodName) prog_32_method_4_code (1 : Nat) (Option.some (Jvm.ClassFile.FieldType.object "java/lang/String"))).before args0 about1 = true := code_word (m := ⟨10, 2⟩) (meth := k10m2) (c := k10c2) (by decide +kernel) rfl rfl rfl (by decide +kernel)
set_option maxRecDepth 65536 in
theorem w_c11 : (Jvm.Cond.code ({ cls := "java/lang/String", name := "substring", desc := "(II)Ljava/lang/String;" } : Jvm.MethodName) jdk_42_method_92_code (5 : Nat) (Option.some (Jvm.ClassFile.FieldType.object "java/lang/String"))).before args0 about1 = true := code_word (m := ⟨7, 4⟩) (meth := k7m4) (c := k7c4) (by decide +kernel) rfl rfl rfl (by decide +kernel)
set_option maxRecDepth 65536 in
theorem w_c12 : (Jvm.Cond.code ({ cls := "java/lang/String", name := "length", desc := "()I" } : Jvm.MethodName) jdk_42_method_54_code (1 : Nat) (Option.some Jvm.ClassFile.FieldType.int)).before args0 about1 = true := code_word (m := ⟨7, 2⟩) (meth := k7m2) (c := k7c2) (by decide +kernel) rfl rfl rfl (by decide +kernel)
set_option maxRecDepth 65536 in
theorem w_c13 : (Jvm.Cond.code ({ cls := "java/lang/String", name := "coder", desc := "()B" } : Jvm.MethodName) jdk_42_method_152_code (1 : Nat) (Option.some Jvm.ClassFile.FieldType.byte)).before args0 about1 = true := code_word (m := ⟨7, 7⟩) (meth := k7m7) (c := k7c7) (by decide +kernel) rfl rfl rfl (by decide +kernel)
set_option maxRecDepth 65536 in
theorem w_c14 : (Jvm.Cond.code ({ cls := "java/lang/String", name := "checkBoundsBeginEnd", desc := "(III)V" } : Jvm.MethodName) jdk_42_method_158_code (3 : Nat) (Option.none : Option Jvm.ClassFile.FieldType)).before args0 about1 = true := code_word (m := ⟨7, 9⟩) (meth := k7m9) (c := k7c9) (by decide +kernel) rfl rfl rfl (by decide +kernel)
set_option maxRecDepth 65536 in
theorem w_c15 : (Jvm.Cond.code ({ cls := "jdk/internal/util/Preconditions", name := "checkFromToIndex", desc := "(IIILjava/util/function/BiFunction;)I" } : Jvm.MethodName) jdk_41_method_12_code (4 : Nat) (Option.some Jvm.ClassFile.FieldType.int)).before args0 about1 = true := code_word (m := ⟨11, 1⟩) (meth := k11m1) (c := k11c1) (by decide +kernel) rfl rfl rfl (by decide +kernel)
set_option maxRecDepth 65536 in
theorem w_c16 : (Jvm.Cond.code ({ cls := "java/lang/String", name := "isLatin1", desc := "()Z" } : Jvm.MethodName) jdk_42_method_154_code (1 : Nat) (Option.some Jvm.ClassFile.FieldType.boolean)).before args0 about1 = true := code_word (m := ⟨7, 8⟩) (meth := k7m8) (c := k7c8) (by decide +kernel) rfl rfl rfl (by decide +kernel)
set_option maxRecDepth 65536 in
theorem w_c17 : (Jvm.Cond.code ({ cls := "java/lang/StringLatin1", name := "newString", desc := "([BII)Ljava/lang/String;" } : Jvm.MethodName) jdk_43_method_47_code (3 : Nat) (Option.some (Jvm.ClassFile.FieldType.object "java/lang/String"))).before args0 about1 = true := code_word (m := ⟨12, 1⟩) (meth := k12m1) (c := k12c1) (by decide +kernel) rfl rfl rfl (by decide +kernel)
set_option maxRecDepth 65536 in
theorem w_c18 : (Jvm.Cond.code ({ cls := "java/lang/String", name := "isEmpty", desc := "()Z" } : Jvm.MethodName) jdk_42_method_55_code (1 : Nat) (Option.some Jvm.ClassFile.FieldType.boolean)).before args0 about1 = true := code_word (m := ⟨7, 3⟩) (meth := k7m3) (c := k7c3) (by decide +kernel) rfl rfl rfl (by decide +kernel)
set_option maxRecDepth 65536 in
theorem w_c19 : (Jvm.Cond.code ({ cls := "java/util/Arrays", name := "copyOfRange", desc := "([BII)[B" } : Jvm.MethodName) jdk_65_method_132_code (3 : Nat) (Option.some (Jvm.ClassFile.FieldType.array Jvm.ClassFile.FieldType.byte))).before args0 about1 = true := code_word (m := ⟨13, 2⟩) (meth := k13m2) (c := k13c2) (by decide +kernel) rfl rfl rfl (by decide +kernel)
set_option maxRecDepth 65536 in
theorem w_c20 : (Jvm.Cond.code ({ cls := "java/util/Arrays", name := "copyOfRangeByte", desc := "([BII)[B" } : Jvm.MethodName) jdk_65_method_133_code (5 : Nat) (Option.some (Jvm.ClassFile.FieldType.array Jvm.ClassFile.FieldType.byte))).before args0 about1 = true := code_word (m := ⟨13, 3⟩) (meth := k13m3) (c := k13c3) (by decide +kernel) rfl rfl rfl (by decide +kernel)
set_option maxRecDepth 65536 in
theorem w_c21 : (Jvm.Cond.code ({ cls := "java/util/Arrays", name := "checkLength", desc := "(II)V" } : Jvm.MethodName) jdk_65_method_131_code (2 : Nat) (Option.none : Option Jvm.ClassFile.FieldType)).before args0 about1 = true := code_word (m := ⟨13, 1⟩) (meth := k13m1) (c := k13c1) (by decide +kernel) rfl rfl rfl (by decide +kernel)
set_option maxRecDepth 65536 in
theorem w_c22 : (Jvm.Cond.code ({ cls := "java/lang/Math", name := "min", desc := "(II)I" } : Jvm.MethodName) jdk_29_method_69_code (2 : Nat) (Option.some Jvm.ClassFile.FieldType.int)).before args0 about1 = true := code_word (m := ⟨14, 1⟩) (meth := k14m1) (c := k14c1) (by decide +kernel) rfl rfl rfl (by decide +kernel)
set_option maxRecDepth 65536 in
theorem w_c23 : (Jvm.Cond.code ({ cls := "java/lang/String", name := "<init>", desc := "([BB)V" } : Jvm.MethodName) jdk_42_method_151_code (3 : Nat) (Option.none : Option Jvm.ClassFile.FieldType)).before args0 about1 = true := code_word (m := ⟨7, 6⟩) (meth := k7m6) (c := k7c6) (by decide +kernel) rfl rfl rfl (by decide +kernel)
def codes1 : List Jvm.Cond := [Jvm.Cond.code x code maxLocals ret, Jvm.Cond.code ({ cls := "java/lang/String", name := "<init>", desc := "([C)V" } : Jvm.MethodName) jdk_42_method_3_code (2 : Nat) (Option.none : Option Jvm.ClassFile.FieldType), Jvm.Cond.code ({ cls := "java/lang/String", name := "<init>", desc := "([CIILjava/lang/Void;)V" } : Jvm.MethodName) jdk_42_method_149_code (6 : Nat) (Option.none : Option Jvm.ClassFile.FieldType), Jvm.Cond.code ({ cls := "java/lang/Object", name := "<init>", desc := "()V" } : Jvm.MethodName) object_method_1_code (1 : Nat) (Option.none : Option Jvm.ClassFile.FieldType), Jvm.Cond.code ({ cls := "java/lang/StringUTF16", name := "compress", desc := "([CII)[B" } : Jvm.MethodName) jdk_52_method_16_code (6 : Nat) (Option.some (Jvm.ClassFile.FieldType.array Jvm.ClassFile.FieldType.byte)), Jvm.Cond.code ({ cls := "java/lang/StringUTF16", name := "compress", desc := "([CI[BII)I" } : Jvm.MethodName) jdk_52_method_21_code (7 : Nat) (Option.some Jvm.ClassFile.FieldType.int), Jvm.Cond.code ({ cls := "java/lang/StringUTF16", name := "coderFromArrayLen", desc := "([BI)B" } : Jvm.MethodName) jdk_52_method_15_code (2 : Nat) (Option.some Jvm.ClassFile.FieldType.byte), Jvm.Cond.code ({ cls := "com/example/cytorelay/cytorelay/core/Hl7Syntax$Span", name := "<init>", desc := "(Ljava/lang/String;II)V" } : Jvm.MethodName) prog_32_method_1_code (4 : Nat) (Option.none : Option Jvm.ClassFile.FieldType), Jvm.Cond.code ({ cls := "java/lang/Record", name := "<init>", desc := "()V" } : Jvm.MethodName) jdk_30_method_1_code (1 : Nat) (Option.none : Option Jvm.ClassFile.FieldType), Jvm.Cond.code ({ cls := "com/example/cytorelay/cytorelay/core/Hl7Syntax$Span", name := "isEmpty", desc := "()Z" } : Jvm.MethodName) prog_32_method_3_code (1 : Nat) (Option.some Jvm.ClassFile.FieldType.boolean), Jvm.Cond.code ({ cls := "com/example/cytorelay/cytorelay/core/Hl7Syntax$Span", name := "cut", desc := "()Ljava/lang/String;" } : Jvm.MethodName) prog_32_method_4_code (1 : Nat) (Option.some (Jvm.ClassFile.FieldType.object "java/lang/String")), Jvm.Cond.code ({ cls := "java/lang/String", name := "substring", desc := "(II)Ljava/lang/String;" } : Jvm.MethodName) jdk_42_method_92_code (5 : Nat) (Option.some (Jvm.ClassFile.FieldType.object "java/lang/String")), Jvm.Cond.code ({ cls := "java/lang/String", name := "length", desc := "()I" } : Jvm.MethodName) jdk_42_method_54_code (1 : Nat) (Option.some Jvm.ClassFile.FieldType.int), Jvm.Cond.code ({ cls := "java/lang/String", name := "coder", desc := "()B" } : Jvm.MethodName) jdk_42_method_152_code (1 : Nat) (Option.some Jvm.ClassFile.FieldType.byte), Jvm.Cond.code ({ cls := "java/lang/String", name := "checkBoundsBeginEnd", desc := "(III)V" } : Jvm.MethodName) jdk_42_method_158_code (3 : Nat) (Option.none : Option Jvm.ClassFile.FieldType), Jvm.Cond.code ({ cls := "jdk/internal/util/Preconditions", name := "checkFromToIndex", desc := "(IIILjava/util/function/BiFunction;)I" } : Jvm.MethodName) jdk_41_method_12_code (4 : Nat) (Option.some Jvm.ClassFile.FieldType.int), Jvm.Cond.code ({ cls := "java/lang/String", name := "isLatin1", desc := "()Z" } : Jvm.MethodName) jdk_42_method_154_code (1 : Nat) (Option.some Jvm.ClassFile.FieldType.boolean), Jvm.Cond.code ({ cls := "java/lang/StringLatin1", name := "newString", desc := "([BII)Ljava/lang/String;" } : Jvm.MethodName) jdk_43_method_47_code (3 : Nat) (Option.some (Jvm.ClassFile.FieldType.object "java/lang/String")), Jvm.Cond.code ({ cls := "java/lang/String", name := "isEmpty", desc := "()Z" } : Jvm.MethodName) jdk_42_method_55_code (1 : Nat) (Option.some Jvm.ClassFile.FieldType.boolean), Jvm.Cond.code ({ cls := "java/util/Arrays", name := "copyOfRange", desc := "([BII)[B" } : Jvm.MethodName) jdk_65_method_132_code (3 : Nat) (Option.some (Jvm.ClassFile.FieldType.array Jvm.ClassFile.FieldType.byte)), Jvm.Cond.code ({ cls := "java/util/Arrays", name := "copyOfRangeByte", desc := "([BII)[B" } : Jvm.MethodName) jdk_65_method_133_code (5 : Nat) (Option.some (Jvm.ClassFile.FieldType.array Jvm.ClassFile.FieldType.byte)), Jvm.Cond.code ({ cls := "java/util/Arrays", name := "checkLength", desc := "(II)V" } : Jvm.MethodName) jdk_65_method_131_code (2 : Nat) (Option.none : Option Jvm.ClassFile.FieldType), Jvm.Cond.code ({ cls := "java/lang/Math", name := "min", desc := "(II)I" } : Jvm.MethodName) jdk_29_method_69_code (2 : Nat) (Option.some Jvm.ClassFile.FieldType.int), Jvm.Cond.code ({ cls := "java/lang/String", name := "<init>", desc := "([BB)V" } : Jvm.MethodName) jdk_42_method_151_code (3 : Nat) (Option.none : Option Jvm.ClassFile.FieldType)]
set_option maxRecDepth 65536 in
theorem codes_eq : words1.filter isCode = codes1 := rfl
theorem w_codes : ∀ c ∈ words1.filter isCode, c.before args0 about1 = true := by
  rw [codes_eq]
  intro c hc
  simp only [codes1, List.mem_cons, List.not_mem_nil, or_false] at hc
  rcases hc with rfl | rfl | rfl | rfl | rfl | rfl | rfl | rfl | rfl | rfl | rfl | rfl | rfl | rfl | rfl | rfl | rfl | rfl | rfl | rfl | rfl | rfl | rfl | rfl
  · exact w_c0
  · exact w_c1
  · exact w_c2
  · exact w_c3
  · exact w_c4
  · exact w_c5
  · exact w_c6
  · exact w_c7
  · exact w_c8
  · exact w_c9
  · exact w_c10
  · exact w_c11
  · exact w_c12
  · exact w_c13
  · exact w_c14
  · exact w_c15
  · exact w_c16
  · exact w_c17
  · exact w_c18
  · exact w_c19
  · exact w_c20
  · exact w_c21
  · exact w_c22
  · exact w_c23
set_option maxRecDepth 65536 in
theorem w_t1 : (words1.take 24).all (fun c => isCode c || c.before args0 about1) = true := by decide +kernel
set_option maxRecDepth 65536 in
theorem w_t2 : ((words1.drop 24).take 24).all (fun c => isCode c || c.before args0 about1) = true := by decide +kernel
set_option maxRecDepth 65536 in
theorem w_t3 : (((words1.drop 24).drop 24).take 24).all (fun c => isCode c || c.before args0 about1) = true := by decide +kernel
set_option maxRecDepth 65536 in
theorem w_t4 : ((((words1.drop 24).drop 24).drop 24).take 24).all (fun c => isCode c || c.before args0 about1) = true := by decide +kernel
set_option maxRecDepth 65536 in
theorem w_t5 : (((((words1.drop 24).drop 24).drop 24).drop 24).take 24).all (fun c => isCode c || c.before args0 about1) = true := by decide +kernel
set_option maxRecDepth 65536 in
theorem w_t6 : (((((words1.drop 24).drop 24).drop 24).drop 24).drop 24).all (fun c => isCode c || c.before args0 about1) = true := by decide +kernel
theorem w_tables : (allAtoms (Jvm.Cond.code x code maxLocals ret :: tables_1)).before args0 about1 = true := by
  rw [allAtoms_all]
  show words1.all (fun c => c.before args0 about1) = true
  refine all_split ?_ w_codes
  rw [← List.take_append_drop 24 words1, List.all_append, w_t1, ← List.take_append_drop 24 (words1.drop 24), List.all_append, w_t2, ← List.take_append_drop 24 ((words1.drop 24).drop 24), List.all_append, w_t3, ← List.take_append_drop 24 (((words1.drop 24).drop 24).drop 24), List.all_append, w_t4, ← List.take_append_drop 24 ((((words1.drop 24).drop 24).drop 24).drop 24), List.all_append, w_t5, w_t6]
  rfl
set_option maxRecDepth 65536 in
theorem w_rest : rest_1_c.before args0 about1 = true := by decide +kernel
set_option maxRecDepth 65536 in
theorem w_case : (Jvm.Cond.and given_1 narrow_1).before args0 about1 = true := by decide +kernel
set_option maxRecDepth 65536 in
theorem w_consts : constsHeld consts_1 about1 := Jvm.Lit.constsHeldB_iff.mp (by decide +kernel)
theorem w_applies : (headSpec (Jvm.Cond.code x code maxLocals ret :: tables_1) room_1).applies x e0.platform about1 = true :=
  (Spec.applies_iff w_frames).mpr ⟨w_running, w_runnable, w_alone, w_named, w_hears, w_ripe, w_room, w_tables⟩
theorem atStart : AtStart classFile x code maxLocals ret World_1 tables_1 room_1 Calls_1 rest_1 Pre_1 launch0 p0 e0 about1 theMethod args0 below0 :=
  ⟨lists_1, trivial, launch0.admits_env _ _ _, launch0.least_env, fairChoices_fair.cas, fairChoices_fair.clock, w_frames, w_args, w_heap, w_applies, ⟨w_consts, trivial⟩, w_rest, w_case⟩
end start1
theorem witness_1 : WitnessClaimed_1 := ⟨start1.p0, start1.e0, start1.about1, start1.theMethod, start1.args0, start1.below0, start1.atStart⟩
end Jvm.Pilot.@@N@@
