import JvmDerived
import JvmDerived.Pilot.@@N@@Statement
import JvmDerived.Pilot.@@N@@Code
set_option linter.unusedVariables false
set_option linter.unusedSimpArgs false

namespace Jvm.Own
open Sem ClassFile Op Lib Jvm.Stand Jvm.Free Jvm.LawKit Jvm.RoadKit Bundle
abbrev Ents : Type := List (String × Nat)
def SfAt (Z : State) (EL : Ents) (vm : Vm) (h : Heap) (x : Addr) : Prop := x < h.size ∧ Safe Z EL vm h x
def Prom (EL : Ents) (Z : State) (n0 : Nat) (h0 : Heap) (Q : Option Value → Heap → (Addr → Prop) → Prop) (R : Room) (s : State) (o : Outcome) (t : State) : Prop :=
  ∃ v L, o = .returned v ∧ (Fr n0 L ∧ h0.size ≤ t.heap.size ∧ CHr Z EL s.vm h0 t.vm t.heap ∧ Q v t.heap (SfAt Z EL t.vm t.heap)) ∧ ReturnedEndW s o t L R.cells R.slots
def Go (p : Program) (e : Env) (below : List Frame) (P : Outcome → State → Prop) (U : State) : Prop :=
  ∃ t o, Steps p.tables e below U t ∧ t.status = .running ∧ Ended t below o ∧ P o t
theorem Go.step {p : Program} {e : Env} {below : List Frame} {P : Outcome → State → Prop} {U V : State} (f : ∀ t, Steps p.tables e below V t → Steps p.tables e below U t) (g : Go p e below P V) : Go p e below P U := by
  obtain ⟨t, o, h1, h2⟩ := g; exact ⟨t, o, f t h1, h2⟩
def Cx (Z : State) (EL : Ents) (bytes : ByteArray) (maxL : Nat) (own nm : String) (ret : Option FieldType) (p : Program) (vm0 : Vm) (m : MethodId) (meth : Method) (c : Code) : Prop :=
  p.tables.exec = Jvm.exec ∧ c.code = bytes ∧ c.maxLocals = maxL ∧ meth.sig.returnType = ret ∧ meth.locks = false ∧ meth.name = nm ∧ Z.Warmed39 vm0 ∧ vm0.findClass own = some m.cls ∧ ∃ a0, EW Z a0 EL
def Rel (EL : Ents) (Z s : State) (h0 : Heap) (vm0 : Vm) (h : Heap) (SF : List Addr) : Prop := (∃ k0, s.Since vm0 k0 ∧ k0 ≤ h.size) ∧ CHr Z EL s.vm h0 vm0 h ∧ ∀ x ∈ SF, SfAt Z EL vm0 h x
/-- the contract of a body -/
def Met (EL : Ents) (l : Launch) (Z : State) (y : MethodName) (bytes : ByteArray) (maxL : Nat) (ret : Option FieldType) (R : Room) (ws : List Jvm.Cond) (as' : Array Value) (h0 : Heap) (n0 : Nat) (SF : List Addr) (Q : Option Value → Heap → (Addr → Prop) → Prop) : Prop :=
  MetFree l y (head1 (Jvm.Cond.code y bytes maxL ret :: ws) R) (fun a U => a = as' ∧ Z.Warmed39 U.vm ∧ U.heap = h0 ∧ CHv Z EL U.vm h0 ∧ (∀ x ∈ SF, SfAt Z EL U.vm h0 x) ∧ ∃ a0, EW Z a0 EL) (fun _ _ _ _ _ => True) (fun _ U o U' => Prom EL Z n0 h0 Q R U o U')
/-- from this point of the body on the run ends as Q says -/
def OAt (EL : Ents) (l : Launch) (Z : State) (bytes : ByteArray) (maxL : Nat) (own nm : String) (ret : Option FieldType) (R : Room) (n0 : Nat) (h0 : Heap) (Q : Option Value → Heap → (Addr → Prop) → Prop) (SF : List Addr)
    (h : Heap) (cells slots pc : Nat) (Ls : Array Slot) (st : List Value) : Prop :=
  ∀ (p : Program) (e : Env) (s : State) (vm0 : Vm) (m : MethodId) (args : Array Value) (below : List Frame) (meth : Method) (c : Code) (T : State) (locs : List Loc),
    Cx Z EL bytes maxL own nm ret p vm0 m meth c → Rel EL Z s h0 vm0 h SF → Stand p l e R (s.setVm vm0) m args below meth c T locs cells slots → T.heap = h → Fr n0 locs →
    Go p e below (Prom EL Z n0 h0 Q R s) (T.setTop (mkF m pc Ls st))
section Walk
variable {EL : Ents} {l : Launch} {Z : State} {a0 : Array Value} {bytes : ByteArray} {maxL : Nat} {own nm : String} {ret : Option FieldType} {R : Room} {n0 : Nat} {h0 : Heap} {Q : Option Value → Heap → (Addr → Prop) → Prop} {SF : List Addr} {h h' : Heap} {cells slots pc : Nat} {Ls : Array Slot} {st : List Value}
theorem Met.of {y : MethodName} {ws : List Jvm.Cond} {as' : Array Value} (hp : plainFor y = true) {Ls : Array Slot} (hef : ∀ m, entryFrame m as' maxL = mkF m 0 Ls [])
    (k : OAt EL l Z bytes maxL y.cls y.name ret R n0 h0 Q SF h0 0 0 0 Ls []) : Met EL l Z y bytes maxL ret R ws as' h0 n0 SF Q := by
  refine MetFree.of_bodySF hp hisR ?_
  intro p e s m args below meth c s₁ Bd hml0 hP hK
  obtain ⟨rfl, hZ, hh, hC, hS, hE⟩ := hP
  have X0 : Stand p l e R s m args below meth c s₁ [] 0 0 := Stand.of_body Bd
  have e0 : s₁.heap = h0 := by rw [← hh, Bd.state]; rfl
  have g := k p e s s.vm m args below meth c s₁ [] ⟨Bd.exec, Bd.bytes, hml0, Bd.returns, Bd.notSynchronized, (name_of_methodNamed Bd.named Bd.method).1, hZ, findClass_of_methodNamed Bd.named, hE⟩ ⟨⟨0, State.WarmedH.since (State.WarmedH.refl s) 0, Nat.zero_le _⟩, CHr.refl hC, hS⟩ X0 e0 (Fr.nil n0)
  rw [← hef m] at g
  exact g
theorem Met.imp {y : MethodName} {ws : List Jvm.Cond} {as' : Array Value} {Q' : Option Value → Heap → (Addr → Prop) → Prop} (k : Met EL l Z y bytes maxL ret R ws as' h0 n0 SF Q) (f : ∀ v h S, Q v h S → Q' v h S) : Met EL l Z y bytes maxL ret R ws as' h0 n0 SF Q' :=
  fun p e h1 h2 h3 s m args below h4 h5 h6 h7 => by
    obtain ⟨n, o, g1, g2, g3, v, L, g4, ⟨g5, g6, g7, g8⟩, g9⟩ := k p e h1 h2 h3 s m args below h4 h5 h6 h7
    exact ⟨n, o, g1, g2, g3, v, L, g4, ⟨g5, g6, g7, f _ _ _ g8⟩, g9⟩
theorem OAt.cast {st' : List Value} (q : st' = st) (k : OAt EL l Z bytes maxL own nm ret R n0 h0 Q SF h cells slots pc Ls st') : OAt EL l Z bytes maxL own nm ret R n0 h0 Q SF h cells slots pc Ls st := q ▸ k
theorem OAt.castL {Ls' : Array Slot} {st' : List Value} (q : Ls' = Ls) (q2 : st' = st) (k : OAt EL l Z bytes maxL own nm ret R n0 h0 Q SF h cells slots pc Ls' st') : OAt EL l Z bytes maxL own nm ret R n0 h0 Q SF h cells slots pc Ls st := q ▸ q2 ▸ k
theorem OAt.sf {SF' : List Addr} (q : ∀ x ∈ SF', x ∈ SF) (k : OAt EL l Z bytes maxL own nm ret R n0 h0 Q SF' h cells slots pc Ls st) : OAt EL l Z bytes maxL own nm ret R n0 h0 Q SF h cells slots pc Ls st :=
  fun p e s vm0 m args below meth c T locs C r X eT N => k p e s vm0 m args below meth c T locs C ⟨r.1, r.2.1, fun x hx => r.2.2 x (q x hx)⟩ X eT N
theorem OAt.plain {pc' : Nat} {Ls' : Array Slot} {st' : List Value} (k : OAt EL l Z bytes maxL own nm ret R n0 h0 Q SF h cells slots pc' Ls' st')
    (f : ∀ {p : Program} {e : Env} {below : List Frame} {m : MethodId} {c : Code} {T : State}, At T m c below → p.tables.exec = Jvm.exec → c.code = bytes → ∀ target, Steps p.tables e below (T.setTop (mkF m pc' Ls' st')) target → Steps p.tables e below (T.setTop (mkF m pc Ls st)) target) : OAt EL l Z bytes maxL own nm ret R n0 h0 Q SF h cells slots pc Ls st :=
  fun p e s vm0 m args below meth c T locs C r X eT N => (k p e s vm0 m args below meth c T locs C r X eT N).step (f X.here C.1 C.2.1)
theorem OAt.warm {pc' : Nat} {Ls' : Array Slot} {st' : List Value} (k : OAt EL l Z bytes maxL own nm ret R n0 h0 Q SF h cells slots pc' Ls' st')
    (f : ∀ {p : Program} {e : Env} {s : State} {m : MethodId} {args : Array Value} {below : List Frame} {meth : Method} {c : Code} {T : State} {locs : List Loc}, Cx Z EL bytes maxL own nm ret p s.vm m meth c → Stand p l e R s m args below meth c T locs cells slots → T.heap = h →
      ∃ T', Stand p l e R s m args below meth c T' locs cells slots ∧ T'.heap = h ∧ ∀ target, Steps p.tables e below (T'.setTop (mkF m pc' Ls' st')) target → Steps p.tables e below (T.setTop (mkF m pc Ls st)) target) : OAt EL l Z bytes maxL own nm ret R n0 h0 Q SF h cells slots pc Ls st :=
  fun p e s vm0 m args below meth c T locs C r X eT N => by
    obtain ⟨T', X', e', g⟩ := f (s := s.setVm vm0) C X eT
    exact (k p e s vm0 m args below meth c T' locs C r X' e' N).step g
/-- the heap goes on: nothing booked is written -/
theorem Rel.go {s : State} {vm0 : Vm} {SF' : List Addr} (r : Rel EL Z s h0 vm0 h SF) (q : CHr Z EL vm0 h vm0 h') (q2 : ∀ x ∈ SF', x ∈ SF ∨ (x < h'.size ∧ Safe Z EL vm0 h' x)) : Rel EL Z s h0 vm0 h' SF' := by
  obtain ⟨⟨k0, r1, r2⟩, r3, r4⟩ := r
  refine ⟨⟨k0, r1, Nat.le_trans r2 q.2.1⟩, r3.trans q, fun x hx => ?_⟩
  rcases q2 x hx with y | y
  · exact ⟨Nat.lt_of_lt_of_le (r4 x y).1 q.2.1, q.safe (r4 x y).1 (r4 x y).2⟩
  · exact y
theorem OAt.move {pc' : Nat} {Ls' : Array Slot} {st' : Heap → List Value} {cells' slots' : Nat} {P : Heap → Prop} {SF' : Heap → List Addr} (hg : ∀ h' vm, Z.vm.Alike vm → CHv Z EL vm h → (∀ x ∈ SF, SfAt Z EL vm h x) → P h' → CHr Z EL vm h vm h' ∧ ∀ x ∈ SF' h', x ∈ SF ∨ (x < h'.size ∧ Safe Z EL vm h' x)) (k : ∀ h', P h' → OAt EL l Z bytes maxL own nm ret R n0 h0 Q (SF' h') h' cells' slots' pc' Ls' (st' h'))
    (f : ∀ {p : Program} {e : Env} {s : State} {m : MethodId} {args : Array Value} {below : List Frame} {meth : Method} {c : Code} {T : State} {locs : List Loc}, Cx Z EL bytes maxL own nm ret p s.vm m meth c → Stand p l e R s m args below meth c T locs cells slots → T.heap = h → Fr n0 locs →
      ∃ T' h' locs', Stand p l e R s m args below meth c T' locs' cells' slots' ∧ T'.heap = h' ∧ Fr n0 locs' ∧ P h' ∧ ∀ target, Steps p.tables e below (T'.setTop (mkF m pc' Ls' (st' h'))) target → Steps p.tables e below (T.setTop (mkF m pc Ls st)) target) : OAt EL l Z bytes maxL own nm ret R n0 h0 Q SF h cells slots pc Ls st :=
  fun p e s vm0 m args below meth c T locs C r X eT N => by
    obtain ⟨T', h', locs', X', e', N', p', g⟩ := f (s := s.setVm vm0) C X eT N
    obtain ⟨q1, q2⟩ := hg h' vm0 C.2.2.2.2.2.2.1.alike r.2.1.1 r.2.2 p'
    exact (k h' p' p e s vm0 m args below meth c T' locs' C (r.go q1 q2) X' e' N').step g
theorem sf_ext {vm : Vm} (E : Ext h h') (H : CHv Z EL vm h) {a : Addr} (ha : a = h.size) (hl : a < h'.size) : CHr Z EL vm h vm h' ∧ ∀ x ∈ a :: SF, x ∈ SF ∨ (x < h'.size ∧ Safe Z EL vm h' x) :=
  ⟨CHr.ext E H, fun x hx => (List.mem_cons.mp hx).elim (fun e => Or.inr (by subst e; exact ⟨hl, (Safe.new (Nat.le_of_eq ha.symm)).ext E H⟩)) Or.inl⟩
theorem sf_wr {vm : Vm} {a : Addr} {sl : Nat} {v : Value} (W : Wr h h' a sl v) (H : CHv Z EL vm h) (hS : ∀ x ∈ SF, SfAt Z EL vm h x) (ha : a ∈ SF) : CHr Z EL vm h vm h' ∧ ∀ x ∈ SF, x ∈ SF ∨ (x < h'.size ∧ Safe Z EL vm h' x) := ⟨CHr.wr W (hS a ha).2 H, fun x hx => Or.inl hx⟩
theorem sf_keep {vm : Vm} {a : Addr} (K : Keep h h' [a]) (H : CHv Z EL vm h) (hS : ∀ x ∈ SF, SfAt Z EL vm h x) (ha : a ∈ SF) : CHr Z EL vm h vm h' ∧ ∀ x ∈ SF, x ∈ SF ∨ (x < h'.size ∧ Safe Z EL vm h' x) := ⟨CHr.keep K (fun x hx => by rw [List.mem_singleton.mp hx]; exact (hS a ha).2) H, fun x hx => Or.inl hx⟩
/-- the end -/
theorem OAt.done {v : Option Value} (hv : ret = none → v = none) (hq : ∀ S : Addr → Prop, (∀ x ∈ SF, S x) → Q v h S) (hc : cells ≤ R.cells) (hn : slots ≤ R.slots)
    (f : ∀ {p : Program} {e : Env} {s : State} {m : MethodId} {args : Array Value} {below : List Frame} {meth : Method} {c : Code} {T : State} {locs : List Loc} {fs : List Frame}, Cx Z EL bytes maxL own nm ret p s.vm m meth c → Stand p l e R s m args below meth c T locs cells slots →
      (∀ (f : JFrame) (acts : List Action), f.method = m → f.locked = none → f.entered = [] → (doReturn e (T.setTop f) acts v).1 = T.setFrames fs) → Steps p.tables e below (T.setTop (mkF m pc Ls st)) (T.setFrames fs)) : OAt EL l Z bytes maxL own nm ret R n0 h0 Q SF h cells slots pc Ls st :=
  fun p e s vm0 m args below meth c T locs C r X eT N => by
    have hl : meth.locks = false := C.2.2.2.2.1
    have hv' : meth.sig.returnType = none → v = none := fun q => hv (C.2.2.2.1.symm.trans q)
    obtain ⟨⟨k0, r1, r2⟩, r3, r4⟩ := r
    obtain ⟨ae, hE⟩ := C.2.2.2.2.2.2.2.2
    obtain ⟨fs, h1, h2, h3, h4⟩ := X.leaveW (v := v) r1 (by rw [eT]; exact r2) hv' hl
    have q := CHv.at X C.2.2.2.2.2.2.1 hE r3.1
    have hh : (T.setFrames fs).heap = h := eT
    have hvm : (T.setFrames fs).vm = T.vm := rfl
    refine ⟨_, _, f (s := s.setVm vm0) C X h1, h2, h3, v, locs, rfl, ⟨N, by rw [hh]; exact r3.2.1, by rw [hh, hvm]; exact r3.trans q, by rw [hh, hvm]; exact hq _ fun x hx => ⟨(r4 x hx).1, q.safe (r4 x hx).1 (r4 x hx).2⟩⟩, h4.1, h4.2.1, h4.2.2.1, h4.2.2.2.mono hc hn⟩
theorem iconst {i : Int} (v : Int32) (hd : decode bytes pc = .ok (.iconst i, 1)) (hv : Int32.ofInt i = v) (k : OAt EL l Z bytes maxL own nm ret R n0 h0 Q SF h cells slots (pc + 1) Ls (.int v :: st)) : OAt EL l Z bytes maxL own nm ret R n0 h0 Q SF h cells slots pc Ls st :=
  k.plain fun hh hx hby _ q => XS.iconst hh hx rfl (hb hby hd) (by rw [hv]; exact q)
theorem bipush {i : Int} (v : Int32) (hd : decode bytes pc = .ok (.bipush i, 2)) (hv : (Int8.ofInt i).toInt32 = v) (k : OAt EL l Z bytes maxL own nm ret R n0 h0 Q SF h cells slots (pc + 2) Ls (.int v :: st)) : OAt EL l Z bytes maxL own nm ret R n0 h0 Q SF h cells slots pc Ls st :=
  k.plain fun hh hx hby _ q => XS.bipush hh hx rfl (hb hby hd) (by rw [hv]; exact q)
theorem sipush {i : Int} (v : Int32) (hd : decode bytes pc = .ok (.sipush i, 3)) (hv : (Int16.ofInt i).toInt32 = v) (k : OAt EL l Z bytes maxL own nm ret R n0 h0 Q SF h cells slots (pc + 3) Ls (.int v :: st)) : OAt EL l Z bytes maxL own nm ret R n0 h0 Q SF h cells slots pc Ls st :=
  k.plain fun hh hx hby _ q => XS.sipush hh hx rfl (hb hby hd) (by rw [hv]; exact q)
theorem lconst {i : Fin 2} (v : Int64) (hd : decode bytes pc = .ok (.lconst i, 1)) (hv : Int64.ofNat i = v) (k : OAt EL l Z bytes maxL own nm ret R n0 h0 Q SF h cells slots (pc + 1) Ls (.long v :: st)) : OAt EL l Z bytes maxL own nm ret R n0 h0 Q SF h cells slots pc Ls st :=
  k.plain fun hh hx hby _ q => XS.lconst hh hx rfl (hb hby hd) (by rw [hv]; exact q)
theorem aconstNull (hd : decode bytes pc = .ok (.aconst_null, 1)) (k : OAt EL l Z bytes maxL own nm ret R n0 h0 Q SF h cells slots (pc + 1) Ls (.null :: st)) : OAt EL l Z bytes maxL own nm ret R n0 h0 Q SF h cells slots pc Ls st :=
  k.plain fun hh hx hby _ q => XS.aconstNull hh hx rfl (hb hby hd) q
theorem iload {i : Nat} {v : Int32} (hd : decode bytes pc = .ok (.iload i, 2)) (hl : Ls[i]? = some (.val (.int v))) (k : OAt EL l Z bytes maxL own nm ret R n0 h0 Q SF h cells slots (pc + 2) Ls (.int v :: st)) : OAt EL l Z bytes maxL own nm ret R n0 h0 Q SF h cells slots pc Ls st :=
  k.plain fun hh hx hby _ q => XS.iload hh hx rfl (hb hby hd) hl q
theorem iloadN {i : Fin 4} {v : Int32} (hd : decode bytes pc = .ok (.iload_n i, 1)) (hl : Ls[i.val]? = some (.val (.int v))) (k : OAt EL l Z bytes maxL own nm ret R n0 h0 Q SF h cells slots (pc + 1) Ls (.int v :: st)) : OAt EL l Z bytes maxL own nm ret R n0 h0 Q SF h cells slots pc Ls st :=
  k.plain fun hh hx hby _ q => XS.iloadN hh hx rfl (hb hby hd) hl q
theorem lload {i : Nat} {v : Int64} (hd : decode bytes pc = .ok (.lload i, 2)) (hl : Ls[i]? = some (.val (.long v))) (k : OAt EL l Z bytes maxL own nm ret R n0 h0 Q SF h cells slots (pc + 2) Ls (.long v :: st)) : OAt EL l Z bytes maxL own nm ret R n0 h0 Q SF h cells slots pc Ls st :=
  k.plain fun hh hx hby _ q => XS.lload hh hx rfl (hb hby hd) hl q
theorem lloadN {i : Fin 4} {v : Int64} (hd : decode bytes pc = .ok (.lload_n i, 1)) (hl : Ls[i.val]? = some (.val (.long v))) (k : OAt EL l Z bytes maxL own nm ret R n0 h0 Q SF h cells slots (pc + 1) Ls (.long v :: st)) : OAt EL l Z bytes maxL own nm ret R n0 h0 Q SF h cells slots pc Ls st :=
  k.plain fun hh hx hby _ q => XS.lloadN hh hx rfl (hb hby hd) hl q
theorem aload {i : Nat} {v : Value} (hd : decode bytes pc = .ok (.aload i, 2)) (hl : Ls[i]? = some (.val v)) (hv : v.isRef = true) (k : OAt EL l Z bytes maxL own nm ret R n0 h0 Q SF h cells slots (pc + 2) Ls (v :: st)) : OAt EL l Z bytes maxL own nm ret R n0 h0 Q SF h cells slots pc Ls st :=
  k.plain fun hh hx hby _ q => XS.aload hh hx rfl (hb hby hd) hl hv q
theorem aloadN {i : Fin 4} {v : Value} (hd : decode bytes pc = .ok (.aload_n i, 1)) (hl : Ls[i.val]? = some (.val v)) (hv : v.isRef = true) (k : OAt EL l Z bytes maxL own nm ret R n0 h0 Q SF h cells slots (pc + 1) Ls (v :: st)) : OAt EL l Z bytes maxL own nm ret R n0 h0 Q SF h cells slots pc Ls st :=
  k.plain fun hh hx hby _ q => XS.aloadN hh hx rfl (hb hby hd) hl hv q
theorem istore {i : Nat} {v : Int32} (L2 : Array Slot) (hd : decode bytes pc = .ok (.istore i, 2)) (hl : storeLocals Ls i (.int v) = some L2) (k : OAt EL l Z bytes maxL own nm ret R n0 h0 Q SF h cells slots (pc + 2) L2 st) : OAt EL l Z bytes maxL own nm ret R n0 h0 Q SF h cells slots pc Ls (.int v :: st) :=
  k.plain fun hh hx hby _ q => XS.istore hh hx rfl (hb hby hd) rfl hl q
theorem istoreN {i : Fin 4} {v : Int32} (L2 : Array Slot) (hd : decode bytes pc = .ok (.istore_n i, 1)) (hl : storeLocals Ls i.val (.int v) = some L2) (k : OAt EL l Z bytes maxL own nm ret R n0 h0 Q SF h cells slots (pc + 1) L2 st) : OAt EL l Z bytes maxL own nm ret R n0 h0 Q SF h cells slots pc Ls (.int v :: st) :=
  k.plain fun hh hx hby _ q => XS.istoreN hh hx rfl (hb hby hd) rfl hl q
theorem lstore {i : Nat} {v : Int64} (L2 : Array Slot) (hd : decode bytes pc = .ok (.lstore i, 2)) (hl : storeLocals Ls i (.long v) = some L2) (k : OAt EL l Z bytes maxL own nm ret R n0 h0 Q SF h cells slots (pc + 2) L2 st) : OAt EL l Z bytes maxL own nm ret R n0 h0 Q SF h cells slots pc Ls (.long v :: st) :=
  k.plain fun hh hx hby _ q => XS.lstore hh hx rfl (hb hby hd) rfl hl q
theorem lstoreN {i : Fin 4} {v : Int64} (L2 : Array Slot) (hd : decode bytes pc = .ok (.lstore_n i, 1)) (hl : storeLocals Ls i.val (.long v) = some L2) (k : OAt EL l Z bytes maxL own nm ret R n0 h0 Q SF h cells slots (pc + 1) L2 st) : OAt EL l Z bytes maxL own nm ret R n0 h0 Q SF h cells slots pc Ls (.long v :: st) :=
  k.plain fun hh hx hby _ q => XS.lstoreN hh hx rfl (hb hby hd) rfl hl q
theorem astore {i : Nat} {v : Value} (L2 : Array Slot) (hd : decode bytes pc = .ok (.astore i, 2)) (hv : v.isRef = true) (hl : storeLocals Ls i v = some L2) (k : OAt EL l Z bytes maxL own nm ret R n0 h0 Q SF h cells slots (pc + 2) L2 st) : OAt EL l Z bytes maxL own nm ret R n0 h0 Q SF h cells slots pc Ls (v :: st) :=
  k.plain fun hh hx hby _ q => XS.astore hh hx rfl (hb hby hd) rfl hv hl q
theorem astoreN {i : Fin 4} {v : Value} (L2 : Array Slot) (hd : decode bytes pc = .ok (.astore_n i, 1)) (hv : v.isRef = true) (hl : storeLocals Ls i.val v = some L2) (k : OAt EL l Z bytes maxL own nm ret R n0 h0 Q SF h cells slots (pc + 1) L2 st) : OAt EL l Z bytes maxL own nm ret R n0 h0 Q SF h cells slots pc Ls (v :: st) :=
  k.plain fun hh hx hby _ q => XS.astoreN hh hx rfl (hb hby hd) rfl hv hl q
theorem iinc {i : Nat} {z : Int} {v : Int32} (w : Int32) (L2 : Array Slot) (hd : decode bytes pc = .ok (.iinc i z, 3)) (hw : Int32.ofInt z = w) (hl : Ls[i]? = some (.val (.int v))) (hl' : storeLocals Ls i (.int (v + w)) = some L2) (k : OAt EL l Z bytes maxL own nm ret R n0 h0 Q SF h cells slots (pc + 3) L2 st) : OAt EL l Z bytes maxL own nm ret R n0 h0 Q SF h cells slots pc Ls st :=
  k.plain fun hh hx hby _ q => XS.iinc hh hx rfl (hb hby hd) hl (by rw [hw]; exact hl') q
theorem iadd {x y : Int32} (hd : decode bytes pc = .ok (.iadd, 1)) (k : OAt EL l Z bytes maxL own nm ret R n0 h0 Q SF h cells slots (pc + 1) Ls (.int (x + y) :: st)) : OAt EL l Z bytes maxL own nm ret R n0 h0 Q SF h cells slots pc Ls (.int y :: .int x :: st) :=
  k.plain fun hh hx hby _ q => XS.iadd hh hx rfl (hb hby hd) rfl q
theorem isub {x y : Int32} (hd : decode bytes pc = .ok (.isub, 1)) (k : OAt EL l Z bytes maxL own nm ret R n0 h0 Q SF h cells slots (pc + 1) Ls (.int (x - y) :: st)) : OAt EL l Z bytes maxL own nm ret R n0 h0 Q SF h cells slots pc Ls (.int y :: .int x :: st) :=
  k.plain fun hh hx hby _ q => XS.isub hh hx rfl (hb hby hd) rfl q
theorem imul {x y : Int32} (hd : decode bytes pc = .ok (.imul, 1)) (k : OAt EL l Z bytes maxL own nm ret R n0 h0 Q SF h cells slots (pc + 1) Ls (.int (x * y) :: st)) : OAt EL l Z bytes maxL own nm ret R n0 h0 Q SF h cells slots pc Ls (.int y :: .int x :: st) :=
  k.plain fun hh hx hby _ q => XS.imul hh hx rfl (hb hby hd) rfl q
theorem iand {x y : Int32} (hd : decode bytes pc = .ok (.iand, 1)) (k : OAt EL l Z bytes maxL own nm ret R n0 h0 Q SF h cells slots (pc + 1) Ls (.int (x &&& y) :: st)) : OAt EL l Z bytes maxL own nm ret R n0 h0 Q SF h cells slots pc Ls (.int y :: .int x :: st) :=
  k.plain fun hh hx hby _ q => XS.iand hh hx rfl (hb hby hd) rfl q
theorem ior {x y : Int32} (hd : decode bytes pc = .ok (.ior, 1)) (k : OAt EL l Z bytes maxL own nm ret R n0 h0 Q SF h cells slots (pc + 1) Ls (.int (x ||| y) :: st)) : OAt EL l Z bytes maxL own nm ret R n0 h0 Q SF h cells slots pc Ls (.int y :: .int x :: st) :=
  k.plain fun hh hx hby _ q => XS.ior hh hx rfl (hb hby hd) rfl q
theorem ixor {x y : Int32} (hd : decode bytes pc = .ok (.ixor, 1)) (k : OAt EL l Z bytes maxL own nm ret R n0 h0 Q SF h cells slots (pc + 1) Ls (.int (x ^^^ y) :: st)) : OAt EL l Z bytes maxL own nm ret R n0 h0 Q SF h cells slots pc Ls (.int y :: .int x :: st) :=
  k.plain fun hh hx hby _ q => XS.ixor hh hx rfl (hb hby hd) rfl q
theorem ishl {x y : Int32} (hd : decode bytes pc = .ok (.ishl, 1)) (k : OAt EL l Z bytes maxL own nm ret R n0 h0 Q SF h cells slots (pc + 1) Ls (.int (x <<< (y &&& 31)) :: st)) : OAt EL l Z bytes maxL own nm ret R n0 h0 Q SF h cells slots pc Ls (.int y :: .int x :: st) :=
  k.plain fun hh hx hby _ q => XS.ishl hh hx rfl (hb hby hd) rfl q
theorem ishr {x y : Int32} (hd : decode bytes pc = .ok (.ishr, 1)) (k : OAt EL l Z bytes maxL own nm ret R n0 h0 Q SF h cells slots (pc + 1) Ls (.int (x >>> (y &&& 31)) :: st)) : OAt EL l Z bytes maxL own nm ret R n0 h0 Q SF h cells slots pc Ls (.int y :: .int x :: st) :=
  k.plain fun hh hx hby _ q => XS.ishr hh hx rfl (hb hby hd) rfl q
theorem iushr {x y : Int32} (hd : decode bytes pc = .ok (.iushr, 1)) (k : OAt EL l Z bytes maxL own nm ret R n0 h0 Q SF h cells slots (pc + 1) Ls (.int ((x.toUInt32 >>> (y &&& 31).toUInt32).toInt32) :: st)) : OAt EL l Z bytes maxL own nm ret R n0 h0 Q SF h cells slots pc Ls (.int y :: .int x :: st) :=
  k.plain fun hh hx hby _ q => XS.iushr hh hx rfl (hb hby hd) rfl q
theorem idiv {x y : Int32} (hd : decode bytes pc = .ok (.idiv, 1)) (hy : y ≠ 0) (k : OAt EL l Z bytes maxL own nm ret R n0 h0 Q SF h cells slots (pc + 1) Ls (.int (x / y) :: st)) : OAt EL l Z bytes maxL own nm ret R n0 h0 Q SF h cells slots pc Ls (.int y :: .int x :: st) :=
  k.plain fun hh hx hby _ q => XS.idiv hh hx rfl (hb hby hd) rfl hy q
theorem ladd {x y : Int64} (hd : decode bytes pc = .ok (.ladd, 1)) (k : OAt EL l Z bytes maxL own nm ret R n0 h0 Q SF h cells slots (pc + 1) Ls (.long (x + y) :: st)) : OAt EL l Z bytes maxL own nm ret R n0 h0 Q SF h cells slots pc Ls (.long y :: .long x :: st) :=
  k.plain fun hh hx hby _ q => XS.ladd hh hx rfl (hb hby hd) rfl q
theorem lsub {x y : Int64} (hd : decode bytes pc = .ok (.lsub, 1)) (k : OAt EL l Z bytes maxL own nm ret R n0 h0 Q SF h cells slots (pc + 1) Ls (.long (x - y) :: st)) : OAt EL l Z bytes maxL own nm ret R n0 h0 Q SF h cells slots pc Ls (.long y :: .long x :: st) :=
  k.plain fun hh hx hby _ q => XS.lsub hh hx rfl (hb hby hd) rfl q
theorem lmul {x y : Int64} (hd : decode bytes pc = .ok (.lmul, 1)) (k : OAt EL l Z bytes maxL own nm ret R n0 h0 Q SF h cells slots (pc + 1) Ls (.long (x * y) :: st)) : OAt EL l Z bytes maxL own nm ret R n0 h0 Q SF h cells slots pc Ls (.long y :: .long x :: st) :=
  k.plain fun hh hx hby _ q => XS.lmul hh hx rfl (hb hby hd) rfl q
theorem land {x y : Int64} (hd : decode bytes pc = .ok (.land, 1)) (k : OAt EL l Z bytes maxL own nm ret R n0 h0 Q SF h cells slots (pc + 1) Ls (.long (x &&& y) :: st)) : OAt EL l Z bytes maxL own nm ret R n0 h0 Q SF h cells slots pc Ls (.long y :: .long x :: st) :=
  k.plain fun hh hx hby _ q => XS.land hh hx rfl (hb hby hd) rfl q
theorem lor {x y : Int64} (hd : decode bytes pc = .ok (.lor, 1)) (k : OAt EL l Z bytes maxL own nm ret R n0 h0 Q SF h cells slots (pc + 1) Ls (.long (x ||| y) :: st)) : OAt EL l Z bytes maxL own nm ret R n0 h0 Q SF h cells slots pc Ls (.long y :: .long x :: st) :=
  k.plain fun hh hx hby _ q => XS.lor hh hx rfl (hb hby hd) rfl q
theorem lxor {x y : Int64} (hd : decode bytes pc = .ok (.lxor, 1)) (k : OAt EL l Z bytes maxL own nm ret R n0 h0 Q SF h cells slots (pc + 1) Ls (.long (x ^^^ y) :: st)) : OAt EL l Z bytes maxL own nm ret R n0 h0 Q SF h cells slots pc Ls (.long y :: .long x :: st) :=
  k.plain fun hh hx hby _ q => XS.lxor hh hx rfl (hb hby hd) rfl q
theorem lshl {x : Int64} {y : Int32} (hd : decode bytes pc = .ok (.lshl, 1)) (k : OAt EL l Z bytes maxL own nm ret R n0 h0 Q SF h cells slots (pc + 1) Ls (.long (x <<< (y &&& 0x3f).toInt64) :: st)) : OAt EL l Z bytes maxL own nm ret R n0 h0 Q SF h cells slots pc Ls (.int y :: .long x :: st) :=
  k.plain fun hh hx hby _ q => XS.lshl hh hx rfl (hb hby hd) rfl q
theorem lshr {x : Int64} {y : Int32} (hd : decode bytes pc = .ok (.lshr, 1)) (k : OAt EL l Z bytes maxL own nm ret R n0 h0 Q SF h cells slots (pc + 1) Ls (.long (x >>> (y &&& 0x3f).toInt64) :: st)) : OAt EL l Z bytes maxL own nm ret R n0 h0 Q SF h cells slots pc Ls (.int y :: .long x :: st) :=
  k.plain fun hh hx hby _ q => XS.lshr hh hx rfl (hb hby hd) rfl q
theorem lushr {x : Int64} {y : Int32} (hd : decode bytes pc = .ok (.lushr, 1)) (k : OAt EL l Z bytes maxL own nm ret R n0 h0 Q SF h cells slots (pc + 1) Ls (.long ((x.toUInt64 >>> (y &&& 0x3f).toInt64.toUInt64).toInt64) :: st)) : OAt EL l Z bytes maxL own nm ret R n0 h0 Q SF h cells slots pc Ls (.int y :: .long x :: st) :=
  k.plain fun hh hx hby _ q => XS.lushr hh hx rfl (hb hby hd) rfl q
theorem ldiv {x y : Int64} (hd : decode bytes pc = .ok (.ldiv, 1)) (hy : y ≠ 0) (k : OAt EL l Z bytes maxL own nm ret R n0 h0 Q SF h cells slots (pc + 1) Ls (.long (x / y) :: st)) : OAt EL l Z bytes maxL own nm ret R n0 h0 Q SF h cells slots pc Ls (.long y :: .long x :: st) :=
  k.plain fun hh hx hby _ q => XS.ldiv hh hx rfl (hb hby hd) rfl hy q
theorem lrem {x y : Int64} (hd : decode bytes pc = .ok (.lrem, 1)) (hy : y ≠ 0) (k : OAt EL l Z bytes maxL own nm ret R n0 h0 Q SF h cells slots (pc + 1) Ls (.long (x - (x / y) * y) :: st)) : OAt EL l Z bytes maxL own nm ret R n0 h0 Q SF h cells slots pc Ls (.long y :: .long x :: st) :=
  k.plain fun hh hx hby _ q => XS.lrem hh hx rfl (hb hby hd) rfl hy q
theorem ineg {x : Int32} (hd : decode bytes pc = .ok (.ineg, 1)) (k : OAt EL l Z bytes maxL own nm ret R n0 h0 Q SF h cells slots (pc + 1) Ls (.int (-x) :: st)) : OAt EL l Z bytes maxL own nm ret R n0 h0 Q SF h cells slots pc Ls (.int x :: st) :=
  k.plain fun hh hx hby _ q => XS.ineg hh hx rfl (hb hby hd) rfl q
theorem lneg {x : Int64} (hd : decode bytes pc = .ok (.lneg, 1)) (k : OAt EL l Z bytes maxL own nm ret R n0 h0 Q SF h cells slots (pc + 1) Ls (.long (-x) :: st)) : OAt EL l Z bytes maxL own nm ret R n0 h0 Q SF h cells slots pc Ls (.long x :: st) :=
  k.plain fun hh hx hby _ q => XS.lneg hh hx rfl (hb hby hd) rfl q
theorem i2l {x : Int32} (hd : decode bytes pc = .ok (.i2l, 1)) (k : OAt EL l Z bytes maxL own nm ret R n0 h0 Q SF h cells slots (pc + 1) Ls (.long x.toInt64 :: st)) : OAt EL l Z bytes maxL own nm ret R n0 h0 Q SF h cells slots pc Ls (.int x :: st) :=
  k.plain fun hh hx hby _ q => XS.i2l hh hx rfl (hb hby hd) rfl q
theorem l2i {x : Int64} (hd : decode bytes pc = .ok (.l2i, 1)) (k : OAt EL l Z bytes maxL own nm ret R n0 h0 Q SF h cells slots (pc + 1) Ls (.int x.toInt32 :: st)) : OAt EL l Z bytes maxL own nm ret R n0 h0 Q SF h cells slots pc Ls (.long x :: st) :=
  k.plain fun hh hx hby _ q => XS.l2i hh hx rfl (hb hby hd) rfl q
theorem i2b {x : Int32} (hd : decode bytes pc = .ok (.i2b, 1)) (k : OAt EL l Z bytes maxL own nm ret R n0 h0 Q SF h cells slots (pc + 1) Ls (.int x.toInt8.toInt32 :: st)) : OAt EL l Z bytes maxL own nm ret R n0 h0 Q SF h cells slots pc Ls (.int x :: st) :=
  k.plain fun hh hx hby _ q => XS.i2b hh hx rfl (hb hby hd) rfl q
theorem i2s {x : Int32} (hd : decode bytes pc = .ok (.i2s, 1)) (k : OAt EL l Z bytes maxL own nm ret R n0 h0 Q SF h cells slots (pc + 1) Ls (.int x.toInt16.toInt32 :: st)) : OAt EL l Z bytes maxL own nm ret R n0 h0 Q SF h cells slots pc Ls (.int x :: st) :=
  k.plain fun hh hx hby _ q => XS.i2s hh hx rfl (hb hby hd) rfl q
theorem i2c {x : Int32} (hd : decode bytes pc = .ok (.i2c, 1)) (k : OAt EL l Z bytes maxL own nm ret R n0 h0 Q SF h cells slots (pc + 1) Ls (.int x.toUInt32.toUInt16.toUInt32.toInt32 :: st)) : OAt EL l Z bytes maxL own nm ret R n0 h0 Q SF h cells slots pc Ls (.int x :: st) :=
  k.plain fun hh hx hby _ q => XS.i2c hh hx rfl (hb hby hd) rfl q
theorem lcmp {x y : Int64} (hd : decode bytes pc = .ok (.lcmp, 1)) (k : OAt EL l Z bytes maxL own nm ret R n0 h0 Q SF h cells slots (pc + 1) Ls (.int (lcmpV x y) :: st)) : OAt EL l Z bytes maxL own nm ret R n0 h0 Q SF h cells slots pc Ls (.long y :: .long x :: st) :=
  k.plain fun hh hx hby _ q => XS.lcmp hh hx rfl (hb hby hd) rfl (by rw [← lcW] at q; exact q)
theorem pop {v : Value} (hd : decode bytes pc = .ok (.pop, 1)) (hc : v.category = 1) (k : OAt EL l Z bytes maxL own nm ret R n0 h0 Q SF h cells slots (pc + 1) Ls st) : OAt EL l Z bytes maxL own nm ret R n0 h0 Q SF h cells slots pc Ls (v :: st) :=
  k.plain fun hh hx hby _ q => XS.pop hh hx rfl (hb hby hd) rfl hc q
theorem dup {v : Value} (hd : decode bytes pc = .ok (.dup, 1)) (hc : v.category = 1) (k : OAt EL l Z bytes maxL own nm ret R n0 h0 Q SF h cells slots (pc + 1) Ls (v :: v :: st)) : OAt EL l Z bytes maxL own nm ret R n0 h0 Q SF h cells slots pc Ls (v :: st) :=
  k.plain fun hh hx hby _ q => XS.dup hh hx rfl (hb hby hd) rfl hc q
theorem dupX1 {v w : Value} (hd : decode bytes pc = .ok (.dup_x1, 1)) (hc : v.category = 1) (hc' : w.category = 1) (k : OAt EL l Z bytes maxL own nm ret R n0 h0 Q SF h cells slots (pc + 1) Ls (v :: w :: v :: st)) : OAt EL l Z bytes maxL own nm ret R n0 h0 Q SF h cells slots pc Ls (v :: w :: st) :=
  k.plain fun hh hx hby _ q => XS.dupX1 hh hx rfl (hb hby hd) rfl hc hc' q
theorem dup2 {v w : Value} (hd : decode bytes pc = .ok (.dup2, 1)) (hc : v.category = 1) (hc' : w.category = 1) (k : OAt EL l Z bytes maxL own nm ret R n0 h0 Q SF h cells slots (pc + 1) Ls (v :: w :: v :: w :: st)) : OAt EL l Z bytes maxL own nm ret R n0 h0 Q SF h cells slots pc Ls (v :: w :: st) :=
  k.plain fun hh hx hby _ q => Jvm.Free.XT.dup2 hh hx rfl (hb hby hd) rfl hc hc' q
theorem dup2L {x : Int64} (hd : decode bytes pc = .ok (.dup2, 1)) (k : OAt EL l Z bytes maxL own nm ret R n0 h0 Q SF h cells slots (pc + 1) Ls (.long x :: .long x :: st)) : OAt EL l Z bytes maxL own nm ret R n0 h0 Q SF h cells slots pc Ls (.long x :: st) :=
  k.plain fun hh hx hby _ q => Jvm.Free.XT.dup2L hh hx rfl (hb hby hd) rfl q
theorem goto_ {o : Int} (pc' : Nat) (hd : decode bytes pc = .ok (.goto o, 3)) (ho : 0 ≤ (pc : Int) + o) (hp : ((pc : Int) + o).toNat = pc') (k : OAt EL l Z bytes maxL own nm ret R n0 h0 Q SF h cells slots pc' Ls st) : OAt EL l Z bytes maxL own nm ret R n0 h0 Q SF h cells slots pc Ls st :=
  k.plain fun hh hx hby _ q => XS.goto hh hx rfl rfl (hb hby hd) ho hp q
theorem icmp_eq {x y : Int32} {o : Int} (pc' : Nat) (hd : decode bytes pc = .ok (.if_icmp .eq o, 3)) (ho : 0 ≤ (pc : Int) + o) (hp : ((pc : Int) + o).toNat = pc') (kt : x = y → OAt EL l Z bytes maxL own nm ret R n0 h0 Q SF h cells slots pc' Ls st) (kf : ¬ x = y → OAt EL l Z bytes maxL own nm ret R n0 h0 Q SF h cells slots (pc + 3) Ls st) : OAt EL l Z bytes maxL own nm ret R n0 h0 Q SF h cells slots pc Ls (.int y :: .int x :: st) := by
  by_cases hc : x = y
  · exact (kt hc).plain fun hh hx hby _ q => XS.icmpYes hh hx rfl rfl (hb hby hd) rfl (teq hc).1 ho hp q
  · exact (kf hc).plain fun hh hx hby _ q => XS.icmpNo hh hx rfl (hb hby hd) rfl (feq hc).1 q
theorem if_eq {x : Int32} {o : Int} (pc' : Nat) (hd : decode bytes pc = .ok (.ifCond .eq o, 3)) (ho : 0 ≤ (pc : Int) + o) (hp : ((pc : Int) + o).toNat = pc') (kt : x = (0 : Int32) → OAt EL l Z bytes maxL own nm ret R n0 h0 Q SF h cells slots pc' Ls st) (kf : ¬ x = (0 : Int32) → OAt EL l Z bytes maxL own nm ret R n0 h0 Q SF h cells slots (pc + 3) Ls st) : OAt EL l Z bytes maxL own nm ret R n0 h0 Q SF h cells slots pc Ls (.int x :: st) := by
  by_cases hc : x = (0 : Int32)
  · exact (kt hc).plain fun hh hx hby _ q => XS.ifYes hh hx rfl rfl (hb hby hd) rfl ((if0 _ _).trans (teq hc).1) ho hp q
  · exact (kf hc).plain fun hh hx hby _ q => XS.ifNo hh hx rfl (hb hby hd) rfl ((if0 _ _).trans (feq hc).1) q
theorem icmp_ne {x y : Int32} {o : Int} (pc' : Nat) (hd : decode bytes pc = .ok (.if_icmp .ne o, 3)) (ho : 0 ≤ (pc : Int) + o) (hp : ((pc : Int) + o).toNat = pc') (kt : ¬ x = y → OAt EL l Z bytes maxL own nm ret R n0 h0 Q SF h cells slots pc' Ls st) (kf : x = y → OAt EL l Z bytes maxL own nm ret R n0 h0 Q SF h cells slots (pc + 3) Ls st) : OAt EL l Z bytes maxL own nm ret R n0 h0 Q SF h cells slots pc Ls (.int y :: .int x :: st) := by
  by_cases hc : ¬ x = y
  · exact (kt hc).plain fun hh hx hby _ q => XS.icmpYes hh hx rfl rfl (hb hby hd) rfl (feq hc).2 ho hp q
  · have hc' := Classical.not_not.mp hc; exact (kf hc').plain fun hh hx hby _ q => XS.icmpNo hh hx rfl (hb hby hd) rfl (teq hc').2 q
theorem if_ne {x : Int32} {o : Int} (pc' : Nat) (hd : decode bytes pc = .ok (.ifCond .ne o, 3)) (ho : 0 ≤ (pc : Int) + o) (hp : ((pc : Int) + o).toNat = pc') (kt : ¬ x = (0 : Int32) → OAt EL l Z bytes maxL own nm ret R n0 h0 Q SF h cells slots pc' Ls st) (kf : x = (0 : Int32) → OAt EL l Z bytes maxL own nm ret R n0 h0 Q SF h cells slots (pc + 3) Ls st) : OAt EL l Z bytes maxL own nm ret R n0 h0 Q SF h cells slots pc Ls (.int x :: st) := by
  by_cases hc : ¬ x = (0 : Int32)
  · exact (kt hc).plain fun hh hx hby _ q => XS.ifYes hh hx rfl rfl (hb hby hd) rfl ((if0 _ _).trans (feq hc).2) ho hp q
  · have hc' := Classical.not_not.mp hc; exact (kf hc').plain fun hh hx hby _ q => XS.ifNo hh hx rfl (hb hby hd) rfl ((if0 _ _).trans (teq hc').2) q
theorem icmp_lt {x y : Int32} {o : Int} (pc' : Nat) (hd : decode bytes pc = .ok (.if_icmp .lt o, 3)) (ho : 0 ≤ (pc : Int) + o) (hp : ((pc : Int) + o).toNat = pc') (kt : x < y → OAt EL l Z bytes maxL own nm ret R n0 h0 Q SF h cells slots pc' Ls st) (kf : ¬ x < y → OAt EL l Z bytes maxL own nm ret R n0 h0 Q SF h cells slots (pc + 3) Ls st) : OAt EL l Z bytes maxL own nm ret R n0 h0 Q SF h cells slots pc Ls (.int y :: .int x :: st) := by
  by_cases hc : x < y
  · exact (kt hc).plain fun hh hx hby _ q => XS.icmpYes hh hx rfl rfl (hb hby hd) rfl (tlt hc).1 ho hp q
  · exact (kf hc).plain fun hh hx hby _ q => XS.icmpNo hh hx rfl (hb hby hd) rfl (flt hc).1 q
theorem if_lt {x : Int32} {o : Int} (pc' : Nat) (hd : decode bytes pc = .ok (.ifCond .lt o, 3)) (ho : 0 ≤ (pc : Int) + o) (hp : ((pc : Int) + o).toNat = pc') (kt : x < (0 : Int32) → OAt EL l Z bytes maxL own nm ret R n0 h0 Q SF h cells slots pc' Ls st) (kf : ¬ x < (0 : Int32) → OAt EL l Z bytes maxL own nm ret R n0 h0 Q SF h cells slots (pc + 3) Ls st) : OAt EL l Z bytes maxL own nm ret R n0 h0 Q SF h cells slots pc Ls (.int x :: st) := by
  by_cases hc : x < (0 : Int32)
  · exact (kt hc).plain fun hh hx hby _ q => XS.ifYes hh hx rfl rfl (hb hby hd) rfl ((if0 _ _).trans (tlt hc).1) ho hp q
  · exact (kf hc).plain fun hh hx hby _ q => XS.ifNo hh hx rfl (hb hby hd) rfl ((if0 _ _).trans (flt hc).1) q
theorem icmp_ge {x y : Int32} {o : Int} (pc' : Nat) (hd : decode bytes pc = .ok (.if_icmp .ge o, 3)) (ho : 0 ≤ (pc : Int) + o) (hp : ((pc : Int) + o).toNat = pc') (kt : ¬ x < y → OAt EL l Z bytes maxL own nm ret R n0 h0 Q SF h cells slots pc' Ls st) (kf : x < y → OAt EL l Z bytes maxL own nm ret R n0 h0 Q SF h cells slots (pc + 3) Ls st) : OAt EL l Z bytes maxL own nm ret R n0 h0 Q SF h cells slots pc Ls (.int y :: .int x :: st) := by
  by_cases hc : ¬ x < y
  · exact (kt hc).plain fun hh hx hby _ q => XS.icmpYes hh hx rfl rfl (hb hby hd) rfl (flt hc).2.1 ho hp q
  · have hc' := Classical.not_not.mp hc; exact (kf hc').plain fun hh hx hby _ q => XS.icmpNo hh hx rfl (hb hby hd) rfl (tlt hc').2.1 q
theorem if_ge {x : Int32} {o : Int} (pc' : Nat) (hd : decode bytes pc = .ok (.ifCond .ge o, 3)) (ho : 0 ≤ (pc : Int) + o) (hp : ((pc : Int) + o).toNat = pc') (kt : ¬ x < (0 : Int32) → OAt EL l Z bytes maxL own nm ret R n0 h0 Q SF h cells slots pc' Ls st) (kf : x < (0 : Int32) → OAt EL l Z bytes maxL own nm ret R n0 h0 Q SF h cells slots (pc + 3) Ls st) : OAt EL l Z bytes maxL own nm ret R n0 h0 Q SF h cells slots pc Ls (.int x :: st) := by
  by_cases hc : ¬ x < (0 : Int32)
  · exact (kt hc).plain fun hh hx hby _ q => XS.ifYes hh hx rfl rfl (hb hby hd) rfl ((if0 _ _).trans (flt hc).2.1) ho hp q
  · have hc' := Classical.not_not.mp hc; exact (kf hc').plain fun hh hx hby _ q => XS.ifNo hh hx rfl (hb hby hd) rfl ((if0 _ _).trans (tlt hc').2.1) q
theorem icmp_gt {x y : Int32} {o : Int} (pc' : Nat) (hd : decode bytes pc = .ok (.if_icmp .gt o, 3)) (ho : 0 ≤ (pc : Int) + o) (hp : ((pc : Int) + o).toNat = pc') (kt : y < x → OAt EL l Z bytes maxL own nm ret R n0 h0 Q SF h cells slots pc' Ls st) (kf : ¬ y < x → OAt EL l Z bytes maxL own nm ret R n0 h0 Q SF h cells slots (pc + 3) Ls st) : OAt EL l Z bytes maxL own nm ret R n0 h0 Q SF h cells slots pc Ls (.int y :: .int x :: st) := by
  by_cases hc : y < x
  · exact (kt hc).plain fun hh hx hby _ q => XS.icmpYes hh hx rfl rfl (hb hby hd) rfl (tlt hc).2.2.1 ho hp q
  · exact (kf hc).plain fun hh hx hby _ q => XS.icmpNo hh hx rfl (hb hby hd) rfl (flt hc).2.2.1 q
theorem if_gt {x : Int32} {o : Int} (pc' : Nat) (hd : decode bytes pc = .ok (.ifCond .gt o, 3)) (ho : 0 ≤ (pc : Int) + o) (hp : ((pc : Int) + o).toNat = pc') (kt : (0 : Int32) < x → OAt EL l Z bytes maxL own nm ret R n0 h0 Q SF h cells slots pc' Ls st) (kf : ¬ (0 : Int32) < x → OAt EL l Z bytes maxL own nm ret R n0 h0 Q SF h cells slots (pc + 3) Ls st) : OAt EL l Z bytes maxL own nm ret R n0 h0 Q SF h cells slots pc Ls (.int x :: st) := by
  by_cases hc : (0 : Int32) < x
  · exact (kt hc).plain fun hh hx hby _ q => XS.ifYes hh hx rfl rfl (hb hby hd) rfl ((if0 _ _).trans (tlt hc).2.2.1) ho hp q
  · exact (kf hc).plain fun hh hx hby _ q => XS.ifNo hh hx rfl (hb hby hd) rfl ((if0 _ _).trans (flt hc).2.2.1) q
theorem icmp_le {x y : Int32} {o : Int} (pc' : Nat) (hd : decode bytes pc = .ok (.if_icmp .le o, 3)) (ho : 0 ≤ (pc : Int) + o) (hp : ((pc : Int) + o).toNat = pc') (kt : ¬ y < x → OAt EL l Z bytes maxL own nm ret R n0 h0 Q SF h cells slots pc' Ls st) (kf : y < x → OAt EL l Z bytes maxL own nm ret R n0 h0 Q SF h cells slots (pc + 3) Ls st) : OAt EL l Z bytes maxL own nm ret R n0 h0 Q SF h cells slots pc Ls (.int y :: .int x :: st) := by
  by_cases hc : ¬ y < x
  · exact (kt hc).plain fun hh hx hby _ q => XS.icmpYes hh hx rfl rfl (hb hby hd) rfl (flt hc).2.2.2 ho hp q
  · have hc' := Classical.not_not.mp hc; exact (kf hc').plain fun hh hx hby _ q => XS.icmpNo hh hx rfl (hb hby hd) rfl (tlt hc').2.2.2 q
theorem if_le {x : Int32} {o : Int} (pc' : Nat) (hd : decode bytes pc = .ok (.ifCond .le o, 3)) (ho : 0 ≤ (pc : Int) + o) (hp : ((pc : Int) + o).toNat = pc') (kt : ¬ (0 : Int32) < x → OAt EL l Z bytes maxL own nm ret R n0 h0 Q SF h cells slots pc' Ls st) (kf : (0 : Int32) < x → OAt EL l Z bytes maxL own nm ret R n0 h0 Q SF h cells slots (pc + 3) Ls st) : OAt EL l Z bytes maxL own nm ret R n0 h0 Q SF h cells slots pc Ls (.int x :: st) := by
  by_cases hc : ¬ (0 : Int32) < x
  · exact (kt hc).plain fun hh hx hby _ q => XS.ifYes hh hx rfl rfl (hb hby hd) rfl ((if0 _ _).trans (flt hc).2.2.2) ho hp q
  · have hc' := Classical.not_not.mp hc; exact (kf hc').plain fun hh hx hby _ q => XS.ifNo hh hx rfl (hb hby hd) rfl ((if0 _ _).trans (tlt hc').2.2.2) q
theorem ifnullYes {o : Int} (pc' : Nat) (hd : decode bytes pc = .ok (.ifnull o, 3)) (ho : 0 ≤ (pc : Int) + o) (hp : ((pc : Int) + o).toNat = pc') (k : OAt EL l Z bytes maxL own nm ret R n0 h0 Q SF h cells slots pc' Ls st) : OAt EL l Z bytes maxL own nm ret R n0 h0 Q SF h cells slots pc Ls (.null :: st) :=
  k.plain fun hh hx hby _ q => XS.ifnullYes hh hx rfl rfl (hb hby hd) rfl ho hp q
theorem ifnullNo {b : Addr} {o : Int} (hd : decode bytes pc = .ok (.ifnull o, 3)) (k : OAt EL l Z bytes maxL own nm ret R n0 h0 Q SF h cells slots (pc + 3) Ls st) : OAt EL l Z bytes maxL own nm ret R n0 h0 Q SF h cells slots pc Ls (.ref b :: st) :=
  k.plain fun hh hx hby _ q => XS.ifnullNo hh hx rfl (hb hby hd) rfl q
theorem ifnonnullYes {b : Addr} {o : Int} (pc' : Nat) (hd : decode bytes pc = .ok (.ifnonnull o, 3)) (ho : 0 ≤ (pc : Int) + o) (hp : ((pc : Int) + o).toNat = pc') (k : OAt EL l Z bytes maxL own nm ret R n0 h0 Q SF h cells slots pc' Ls st) : OAt EL l Z bytes maxL own nm ret R n0 h0 Q SF h cells slots pc Ls (.ref b :: st) :=
  k.plain fun hh hx hby _ q => XS.ifnonnullYes hh hx rfl rfl (hb hby hd) rfl ho hp q
theorem ifnonnullNo {o : Int} (hd : decode bytes pc = .ok (.ifnonnull o, 3)) (k : OAt EL l Z bytes maxL own nm ret R n0 h0 Q SF h cells slots (pc + 3) Ls st) : OAt EL l Z bytes maxL own nm ret R n0 h0 Q SF h cells slots pc Ls (.null :: st) :=
  k.plain fun hh hx hby _ q => XS.ifnonnullNo hh hx rfl (hb hby hd) rfl q
theorem acmp_eq {x y : Value} {o : Int} (pc' : Nat) (hd : decode bytes pc = .ok (.if_acmp .eq o, 3)) (ho : 0 ≤ (pc : Int) + o) (hp : ((pc : Int) + o).toNat = pc') (hx' : x.isRef = true) (hy' : y.isRef = true) (kt : x = y → OAt EL l Z bytes maxL own nm ret R n0 h0 Q SF h cells slots pc' Ls st) (kf : ¬ x = y → OAt EL l Z bytes maxL own nm ret R n0 h0 Q SF h cells slots (pc + 3) Ls st) : OAt EL l Z bytes maxL own nm ret R n0 h0 Q SF h cells slots pc Ls (y :: x :: st) := by
  by_cases hc : x = y
  · exact (kt hc).plain fun hh hx hby _ q => Jvm.Free.XT.acmpYes hh hx rfl rfl (hb hby hd) rfl hx' hy' (Jvm.Free.XT.aa_eq_t hc) ho hp q
  · exact (kf hc).plain fun hh hx hby _ q => Jvm.Free.XT.acmpNo hh hx rfl (hb hby hd) rfl hx' hy' (Jvm.Free.XT.aa_eq_f hc) q
theorem acmp_ne {x y : Value} {o : Int} (pc' : Nat) (hd : decode bytes pc = .ok (.if_acmp .ne o, 3)) (ho : 0 ≤ (pc : Int) + o) (hp : ((pc : Int) + o).toNat = pc') (hx' : x.isRef = true) (hy' : y.isRef = true) (kt : ¬ x = y → OAt EL l Z bytes maxL own nm ret R n0 h0 Q SF h cells slots pc' Ls st) (kf : x = y → OAt EL l Z bytes maxL own nm ret R n0 h0 Q SF h cells slots (pc + 3) Ls st) : OAt EL l Z bytes maxL own nm ret R n0 h0 Q SF h cells slots pc Ls (y :: x :: st) := by
  by_cases hc : ¬ x = y
  · exact (kt hc).plain fun hh hx hby _ q => Jvm.Free.XT.acmpYes hh hx rfl rfl (hb hby hd) rfl hx' hy' (Jvm.Free.XT.aa_ne_t hc) ho hp q
  · have hc' := Classical.not_not.mp hc; exact (kf hc').plain fun hh hx hby _ q => Jvm.Free.XT.acmpNo hh hx rfl (hb hby hd) rfl hx' hy' (Jvm.Free.XT.aa_ne_f hc') q
theorem irem_ {x y : Int32} (hd : decode bytes pc = .ok (.irem, 1)) (hy : y ≠ 0) (k : OAt EL l Z bytes maxL own nm ret R n0 h0 Q SF h cells slots (pc + 1) Ls (.int (x % y) :: st)) : OAt EL l Z bytes maxL own nm ret R n0 h0 Q SF h cells slots pc Ls (.int y :: .int x :: st) :=
  k.warm fun C X e => ⟨_, X, e, fun _ q => iremM X C.1 rfl (hb C.2.1 hd) rfl hy q⟩
theorem ldcInt {v : Int32} {i : Nat} (w : (Jvm.Cond.constant own i v).before a0 Z = true) (hd : decode bytes pc = .ok (.ldc i, 2)) (k : OAt EL l Z bytes maxL own nm ret R n0 h0 Q SF h cells slots (pc + 2) Ls (.int v :: st)) : OAt EL l Z bytes maxL own nm ret R n0 h0 Q SF h cells slots pc Ls st :=
  k.warm fun C X e => ⟨_, X, e, fun _ q => X.ldcI C.1 C.2.2.2.2.2.2.2.1 (mvT C.2.2.2.2.2.2.1 w) rfl (hb C.2.1 hd) q⟩
theorem ldcWInt {v : Int32} {i : Nat} (w : (Jvm.Cond.constant own i v).before a0 Z = true) (hd : decode bytes pc = .ok (.ldc_w i, 3)) (k : OAt EL l Z bytes maxL own nm ret R n0 h0 Q SF h cells slots (pc + 3) Ls (.int v :: st)) : OAt EL l Z bytes maxL own nm ret R n0 h0 Q SF h cells slots pc Ls st :=
  k.warm fun C X e => ⟨_, X, e, fun _ q => X.ldcWI C.1 C.2.2.2.2.2.2.2.1 (mvT C.2.2.2.2.2.2.1 w) rfl (hb C.2.1 hd) q⟩
theorem ldc2Long {v : Int64} {i : Nat} (w : (Jvm.Cond.constantLong own i v).before a0 Z = true) (hd : decode bytes pc = .ok (.ldc2_w i, 3)) (k : OAt EL l Z bytes maxL own nm ret R n0 h0 Q SF h cells slots (pc + 3) Ls (.long v :: st)) : OAt EL l Z bytes maxL own nm ret R n0 h0 Q SF h cells slots pc Ls st :=
  k.warm fun C X e => ⟨_, X, e, fun _ q => X.ldc2J C.1 C.2.2.2.2.2.2.2.1 (mvT C.2.2.2.2.2.2.1 w) rfl (hb C.2.1 hd) q⟩
/-! returns -/
theorem ret_int {z : Int32} (hret : ret = some .int) (hd : decode bytes pc = .ok (.ireturn, 1)) (hc : cells ≤ R.cells) (hn : slots ≤ R.slots) (hq : ∀ S : Addr → Prop, (∀ x ∈ SF, S x) → Q (some (.int z)) h S) : OAt EL l Z bytes maxL own nm ret R n0 h0 Q SF h cells slots pc Ls (.int z :: st) :=
  OAt.done (by rw [hret]; nofun) hq hc hn fun C X hl => retOut X C.1 (t := .int) (C.2.2.2.1.trans hret) rfl (Or.inl ⟨rfl, Or.inl rfl, z, rfl⟩) (hb C.2.1 hd) hl
theorem ret_nar {z : Int32} {t : FieldType} (ht : t = .boolean ∨ t = .byte ∨ t = .char ∨ t = .short) (hret : ret = some t) (hd : decode bytes pc = .ok (.ireturn, 1)) (hc : cells ≤ R.cells) (hn : slots ≤ R.slots) (hq : ∀ S : Addr → Prop, (∀ x ∈ SF, S x) → Q (some (.int (nar t z))) h S) : OAt EL l Z bytes maxL own nm ret R n0 h0 Q SF h cells slots pc Ls (.int z :: st) :=
  OAt.done (by rw [hret]; nofun) hq hc hn fun C X hl => retN X C.1 (C.2.2.2.1.trans hret) ht (hb C.2.1 hd) hl
theorem ret_long {z : Int64} (hret : ret = some .long) (hd : decode bytes pc = .ok (.lreturn, 1)) (hc : cells ≤ R.cells) (hn : slots ≤ R.slots) (hq : ∀ S : Addr → Prop, (∀ x ∈ SF, S x) → Q (some (.long z)) h S) : OAt EL l Z bytes maxL own nm ret R n0 h0 Q SF h cells slots pc Ls (.long z :: st) :=
  OAt.done (by rw [hret]; nofun) hq hc hn fun C X hl => retOut X C.1 (t := .long) (C.2.2.2.1.trans hret) rfl (Or.inr (Or.inl ⟨rfl, rfl, z, rfl⟩)) (hb C.2.1 hd) hl
theorem ret_ref {v : Value} {t : FieldType} (hv : v.isRef = true) (ht : t.isReference = true) (hret : ret = some t) (hd : decode bytes pc = .ok (.areturn, 1)) (hc : cells ≤ R.cells) (hn : slots ≤ R.slots) (hq : ∀ S : Addr → Prop, (∀ x ∈ SF, S x) → Q (some v) h S) : OAt EL l Z bytes maxL own nm ret R n0 h0 Q SF h cells slots pc Ls (v :: st) :=
  OAt.done (by rw [hret]; nofun) hq hc hn fun C X hl => retOut X C.1 (t := t) (C.2.2.2.1.trans hret) (by rcases ref_cases hv with rfl | ⟨a, rfl⟩ <;> cases t <;> first | rfl | (simp [FieldType.isReference] at ht)) (Or.inr (Or.inr (Or.inr (Or.inr ⟨rfl, ht, hv⟩)))) (hb C.2.1 hd) hl
theorem ret_void (hret : ret = none) (hd : decode bytes pc = .ok (.return_, 1)) (hc : cells ≤ R.cells) (hn : slots ≤ R.slots) (hq : ∀ S : Addr → Prop, (∀ x ∈ SF, S x) → Q none h S) : OAt EL l Z bytes maxL own nm ret R n0 h0 Q SF h cells slots pc Ls [] :=
  OAt.done (fun _ => rfl) hq hc hn fun C X hl => X.returnOut C.1 (C.2.2.2.1.trans hret) (hb C.2.1 hd) hl

theorem Cx.exec {p : Program} {vm0 : Vm} {m : MethodId} {meth : Method} {c : Code} (C : Cx Z EL bytes maxL own nm ret p vm0 m meth c) : p.tables.exec = Jvm.exec := C.1
theorem Cx.by {p : Program} {vm0 : Vm} {m : MethodId} {meth : Method} {c : Code} (C : Cx Z EL bytes maxL own nm ret p vm0 m meth c) : c.code = bytes := C.2.1
theorem Cx.ml {p : Program} {vm0 : Vm} {m : MethodId} {meth : Method} {c : Code} (C : Cx Z EL bytes maxL own nm ret p vm0 m meth c) : c.maxLocals = maxL := C.2.2.1
theorem Cx.name {p : Program} {vm0 : Vm} {m : MethodId} {meth : Method} {c : Code} (C : Cx Z EL bytes maxL own nm ret p vm0 m meth c) : meth.name = nm := C.2.2.2.2.2.1
theorem Cx.zz {p : Program} {vm0 : Vm} {m : MethodId} {meth : Method} {c : Code} (C : Cx Z EL bytes maxL own nm ret p vm0 m meth c) : Z.Warmed39 vm0 := C.2.2.2.2.2.2.1
theorem Cx.ow {p : Program} {vm0 : Vm} {m : MethodId} {meth : Method} {c : Code} (C : Cx Z EL bytes maxL own nm ret p vm0 m meth c) : vm0.findClass own = some m.cls := C.2.2.2.2.2.2.2.1
/-! objects and fields -/
theorem new_ {C : String} {i n : Nat} (w : (Jvm.Cond.classLink own i C).before a0 Z = true) (wi : (Jvm.Cond.instantiable C n).before a0 Z = true) (wz : (Jvm.Cond.initialized C).before a0 Z = true) (hd : decode bytes pc = .ok (.new i, 3)) (hc : cells + 1 ≤ R.cells) (hl : slots + n ≤ R.slots)
    (k : ∀ (h' : Heap) (a : Addr), a = h.size → Ext h h' → Exa Z h' a C → (∀ {O f d : String} {ty : FieldType}, Laid Z a0 C O f d → parseFieldDescriptor d = some ty → Fld Z h' a O f d (defaultValue ty)) → OAt EL l Z bytes maxL own nm ret R n0 h0 Q (a :: SF) h' (cells + 1) (slots + n) (pc + 3) Ls (.ref a :: st)) : OAt EL l Z bytes maxL own nm ret R n0 h0 Q SF h cells slots pc Ls st :=
  OAt.move (P := fun h' => Ext h h' ∧ Exa Z h' h.size C ∧ ∀ {O f d : String} {ty : FieldType}, Laid Z a0 C O f d → parseFieldDescriptor d = some ty → Fld Z h' h.size O f d (defaultValue ty)) (st' := fun _ => .ref h.size :: st) (SF' := fun _ => h.size :: SF) (fun h' vm hal H hS q => sf_ext q.1 H rfl q.2.1.lt) (fun h' q => k h' _ rfl q.1 q.2.1 q.2.2) fun C X e N => by
    obtain ⟨T', h', X', e', E, A, D, -, g⟩ := newO X C.exec C.zz C.ow w wi wz e (g := mkF _ pc Ls st) rfl (hb C.by hd) hc hl
    exact ⟨T', h', _, X', e', N, ⟨E, A, D⟩, g⟩
theorem getF_ {R0 O f d host : String} {i : Nat} {a : Addr} {v : Value} (w : (Jvm.Cond.fieldLink own i R0 f d).before a0 Z = true ∨ (Jvm.Cond.fieldLinkNest own i R0 f d host).before a0 Z = true) (via : Via Z R0 O f d) (F : Fld Z h a O f d v) (hd : decode bytes pc = .ok (.getfield i, 3)) (k : OAt EL l Z bytes maxL own nm ret R n0 h0 Q SF h cells slots (pc + 3) Ls (v :: st)) : OAt EL l Z bytes maxL own nm ret R n0 h0 Q SF h cells slots pc Ls (.ref a :: st) :=
  k.warm fun C X e => Jvm.RoadKit.getF X C.exec C.zz C.ow w via e F (g := mkF _ pc Ls (.ref a :: st)) rfl rfl (hb C.by hd)
theorem getS_ {R0 O f d host : String} {i : Nat} {v : Value} (w : (Jvm.Cond.fieldLink own i R0 f d).before a0 Z = true ∨ (Jvm.Cond.fieldLinkNest own i R0 f d host).before a0 Z = true) (via : Via Z R0 O f d) (F : Sta Z h O f d v) (hd : decode bytes pc = .ok (.getstatic i, 3)) (k : OAt EL l Z bytes maxL own nm ret R n0 h0 Q SF h cells slots (pc + 3) Ls (v :: st)) : OAt EL l Z bytes maxL own nm ret R n0 h0 Q SF h cells slots pc Ls st :=
  k.warm fun C X e => getS2 X C.exec C.zz C.ow w via e F (g := mkF _ pc Ls st) rfl (hb C.by hd)
theorem putF_ {R0 O f d host K : String} {i kk : Nat} {ty : FieldType} {a : Addr} {v old : Value} (w : (Jvm.Cond.fieldLink own i R0 f d).before a0 Z = true ∨ (Jvm.Cond.fieldLinkNest own i R0 f d host).before a0 Z = true) (via : Via Z R0 O f d) (F : Fld Z h a O f d old) (E : Exa Z h a K)
    (L : (Jvm.Cond.lays K O f d).before a0 Z = true ∨ ((Jvm.Cond.laysFinal K O f d).before a0 Z = true ∧ own = O ∧ nm = "<init>")) (wi : (Jvm.Cond.instantiable K kk).before a0 Z = true) (hty : parseFieldDescriptor d = some ty) (hn : narrow ty v = v) (hf : fits ty v = true) (ha : n0 ≤ a) (hsf : a ∈ SF) (hd : decode bytes pc = .ok (.putfield i, 3))
    (k : ∀ h', Wr h h' a (Jvm.RoadKit.slotOf Z O f d) v → OAt EL l Z bytes maxL own nm ret R n0 h0 Q SF h' cells slots (pc + 3) Ls st) : OAt EL l Z bytes maxL own nm ret R n0 h0 Q SF h cells slots pc Ls (v :: .ref a :: st) :=
  OAt.move (P := fun h' => Wr h h' a (Jvm.RoadKit.slotOf Z O f d) v) (st' := fun _ => st) (SF' := fun _ => SF) (fun h' vm hal H hS q => sf_wr q H hS hsf) k fun C X e N => by
    obtain ⟨T', h', X', e', W', g⟩ := putF X C.exec C.zz C.ow w via e F E (L.imp id fun q => ⟨q.1, q.2.1, C.name.trans q.2.2⟩) wi hty hn hf (g := mkF _ pc Ls (v :: .ref a :: st)) rfl rfl (hb C.by hd)
    exact ⟨T', h', _, X', e', Fr.snoc X' N ha, W', g⟩
theorem putFN_ {R0 O f d K : String} {i kk : Nat} {ty : FieldType} {a : Addr} {v v' old : Value} (w : (Jvm.Cond.fieldLink own i R0 f d).before a0 Z = true) (via : Via Z R0 O f d) (F : Fld Z h a O f d old) (E : Exa Z h a K)
    (L : (Jvm.Cond.lays K O f d).before a0 Z = true ∨ ((Jvm.Cond.laysFinal K O f d).before a0 Z = true ∧ own = O ∧ nm = "<init>")) (wi : (Jvm.Cond.instantiable K kk).before a0 Z = true) (hty : parseFieldDescriptor d = some ty) (hn : narrow ty v = v') (hf : fits ty v' = true) (ha : n0 ≤ a) (hsf : a ∈ SF) (hd : decode bytes pc = .ok (.putfield i, 3))
    (k : ∀ h', Wr h h' a (Jvm.RoadKit.slotOf Z O f d) v' → OAt EL l Z bytes maxL own nm ret R n0 h0 Q SF h' cells slots (pc + 3) Ls st) : OAt EL l Z bytes maxL own nm ret R n0 h0 Q SF h cells slots pc Ls (v :: .ref a :: st) :=
  OAt.move (P := fun h' => Wr h h' a (Jvm.RoadKit.slotOf Z O f d) v') (st' := fun _ => st) (SF' := fun _ => SF) (fun h' vm hal H hS q => sf_wr q H hS hsf) k fun C X e N => by
    obtain ⟨T', h', X', e', W', g⟩ := putFN X C.exec C.zz C.ow w via e F E (L.imp id fun q => ⟨q.1, q.2.1, C.name.trans q.2.2⟩) wi hty hn hf (g := mkF _ pc Ls (v :: .ref a :: st)) rfl rfl (hb C.by hd)
    exact ⟨T', h', _, X', e', Fr.snoc X' N ha, W', g⟩
theorem initO_ {i : Nat} {a : Addr} (w1 : (Jvm.Cond.methodLink own i Lib.objectInit).before a0 Z = true) (w2 : (Jvm.Cond.instanceMethod Lib.objectInit).before a0 Z = true) (w3 : (Jvm.Cond.code Lib.objectInit ⟨#[0xb1]⟩ 1 none).before a0 Z = true) (hd : decode bytes pc = .ok (.invokespecial i, 3)) (hs : Ls.size = maxL) (hf : 1 ≤ R.frames)
    (wt : Nat) (hW : (st.map fun v => v.category).sum = wt) (hl : wt + 12 ≤ R.locals) (k : OAt EL l Z bytes maxL own nm ret R n0 h0 Q SF h cells slots (pc + 3) Ls st) : OAt EL l Z bytes maxL own nm ret R n0 h0 Q SF h cells slots pc Ls (.ref a :: st) :=
  k.warm fun C X e => initO X C.exec C.zz C.ow w1 w2 w3 e (g := mkF _ pc Ls (.ref a :: st)) rfl (by rw [C.ml]; exact hs) rfl (hb C.by hd) hf (W := wt) (by show 2 * 0 + _ ≤ _; rw [hW]; omega) hl
theorem castY_ {K : String} {i : Nat} {a : Addr} (w : (Jvm.Cond.classLink own i K).before a0 Z = true) (F : Ins Z h a K true) (hd : decode bytes pc = .ok (.checkcast i, 3)) (k : OAt EL l Z bytes maxL own nm ret R n0 h0 Q SF h cells slots (pc + 3) Ls (.ref a :: st)) : OAt EL l Z bytes maxL own nm ret R n0 h0 Q SF h cells slots pc Ls (.ref a :: st) :=
  k.warm fun C X e => castY X C.exec C.zz C.ow w e F (g := mkF _ pc Ls (.ref a :: st)) rfl rfl (hb C.by hd)
theorem castNull {i : Nat} (hd : decode bytes pc = .ok (.checkcast i, 3)) (k : OAt EL l Z bytes maxL own nm ret R n0 h0 Q SF h cells slots (pc + 3) Ls (.null :: st)) : OAt EL l Z bytes maxL own nm ret R n0 h0 Q SF h cells slots pc Ls (.null :: st) :=
  k.warm fun C X e => ⟨_, X, e, X.checkcastNull C.exec (g := mkF _ pc Ls (.null :: st)) rfl rfl (hb C.by hd)⟩
theorem instY_ {K : String} {i : Nat} {a : Addr} (w : (Jvm.Cond.classLink own i K).before a0 Z = true) (F : Ins Z h a K true) (hd : decode bytes pc = .ok (.instanceof i, 3)) (k : OAt EL l Z bytes maxL own nm ret R n0 h0 Q SF h cells slots (pc + 3) Ls (.int 1 :: st)) : OAt EL l Z bytes maxL own nm ret R n0 h0 Q SF h cells slots pc Ls (.ref a :: st) :=
  k.warm fun C X e => instY X C.exec C.zz C.ow w e F (g := mkF _ pc Ls (.ref a :: st)) rfl rfl (hb C.by hd)
/-! arrays: a list of what they hold -/
def Arl (Z : State) (h : Heap) (a : Addr) (k : ClassId) (ty : FieldType) (vs : List Value) : Prop := ∃ c : Cell, Arr Z h a c ty ∧ c.cls = k ∧ c.slots.toList = vs ∧ vs.length < 2 ^ 31 ∧ ∀ v ∈ vs, fits ty v = true
section Arl
variable {a b : Addr} {ka : ClassId} {ty : FieldType} {vs : List Value} {v : Value} {sl : Nat} {ws : List Addr}
theorem Arl.lt (F : Arl Z h a ka ty vs) : a < h.size := by obtain ⟨c, A, -⟩ := F; exact A.lt
theorem Arl.len (F : Arl Z h a ka ty vs) : vs.length < 2 ^ 31 := by obtain ⟨c, -, -, -, q, -⟩ := F; exact q
theorem Arl.fits (F : Arl Z h a ka ty vs) : ∀ v ∈ vs, Jvm.fits ty v = true := by obtain ⟨c, -, -, -, -, q⟩ := F; exact q
theorem Arl.ext (F : Arl Z h a ka ty vs) (E : Ext h h') : Arl Z h' a ka ty vs := by obtain ⟨c, A, r⟩ := F; exact ⟨c, A.ext E, r⟩
theorem Arl.other (F : Arl Z h b ka ty vs) (W : Wr h h' a sl v) (q : b ≠ a) : Arl Z h' b ka ty vs := by obtain ⟨c, A, r⟩ := F; exact ⟨c, A.other W q, r⟩
theorem Arl.keep (F : Arl Z h a ka ty vs) (K : Keep h h' ws) (q : a ∉ ws) : Arl Z h' a ka ty vs := by obtain ⟨c, A, r⟩ := F; exact ⟨c, ⟨K.2.1 a c A.1 q, A.2⟩, r⟩
theorem Arl.of_new {n : Int32} {N : Nat} (A : Arr Z h a (newA ka ty n) ty) (hn : n.toInt = N) (hf : Jvm.fits ty (defaultValue ty) = true) : Arl Z h a ka ty (List.replicate N (defaultValue ty)) := by
  have hN : n.toNatClampNeg = N := by have h1 : n.toNatClampNeg = n.toInt.toNat := rfl; rw [h1, hn]; rfl
  refine ⟨_, A, rfl, ?_, ?_, ?_⟩
  · simp [newA, hN]
  · rw [List.length_replicate]; have := n.toInt_lt; omega
  · intro v hv; rw [List.mem_replicate] at hv; rw [hv.2]; exact hf
theorem idx_of {j : Int32} {i : Nat} (hj : j.toInt = i) : ¬ j < 0 ∧ j.toNatClampNeg = i := by
  refine ⟨fun q => ?_, ?_⟩
  · rw [Int32.lt_iff_toInt_lt, hj] at q; have : (0 : Int32).toInt = 0 := rfl; omega
  · have h1 : j.toNatClampNeg = j.toInt.toNat := rfl
    rw [h1, hj]; rfl
theorem Arl.at (F : Arl Z h a ka ty vs) {j : Int32} {i : Nat} (hj : j.toInt = i) (hv : vs[i]? = some v) : ∃ c : Cell, Arr Z h a c ty ∧ ¬ (j < 0 ∨ c.slots.size ≤ j.toNatClampNeg) ∧ c.slots[j.toNatClampNeg]? = some v := by
  obtain ⟨c, A, h1, h2, h3, h4⟩ := F
  obtain ⟨q1, q2⟩ := idx_of hj
  have hi : i < vs.length := (List.getElem?_eq_some_iff.mp hv).1
  have hs : c.slots.size = vs.length := by rw [← h2]; simp
  refine ⟨c, A, ?_, ?_⟩
  · rw [q2]; rintro (x | x)
    · exact q1 x
    · omega
  · rw [q2, ← Array.getElem?_toList, h2]; exact hv
theorem Arl.set (F : Arl Z h a ka ty vs) {i : Nat} (hf : Jvm.fits ty v = true) (W : Wr h h' a i v) : Arl Z h' a ka ty (vs.set i v) := by
  obtain ⟨c, A, h1, h2, h3, h4⟩ := F
  refine ⟨_, A.same W, h1, ?_, by simpa using h3, ?_⟩
  · subst h2; simp [Cell.setSlot]
  · intro w hw
    rcases List.mem_or_eq_of_mem_set hw with q | q
    · exact h4 _ q
    · rw [q]; exact hf
theorem Arl.inb (F : Arl Z h a ka ty vs) {j : Int32} {i : Nat} (hj : j.toInt = i) (hi : i < vs.length) : ∃ c : Cell, Arr Z h a c ty ∧ ¬ (j < 0 ∨ c.slots.size ≤ j.toNatClampNeg) := by
  obtain ⟨c, A, q, -⟩ := F.at hj (v := vs[i]) (List.getElem?_eq_getElem hi)
  exact ⟨c, A, q⟩
theorem Arl.nostat (F : Arl Z h a ka ty vs) : ∀ cell : Cell, h[a]? = some cell → cell.vm.isStatics = false := by obtain ⟨c, A, -⟩ := F; exact A.nostat
theorem sto_of {y : Addr} {C : String} (F : Arl Z h a ka ty vs) (O : Ovr Z ka C) (I : Ins Z h y C true) : Sto Z h a (.ref y) := by obtain ⟨c, A, q, -⟩ := F; exact Sto.ofV A q O I
theorem sta_keep {C n d : String} {w : Value} (F : Sta Z h C n d w) (K : Keep h h' ws) (hw : ∀ x ∈ ws, ∀ cell : Cell, h[x]? = some cell → cell.vm.isStatics = false) : Sta Z h' C n d w := by
  obtain ⟨cf, i, k, f, st, cell, h1, h2, h3, h4, h5, h6, h7⟩ := F
  refine ⟨cf, i, k, f, st, cell, h1, h2, h3, h4, K.2.1 _ _ h5 fun q => ?_, h6, h7⟩
  rw [hw st q cell h5] at h6; cases h6
theorem narrow_ref {t : FieldType} {w : Value} (hv : w.isRef = true) (ht : t.isReference = true) : narrow t w = w := by rcases ref_cases hv with rfl | ⟨x, rfl⟩ <;> cases t <;> first | rfl | (simp [FieldType.isReference] at ht)
theorem fits_ref' {t : FieldType} {w : Value} (hv : w.isRef = true) (ht : t.isReference = true) : Jvm.fits t w = true := by rcases ref_cases hv with rfl | ⟨x, rfl⟩ <;> cases t <;> first | rfl | (simp [FieldType.isReference] at ht)
theorem Arl.arv (F : Arl Z h a ka ty vs) (d : Value) {z : Int32} (hz : z.toInt = vs.length) : Arv Z h a ka ty z vs d := by
  obtain ⟨c, A, h1, h2, h3, h4⟩ := F
  obtain ⟨q1, q2⟩ := idx_of hz
  have hs : c.slots.size = vs.length := by rw [← h2]; simp
  refine ⟨c, A, h1, hs.trans q2.symm, q1, ?_, ?_⟩
  · intro k hk
    have hk' : k < vs.length := by omega
    rw [← Array.getElem?_toList, h2, List.getD_eq_getElem?_getD, List.getElem?_eq_getElem hk']; rfl
  · intro i hi
    have hi' : i < vs.length := by omega
    rw [List.getD_eq_getElem?_getD, List.getElem?_eq_getElem hi']
    exact h4 _ (List.getElem_mem hi')
theorem Arl.of_arv {d : Value} {z : Int32} (F : Arv Z h a ka ty z vs d) (hz : z.toInt = vs.length) : Arl Z h a ka ty vs := by
  obtain ⟨c, A, h1, h2, h3, h4, h5⟩ := F
  obtain ⟨q1, q2⟩ := idx_of hz
  have hs : c.slots.size = vs.length := h2.trans q2
  have hv : ∀ k (hk : k < vs.length), vs.getD k d = vs[k] := fun k hk => by rw [List.getD_eq_getElem?_getD, List.getElem?_eq_getElem hk]; rfl
  refine ⟨c, A, h1, ?_, ?_, ?_⟩
  · apply List.ext_getElem?
    intro k
    rw [Array.getElem?_toList]
    by_cases hk : k < vs.length
    · rw [h4 k (by omega), List.getElem?_eq_getElem hk, hv k hk]
    · rw [List.getElem?_eq_none (by omega), Array.getElem?_eq_none (by omega)]
  · have := z.toInt_lt; omega
  · intro v hm
    obtain ⟨i, hi, rfl⟩ := List.getElem_of_mem hm
    rw [← hv i hi]; exact h5 i (by omega)
end Arl
theorem newarray_ {aty : ArrayType} {n : Int32} {N : Nat} (cap : Nat) (ty : FieldType) (hty : newarray.typeOf aty = ty) (w : (Jvm.Cond.arrayClass ty).before a0 Z = true) (hd : decode bytes pc = .ok (.newarray aty, 2)) (hn : n.toInt = N) (hcap : N ≤ cap) (hb' : cap * 8 ≤ 536870912) (hc : cells + 1 ≤ R.cells) (hl : slots + cap ≤ R.slots) (hf : fits ty (defaultValue ty) = true)
    (k : ∀ (h' : Heap) (a : Addr) (ka : ClassId), a = h.size → Ext h h' → Arl Z h' a ka ty (List.replicate N (defaultValue ty)) → OAt EL l Z bytes maxL own nm ret R n0 h0 Q (a :: SF) h' (cells + 1) (slots + cap) (pc + 2) Ls (.ref a :: st)) : OAt EL l Z bytes maxL own nm ret R n0 h0 Q SF h cells slots pc Ls (.int n :: st) := by
  subst hty
  obtain ⟨q1, q2⟩ := idx_of hn
  exact OAt.move (P := fun h' => Ext h h' ∧ ∃ ka, Arl Z h' h.size ka (newarray.typeOf aty) (List.replicate N (defaultValue (newarray.typeOf aty)))) (st' := fun _ => .ref h.size :: st) (SF' := fun _ => h.size :: SF) (fun h' vm hal H hS q => sf_ext q.1 H rfl (by obtain ⟨-, _, q2⟩ := q; exact q2.lt)) (fun h' q => by obtain ⟨q1, ka, q2⟩ := q; exact k h' _ ka rfl q1 q2) fun C X e N => by
    obtain ⟨T', h', cA, X', e', E, A, g⟩ := newP X C.exec C.zz w e (g := mkF _ pc Ls (.int n :: st)) rfl (hb C.by hd) rfl q1 (cap := cap) (by omega) hb' hc hl
    exact ⟨T', h', _, X', e', N, ⟨E, cA, Arl.of_new A hn hf⟩, g⟩
theorem anewarray_ {K : String} {i : Nat} {n : Int32} {N : Nat} (cap : Nat) (w1 : (Jvm.Cond.classLink own i K).before a0 Z = true) (w2 : (Jvm.Cond.arrayOver (.object K)).before a0 Z = true) (hd : decode bytes pc = .ok (.anewarray i, 3)) (hn : n.toInt = N) (hcap : N ≤ cap) (hb' : cap * 8 ≤ 536870912) (hc : cells + 1 ≤ R.cells) (hl : slots + cap ≤ R.slots)
    (k : ∀ (h' : Heap) (a : Addr) (ka : ClassId), a = h.size → Ext h h' → Ovr Z ka K → Arl Z h' a ka (.object K) (List.replicate N .null) → OAt EL l Z bytes maxL own nm ret R n0 h0 Q (a :: SF) h' (cells + 1) (slots + cap) (pc + 3) Ls (.ref a :: st)) : OAt EL l Z bytes maxL own nm ret R n0 h0 Q SF h cells slots pc Ls (.int n :: st) := by
  obtain ⟨q1, q2⟩ := idx_of hn
  exact OAt.move (P := fun h' => Ext h h' ∧ ∃ ka, Ovr Z ka K ∧ Arl Z h' h.size ka (.object K) (List.replicate N .null)) (st' := fun _ => .ref h.size :: st) (SF' := fun _ => h.size :: SF) (fun h' vm hal H hS q => sf_ext q.1 H rfl (by obtain ⟨-, _, -, q2⟩ := q; exact q2.lt)) (fun h' q => by obtain ⟨q1, ka, q3, q2⟩ := q; exact k h' _ ka rfl q1 q3 q2) fun C X e N => by
    obtain ⟨T', h', cA, X', e', E, A, O, g⟩ := newR X C.exec C.zz C.ow w1 w2 e (g := mkF _ pc Ls (.int n :: st)) rfl (hb C.by hd) rfl q1 (cap := cap) (by omega) hb' hc hl
    exact ⟨T', h', _, X', e', N, ⟨E, cA, O, Arl.of_new A hn rfl⟩, g⟩
theorem arraylength_ {a : Addr} {ka : ClassId} {ty : FieldType} {vs : List Value} (z : Int32) (F : Arl Z h a ka ty vs) (hz' : vs.length.toInt32 = z) (hd : decode bytes pc = .ok (.arraylength, 1)) (k : OAt EL l Z bytes maxL own nm ret R n0 h0 Q SF h cells slots (pc + 1) Ls (.int z :: st)) : OAt EL l Z bytes maxL own nm ret R n0 h0 Q SF h cells slots pc Ls (.ref a :: st) :=
  k.warm fun C X e => by
    obtain ⟨c, A, h1, h2, h3, h4⟩ := F
    have hs : c.slots.size.toInt32 = z := by rw [← hz', ← h2]; simp
    refine ⟨_, X, e, fun t q => X.arraylength C.exec (by rw [e]; exact A.1) (State.isArrayOf_alike C.zz.alike A.2.1) (g := mkF _ pc Ls (.ref a :: st)) rfl rfl (hb C.by hd) t ?_⟩
    rw [hs]; exact q
theorem iaload_ {a : Addr} {ka : ClassId} {vs : List Value} {j : Int32} {i : Nat} {v : Value} (F : Arl Z h a ka .int vs) (hj : j.toInt = i) (hv : vs[i]? = some v) (hd : decode bytes pc = .ok (.iaload, 1)) (k : OAt EL l Z bytes maxL own nm ret R n0 h0 Q SF h cells slots (pc + 1) Ls (v :: st)) : OAt EL l Z bytes maxL own nm ret R n0 h0 Q SF h cells slots pc Ls (.int j :: .ref a :: st) :=
  k.warm fun C X e => by
    obtain ⟨c, A, h1, h2⟩ := F.at hj hv
    exact ⟨_, X, e, fun t q => X.iaload C.exec (by rw [e]; exact A.1) (State.isArrayOf_alike C.zz.alike A.2.1) A.2.2 h1 h2 (g := mkF _ pc Ls (.int j :: .ref a :: st)) rfl rfl (hb C.by hd) t q⟩
theorem laload_ {a : Addr} {ka : ClassId} {vs : List Value} {j : Int32} {i : Nat} {v : Value} (F : Arl Z h a ka .long vs) (hj : j.toInt = i) (hv : vs[i]? = some v) (hd : decode bytes pc = .ok (.laload, 1)) (k : OAt EL l Z bytes maxL own nm ret R n0 h0 Q SF h cells slots (pc + 1) Ls (v :: st)) : OAt EL l Z bytes maxL own nm ret R n0 h0 Q SF h cells slots pc Ls (.int j :: .ref a :: st) :=
  k.warm fun C X e => by
    obtain ⟨c, A, h1, h2⟩ := F.at hj hv
    exact ⟨_, X, e, fun t q => X.laload C.exec (by rw [e]; exact A.1) (State.isArrayOf_alike C.zz.alike A.2.1) A.2.2 h1 h2 (g := mkF _ pc Ls (.int j :: .ref a :: st)) rfl rfl (hb C.by hd) t q⟩
theorem caload_ {a : Addr} {ka : ClassId} {vs : List Value} {j : Int32} {i : Nat} {v : Value} (F : Arl Z h a ka .char vs) (hj : j.toInt = i) (hv : vs[i]? = some v) (hd : decode bytes pc = .ok (.caload, 1)) (k : OAt EL l Z bytes maxL own nm ret R n0 h0 Q SF h cells slots (pc + 1) Ls (v :: st)) : OAt EL l Z bytes maxL own nm ret R n0 h0 Q SF h cells slots pc Ls (.int j :: .ref a :: st) :=
  k.warm fun C X e => by
    obtain ⟨c, A, h1, h2⟩ := F.at hj hv
    exact ⟨_, X, e, fun t q => X.caload C.exec (by rw [e]; exact A.1) (State.isArrayOf_alike C.zz.alike A.2.1) A.2.2 h1 h2 (g := mkF _ pc Ls (.int j :: .ref a :: st)) rfl rfl (hb C.by hd) t q⟩
theorem baload_ {a : Addr} {ka : ClassId} {vs : List Value} {j : Int32} {i : Nat} {v : Value} (F : Arl Z h a ka .byte vs) (hj : j.toInt = i) (hv : vs[i]? = some v) (hd : decode bytes pc = .ok (.baload, 1)) (k : OAt EL l Z bytes maxL own nm ret R n0 h0 Q SF h cells slots (pc + 1) Ls (v :: st)) : OAt EL l Z bytes maxL own nm ret R n0 h0 Q SF h cells slots pc Ls (.int j :: .ref a :: st) :=
  k.warm fun C X e => by
    obtain ⟨c, A, h1, h2⟩ := F.at hj hv
    exact ⟨_, X, e, fun t q => X.baloadBytes C.exec (by rw [e]; exact A.1) (State.isArrayOf_alike C.zz.alike A.2.1) A.2.2 h1 h2 (g := mkF _ pc Ls (.int j :: .ref a :: st)) rfl rfl (hb C.by hd) t q⟩
theorem zaload_ {a : Addr} {ka : ClassId} {vs : List Value} {j : Int32} {i : Nat} {v : Value} (F : Arl Z h a ka .boolean vs) (hj : j.toInt = i) (hv : vs[i]? = some v) (hd : decode bytes pc = .ok (.baload, 1)) (k : OAt EL l Z bytes maxL own nm ret R n0 h0 Q SF h cells slots (pc + 1) Ls (v :: st)) : OAt EL l Z bytes maxL own nm ret R n0 h0 Q SF h cells slots pc Ls (.int j :: .ref a :: st) :=
  k.warm fun C X e => by
    obtain ⟨c, A, h1, h2⟩ := F.at hj hv
    exact ⟨_, X, e, fun t q => X.baloadBooleans C.exec (by rw [e]; exact A.1) (State.isArrayOf_alike C.zz.alike A.2.1) A.2.2 h1 h2 (g := mkF _ pc Ls (.int j :: .ref a :: st)) rfl rfl (hb C.by hd) t q⟩
theorem aaload_ {a : Addr} {ka : ClassId} {ty : FieldType} {vs : List Value} {j : Int32} {i : Nat} {v : Value} (F : Arl Z h a ka ty vs) (hty : ty.isReference = true) (hj : j.toInt = i) (hv : vs[i]? = some v) (hd : decode bytes pc = .ok (.aaload, 1)) (k : OAt EL l Z bytes maxL own nm ret R n0 h0 Q SF h cells slots (pc + 1) Ls (v :: st)) : OAt EL l Z bytes maxL own nm ret R n0 h0 Q SF h cells slots pc Ls (.int j :: .ref a :: st) :=
  k.warm fun C X e => by
    obtain ⟨c, A, h1, h2⟩ := F.at hj hv
    exact ⟨_, X, e, fun t q => X.aaload C.exec (by rw [e]; exact A.1) (State.isArrayOf_alike C.zz.alike A.2.1) hty A.2.2 h1 h2 (g := mkF _ pc Ls (.int j :: .ref a :: st)) rfl rfl (hb C.by hd) t q⟩
theorem iastore_ {a : Addr} {ka : ClassId} {vs : List Value} {j : Int32} {x : Int32} {i : Nat} (F : Arl Z h a ka .int vs) (hj : j.toInt = i) (hi : i < vs.length) (ha : n0 ≤ a) (hsf : a ∈ SF) (hd : decode bytes pc = .ok (.iastore, 1)) (k : ∀ h', Wr h h' a i (.int x) → Arl Z h' a ka .int (vs.set i (.int x)) → OAt EL l Z bytes maxL own nm ret R n0 h0 Q SF h' cells slots (pc + 1) Ls st) : OAt EL l Z bytes maxL own nm ret R n0 h0 Q SF h cells slots pc Ls (.int x :: .int j :: .ref a :: st) :=
  OAt.move (P := fun h' => Wr h h' a i (.int x) ∧ Arl Z h' a ka .int (vs.set i (.int x))) (st' := fun _ => st) (SF' := fun _ => SF) (fun h' vm hal H hS q => sf_wr q.1 H hS hsf) (fun h' q => k h' q.1 q.2) fun C X e N => by
    obtain ⟨c, A, h1⟩ := F.inb hj hi
    obtain ⟨T', h', X', e', W', g⟩ := stI X C.exec C.zz e A h1 (g := mkF _ pc Ls (.int x :: .int j :: .ref a :: st)) rfl rfl (hb C.by hd)
    rw [(idx_of hj).2] at W'
    exact ⟨T', h', _, X', e', Fr.snoc X' N ha, ⟨W', F.set (rfl) W'⟩, g⟩
theorem lastore_ {a : Addr} {ka : ClassId} {vs : List Value} {j : Int32} {x : Int64} {i : Nat} (F : Arl Z h a ka .long vs) (hj : j.toInt = i) (hi : i < vs.length) (ha : n0 ≤ a) (hsf : a ∈ SF) (hd : decode bytes pc = .ok (.lastore, 1)) (k : ∀ h', Wr h h' a i (.long x) → Arl Z h' a ka .long (vs.set i (.long x)) → OAt EL l Z bytes maxL own nm ret R n0 h0 Q SF h' cells slots (pc + 1) Ls st) : OAt EL l Z bytes maxL own nm ret R n0 h0 Q SF h cells slots pc Ls (.long x :: .int j :: .ref a :: st) :=
  OAt.move (P := fun h' => Wr h h' a i (.long x) ∧ Arl Z h' a ka .long (vs.set i (.long x))) (st' := fun _ => st) (SF' := fun _ => SF) (fun h' vm hal H hS q => sf_wr q.1 H hS hsf) (fun h' q => k h' q.1 q.2) fun C X e N => by
    obtain ⟨c, A, h1⟩ := F.inb hj hi
    obtain ⟨T', h', X', e', W', g⟩ := stJ X C.exec C.zz e A h1 (g := mkF _ pc Ls (.long x :: .int j :: .ref a :: st)) rfl rfl (hb C.by hd)
    rw [(idx_of hj).2] at W'
    exact ⟨T', h', _, X', e', Fr.snoc X' N ha, ⟨W', F.set (rfl) W'⟩, g⟩
theorem castore_ {a : Addr} {ka : ClassId} {vs : List Value} {j : Int32} {x : Int32} {i : Nat} (F : Arl Z h a ka .char vs) (hj : j.toInt = i) (hi : i < vs.length) (ha : n0 ≤ a) (hsf : a ∈ SF) (hd : decode bytes pc = .ok (.castore, 1)) (k : ∀ h', Wr h h' a i (.int (nar .char x)) → Arl Z h' a ka .char (vs.set i (.int (nar .char x))) → OAt EL l Z bytes maxL own nm ret R n0 h0 Q SF h' cells slots (pc + 1) Ls st) : OAt EL l Z bytes maxL own nm ret R n0 h0 Q SF h cells slots pc Ls (.int x :: .int j :: .ref a :: st) :=
  OAt.move (P := fun h' => Wr h h' a i (.int (nar .char x)) ∧ Arl Z h' a ka .char (vs.set i (.int (nar .char x)))) (st' := fun _ => st) (SF' := fun _ => SF) (fun h' vm hal H hS q => sf_wr q.1 H hS hsf) (fun h' q => k h' q.1 q.2) fun C X e N => by
    obtain ⟨c, A, h1⟩ := F.inb hj hi
    obtain ⟨T', h', X', e', W', g⟩ := stC X C.exec C.zz e A h1 (g := mkF _ pc Ls (.int x :: .int j :: .ref a :: st)) rfl rfl (hb C.by hd)
    rw [(idx_of hj).2] at W'
    exact ⟨T', h', _, X', e', Fr.snoc X' N ha, ⟨W', F.set (fits_nar_char x) W'⟩, g⟩
theorem bastore_ {a : Addr} {ka : ClassId} {vs : List Value} {j : Int32} {x : Int32} {i : Nat} (F : Arl Z h a ka .byte vs) (hj : j.toInt = i) (hi : i < vs.length) (ha : n0 ≤ a) (hsf : a ∈ SF) (hd : decode bytes pc = .ok (.bastore, 1)) (k : ∀ h', Wr h h' a i (.int (nar .byte x)) → Arl Z h' a ka .byte (vs.set i (.int (nar .byte x))) → OAt EL l Z bytes maxL own nm ret R n0 h0 Q SF h' cells slots (pc + 1) Ls st) : OAt EL l Z bytes maxL own nm ret R n0 h0 Q SF h cells slots pc Ls (.int x :: .int j :: .ref a :: st) :=
  OAt.move (P := fun h' => Wr h h' a i (.int (nar .byte x)) ∧ Arl Z h' a ka .byte (vs.set i (.int (nar .byte x)))) (st' := fun _ => st) (SF' := fun _ => SF) (fun h' vm hal H hS q => sf_wr q.1 H hS hsf) (fun h' q => k h' q.1 q.2) fun C X e N => by
    obtain ⟨c, A, h1⟩ := F.inb hj hi
    obtain ⟨T', h', X', e', W', g⟩ := stB X C.exec C.zz e A h1 (g := mkF _ pc Ls (.int x :: .int j :: .ref a :: st)) rfl rfl (hb C.by hd)
    rw [(idx_of hj).2] at W'
    exact ⟨T', h', _, X', e', Fr.snoc X' N ha, ⟨W', F.set (fits_nar_byte x) W'⟩, g⟩
theorem zastore_ {a : Addr} {ka : ClassId} {vs : List Value} {j : Int32} {x : Int32} {i : Nat} (F : Arl Z h a ka .boolean vs) (hj : j.toInt = i) (hi : i < vs.length) (ha : n0 ≤ a) (hsf : a ∈ SF) (hd : decode bytes pc = .ok (.bastore, 1)) (k : ∀ h', Wr h h' a i (.int (nar .boolean x)) → Arl Z h' a ka .boolean (vs.set i (.int (nar .boolean x))) → OAt EL l Z bytes maxL own nm ret R n0 h0 Q SF h' cells slots (pc + 1) Ls st) : OAt EL l Z bytes maxL own nm ret R n0 h0 Q SF h cells slots pc Ls (.int x :: .int j :: .ref a :: st) :=
  OAt.move (P := fun h' => Wr h h' a i (.int (nar .boolean x)) ∧ Arl Z h' a ka .boolean (vs.set i (.int (nar .boolean x)))) (st' := fun _ => st) (SF' := fun _ => SF) (fun h' vm hal H hS q => sf_wr q.1 H hS hsf) (fun h' q => k h' q.1 q.2) fun C X e N => by
    obtain ⟨c, A, h1⟩ := F.inb hj hi
    obtain ⟨T', h', X', e', W', g⟩ := stZ X C.exec C.zz e A h1 (g := mkF _ pc Ls (.int x :: .int j :: .ref a :: st)) rfl rfl (hb C.by hd)
    rw [(idx_of hj).2] at W'
    exact ⟨T', h', _, X', e', Fr.snoc X' N ha, ⟨W', F.set (fits_nar_bool x) W'⟩, g⟩
theorem aastore_ {a : Addr} {ka : ClassId} {ty : FieldType} {vs : List Value} {j : Int32} {x : Value} {i : Nat} (F : Arl Z h a ka ty vs) (hty : ty.isReference = true) (hx : x.isRef = true) (S : Sto Z h a x) (hj : j.toInt = i) (hi : i < vs.length) (ha : n0 ≤ a) (hsf : a ∈ SF) (hd : decode bytes pc = .ok (.aastore, 1)) (k : ∀ h', Wr h h' a i x → Arl Z h' a ka ty (vs.set i x) → OAt EL l Z bytes maxL own nm ret R n0 h0 Q SF h' cells slots (pc + 1) Ls st) : OAt EL l Z bytes maxL own nm ret R n0 h0 Q SF h cells slots pc Ls (x :: .int j :: .ref a :: st) :=
  OAt.move (P := fun h' => Wr h h' a i x ∧ Arl Z h' a ka ty (vs.set i x)) (st' := fun _ => st) (SF' := fun _ => SF) (fun h' vm hal H hS q => sf_wr q.1 H hS hsf) (fun h' q => k h' q.1 q.2) fun C X e N => by
    obtain ⟨c, A, h1⟩ := F.inb hj hi
    obtain ⟨T', h', X', e', W', g⟩ := stR X C.exec C.zz e A h1 hty S (g := mkF _ pc Ls (x :: .int j :: .ref a :: st)) rfl rfl (hb C.by hd)
    rw [(idx_of hj).2] at W'
    have hf : fits ty x = true := by rcases ref_cases hx with rfl | ⟨y, rfl⟩ <;> cases ty <;> first | rfl | (simp [FieldType.isReference] at hty)
    exact ⟨T', h', _, X', e', Fr.snoc X' N ha, ⟨W', F.set hf W'⟩, g⟩
/-! calls by contract: a callee that interns nothing -/
theorem OAt.callN {y : MethodName} {bytes' : ByteArray} {maxL' : Nat} {ret' : Option FieldType} {R' : Room} {as' : Array Value} {SF0 : List Addr} {Q' : Option Value → Heap → (Addr → Prop) → Prop} {len wt : Nat} {rest : List Value} (hM : Met EL l Z y bytes' maxL' ret' R' [] as' h n0 SF0 Q') (hsub : ∀ x ∈ SF0, x ∈ SF)
    (wc : (Jvm.Cond.code y bytes' maxL' ret').before a0 Z = true) (wz : (Jvm.Cond.initialized y.cls).before a0 Z = true) (hf : R'.frames + 1 ≤ R.frames) (hl : wt + (maxL' + 11) + R'.locals ≤ R.locals) (hc : cells + R'.cells ≤ R.cells) (hs : slots + R'.slots ≤ R.slots)
    (f : ∀ {p : Program} {e : Env} {s : State} {m : MethodId} {args : Array Value} {below : List Frame} {meth : Method} {c : Code} {T : State} {locs : List Loc}, Cx Z EL bytes maxL own nm ret p s.vm m meth c → Stand p l e R s m args below meth c T locs cells slots → T.heap = h → ∀ (Pre : Pt → Array Value → Prop) (Post : Pt → Array Value → Option Value → Pt → Prop), BackS l R p e below s args y len wt Pre Post → (∀ vm₁, s.WarmedH vm₁ → Pre ⟨T.setVm vm₁, locs, cells, slots⟩ as') →
      ∃ (v : Option Value) (vm₁ : Vm) (B : Pt), s.WarmedH vm₁ ∧ Stand p l e R (s.setVm B.U.vm) m args below meth c B.U B.locs B.cells B.slots ∧ s.Since B.U.vm B.U.heap.size ∧ T.heap.size ≤ B.U.heap.size ∧ Post ⟨T.setVm vm₁, locs, cells, slots⟩ as' v B ∧ ∀ target, Steps p.tables e below (B.U.setTop (mkF m (pc + len) Ls (v.toList ++ rest))) target → Steps p.tables e below (T.setTop (mkF m pc Ls st)) target)
    (k : ∀ v h' (S : Addr → Prop), Q' v h' S → ∃ SX : List Addr, (∀ x ∈ SX, S x) ∧ OAt EL l Z bytes maxL own nm ret R n0 h0 Q (SX ++ SF) h' (cells + R'.cells) (slots + R'.slots) (pc + len) Ls (v.toList ++ rest)) : OAt EL l Z bytes maxL own nm ret R n0 h0 Q SF h cells slots pc Ls st :=
  fun p e s vm0 m args below meth c T locs C r X eT N => by
    obtain ⟨⟨k0, r1, r2⟩, r3, r4⟩ := r
    obtain ⟨ae, hE⟩ := C.2.2.2.2.2.2.2.2
    have hB : BackS l R p e below (s.setVm vm0) args y len wt (fun A a => a = as' ∧ A.U.heap = h ∧ A.cells + R'.cells ≤ R.cells ∧ A.slots + R'.slots ≤ R.slots)
        (fun A _ v B => ∃ L, (Fr n0 L ∧ h.size ≤ B.U.heap.size ∧ Q' v B.U.heap (SfAt Z EL B.U.vm B.U.heap)) ∧ B.locs = A.locs ++ L ∧ B.cells = A.cells + R'.cells ∧ B.slots = A.slots + R'.slots ∧ CHr Z EL vm0 h B.U.vm B.U.heap) :=
      BackS.of_freeW (bytes := bytes') (maxL := maxL') (ret := ret') (E := fun _ first o t L k n => k = R'.cells ∧ n = R'.slots ∧ ∃ v, o = .returned v ∧ (Fr n0 L ∧ h.size ≤ t.heap.size ∧ Q' v t.heap (SfAt Z EL t.vm t.heap)) ∧ CHr Z EL first.vm h t.vm t.heap) hM hf hl
        (fun m meth c A a Y hp => have hU : Z.Warmed39 A.U.vm := wtrans (s := s.setVm vm0) C.zz Y.warmed
          ⟨by show (Cond.and _ .tt).before a A.U = true; rw [Cond.before_and, mv hU wc]; rfl, mv hU wc, mv hU wz, hp.2.2.1, hp.2.2.2⟩)
        (fun m meth c A a g mk Y hp => have q := CHv.at Y C.zz hE r3.1
          ⟨hp.1, wtrans (s := s.setVm vm0) C.zz Y.warmed, hp.2.1, q.1, fun x hx => ⟨(r4 x (hsub x hx)).1, q.safe (r4 x (hsub x hx)).1 (r4 x (hsub x hx)).2⟩, ae, hE⟩) (fun _ _ _ _ _ _ _ _ _ => trivial)
        (fun _ _ _ _ ⟨v, L, h1, ⟨h2, h3, h4, h5⟩, h6⟩ => ⟨L, _, _, h6, rfl, rfl, v, h1, ⟨h2, h3, h5⟩, h4⟩)
        (fun m meth c A a g mk v t L k n Y hp _ _ ⟨e1, e2, v', e3, e4, e5⟩ => by
          cases e3; subst e1 e2
          exact ⟨L, e4, rfl, rfl, rfl, (CHv.at Y C.zz hE r3.1).trans e5⟩)
    obtain ⟨v, vm₁, ⟨T', L', k', n'⟩, hW, X', hS2, hg2, ⟨Lc, ⟨N', hg, hq⟩, l1, l2, l3, hch⟩, g⟩ := f (s := s.setVm vm0) C X eT _ _ hB (fun vm₁ _ => ⟨rfl, eT, hc, hs⟩)
    dsimp only [Pt.U, Pt.locs, Pt.cells, Pt.slots] at X' hS2 hg2 l1 l2 l3 g hg hq hch
    subst l1 l2 l3
    obtain ⟨X2, hS3, hZ3, ho3⟩ := rebS r1 (by rw [eT]; exact r2) X' hS2 hg2 C.zz C.ow
    obtain ⟨SX, hSX, kk⟩ := k v T'.heap _ hq
    refine (kk p e s T'.vm m args below meth c T' _ ⟨C.1, C.2.1, C.2.2.1, C.2.2.2.1, C.2.2.2.2.1, C.2.2.2.2.2.1, hZ3, ho3, ae, hE⟩ ⟨⟨_, hS3, Nat.le_refl _⟩, r3.trans hch, fun x hx => ?_⟩ X2 rfl (N.app N')).step g
    rcases List.mem_append.mp hx with y | y
    · exact hSX x y
    · exact ⟨Nat.lt_of_lt_of_le (r4 x y).1 hg, hch.safe (r4 x y).1 (r4 x y).2⟩
/-- what a call of a contract asks of room and words -/
theorem callS_ {y : MethodName} {bytes' : ByteArray} {maxL' : Nat} {ret' : Option FieldType} {R' : Room} {SF0 : List Addr} {Q' : Option Value → Heap → (Addr → Prop) → Prop} {i : Nat} {ps : List FieldType} {rt : Option FieldType} (argsL rest : List Value) (wt : Nat) (hM : Met EL l Z y bytes' maxL' ret' R' [] argsL.toArray h n0 SF0 Q') (hsub : ∀ x ∈ SF0, x ∈ SF)
    (w1 : (Jvm.Cond.methodLink own i y).before a0 Z = true) (w2 : (Jvm.Cond.static y).before a0 Z = true) (wz : (Jvm.Cond.initialized y.cls).before a0 Z = true) (wc : (Jvm.Cond.code y bytes' maxL' ret').before a0 Z = true) (hy : y.cls ≠ "java/lang/invoke/MethodHandle" ∧ y.cls ≠ "java/lang/invoke/VarHandle")
    (hd : decode bytes pc = .ok (.invokestatic i, 3)) (hp : parseMethodDescriptor y.desc = some ⟨ps, rt⟩) (hn : argsL.length = ps.length) (hst : st = argsL.reverse ++ rest) (hwt : (rest.map fun v => v.category).sum = wt) (hs : Ls.size = maxL)
    (hf : R'.frames + 1 ≤ R.frames) (hl : wt + (maxL' + 11) + R'.locals ≤ R.locals) (hc : cells + R'.cells ≤ R.cells) (hsl : slots + R'.slots ≤ R.slots)
    (k : ∀ v h' (S : Addr → Prop), Q' v h' S → ∃ SX : List Addr, (∀ x ∈ SX, S x) ∧ OAt EL l Z bytes maxL own nm ret R n0 h0 Q (SX ++ SF) h' (cells + R'.cells) (slots + R'.slots) (pc + 3) Ls (v.toList ++ rest)) : OAt EL l Z bytes maxL own nm ret R n0 h0 Q SF h cells slots pc Ls st :=
  OAt.callN (len := 3) hM hsub wc wz hf hl hc hsl (fun C X eT _ _ hB hpre => by
    obtain ⟨v, vm₁, B, h1, h2, h5, h6, h3, h4⟩ := Jvm.RoadKit.callSS X C.exec C.ow (mvT C.zz w1) (mvT C.zz w2) (mvT C.zz wz) (mvT C.zz wc) hy hB (g := mkF _ pc Ls st) rfl (by rw [C.ml]; exact hs) (lenOf hp hn) hst (by show 2 * 0 + _ ≤ _; rw [hwt]; omega) (hb C.by hd) hpre
    exact ⟨v, vm₁, B, h1, h2, h5, h6, h3, fun t q => h4.trans q⟩) k
/-- a static call of a body that writes nothing and returns val -/
def Pur (val : Value) (h : Heap) : Option Value → Heap → (Addr → Prop) → Prop := fun v h' _ => v = some val ∧ h' = h
theorem callSP {y : MethodName} {bytes' : ByteArray} {maxL' : Nat} {ret' : Option FieldType} {R' : Room} {val : Value} {i : Nat} {ps : List FieldType} {rt : Option FieldType} (argsL rest : List Value) (wt : Nat) (hM : Met EL l Z y bytes' maxL' ret' R' [] argsL.toArray h n0 [] (Pur val h))
    (w1 : (Jvm.Cond.methodLink own i y).before a0 Z = true) (w2 : (Jvm.Cond.static y).before a0 Z = true) (wz : (Jvm.Cond.initialized y.cls).before a0 Z = true) (wc : (Jvm.Cond.code y bytes' maxL' ret').before a0 Z = true) (hy : y.cls ≠ "java/lang/invoke/MethodHandle" ∧ y.cls ≠ "java/lang/invoke/VarHandle")
    (hd : decode bytes pc = .ok (.invokestatic i, 3)) (hp : parseMethodDescriptor y.desc = some ⟨ps, rt⟩) (hn : argsL.length = ps.length) (hst : st = argsL.reverse ++ rest) (hwt : (rest.map fun v => v.category).sum = wt) (hs : Ls.size = maxL)
    (hf : R'.frames + 1 ≤ R.frames) (hl : wt + (maxL' + 11) + R'.locals ≤ R.locals) (hc : cells + R'.cells ≤ R.cells) (hsl : slots + R'.slots ≤ R.slots)
    (k : OAt EL l Z bytes maxL own nm ret R n0 h0 Q SF h (cells + R'.cells) (slots + R'.slots) (pc + 3) Ls (val :: rest)) : OAt EL l Z bytes maxL own nm ret R n0 h0 Q SF h cells slots pc Ls st :=
  callS_ argsL rest wt hM (fun _ z => nomatch z) w1 w2 wz wc hy hd hp hn hst hwt hs hf hl hc hsl (fun v h' S q => by obtain ⟨rfl, rfl⟩ := q; exact ⟨[], fun _ z => (nomatch z), k⟩)
/-- a constructor -/
theorem callI_ {y : MethodName} {bytes' : ByteArray} {maxL' : Nat} {R' : Room} {SF0 : List Addr} {Q' : Option Value → Heap → (Addr → Prop) → Prop} {i : Nat} {ps : List FieldType} {rt : Option FieldType} (a : Addr) (argsL rest : List Value) (wt : Nat) (hM : Met EL l Z y bytes' maxL' none R' [] (.ref a :: argsL).toArray h n0 SF0 Q') (hsub : ∀ x ∈ SF0, x ∈ SF)
    (w1 : (Jvm.Cond.methodLink own i y).before a0 Z = true) (w2 : (Jvm.Cond.instanceMethod y).before a0 Z = true) (wz : (Jvm.Cond.initialized y.cls).before a0 Z = true) (wc : (Jvm.Cond.code y bytes' maxL' none).before a0 Z = true) (hy1 : y.name = "<init>") (hy : y.cls ≠ "java/lang/invoke/MethodHandle" ∧ y.cls ≠ "java/lang/invoke/VarHandle")
    (hd : decode bytes pc = .ok (.invokespecial i, 3)) (hp : parseMethodDescriptor y.desc = some ⟨ps, rt⟩) (hn : argsL.length = ps.length) (hst : st = argsL.reverse ++ .ref a :: rest) (hwt : (rest.map fun v => v.category).sum = wt) (hs : Ls.size = maxL)
    (hf : R'.frames + 1 ≤ R.frames) (hl : wt + (maxL' + 11) + R'.locals ≤ R.locals) (hc : cells + R'.cells ≤ R.cells) (hsl : slots + R'.slots ≤ R.slots)
    (k : ∀ v h' (S : Addr → Prop), Q' v h' S → ∃ SX : List Addr, (∀ x ∈ SX, S x) ∧ OAt EL l Z bytes maxL own nm ret R n0 h0 Q (SX ++ SF) h' (cells + R'.cells) (slots + R'.slots) (pc + 3) Ls (v.toList ++ rest)) : OAt EL l Z bytes maxL own nm ret R n0 h0 Q SF h cells slots pc Ls st :=
  OAt.callN (len := 3) hM hsub wc wz hf hl hc hsl (fun C X eT _ _ hB hpre => by
    obtain ⟨v, vm₁, B, h1, h2, h5, h6, h3, h4⟩ := X.specialBackS C.exec hy1 C.ow (mvT C.zz w1) (mvT C.zz w2) (mvT C.zz wc) hy hB (g := mkF _ pc Ls st) rfl (by rw [C.ml]; exact hs) (Steps.refl _) (lenOf hp hn) hst (by show 2 * 0 + _ ≤ _; rw [hwt]; omega) (hb C.by hd) hpre
    exact ⟨v, vm₁, B, h1, h2, h5, h6, h3, fun t q => h4.trans q⟩) k
/-- an instance method, selected by the receiver's class K -/
theorem callV_ {x y : MethodName} {K : String} {bytes' : ByteArray} {maxL' : Nat} {ret' : Option FieldType} {R' : Room} {SF0 : List Addr} {Q' : Option Value → Heap → (Addr → Prop) → Prop} {i : Nat} {ps : List FieldType} {rt : Option FieldType} (a : Addr) (argsL rest : List Value) (wt : Nat) (hM : Met EL l Z y bytes' maxL' ret' R' [] (.ref a :: argsL).toArray h n0 SF0 Q') (hsub : ∀ x ∈ SF0, x ∈ SF)
    (w1 : (Jvm.Cond.methodLink own i x).before a0 Z = true) (w2 : (Jvm.Cond.declares x).before a0 Z = true) (hnf : ∀ s : State, Z.Warmed39 s.vm → NotFace s x) (w3 : (Jvm.Cond.selects K x y).before a0 Z = true) (w4 : (Jvm.Cond.instanceMethod y).before a0 Z = true) (wz : (Jvm.Cond.initialized y.cls).before a0 Z = true) (wc : (Jvm.Cond.code y bytes' maxL' ret').before a0 Z = true)
    (hy : x.cls ≠ "java/lang/invoke/MethodHandle" ∧ x.cls ≠ "java/lang/invoke/VarHandle") (E : Exa Z h a K)
    (hd : decode bytes pc = .ok (.invokevirtual i, 3)) (hp : parseMethodDescriptor x.desc = some ⟨ps, rt⟩) (hn : argsL.length = ps.length) (hst : st = argsL.reverse ++ .ref a :: rest) (hwt : (rest.map fun v => v.category).sum = wt) (hs : Ls.size = maxL)
    (hf : R'.frames + 1 ≤ R.frames) (hl : wt + (maxL' + 11) + R'.locals ≤ R.locals) (hc : cells + R'.cells ≤ R.cells) (hsl : slots + R'.slots ≤ R.slots)
    (k : ∀ v h' (S : Addr → Prop), Q' v h' S → ∃ SX : List Addr, (∀ x ∈ SX, S x) ∧ OAt EL l Z bytes maxL own nm ret R n0 h0 Q (SX ++ SF) h' (cells + R'.cells) (slots + R'.slots) (pc + 3) Ls (v.toList ++ rest)) : OAt EL l Z bytes maxL own nm ret R n0 h0 Q SF h cells slots pc Ls st :=
  OAt.callN (len := 3) hM hsub wc wz hf hl hc hsl (fun C X eT _ _ hB hpre => by
    obtain ⟨cq, kq, qa, qb, qc⟩ := isOf C.zz eT E
    obtain ⟨v, vm₁, B, h1, h2, h5, h6, h3, h4⟩ := X.virtualBackS C.exec C.ow (mvT C.zz w1) (mvT C.zz w2) (hnf _ C.zz) (mvT C.zz w3) (mvT C.zz w4) hy hB qa qc (g := mkF _ pc Ls st) rfl (by rw [C.ml]; exact hs) (Steps.refl _) (lenOf hp hn) hst (by show 2 * 0 + _ ≤ _; rw [hwt]; omega) (hb C.by hd) hpre
    exact ⟨v, vm₁, B, h1, h2, h5, h6, h3, fun t q => h4.trans q⟩) k
/-- through an interface -/
theorem callF_ {x y : MethodName} {K : String} {bytes' : ByteArray} {maxL' : Nat} {ret' : Option FieldType} {R' : Room} {SF0 : List Addr} {Q' : Option Value → Heap → (Addr → Prop) → Prop} {i cn : Nat} {ps : List FieldType} {rt : Option FieldType} (a : Addr) (argsL rest : List Value) (wt : Nat) (hM : Met EL l Z y bytes' maxL' ret' R' [] (.ref a :: argsL).toArray h n0 SF0 Q') (hsub : ∀ x ∈ SF0, x ∈ SF)
    (w1 : (Jvm.Cond.methodLink own i x).before a0 Z = true) (w2 : (Jvm.Cond.declares x).before a0 Z = true) (w5 : (Jvm.Cond.interfaceMethod x.cls x.cls x.name x.desc).before a0 Z = true) (hfa : ((Jvm.Cond.interfaceMethod x.cls x.cls x.name x.desc).onTables && (Jvm.Cond.interfaceMethod x.cls x.cls x.name x.desc).keepsFace) = true) (w3 : (Jvm.Cond.selects K x y).before a0 Z = true) (w4 : (Jvm.Cond.instanceMethod y).before a0 Z = true) (w6 : (Jvm.Cond.publicMethod y).before a0 Z = true) (w7 : (Jvm.Cond.unhidden K x.name x.desc).before a0 Z = true) (w8 : (Jvm.Cond.castable K x.cls).before a0 Z = true)
    (wz : (Jvm.Cond.initialized y.cls).before a0 Z = true) (wc : (Jvm.Cond.code y bytes' maxL' ret').before a0 Z = true)
    (hy : x.cls ≠ "java/lang/invoke/MethodHandle" ∧ x.cls ≠ "java/lang/invoke/VarHandle") (E : Exa Z h a K)
    (hd : decode bytes pc = .ok (.invokeinterface i cn, 5)) (hp : parseMethodDescriptor x.desc = some ⟨ps, rt⟩) (hn : argsL.length = ps.length) (hst : st = argsL.reverse ++ .ref a :: rest) (hwt : (rest.map fun v => v.category).sum = wt) (hs : Ls.size = maxL)
    (hf : R'.frames + 1 ≤ R.frames) (hl : wt + (maxL' + 11) + R'.locals ≤ R.locals) (hc : cells + R'.cells ≤ R.cells) (hsl : slots + R'.slots ≤ R.slots)
    (k : ∀ v h' (S : Addr → Prop), Q' v h' S → ∃ SX : List Addr, (∀ x ∈ SX, S x) ∧ OAt EL l Z bytes maxL own nm ret R n0 h0 Q (SX ++ SF) h' (cells + R'.cells) (slots + R'.slots) (pc + 5) Ls (v.toList ++ rest)) : OAt EL l Z bytes maxL own nm ret R n0 h0 Q SF h cells slots pc Ls st :=
  OAt.callN (len := 5) hM hsub wc wz hf hl hc hsl (fun C X eT _ _ hB hpre => by
    obtain ⟨cq, kq, qa, qb, qc⟩ := isOf C.zz eT E
    obtain ⟨v, vm₁, B, h1, h2, h5, h6, h3, h4⟩ := X.interfaceBackS C.exec C.ow (mvT C.zz w1) (mvT C.zz w2) (mvT C.zz w5 hfa) (mvT C.zz w3) (mvT C.zz w4) (mvT C.zz w6) (mvT C.zz w7) (mvT C.zz w8) hy hB qa qb qc (g := mkF _ pc Ls st) rfl (by rw [C.ml]; exact hs) (Steps.refl _) (lenOf hp hn) hst (by show 2 * 0 + _ ≤ _; rw [hwt]; omega) (hb C.by hd) hpre
    exact ⟨v, vm₁, B, h1, h2, h5, h6, h3, fun t q => h4.trans q⟩) k
/-- a private method, by invokevirtual -/
theorem callP_ {y : MethodName} {K : String} {bytes' : ByteArray} {maxL' : Nat} {ret' : Option FieldType} {R' : Room} {SF0 : List Addr} {Q' : Option Value → Heap → (Addr → Prop) → Prop} {i : Nat} {ps : List FieldType} {rt : Option FieldType} (a : Addr) (argsL rest : List Value) (wt : Nat) (hM : Met EL l Z y bytes' maxL' ret' R' [] (.ref a :: argsL).toArray h n0 SF0 Q') (hsub : ∀ x ∈ SF0, x ∈ SF)
    (w1 : (Jvm.Cond.methodLink own i y).before a0 Z = true) (w4 : (Jvm.Cond.instanceMethod y).before a0 Z = true) (w3 : (Jvm.Cond.selects y.cls y y).before a0 Z = true) (w5 : (Jvm.Cond.privateMethod y).before a0 Z = true) (wz : (Jvm.Cond.initialized y.cls).before a0 Z = true) (wc : (Jvm.Cond.code y bytes' maxL' ret').before a0 Z = true)
    (hy : y.cls ≠ "java/lang/invoke/MethodHandle" ∧ y.cls ≠ "java/lang/invoke/VarHandle") (E : Exa Z h a K)
    (hd : decode bytes pc = .ok (.invokevirtual i, 3)) (hp : parseMethodDescriptor y.desc = some ⟨ps, rt⟩) (hn : argsL.length = ps.length) (hst : st = argsL.reverse ++ .ref a :: rest) (hwt : (rest.map fun v => v.category).sum = wt) (hs : Ls.size = maxL)
    (hf : R'.frames + 1 ≤ R.frames) (hl : wt + (maxL' + 11) + R'.locals ≤ R.locals) (hc : cells + R'.cells ≤ R.cells) (hsl : slots + R'.slots ≤ R.slots)
    (k : ∀ v h' (S : Addr → Prop), Q' v h' S → ∃ SX : List Addr, (∀ x ∈ SX, S x) ∧ OAt EL l Z bytes maxL own nm ret R n0 h0 Q (SX ++ SF) h' (cells + R'.cells) (slots + R'.slots) (pc + 3) Ls (v.toList ++ rest)) : OAt EL l Z bytes maxL own nm ret R n0 h0 Q SF h cells slots pc Ls st :=
  OAt.callN (len := 3) hM hsub wc wz hf hl hc hsl (fun C X eT _ _ hB hpre => by
    obtain ⟨cq, qa, qb⟩ := E.cell
    obtain ⟨v, vm₁, B, h1, h2, h5, h6, h3, h4⟩ := X.privateBackS C.exec C.ow (mvT C.zz w1) (mvT C.zz w4) (mvT C.zz w3) (Cond.privateMethod_at (mvP C.zz w5 (args := #[]))) (mvT C.zz wc) hy hB (g := mkF _ pc Ls st) rfl (by rw [C.ml]; exact hs) (Steps.refl _) (a := a) (by rw [eT]; exact qa) qb (lenOf hp hn) hst (by show 2 * 0 + _ ≤ _; rw [hwt]; omega) (hb C.by hd) hpre
    exact ⟨v, vm₁, B, h1, h2, h5, h6, h3, fun t q => h4.trans q⟩) k
def Pur0 (h : Heap) : Option Value → Heap → (Addr → Prop) → Prop := fun v h' _ => v = none ∧ h' = h
theorem callIP {y : MethodName} {bytes' : ByteArray} {maxL' : Nat} {R' : Room} {i : Nat} {ps : List FieldType} {rt : Option FieldType} (a : Addr) (argsL rest : List Value) (wt : Nat) (hM : Met EL l Z y bytes' maxL' none R' [] (.ref a :: argsL).toArray h n0 [] (Pur0 h))
    (w1 : (Jvm.Cond.methodLink own i y).before a0 Z = true) (w2 : (Jvm.Cond.instanceMethod y).before a0 Z = true) (wz : (Jvm.Cond.initialized y.cls).before a0 Z = true) (wc : (Jvm.Cond.code y bytes' maxL' none).before a0 Z = true) (hy1 : y.name = "<init>") (hy : y.cls ≠ "java/lang/invoke/MethodHandle" ∧ y.cls ≠ "java/lang/invoke/VarHandle")
    (hd : decode bytes pc = .ok (.invokespecial i, 3)) (hp : parseMethodDescriptor y.desc = some ⟨ps, rt⟩) (hn : argsL.length = ps.length) (hst : st = argsL.reverse ++ .ref a :: rest) (hwt : (rest.map fun v => v.category).sum = wt) (hs : Ls.size = maxL)
    (hf : R'.frames + 1 ≤ R.frames) (hl : wt + (maxL' + 11) + R'.locals ≤ R.locals) (hc : cells + R'.cells ≤ R.cells) (hsl : slots + R'.slots ≤ R.slots)
    (k : OAt EL l Z bytes maxL own nm ret R n0 h0 Q SF h (cells + R'.cells) (slots + R'.slots) (pc + 3) Ls rest) : OAt EL l Z bytes maxL own nm ret R n0 h0 Q SF h cells slots pc Ls st :=
  callI_ a argsL rest wt hM (fun _ z => nomatch z) w1 w2 wz wc hy1 hy hd hp hn hst hwt hs hf hl hc hsl (fun v h' S q => by obtain ⟨rfl, rfl⟩ := q; exact ⟨[], fun _ z => (nomatch z), k⟩)
theorem callVP {x y : MethodName} {K : String} {bytes' : ByteArray} {maxL' : Nat} {ret' : Option FieldType} {R' : Room} {val : Value} {i : Nat} {ps : List FieldType} {rt : Option FieldType} (a : Addr) (argsL rest : List Value) (wt : Nat) (hM : Met EL l Z y bytes' maxL' ret' R' [] (.ref a :: argsL).toArray h n0 [] (Pur val h))
    (w1 : (Jvm.Cond.methodLink own i x).before a0 Z = true) (w2 : (Jvm.Cond.declares x).before a0 Z = true) (hnf : ∀ s : State, Z.Warmed39 s.vm → NotFace s x) (w3 : (Jvm.Cond.selects K x y).before a0 Z = true) (w4 : (Jvm.Cond.instanceMethod y).before a0 Z = true) (wz : (Jvm.Cond.initialized y.cls).before a0 Z = true) (wc : (Jvm.Cond.code y bytes' maxL' ret').before a0 Z = true)
    (hy : x.cls ≠ "java/lang/invoke/MethodHandle" ∧ x.cls ≠ "java/lang/invoke/VarHandle") (E : Exa Z h a K)
    (hd : decode bytes pc = .ok (.invokevirtual i, 3)) (hp : parseMethodDescriptor x.desc = some ⟨ps, rt⟩) (hn : argsL.length = ps.length) (hst : st = argsL.reverse ++ .ref a :: rest) (hwt : (rest.map fun v => v.category).sum = wt) (hs : Ls.size = maxL)
    (hf : R'.frames + 1 ≤ R.frames) (hl : wt + (maxL' + 11) + R'.locals ≤ R.locals) (hc : cells + R'.cells ≤ R.cells) (hsl : slots + R'.slots ≤ R.slots)
    (k : OAt EL l Z bytes maxL own nm ret R n0 h0 Q SF h (cells + R'.cells) (slots + R'.slots) (pc + 3) Ls (val :: rest)) : OAt EL l Z bytes maxL own nm ret R n0 h0 Q SF h cells slots pc Ls st :=
  callV_ a argsL rest wt hM (fun _ z => nomatch z) w1 w2 hnf w3 w4 wz wc hy E hd hp hn hst hwt hs hf hl hc hsl (fun v h' S q => by obtain ⟨rfl, rfl⟩ := q; exact ⟨[], fun _ z => (nomatch z), k⟩)
theorem callFP {x y : MethodName} {K : String} {bytes' : ByteArray} {maxL' : Nat} {ret' : Option FieldType} {R' : Room} {val : Value} {i cn : Nat} {ps : List FieldType} {rt : Option FieldType} (a : Addr) (argsL rest : List Value) (wt : Nat) (hM : Met EL l Z y bytes' maxL' ret' R' [] (.ref a :: argsL).toArray h n0 [] (Pur val h))
    (w1 : (Jvm.Cond.methodLink own i x).before a0 Z = true) (w2 : (Jvm.Cond.declares x).before a0 Z = true) (w5 : (Jvm.Cond.interfaceMethod x.cls x.cls x.name x.desc).before a0 Z = true) (hfa : ((Jvm.Cond.interfaceMethod x.cls x.cls x.name x.desc).onTables && (Jvm.Cond.interfaceMethod x.cls x.cls x.name x.desc).keepsFace) = true) (w3 : (Jvm.Cond.selects K x y).before a0 Z = true) (w4 : (Jvm.Cond.instanceMethod y).before a0 Z = true) (w6 : (Jvm.Cond.publicMethod y).before a0 Z = true) (w7 : (Jvm.Cond.unhidden K x.name x.desc).before a0 Z = true) (w8 : (Jvm.Cond.castable K x.cls).before a0 Z = true)
    (wz : (Jvm.Cond.initialized y.cls).before a0 Z = true) (wc : (Jvm.Cond.code y bytes' maxL' ret').before a0 Z = true)
    (hy : x.cls ≠ "java/lang/invoke/MethodHandle" ∧ x.cls ≠ "java/lang/invoke/VarHandle") (E : Exa Z h a K)
    (hd : decode bytes pc = .ok (.invokeinterface i cn, 5)) (hp : parseMethodDescriptor x.desc = some ⟨ps, rt⟩) (hn : argsL.length = ps.length) (hst : st = argsL.reverse ++ .ref a :: rest) (hwt : (rest.map fun v => v.category).sum = wt) (hs : Ls.size = maxL)
    (hf : R'.frames + 1 ≤ R.frames) (hl : wt + (maxL' + 11) + R'.locals ≤ R.locals) (hc : cells + R'.cells ≤ R.cells) (hsl : slots + R'.slots ≤ R.slots)
    (k : OAt EL l Z bytes maxL own nm ret R n0 h0 Q SF h (cells + R'.cells) (slots + R'.slots) (pc + 5) Ls (val :: rest)) : OAt EL l Z bytes maxL own nm ret R n0 h0 Q SF h cells slots pc Ls st :=
  callF_ a argsL rest wt hM (fun _ z => nomatch z) w1 w2 w5 hfa w3 w4 w6 w7 w8 wz wc hy E hd hp hn hst hwt hs hf hl hc hsl (fun v h' S q => by obtain ⟨rfl, rfl⟩ := q; exact ⟨[], fun _ z => (nomatch z), k⟩)
theorem callPP {y : MethodName} {K : String} {bytes' : ByteArray} {maxL' : Nat} {ret' : Option FieldType} {R' : Room} {val : Value} {i : Nat} {ps : List FieldType} {rt : Option FieldType} (a : Addr) (argsL rest : List Value) (wt : Nat) (hM : Met EL l Z y bytes' maxL' ret' R' [] (.ref a :: argsL).toArray h n0 [] (Pur val h))
    (w1 : (Jvm.Cond.methodLink own i y).before a0 Z = true) (w4 : (Jvm.Cond.instanceMethod y).before a0 Z = true) (w3 : (Jvm.Cond.selects y.cls y y).before a0 Z = true) (w5 : (Jvm.Cond.privateMethod y).before a0 Z = true) (wz : (Jvm.Cond.initialized y.cls).before a0 Z = true) (wc : (Jvm.Cond.code y bytes' maxL' ret').before a0 Z = true)
    (hy : y.cls ≠ "java/lang/invoke/MethodHandle" ∧ y.cls ≠ "java/lang/invoke/VarHandle") (E : Exa Z h a K)
    (hd : decode bytes pc = .ok (.invokevirtual i, 3)) (hp : parseMethodDescriptor y.desc = some ⟨ps, rt⟩) (hn : argsL.length = ps.length) (hst : st = argsL.reverse ++ .ref a :: rest) (hwt : (rest.map fun v => v.category).sum = wt) (hs : Ls.size = maxL)
    (hf : R'.frames + 1 ≤ R.frames) (hl : wt + (maxL' + 11) + R'.locals ≤ R.locals) (hc : cells + R'.cells ≤ R.cells) (hsl : slots + R'.slots ≤ R.slots)
    (k : OAt EL l Z bytes maxL own nm ret R n0 h0 Q SF h (cells + R'.cells) (slots + R'.slots) (pc + 3) Ls (val :: rest)) : OAt EL l Z bytes maxL own nm ret R n0 h0 Q SF h cells slots pc Ls st :=
  callP_ a argsL rest wt hM (fun _ z => nomatch z) w1 w4 w3 w5 wz wc hy E hd hp hn hst hwt hs hf hl hc hsl (fun v h' S q => by obtain ⟨rfl, rfl⟩ := q; exact ⟨[], fun _ z => (nomatch z), k⟩)
theorem arraycopy_ {a b : Addr} {ka kb : ClassId} {ty : FieldType} {vs vd : List Value} {sp dp nn : Int32} {i j n : Nat} {ix : Nat} (wt : Nat) (w1 : (Jvm.Cond.methodLink own ix Jvm.Stand.acN).before a0 Z = true) (w2 : (Jvm.Cond.native Jvm.Stand.acN).before a0 Z = true) (w3 : (Jvm.Cond.static Jvm.Stand.acN).before a0 Z = true) (w4 : (Jvm.Cond.initialized "java/lang/System").before a0 Z = true)
    (F : Arl Z h a ka ty vs) (G : Arl Z h b kb ty vd) (hty : refKind ty = false) (h1 : sp.toInt = i) (h2 : dp.toInt = j) (h3 : nn.toInt = n) (h4 : i + n ≤ vs.length) (h5 : j + n ≤ vd.length) (ge : n0 ≤ b) (hsf : b ∈ SF) (hs : Ls.size = maxL) (hd : decode bytes pc = .ok (.invokestatic ix, 3)) (hf : 1 ≤ R.frames) (hwt : (st.map fun v => v.category).sum = wt) (hlo : wt + (nativeFrameWords "java/lang/System" "arraycopy" 5 + 11) ≤ R.locals)
    (k : ∀ h', Keep h h' [b] → Arl Z h' b kb ty (vd.take j ++ (vs.drop i).take n ++ vd.drop (j + n)) → OAt EL l Z bytes maxL own nm ret R n0 h0 Q SF h' cells slots (pc + 3) Ls st) : OAt EL l Z bytes maxL own nm ret R n0 h0 Q SF h cells slots pc Ls (.int nn :: .int dp :: .ref b :: .int sp :: .ref a :: st) := by
  obtain ⟨p1, q1⟩ := idx_of h1
  obtain ⟨p2, q2⟩ := idx_of h2
  obtain ⟨p3, q3⟩ := idx_of h3
  have la := F.len
  have lb := G.len
  have za : (Int32.ofNat vs.length).toInt = vs.length := Int32.toInt_ofNat_of_lt la
  have zb : (Int32.ofNat vd.length).toInt = vd.length := Int32.toInt_ofNat_of_lt lb
  obtain ⟨pa, qa⟩ := idx_of za
  obtain ⟨pb, qb⟩ := idx_of zb
  have hus : (vs.drop i).take n = (List.range n).map fun k => vs.getD (i + k) .null := by
    apply List.ext_getElem?
    intro k
    by_cases hk : k < n
    · rw [List.getElem?_take_of_lt hk, List.getElem?_drop, List.getElem?_map, List.getElem?_range hk, Option.map_some, List.getD_eq_getElem?_getD, List.getElem?_eq_getElem (by omega)]; rfl
    · rw [List.getElem?_eq_none (by simp; omega), List.getElem?_eq_none (by simp; omega)]
  exact OAt.move (P := fun h' => Keep h h' [b] ∧ Arl Z h' b kb ty (vd.take j ++ (vs.drop i).take n ++ vd.drop (j + n))) (st' := fun _ => st) (SF' := fun _ => SF) (fun h' vm hal H hS q => sf_keep q.1 H hS hsf) (fun h' q => k h' q.1 q.2) fun C X e N => by
    obtain ⟨T', h', L, X', e', N', K, V, g⟩ := cpA X C.exec C.zz C.ow w1 w2 w3 w4 e (F.arv .null za) (G.arv .null zb) (us := (vs.drop i).take n) (Or.inl ⟨rfl, hty⟩) p1 p2 p3 (by omega) (by omega) (by rw [q3, q1]; exact hus) (by omega) N ge (g := mkF _ pc Ls (.int nn :: .int dp :: .ref b :: .int sp :: .ref a :: st)) rfl (by rw [C.ml]; exact hs) rfl (hb C.by hd) hf (W := wt) (by show 2 * 0 + _ ≤ _; rw [hwt]; omega) hlo
    rw [q2, q3] at V
    refine ⟨T', h', L, X', e', N', ⟨K, Arl.of_arv V ?_⟩, g⟩
    rw [zb]; simp; omega
theorem callS0 {y : MethodName} {bytes' : ByteArray} {maxL' : Nat} {ret' : Option FieldType} {R' : Room} {i : Nat} {ps : List FieldType} {rt : Option FieldType} (argsL rest : List Value) (wt : Nat) (hM : Met EL l Z y bytes' maxL' ret' R' [] argsL.toArray h n0 [] (Pur0 h))
    (w1 : (Jvm.Cond.methodLink own i y).before a0 Z = true) (w2 : (Jvm.Cond.static y).before a0 Z = true) (wz : (Jvm.Cond.initialized y.cls).before a0 Z = true) (wc : (Jvm.Cond.code y bytes' maxL' ret').before a0 Z = true) (hy : y.cls ≠ "java/lang/invoke/MethodHandle" ∧ y.cls ≠ "java/lang/invoke/VarHandle")
    (hd : decode bytes pc = .ok (.invokestatic i, 3)) (hp : parseMethodDescriptor y.desc = some ⟨ps, rt⟩) (hn : argsL.length = ps.length) (hst : st = argsL.reverse ++ rest) (hwt : (rest.map fun v => v.category).sum = wt) (hs : Ls.size = maxL)
    (hf : R'.frames + 1 ≤ R.frames) (hl : wt + (maxL' + 11) + R'.locals ≤ R.locals) (hc : cells + R'.cells ≤ R.cells) (hsl : slots + R'.slots ≤ R.slots)
    (k : OAt EL l Z bytes maxL own nm ret R n0 h0 Q SF h (cells + R'.cells) (slots + R'.slots) (pc + 3) Ls rest) : OAt EL l Z bytes maxL own nm ret R n0 h0 Q SF h cells slots pc Ls st :=
  callS_ argsL rest wt hM (fun _ z => nomatch z) w1 w2 wz wc hy hd hp hn hst hwt hs hf hl hc hsl (fun v h' S q => by obtain ⟨rfl, rfl⟩ := q; exact ⟨[], fun _ z => (nomatch z), k⟩)
theorem callV0 {x y : MethodName} {K : String} {bytes' : ByteArray} {maxL' : Nat} {ret' : Option FieldType} {R' : Room} {i : Nat} {ps : List FieldType} {rt : Option FieldType} (a : Addr) (argsL rest : List Value) (wt : Nat) (hM : Met EL l Z y bytes' maxL' ret' R' [] (.ref a :: argsL).toArray h n0 [] (Pur0 h))
    (w1 : (Jvm.Cond.methodLink own i x).before a0 Z = true) (w2 : (Jvm.Cond.declares x).before a0 Z = true) (hnf : ∀ s : State, Z.Warmed39 s.vm → NotFace s x) (w3 : (Jvm.Cond.selects K x y).before a0 Z = true) (w4 : (Jvm.Cond.instanceMethod y).before a0 Z = true) (wz : (Jvm.Cond.initialized y.cls).before a0 Z = true) (wc : (Jvm.Cond.code y bytes' maxL' ret').before a0 Z = true)
    (hy : x.cls ≠ "java/lang/invoke/MethodHandle" ∧ x.cls ≠ "java/lang/invoke/VarHandle") (E : Exa Z h a K)
    (hd : decode bytes pc = .ok (.invokevirtual i, 3)) (hp : parseMethodDescriptor x.desc = some ⟨ps, rt⟩) (hn : argsL.length = ps.length) (hst : st = argsL.reverse ++ .ref a :: rest) (hwt : (rest.map fun v => v.category).sum = wt) (hs : Ls.size = maxL)
    (hf : R'.frames + 1 ≤ R.frames) (hl : wt + (maxL' + 11) + R'.locals ≤ R.locals) (hc : cells + R'.cells ≤ R.cells) (hsl : slots + R'.slots ≤ R.slots)
    (k : OAt EL l Z bytes maxL own nm ret R n0 h0 Q SF h (cells + R'.cells) (slots + R'.slots) (pc + 3) Ls rest) : OAt EL l Z bytes maxL own nm ret R n0 h0 Q SF h cells slots pc Ls st :=
  callV_ a argsL rest wt hM (fun _ z => nomatch z) w1 w2 hnf w3 w4 wz wc hy E hd hp hn hst hwt hs hf hl hc hsl (fun v h' S q => by obtain ⟨rfl, rfl⟩ := q; exact ⟨[], fun _ z => (nomatch z), k⟩)
theorem callF0 {x y : MethodName} {K : String} {bytes' : ByteArray} {maxL' : Nat} {ret' : Option FieldType} {R' : Room} {i cn : Nat} {ps : List FieldType} {rt : Option FieldType} (a : Addr) (argsL rest : List Value) (wt : Nat) (hM : Met EL l Z y bytes' maxL' ret' R' [] (.ref a :: argsL).toArray h n0 [] (Pur0 h))
    (w1 : (Jvm.Cond.methodLink own i x).before a0 Z = true) (w2 : (Jvm.Cond.declares x).before a0 Z = true) (w5 : (Jvm.Cond.interfaceMethod x.cls x.cls x.name x.desc).before a0 Z = true) (hfa : ((Jvm.Cond.interfaceMethod x.cls x.cls x.name x.desc).onTables && (Jvm.Cond.interfaceMethod x.cls x.cls x.name x.desc).keepsFace) = true) (w3 : (Jvm.Cond.selects K x y).before a0 Z = true) (w4 : (Jvm.Cond.instanceMethod y).before a0 Z = true) (w6 : (Jvm.Cond.publicMethod y).before a0 Z = true) (w7 : (Jvm.Cond.unhidden K x.name x.desc).before a0 Z = true) (w8 : (Jvm.Cond.castable K x.cls).before a0 Z = true)
    (wz : (Jvm.Cond.initialized y.cls).before a0 Z = true) (wc : (Jvm.Cond.code y bytes' maxL' ret').before a0 Z = true)
    (hy : x.cls ≠ "java/lang/invoke/MethodHandle" ∧ x.cls ≠ "java/lang/invoke/VarHandle") (E : Exa Z h a K)
    (hd : decode bytes pc = .ok (.invokeinterface i cn, 5)) (hp : parseMethodDescriptor x.desc = some ⟨ps, rt⟩) (hn : argsL.length = ps.length) (hst : st = argsL.reverse ++ .ref a :: rest) (hwt : (rest.map fun v => v.category).sum = wt) (hs : Ls.size = maxL)
    (hf : R'.frames + 1 ≤ R.frames) (hl : wt + (maxL' + 11) + R'.locals ≤ R.locals) (hc : cells + R'.cells ≤ R.cells) (hsl : slots + R'.slots ≤ R.slots)
    (k : OAt EL l Z bytes maxL own nm ret R n0 h0 Q SF h (cells + R'.cells) (slots + R'.slots) (pc + 5) Ls rest) : OAt EL l Z bytes maxL own nm ret R n0 h0 Q SF h cells slots pc Ls st :=
  callF_ a argsL rest wt hM (fun _ z => nomatch z) w1 w2 w5 hfa w3 w4 w6 w7 w8 wz wc hy E hd hp hn hst hwt hs hf hl hc hsl (fun v h' S q => by obtain ⟨rfl, rfl⟩ := q; exact ⟨[], fun _ z => (nomatch z), k⟩)
theorem callP0 {y : MethodName} {K : String} {bytes' : ByteArray} {maxL' : Nat} {ret' : Option FieldType} {R' : Room} {i : Nat} {ps : List FieldType} {rt : Option FieldType} (a : Addr) (argsL rest : List Value) (wt : Nat) (hM : Met EL l Z y bytes' maxL' ret' R' [] (.ref a :: argsL).toArray h n0 [] (Pur0 h))
    (w1 : (Jvm.Cond.methodLink own i y).before a0 Z = true) (w4 : (Jvm.Cond.instanceMethod y).before a0 Z = true) (w3 : (Jvm.Cond.selects y.cls y y).before a0 Z = true) (w5 : (Jvm.Cond.privateMethod y).before a0 Z = true) (wz : (Jvm.Cond.initialized y.cls).before a0 Z = true) (wc : (Jvm.Cond.code y bytes' maxL' ret').before a0 Z = true)
    (hy : y.cls ≠ "java/lang/invoke/MethodHandle" ∧ y.cls ≠ "java/lang/invoke/VarHandle") (E : Exa Z h a K)
    (hd : decode bytes pc = .ok (.invokevirtual i, 3)) (hp : parseMethodDescriptor y.desc = some ⟨ps, rt⟩) (hn : argsL.length = ps.length) (hst : st = argsL.reverse ++ .ref a :: rest) (hwt : (rest.map fun v => v.category).sum = wt) (hs : Ls.size = maxL)
    (hf : R'.frames + 1 ≤ R.frames) (hl : wt + (maxL' + 11) + R'.locals ≤ R.locals) (hc : cells + R'.cells ≤ R.cells) (hsl : slots + R'.slots ≤ R.slots)
    (k : OAt EL l Z bytes maxL own nm ret R n0 h0 Q SF h (cells + R'.cells) (slots + R'.slots) (pc + 3) Ls rest) : OAt EL l Z bytes maxL own nm ret R n0 h0 Q SF h cells slots pc Ls st :=
  callP_ a argsL rest wt hM (fun _ z => nomatch z) w1 w4 w3 w5 wz wc hy E hd hp hn hst hwt hs hf hl hc hsl (fun v h' S q => by obtain ⟨rfl, rfl⟩ := q; exact ⟨[], fun _ z => (nomatch z), k⟩)

theorem ldcC_ {text : String} {i : Nat} {vs : List Value} {z : Int32} (n : Nat) (w : (Jvm.Cond.stringLink own i text).before a0 Z = true) (wS : ∀ a ∈ Bundle.stringAtoms, a.before a0 Z = true) (hmem : (own, i) ∈ EL) (hEL : EW Z a0 EL) (ht : (∀ c ∈ text.toList, c.toNat < 256) ∧ text.toList.map (fun c => Value.int (Jvm.Lit.byteI c.toNat.toUInt16)) = vs) (hz : z.toInt = vs.length)
    (hd : decode bytes pc = .ok (.ldc i, 2)) (hn' : 4 * text.toList.length ≤ n) (hbig : n ≤ 536870912) (hc : cells + 2 ≤ R.cells) (hl : slots + (n + 4) ≤ R.slots)
    (k : ∀ (h' : Heap) (a b : Addr) (kb : ClassId), Ext h h' → Exa Z h' a "java/lang/String" → Fld Z h' a "java/lang/String" "coder" "B" (.int 0) → Fld Z h' a "java/lang/String" "value" "[B" (.ref b) → Arl Z h' b kb .byte vs → (∀ x ∈ SF, x ≠ a ∧ x ≠ b) → OAt EL l Z bytes maxL own nm ret R n0 h0 Q SF h' (cells + 2) (slots + (n + 4)) (pc + 2) Ls (.ref a :: st)) : OAt EL l Z bytes maxL own nm ret R n0 h0 Q SF h cells slots pc Ls st :=
  fun p e s vm0 m args below meth c T locs C r X eT N => by
    obtain ⟨⟨k0, r1, r2⟩, r3, r4⟩ := r
    obtain ⟨q1, q2⟩ := idx_of hz
    obtain ⟨a, T', h', k1, b, kb, X', e', E, hS', hk', hZ', hown', E1, E2, E3, E4, -, -, hch, -, hne, g⟩ := ldcCH X C.exec C.zz C.ow w wS eT r1 r2 hEL hmem r3.1 ht q1 q2 (g := mkF m pc Ls st) rfl (hb C.by hd) hn' hbig hc hl
    have hsf : ∀ x ∈ SF, SfAt Z EL T'.vm h' x := fun x hx => ⟨Nat.lt_of_lt_of_le (r4 x hx).1 E.1, hch.safe (r4 x hx).1 (r4 x hx).2⟩
    exact (k h' a b kb E E1 E2 E3 (Arl.of_arv E4 hz) (fun x hx => hne x (hsf x hx).2) p e s T'.vm m args below meth c T' locs ⟨C.1, C.2.1, C.2.2.1, C.2.2.2.1, C.2.2.2.2.1, C.2.2.2.2.2.1, hZ', hown', C.2.2.2.2.2.2.2.2⟩ ⟨⟨k1, hS', hk'⟩, r3.trans hch, hsf⟩ X' e' N).step g
theorem sel_own {Z : State} {a0 : Array Value} {K : String} {y : MethodName} (w : (Jvm.Cond.selects K y y).before a0 Z = true) (wp : (Jvm.Cond.privateMethod y).before a0 Z = true) (wi : (Jvm.Cond.instanceMethod y).before a0 Z = true) (hy : y.cls ≠ "java/lang/invoke/MethodHandle" ∧ y.cls ≠ "java/lang/invoke/VarHandle") : (Jvm.Cond.selects y.cls y y).before a0 Z = true := by
  obtain ⟨c, r, m, q1, q2, q3, q4, mk, q5, q6⟩ := Cond.selects_spec w
  obtain ⟨m', meth, n1, n2, -, -⟩ := Cond.instanceMethod_spec wi
  cases n1.symm.trans q3
  have hr := State.methodFound?_of_named q3 hy
  have hc := findClass_of_methodNamed q3
  have hs := selectMethod_private (p := {}) (c := m.cls) n2 (Cond.privateMethod_at wp _ _ q3 n2)
  simp [Cond.before, Cond.holds, Cond.value, hc, hr, q3, hs, q5, q6]
theorem face_same {s : State} {args : Array Value} {K : String} {x y : MethodName} (w : (Jvm.Cond.selects K x x).before args s = true) (hc : x.cls = y.cls) : NotFace s y := fun r0 h0 => by
  obtain ⟨c2, r2, m2, q1, q2, q3, q4, kP, hkP, hkPi⟩ := Cond.selects_spec w
  have e1 := findClass_of_methodNamed q3
  have e2 := findClass_of_methodNamed h0
  rw [hc] at e1
  have e3 : m2.cls = r0.cls := Option.some.inj (e1.symm.trans e2)
  exact ⟨kP, e3 ▸ hkP, hkPi⟩
theorem same_own {Z : State} {a0 : Array Value} {y : MethodName} (w : NotFace Z y) (wi : (Jvm.Cond.instanceMethod y).before a0 Z = true) (hy : y.cls ≠ "java/lang/invoke/MethodHandle" ∧ y.cls ≠ "java/lang/invoke/VarHandle") : (Jvm.Cond.sameMethod y.cls y.cls y.name y.desc).before a0 Z = true := by
  obtain ⟨m', meth, n1, n2, -, -⟩ := Cond.instanceMethod_spec wi
  obtain ⟨k, hk, hi⟩ := w _ n1
  have hr := State.methodFound?_of_named n1 hy
  have hc := findClass_of_methodNamed n1
  simp [Cond.before, Cond.holds, Cond.value, hc, hr, n1, hk, hi]
theorem callU_ {y : MethodName} {K : String} {bytes' : ByteArray} {maxL' : Nat} {ret' : Option FieldType} {R' : Room} {SF0 : List Addr} {Q' : Option Value → Heap → (Addr → Prop) → Prop} {i : Nat} {ps : List FieldType} {rt : Option FieldType} (a : Addr) (argsL rest : List Value) (wt : Nat) (hM : Met EL l Z y bytes' maxL' ret' R' [] (.ref a :: argsL).toArray h n0 SF0 Q') (hsub : ∀ x ∈ SF0, x ∈ SF)
    (w1 : (Jvm.Cond.methodLink own i y).before a0 Z = true) (w2 : (Jvm.Cond.sameMethod y.cls y.cls y.name y.desc).before a0 Z = true) (w3 : (Jvm.Cond.instanceMethod y).before a0 Z = true) (w4 : (Jvm.Cond.superclass own y.cls).before a0 Z = true) (wz : (Jvm.Cond.initialized y.cls).before a0 Z = true) (wc : (Jvm.Cond.code y bytes' maxL' ret').before a0 Z = true) (hy1 : y.name ≠ "<init>") (F : Ins Z h a K true)
    (hd : decode bytes pc = .ok (.invokespecial i, 3)) (hp : parseMethodDescriptor y.desc = some ⟨ps, rt⟩) (hn : argsL.length = ps.length) (hst : st = argsL.reverse ++ .ref a :: rest) (hwt : (rest.map fun v => v.category).sum = wt) (hs : Ls.size = maxL)
    (hf : R'.frames + 1 ≤ R.frames) (hl : wt + (maxL' + 11) + R'.locals ≤ R.locals) (hc : cells + R'.cells ≤ R.cells) (hsl : slots + R'.slots ≤ R.slots)
    (k : ∀ v h' (S : Addr → Prop), Q' v h' S → ∃ SX : List Addr, (∀ x ∈ SX, S x) ∧ OAt EL l Z bytes maxL own nm ret R n0 h0 Q (SX ++ SF) h' (cells + R'.cells) (slots + R'.slots) (pc + 3) Ls (v.toList ++ rest)) : OAt EL l Z bytes maxL own nm ret R n0 h0 Q SF h cells slots pc Ls st :=
  OAt.callN (len := 3) hM hsub wc wz hf hl hc hsl (fun C X eT _ _ hB hpre => by
    obtain ⟨v, vm₁, B, h1, h2, h5, h6, h3, h4⟩ := Jvm.RoadKit.superBackS X C.exec C.zz C.ow w1 w2 w3 w4 hy1 hB eT F (g := mkF _ pc Ls st) rfl (by rw [C.ml]; exact hs) wc (lenOf hp hn) hst (by show 2 * 0 + _ ≤ _; rw [hwt]; omega) (hb C.by hd) hpre
    exact ⟨v, vm₁, B, h1, h2, h5, h6, h3, fun t q => h4.trans q⟩) k
theorem callUP {y : MethodName} {K : String} {bytes' : ByteArray} {maxL' : Nat} {ret' : Option FieldType} {R' : Room} {val : Value} {i : Nat} {ps : List FieldType} {rt : Option FieldType} (a : Addr) (argsL rest : List Value) (wt : Nat) (hM : Met EL l Z y bytes' maxL' ret' R' [] (.ref a :: argsL).toArray h n0 [] (Pur val h))
    (w1 : (Jvm.Cond.methodLink own i y).before a0 Z = true) (w2 : (Jvm.Cond.sameMethod y.cls y.cls y.name y.desc).before a0 Z = true) (w3 : (Jvm.Cond.instanceMethod y).before a0 Z = true) (w4 : (Jvm.Cond.superclass own y.cls).before a0 Z = true) (wz : (Jvm.Cond.initialized y.cls).before a0 Z = true) (wc : (Jvm.Cond.code y bytes' maxL' ret').before a0 Z = true) (hy1 : y.name ≠ "<init>") (F : Ins Z h a K true)
    (hd : decode bytes pc = .ok (.invokespecial i, 3)) (hp : parseMethodDescriptor y.desc = some ⟨ps, rt⟩) (hn : argsL.length = ps.length) (hst : st = argsL.reverse ++ .ref a :: rest) (hwt : (rest.map fun v => v.category).sum = wt) (hs : Ls.size = maxL)
    (hf : R'.frames + 1 ≤ R.frames) (hl : wt + (maxL' + 11) + R'.locals ≤ R.locals) (hc : cells + R'.cells ≤ R.cells) (hsl : slots + R'.slots ≤ R.slots)
    (k : OAt EL l Z bytes maxL own nm ret R n0 h0 Q SF h (cells + R'.cells) (slots + R'.slots) (pc + 3) Ls (val :: rest)) : OAt EL l Z bytes maxL own nm ret R n0 h0 Q SF h cells slots pc Ls st :=
  callU_ a argsL rest wt hM (fun _ z => nomatch z) w1 w2 w3 w4 wz wc hy1 F hd hp hn hst hwt hs hf hl hc hsl (fun v h' S q => by obtain ⟨rfl, rfl⟩ := q; exact ⟨[], fun _ z => (nomatch z), k⟩)

end Walk
end Jvm.Own
namespace Jvm.Pilot.@@N@@
open Jvm Jvm.ClassFile Sem Op Lib Jvm.Free Jvm.Stand Jvm.LawKit Jvm.RoadKit Jvm.Own Bundle Jvm.Pilot.@@N@@.Jvm.D
abbrev FSv (Z : State) (h : Heap) (a : Addr) (v : Value) : Prop := Fld Z h a "java/lang/String" "value" "[B" v
abbrev FSc (Z : State) (h : Heap) (a : Addr) (v : Value) : Prop := Fld Z h a "java/lang/String" "coder" "B" v
abbrev FAv (Z : State) (h : Heap) (a : Addr) (v : Value) : Prop := Fld Z h a "java/lang/AbstractStringBuilder" "value" "[B" v
abbrev FAc (Z : State) (h : Heap) (a : Addr) (v : Value) : Prop := Fld Z h a "java/lang/AbstractStringBuilder" "coder" "B" v
abbrev FAn (Z : State) (h : Heap) (a : Addr) (v : Value) : Prop := Fld Z h a "java/lang/AbstractStringBuilder" "count" "I" v
abbrev XSt (Z : State) (h : Heap) (a : Addr) : Prop := Exa Z h a "java/lang/String"
abbrev Z0 : Value := .int (0 : Int32)
set_option maxRecDepth 65536
set_option maxHeartbeats 40000000
theorem mg {α : Type} {l : List α} {a : α} (i : Nat) (h : l[i]? = some a) : a ∈ l := List.mem_of_getElem? h
abbrev HW (a0 : Array Value) (Z : State) : Prop := ∀ d ∈ tables_1, d.before a0 Z = true
theorem own_wS {Z : State} {a0 : Array Value} (hw : HW a0 Z) : ∀ a ∈ Bundle.stringAtoms, a.before a0 Z = true := fun d hd => by
  simp only [Bundle.stringAtoms, List.mem_cons, List.not_mem_nil, or_false] at hd
  rcases hd with rfl | rfl | rfl | rfl | rfl | rfl | rfl
  · exact (hw _ (mg 7 rfl))
  · exact (hw _ (mg 6 rfl))
  · exact (hw _ (mg 24 rfl))
  · exact (hw _ (mg 34 rfl))
  · exact (hw _ (mg 32 rfl))
  · exact (hw _ (mg 36 rfl))
  · exact (hw _ (mg 37 rfl))
def own_EL : Ents := [("com/example/hits_by_heading/hitsbyheading/document/Document", 89), ("java/lang/String", 7)]
theorem own_EW {Z : State} {a0 : Array Value} (hw : HW a0 Z) : EW Z a0 own_EL := (EW.cons (hw _ (mg 141 rfl)) (by decide) (EW.cons (hw _ (mg 35 rfl)) (by decide) EW.nil))
def own_b0 (c : Int32) : Int32 := nar .byte ((c >>> ((0 : Int32) &&& 31)).toInt8.toInt32)
def own_b1 (c : Int32) : Int32 := nar .byte ((c >>> ((8 : Int32) &&& 31)).toInt8.toInt32)
def own_gc (x y : Int32) : Int32 := nar .char (((((x &&& (255 : Int32)) <<< ((0 : Int32) &&& 31)) ||| ((y &&& (255 : Int32)) <<< ((8 : Int32) &&& 31))).toUInt32.toUInt16.toUInt32.toInt32))
def own_lc (x : Int32) : Int32 := nar .char ((x &&& (255 : Int32)).toUInt32.toUInt16.toUInt32.toInt32)
theorem own_b0v (c : Int32) : (own_b0 c).toInt % 256 = c.toInt % 256 := by
  have h1 := c_ishr c 0 0 rfl
  have h2 := c_i2b (c >>> ((0 : Int32) &&& 31))
  have h3 := c_i2b ((c >>> ((0 : Int32) &&& 31)).toInt8.toInt32)
  show ((c >>> ((0 : Int32) &&& 31)).toInt8.toInt32.toInt8.toInt32).toInt % 256 = _
  omega
theorem own_b1v (c : Int32) : (own_b1 c).toInt % 256 = (c.toInt / 256) % 256 := by
  have h1 := c_ishr c 8 8 rfl
  have h2 := c_i2b (c >>> ((8 : Int32) &&& 31))
  have h3 := c_i2b ((c >>> ((8 : Int32) &&& 31)).toInt8.toInt32)
  show ((c >>> ((8 : Int32) &&& 31)).toInt8.toInt32.toInt8.toInt32).toInt % 256 = _
  omega
theorem own_gcv {c : Int32} (h0 : 0 ≤ c.toInt) (h1 : c.toInt < 65536) : own_gc (own_b0 c) (own_b1 c) = c := by
  have e0 := own_b0v c
  have e1 := own_b1v c
  unfold own_gc
  generalize own_b0 c = x at *
  generalize own_b1 c = y at *
  have m0 := c_mask x 255 8 (by decide) (by decide)
  have m1 := c_mask y 255 8 (by decide) (by decide)
  have s0 := c_ishl (x &&& 255) 0 0 rfl
  have s1 := c_ishl (y &&& 255) 8 8 rfl
  generalize (x &&& 255) <<< ((0 : Int32) &&& 31) = X at *
  generalize (y &&& 255) <<< ((8 : Int32) &&& 31) = Y at *
  have lx := X.le_toInt; have ux := X.toInt_lt; have ly := Y.le_toInt; have uy := Y.toInt_lt
  have o := c_or' X Y 8 (by decide) 256 rfl (by omega) (by omega) (by omega)
  have i1 := c_i2c (X ||| Y)
  have i2 := c_i2c ((X ||| Y).toUInt32.toUInt16.toUInt32.toInt32)
  apply Int32.toInt_inj.mp
  show ((X ||| Y).toUInt32.toUInt16.toUInt32.toInt32.toUInt32.toUInt16.toUInt32.toInt32).toInt = _
  omega
theorem own_lcv {c : Int32} (h0 : 0 ≤ c.toInt) (h1 : ¬ (255 : Int32) < c) : own_lc (nar .byte (c.toInt8.toInt32)) = c := by
  have h2 := c_i2b c
  have h3 := c_i2b (c.toInt8.toInt32)
  have m0 := c_mask (c.toInt8.toInt32.toInt8.toInt32) 255 8 (by decide) (by decide)
  have i1 := c_i2c (c.toInt8.toInt32.toInt8.toInt32 &&& 255)
  have i2 := c_i2c ((c.toInt8.toInt32.toInt8.toInt32 &&& 255).toUInt32.toUInt16.toUInt32.toInt32)
  rw [Int32.lt_iff_toInt_lt] at h1
  have e : (255 : Int32).toInt = 255 := rfl
  apply Int32.toInt_inj.mp
  show ((c.toInt8.toInt32.toInt8.toInt32 &&& 255).toUInt32.toUInt16.toUInt32.toInt32.toUInt32.toUInt16.toUInt32.toInt32).toInt = _
  omega

theorem own_ncv {c : Int32} (h0 : 0 ≤ c.toInt) (h1 : c.toInt < 65536) : nar .char c = c := by
  have i1 := c_i2c c
  apply Int32.toInt_inj.mp
  show (c.toUInt32.toUInt16.toUInt32.toInt32).toInt = _
  omega
theorem own_b35 : nar .byte ((35 : Int32).toInt8.toInt32) = 35 := rfl
theorem own_c35 : (35 : Int32) = nar .char (35 : Int32) := rfl
theorem own_r35 : 0 ≤ (35 : Int32).toInt ∧ (35 : Int32).toInt < 65536 := by decide
theorem own_l35 : ¬ (255 : Int32) < 35 := by decide
theorem own_rng (x : Int32) : 0 ≤ (nar .char x).toInt ∧ (nar .char x).toInt < 65536 := (c_i2c _).2
theorem own_255 (x : Int32) : ¬ (255 : Int32) < nar .char ((x &&& (255 : Int32)).toUInt32.toUInt16.toUInt32.toInt32) := by
  have m0 := c_mask x 255 8 (by decide) (by decide)
  have i1 := c_i2c (x &&& 255)
  have i2 := c_i2c ((x &&& 255).toUInt32.toUInt16.toUInt32.toInt32)
  rw [Int32.lt_iff_toInt_lt]
  show ¬ (255 : Int32).toInt < ((x &&& (255 : Int32)).toUInt32.toUInt16.toUInt32.toInt32.toUInt32.toUInt16.toUInt32.toInt32).toInt
  have h3 : (255 : Int32).toInt = 255 := rfl
  omega
theorem own_pos (x : Int32) : 0 ≤ (x &&& (2147483647 : Int32)).toInt := by
  have := c_mask x 2147483647 31 (by decide) (by decide); omega
theorem own_f3 (x : Int32) : ((x &&& (2147483647 : Int32)) % (3 : Int32)) = 0 ∨ ((x &&& (2147483647 : Int32)) % (3 : Int32)) = 1 ∨ ((x &&& (2147483647 : Int32)) % (3 : Int32)) = 2 := by
  have h := own_pos x
  have e := (c_irem (x &&& (2147483647 : Int32)) 3 3 rfl).1 h
  simp only [← Int32.toInt_inj, Int32.reduceToInt]
  omega
theorem d11_0 : decode jdk_42_method_152_code 0 = .ok (.getstatic 38, 3) := by decide +kernel
theorem d11_3 : decode jdk_42_method_152_code 3 = .ok (.ifCond .eq 10, 3) := by decide +kernel
theorem d11_6 : decode jdk_42_method_152_code 6 = .ok (.aload_n 0, 1) := by decide +kernel
theorem d11_7 : decode jdk_42_method_152_code 7 = .ok (.getfield 15, 3) := by decide +kernel
theorem d11_10 : decode jdk_42_method_152_code 10 = .ok (.goto 4, 3) := by decide +kernel
theorem d11_14 : decode jdk_42_method_152_code 14 = .ok (.ireturn, 1) := by decide +kernel
theorem ef_rm_coder_0 (m : MethodId) (a1 : Addr)  : entryFrame m #[(.ref a1)] 1 = mkF m 0 #[.val (.ref a1)] [] := by simp [entryFrame, mkF, argsToLocals, Value.category]
theorem pn_11 : plainFor (⟨"java/lang/String", "coder", "()B"⟩ : MethodName) = true := plainFor_of_name (show plainName "java/lang/String" = true by first | (simp [plainName, overriddenIn]; done) | decide +kernel)
theorem rm_coder_0 (l : Launch) (Z : State) (a0 : Array Value) (hw : HW a0 Z) (ws : List Jvm.Cond) (a1 : Addr) (b : Addr) (kb : ClassId) (vs : List Value) (zc : Int32) (h0 : Heap) (n0 : Nat) (hn : n0 ≤ h0.size) (X_a1 : XSt Z h0 a1) (F_value_a1 : FSv Z h0 a1 (.ref b)) (F_coder_a1 : FSc Z h0 a1 Z0) (V_b : Arl Z h0 b kb .byte vs) (hl : vs.length = 0) (S_C : Sta Z h0 "java/lang/String" "COMPACT_STRINGS" "Z" (.int zc)) (hz : ¬ zc = 0) :
    Met own_EL l Z (⟨"java/lang/String", "coder", "()B"⟩ : MethodName) jdk_42_method_152_code 1 (some .byte) ({ frames := 0, cells := 0, slots := 0, locals := 0 } : Room) ws #[(.ref a1)] h0 n0 [] (Pur Z0 h0) := by
  refine Met.of pn_11 (fun m => ef_rm_coder_0 m a1) ?_
  refine Own.getS_ (host := "") (Or.inl (hw _ (mg 19 rfl))) Via.refl S_C d11_0 ?_
  refine Own.if_eq 13 d11_3 (by decide) rfl (fun q => absurd q hz) (fun _ => ?_)
  refine Own.aloadN d11_6 rfl rfl ?_
  refine Own.getF_ (host := "") (Or.inl (hw _ (mg 31 rfl))) Via.refl F_coder_a1 d11_7 ?_
  refine Own.goto_ 14 d11_10 (by decide) rfl ?_
  refine Own.ret_nar (t := .byte) (by simp) rfl d11_14 (by decide) (by decide) (fun Sf hSf => ?_)
  exact ⟨rfl, rfl⟩
theorem d10_0 : decode jdk_42_method_54_code 0 = .ok (.aload_n 0, 1) := by decide +kernel
theorem d10_1 : decode jdk_42_method_54_code 1 = .ok (.getfield 9, 3) := by decide +kernel
theorem d10_4 : decode jdk_42_method_54_code 4 = .ok (.arraylength, 1) := by decide +kernel
theorem d10_5 : decode jdk_42_method_54_code 5 = .ok (.aload_n 0, 1) := by decide +kernel
theorem d10_6 : decode jdk_42_method_54_code 6 = .ok (.invokevirtual 335, 3) := by decide +kernel
theorem pd_0 : parseMethodDescriptor "()B" = some ⟨[], some .byte⟩ := by decide +kernel
theorem d10_9 : decode jdk_42_method_54_code 9 = .ok (.ishr, 1) := by decide +kernel
theorem d10_10 : decode jdk_42_method_54_code 10 = .ok (.ireturn, 1) := by decide +kernel
theorem ef_rm_len_0 (m : MethodId) (a1 : Addr)  : entryFrame m #[(.ref a1)] 1 = mkF m 0 #[.val (.ref a1)] [] := by simp [entryFrame, mkF, argsToLocals, Value.category]
theorem pn_10 : plainFor (⟨"java/lang/String", "length", "()I"⟩ : MethodName) = true := plainFor_of_name (show plainName "java/lang/String" = true by first | (simp [plainName, overriddenIn]; done) | decide +kernel)
theorem rm_len_0 (l : Launch) (Z : State) (a0 : Array Value) (hw : HW a0 Z) (ws : List Jvm.Cond) (a1 : Addr) (b : Addr) (kb : ClassId) (vs : List Value) (zc : Int32) (h0 : Heap) (n0 : Nat) (hn : n0 ≤ h0.size) (X_a1 : XSt Z h0 a1) (F_value_a1 : FSv Z h0 a1 (.ref b)) (F_coder_a1 : FSc Z h0 a1 Z0) (V_b : Arl Z h0 b kb .byte vs) (hl : vs.length = 0) (S_C : Sta Z h0 "java/lang/String" "COMPACT_STRINGS" "Z" (.int zc)) (hz : ¬ zc = 0) :
    Met own_EL l Z (⟨"java/lang/String", "length", "()I"⟩ : MethodName) jdk_42_method_54_code 1 (some .int) ({ frames := 1, cells := 0, slots := 0, locals := 13 } : Room) ws #[(.ref a1)] h0 n0 [] (Pur Z0 h0) := by
  refine Met.of pn_10 (fun m => ef_rm_len_0 m a1) ?_
  refine Own.aloadN d10_0 rfl rfl ?_
  refine Own.getF_ (host := "") (Or.inl (hw _ (mg 33 rfl))) Via.refl F_value_a1 d10_1 ?_
  refine Own.arraylength_ (0 : Int32) V_b (by rw [hl]; rfl) d10_4 ?_
  refine Own.aloadN d10_5 rfl rfl ?_
  refine Own.callVP a1 [] [Z0] 1 (rm_coder_0 l Z a0 hw [] a1 b kb vs zc h0 n0 hn X_a1 F_value_a1 F_coder_a1 V_b hl S_C hz) (hw _ (mg 52 rfl)) (hw _ (mg 53 rfl)) (fun s hZ => notFace_of_selects (args := #[]) (mvT hZ (hw _ (mg 55 rfl)))) (hw _ (mg 55 rfl)) (hw _ (mg 54 rfl)) (hw _ (mg 7 rfl)) (hw _ (mg 56 rfl)) (by decide) X_a1 d10_6 pd_0 rfl rfl rfl rfl (by decide) (by decide) (by decide) (by decide) ?_
  refine Own.ishr d10_9 ?_
  refine OAt.cast (st' := [Z0]) rfl ?_
  refine Own.ret_int rfl d10_10 (by decide) (by decide) (fun Sf hSf => ?_)
  exact ⟨rfl, rfl⟩
theorem d14_0 : decode jdk_42_method_154_code 0 = .ok (.getstatic 38, 3) := by decide +kernel
theorem d14_3 : decode jdk_42_method_154_code 3 = .ok (.ifCond .eq 14, 3) := by decide +kernel
theorem d14_6 : decode jdk_42_method_154_code 6 = .ok (.aload_n 0, 1) := by decide +kernel
theorem d14_7 : decode jdk_42_method_154_code 7 = .ok (.getfield 15, 3) := by decide +kernel
theorem d14_10 : decode jdk_42_method_154_code 10 = .ok (.ifCond .ne 7, 3) := by decide +kernel
theorem d14_13 : decode jdk_42_method_154_code 13 = .ok (.iconst 1, 1) := by decide +kernel
theorem d14_14 : decode jdk_42_method_154_code 14 = .ok (.goto 4, 3) := by decide +kernel
theorem d14_18 : decode jdk_42_method_154_code 18 = .ok (.ireturn, 1) := by decide +kernel
theorem ef_rm_lat_0 (m : MethodId) (a1 : Addr)  : entryFrame m #[(.ref a1)] 1 = mkF m 0 #[.val (.ref a1)] [] := by simp [entryFrame, mkF, argsToLocals, Value.category]
theorem pn_14 : plainFor (⟨"java/lang/String", "isLatin1", "()Z"⟩ : MethodName) = true := plainFor_of_name (show plainName "java/lang/String" = true by first | (simp [plainName, overriddenIn]; done) | decide +kernel)
theorem rm_lat_0 (l : Launch) (Z : State) (a0 : Array Value) (hw : HW a0 Z) (ws : List Jvm.Cond) (a1 : Addr) (b : Addr) (kb : ClassId) (vs : List Value) (zc : Int32) (h0 : Heap) (n0 : Nat) (hn : n0 ≤ h0.size) (X_a1 : XSt Z h0 a1) (F_value_a1 : FSv Z h0 a1 (.ref b)) (F_coder_a1 : FSc Z h0 a1 Z0) (V_b : Arl Z h0 b kb .byte vs) (hl : vs.length = 0) (S_C : Sta Z h0 "java/lang/String" "COMPACT_STRINGS" "Z" (.int zc)) (hz : ¬ zc = 0) :
    Met own_EL l Z (⟨"java/lang/String", "isLatin1", "()Z"⟩ : MethodName) jdk_42_method_154_code 1 (some .boolean) ({ frames := 0, cells := 0, slots := 0, locals := 0 } : Room) ws #[(.ref a1)] h0 n0 [] (Pur (.int (1 : Int32)) h0) := by
  refine Met.of pn_14 (fun m => ef_rm_lat_0 m a1) ?_
  refine Own.getS_ (host := "") (Or.inl (hw _ (mg 19 rfl))) Via.refl S_C d14_0 ?_
  refine Own.if_eq 17 d14_3 (by decide) rfl (fun q => absurd q hz) (fun _ => ?_)
  refine Own.aloadN d14_6 rfl rfl ?_
  refine Own.getF_ (host := "") (Or.inl (hw _ (mg 31 rfl))) Via.refl F_coder_a1 d14_7 ?_
  refine Own.if_ne 17 d14_10 (by decide) rfl (fun q => absurd (by decide) q) (fun _ => ?_)
  refine Own.iconst (1 : Int32) d14_13 rfl ?_
  refine Own.goto_ 18 d14_14 (by decide) rfl ?_
  refine Own.ret_nar (t := .boolean) (by simp) rfl d14_18 (by decide) (by decide) (fun Sf hSf => ?_)
  exact ⟨rfl, rfl⟩
theorem d9_0 : decode jdk_42_method_55_code 0 = .ok (.aload_n 0, 1) := by decide +kernel
theorem d9_1 : decode jdk_42_method_55_code 1 = .ok (.getfield 9, 3) := by decide +kernel
theorem d9_4 : decode jdk_42_method_55_code 4 = .ok (.arraylength, 1) := by decide +kernel
theorem d9_5 : decode jdk_42_method_55_code 5 = .ok (.ifCond .ne 7, 3) := by decide +kernel
theorem d9_8 : decode jdk_42_method_55_code 8 = .ok (.iconst 1, 1) := by decide +kernel
theorem d9_9 : decode jdk_42_method_55_code 9 = .ok (.goto 4, 3) := by decide +kernel
theorem d9_13 : decode jdk_42_method_55_code 13 = .ok (.ireturn, 1) := by decide +kernel
theorem ef_rm_empty_0 (m : MethodId) (a1 : Addr)  : entryFrame m #[(.ref a1)] 1 = mkF m 0 #[.val (.ref a1)] [] := by simp [entryFrame, mkF, argsToLocals, Value.category]
theorem pn_9 : plainFor (⟨"java/lang/String", "isEmpty", "()Z"⟩ : MethodName) = true := plainFor_of_name (show plainName "java/lang/String" = true by first | (simp [plainName, overriddenIn]; done) | decide +kernel)
theorem rm_empty_0 (l : Launch) (Z : State) (a0 : Array Value) (hw : HW a0 Z) (ws : List Jvm.Cond) (a1 : Addr) (b : Addr) (kb : ClassId) (vs : List Value) (zc : Int32) (h0 : Heap) (n0 : Nat) (hn : n0 ≤ h0.size) (X_a1 : XSt Z h0 a1) (F_value_a1 : FSv Z h0 a1 (.ref b)) (F_coder_a1 : FSc Z h0 a1 Z0) (V_b : Arl Z h0 b kb .byte vs) (hl : vs.length = 0) (S_C : Sta Z h0 "java/lang/String" "COMPACT_STRINGS" "Z" (.int zc)) (hz : ¬ zc = 0) :
    Met own_EL l Z (⟨"java/lang/String", "isEmpty", "()Z"⟩ : MethodName) jdk_42_method_55_code 1 (some .boolean) ({ frames := 0, cells := 0, slots := 0, locals := 0 } : Room) ws #[(.ref a1)] h0 n0 [] (Pur (.int (1 : Int32)) h0) := by
  refine Met.of pn_9 (fun m => ef_rm_empty_0 m a1) ?_
  refine Own.aloadN d9_0 rfl rfl ?_
  refine Own.getF_ (host := "") (Or.inl (hw _ (mg 33 rfl))) Via.refl F_value_a1 d9_1 ?_
  refine Own.arraylength_ (0 : Int32) V_b (by rw [hl]; rfl) d9_4 ?_
  refine Own.if_ne 12 d9_5 (by decide) rfl (fun q => absurd (by decide) q) (fun _ => ?_)
  refine Own.iconst (1 : Int32) d9_8 rfl ?_
  refine Own.goto_ 13 d9_9 (by decide) rfl ?_
  refine Own.ret_nar (t := .boolean) (by simp) rfl d9_13 (by decide) (by decide) (fun Sf hSf => ?_)
  exact ⟨rfl, rfl⟩
theorem ef_rm_coder_1 (m : MethodId) (a1 : Addr)  : entryFrame m #[(.ref a1)] 1 = mkF m 0 #[.val (.ref a1)] [] := by simp [entryFrame, mkF, argsToLocals, Value.category]
theorem rm_coder_1 (l : Launch) (Z : State) (a0 : Array Value) (hw : HW a0 Z) (ws : List Jvm.Cond) (a1 : Addr) (b : Addr) (kb : ClassId) (vs : List Value) (zc : Int32) (h0 : Heap) (n0 : Nat) (hn : n0 ≤ h0.size) (X_a1 : XSt Z h0 a1) (F_value_a1 : FSv Z h0 a1 (.ref b)) (F_coder_a1 : FSc Z h0 a1 Z0) (V_b : Arl Z h0 b kb .byte vs) (hl : vs.length = 1) (S_C : Sta Z h0 "java/lang/String" "COMPACT_STRINGS" "Z" (.int zc)) (hz : ¬ zc = 0) :
    Met own_EL l Z (⟨"java/lang/String", "coder", "()B"⟩ : MethodName) jdk_42_method_152_code 1 (some .byte) ({ frames := 0, cells := 0, slots := 0, locals := 0 } : Room) ws #[(.ref a1)] h0 n0 [] (Pur Z0 h0) := by
  refine Met.of pn_11 (fun m => ef_rm_coder_1 m a1) ?_
  refine Own.getS_ (host := "") (Or.inl (hw _ (mg 19 rfl))) Via.refl S_C d11_0 ?_
  refine Own.if_eq 13 d11_3 (by decide) rfl (fun q => absurd q hz) (fun _ => ?_)
  refine Own.aloadN d11_6 rfl rfl ?_
  refine Own.getF_ (host := "") (Or.inl (hw _ (mg 31 rfl))) Via.refl F_coder_a1 d11_7 ?_
  refine Own.goto_ 14 d11_10 (by decide) rfl ?_
  refine Own.ret_nar (t := .byte) (by simp) rfl d11_14 (by decide) (by decide) (fun Sf hSf => ?_)
  exact ⟨rfl, rfl⟩
theorem ef_rm_len_1 (m : MethodId) (a1 : Addr)  : entryFrame m #[(.ref a1)] 1 = mkF m 0 #[.val (.ref a1)] [] := by simp [entryFrame, mkF, argsToLocals, Value.category]
theorem rm_len_1 (l : Launch) (Z : State) (a0 : Array Value) (hw : HW a0 Z) (ws : List Jvm.Cond) (a1 : Addr) (b : Addr) (kb : ClassId) (vs : List Value) (zc : Int32) (h0 : Heap) (n0 : Nat) (hn : n0 ≤ h0.size) (X_a1 : XSt Z h0 a1) (F_value_a1 : FSv Z h0 a1 (.ref b)) (F_coder_a1 : FSc Z h0 a1 Z0) (V_b : Arl Z h0 b kb .byte vs) (hl : vs.length = 1) (S_C : Sta Z h0 "java/lang/String" "COMPACT_STRINGS" "Z" (.int zc)) (hz : ¬ zc = 0) :
    Met own_EL l Z (⟨"java/lang/String", "length", "()I"⟩ : MethodName) jdk_42_method_54_code 1 (some .int) ({ frames := 1, cells := 0, slots := 0, locals := 13 } : Room) ws #[(.ref a1)] h0 n0 [] (Pur (.int (1 : Int32)) h0) := by
  refine Met.of pn_10 (fun m => ef_rm_len_1 m a1) ?_
  refine Own.aloadN d10_0 rfl rfl ?_
  refine Own.getF_ (host := "") (Or.inl (hw _ (mg 33 rfl))) Via.refl F_value_a1 d10_1 ?_
  refine Own.arraylength_ (1 : Int32) V_b (by rw [hl]; rfl) d10_4 ?_
  refine Own.aloadN d10_5 rfl rfl ?_
  refine Own.callVP a1 [] [(.int (1 : Int32))] 1 (rm_coder_1 l Z a0 hw [] a1 b kb vs zc h0 n0 hn X_a1 F_value_a1 F_coder_a1 V_b hl S_C hz) (hw _ (mg 52 rfl)) (hw _ (mg 53 rfl)) (fun s hZ => notFace_of_selects (args := #[]) (mvT hZ (hw _ (mg 55 rfl)))) (hw _ (mg 55 rfl)) (hw _ (mg 54 rfl)) (hw _ (mg 7 rfl)) (hw _ (mg 56 rfl)) (by decide) X_a1 d10_6 pd_0 rfl rfl rfl rfl (by decide) (by decide) (by decide) (by decide) ?_
  refine Own.ishr d10_9 ?_
  refine OAt.cast (st' := [(.int (1 : Int32))]) rfl ?_
  refine Own.ret_int rfl d10_10 (by decide) (by decide) (fun Sf hSf => ?_)
  exact ⟨rfl, rfl⟩
theorem ef_rm_lat_1 (m : MethodId) (a1 : Addr)  : entryFrame m #[(.ref a1)] 1 = mkF m 0 #[.val (.ref a1)] [] := by simp [entryFrame, mkF, argsToLocals, Value.category]
theorem rm_lat_1 (l : Launch) (Z : State) (a0 : Array Value) (hw : HW a0 Z) (ws : List Jvm.Cond) (a1 : Addr) (b : Addr) (kb : ClassId) (vs : List Value) (zc : Int32) (h0 : Heap) (n0 : Nat) (hn : n0 ≤ h0.size) (X_a1 : XSt Z h0 a1) (F_value_a1 : FSv Z h0 a1 (.ref b)) (F_coder_a1 : FSc Z h0 a1 Z0) (V_b : Arl Z h0 b kb .byte vs) (hl : vs.length = 1) (S_C : Sta Z h0 "java/lang/String" "COMPACT_STRINGS" "Z" (.int zc)) (hz : ¬ zc = 0) :
    Met own_EL l Z (⟨"java/lang/String", "isLatin1", "()Z"⟩ : MethodName) jdk_42_method_154_code 1 (some .boolean) ({ frames := 0, cells := 0, slots := 0, locals := 0 } : Room) ws #[(.ref a1)] h0 n0 [] (Pur (.int (1 : Int32)) h0) := by
  refine Met.of pn_14 (fun m => ef_rm_lat_1 m a1) ?_
  refine Own.getS_ (host := "") (Or.inl (hw _ (mg 19 rfl))) Via.refl S_C d14_0 ?_
  refine Own.if_eq 17 d14_3 (by decide) rfl (fun q => absurd q hz) (fun _ => ?_)
  refine Own.aloadN d14_6 rfl rfl ?_
  refine Own.getF_ (host := "") (Or.inl (hw _ (mg 31 rfl))) Via.refl F_coder_a1 d14_7 ?_
  refine Own.if_ne 17 d14_10 (by decide) rfl (fun q => absurd (by decide) q) (fun _ => ?_)
  refine Own.iconst (1 : Int32) d14_13 rfl ?_
  refine Own.goto_ 18 d14_14 (by decide) rfl ?_
  refine Own.ret_nar (t := .boolean) (by simp) rfl d14_18 (by decide) (by decide) (fun Sf hSf => ?_)
  exact ⟨rfl, rfl⟩
theorem d9_12 : decode jdk_42_method_55_code 12 = .ok (.iconst 0, 1) := by decide +kernel
theorem ef_rm_empty_1 (m : MethodId) (a1 : Addr)  : entryFrame m #[(.ref a1)] 1 = mkF m 0 #[.val (.ref a1)] [] := by simp [entryFrame, mkF, argsToLocals, Value.category]
theorem rm_empty_1 (l : Launch) (Z : State) (a0 : Array Value) (hw : HW a0 Z) (ws : List Jvm.Cond) (a1 : Addr) (b : Addr) (kb : ClassId) (vs : List Value) (zc : Int32) (h0 : Heap) (n0 : Nat) (hn : n0 ≤ h0.size) (X_a1 : XSt Z h0 a1) (F_value_a1 : FSv Z h0 a1 (.ref b)) (F_coder_a1 : FSc Z h0 a1 Z0) (V_b : Arl Z h0 b kb .byte vs) (hl : vs.length = 1) (S_C : Sta Z h0 "java/lang/String" "COMPACT_STRINGS" "Z" (.int zc)) (hz : ¬ zc = 0) :
    Met own_EL l Z (⟨"java/lang/String", "isEmpty", "()Z"⟩ : MethodName) jdk_42_method_55_code 1 (some .boolean) ({ frames := 0, cells := 0, slots := 0, locals := 0 } : Room) ws #[(.ref a1)] h0 n0 [] (Pur Z0 h0) := by
  refine Met.of pn_9 (fun m => ef_rm_empty_1 m a1) ?_
  refine Own.aloadN d9_0 rfl rfl ?_
  refine Own.getF_ (host := "") (Or.inl (hw _ (mg 33 rfl))) Via.refl F_value_a1 d9_1 ?_
  refine Own.arraylength_ (1 : Int32) V_b (by rw [hl]; rfl) d9_4 ?_
  refine Own.if_ne 12 d9_5 (by decide) rfl (fun _ => ?_) (fun q => absurd q (by decide))
  refine Own.iconst (0 : Int32) d9_12 rfl ?_
  refine Own.ret_nar (t := .boolean) (by simp) rfl d9_13 (by decide) (by decide) (fun Sf hSf => ?_)
  exact ⟨rfl, rfl⟩
theorem ef_rm_coder_2 (m : MethodId) (a1 : Addr)  : entryFrame m #[(.ref a1)] 1 = mkF m 0 #[.val (.ref a1)] [] := by simp [entryFrame, mkF, argsToLocals, Value.category]
theorem rm_coder_2 (l : Launch) (Z : State) (a0 : Array Value) (hw : HW a0 Z) (ws : List Jvm.Cond) (a1 : Addr) (b : Addr) (kb : ClassId) (vs : List Value) (zc : Int32) (h0 : Heap) (n0 : Nat) (hn : n0 ≤ h0.size) (X_a1 : XSt Z h0 a1) (F_value_a1 : FSv Z h0 a1 (.ref b)) (F_coder_a1 : FSc Z h0 a1 Z0) (V_b : Arl Z h0 b kb .byte vs) (hl : vs.length = 2) (S_C : Sta Z h0 "java/lang/String" "COMPACT_STRINGS" "Z" (.int zc)) (hz : ¬ zc = 0) :
    Met own_EL l Z (⟨"java/lang/String", "coder", "()B"⟩ : MethodName) jdk_42_method_152_code 1 (some .byte) ({ frames := 0, cells := 0, slots := 0, locals := 0 } : Room) ws #[(.ref a1)] h0 n0 [] (Pur Z0 h0) := by
  refine Met.of pn_11 (fun m => ef_rm_coder_2 m a1) ?_
  refine Own.getS_ (host := "") (Or.inl (hw _ (mg 19 rfl))) Via.refl S_C d11_0 ?_
  refine Own.if_eq 13 d11_3 (by decide) rfl (fun q => absurd q hz) (fun _ => ?_)
  refine Own.aloadN d11_6 rfl rfl ?_
  refine Own.getF_ (host := "") (Or.inl (hw _ (mg 31 rfl))) Via.refl F_coder_a1 d11_7 ?_
  refine Own.goto_ 14 d11_10 (by decide) rfl ?_
  refine Own.ret_nar (t := .byte) (by simp) rfl d11_14 (by decide) (by decide) (fun Sf hSf => ?_)
  exact ⟨rfl, rfl⟩
theorem ef_rm_len_2 (m : MethodId) (a1 : Addr)  : entryFrame m #[(.ref a1)] 1 = mkF m 0 #[.val (.ref a1)] [] := by simp [entryFrame, mkF, argsToLocals, Value.category]
theorem rm_len_2 (l : Launch) (Z : State) (a0 : Array Value) (hw : HW a0 Z) (ws : List Jvm.Cond) (a1 : Addr) (b : Addr) (kb : ClassId) (vs : List Value) (zc : Int32) (h0 : Heap) (n0 : Nat) (hn : n0 ≤ h0.size) (X_a1 : XSt Z h0 a1) (F_value_a1 : FSv Z h0 a1 (.ref b)) (F_coder_a1 : FSc Z h0 a1 Z0) (V_b : Arl Z h0 b kb .byte vs) (hl : vs.length = 2) (S_C : Sta Z h0 "java/lang/String" "COMPACT_STRINGS" "Z" (.int zc)) (hz : ¬ zc = 0) :
    Met own_EL l Z (⟨"java/lang/String", "length", "()I"⟩ : MethodName) jdk_42_method_54_code 1 (some .int) ({ frames := 1, cells := 0, slots := 0, locals := 13 } : Room) ws #[(.ref a1)] h0 n0 [] (Pur (.int (2 : Int32)) h0) := by
  refine Met.of pn_10 (fun m => ef_rm_len_2 m a1) ?_
  refine Own.aloadN d10_0 rfl rfl ?_
  refine Own.getF_ (host := "") (Or.inl (hw _ (mg 33 rfl))) Via.refl F_value_a1 d10_1 ?_
  refine Own.arraylength_ (2 : Int32) V_b (by rw [hl]; rfl) d10_4 ?_
  refine Own.aloadN d10_5 rfl rfl ?_
  refine Own.callVP a1 [] [(.int (2 : Int32))] 1 (rm_coder_2 l Z a0 hw [] a1 b kb vs zc h0 n0 hn X_a1 F_value_a1 F_coder_a1 V_b hl S_C hz) (hw _ (mg 52 rfl)) (hw _ (mg 53 rfl)) (fun s hZ => notFace_of_selects (args := #[]) (mvT hZ (hw _ (mg 55 rfl)))) (hw _ (mg 55 rfl)) (hw _ (mg 54 rfl)) (hw _ (mg 7 rfl)) (hw _ (mg 56 rfl)) (by decide) X_a1 d10_6 pd_0 rfl rfl rfl rfl (by decide) (by decide) (by decide) (by decide) ?_
  refine Own.ishr d10_9 ?_
  refine OAt.cast (st' := [(.int (2 : Int32))]) rfl ?_
  refine Own.ret_int rfl d10_10 (by decide) (by decide) (fun Sf hSf => ?_)
  exact ⟨rfl, rfl⟩
theorem ef_rm_lat_2 (m : MethodId) (a1 : Addr)  : entryFrame m #[(.ref a1)] 1 = mkF m 0 #[.val (.ref a1)] [] := by simp [entryFrame, mkF, argsToLocals, Value.category]
theorem rm_lat_2 (l : Launch) (Z : State) (a0 : Array Value) (hw : HW a0 Z) (ws : List Jvm.Cond) (a1 : Addr) (b : Addr) (kb : ClassId) (vs : List Value) (zc : Int32) (h0 : Heap) (n0 : Nat) (hn : n0 ≤ h0.size) (X_a1 : XSt Z h0 a1) (F_value_a1 : FSv Z h0 a1 (.ref b)) (F_coder_a1 : FSc Z h0 a1 Z0) (V_b : Arl Z h0 b kb .byte vs) (hl : vs.length = 2) (S_C : Sta Z h0 "java/lang/String" "COMPACT_STRINGS" "Z" (.int zc)) (hz : ¬ zc = 0) :
    Met own_EL l Z (⟨"java/lang/String", "isLatin1", "()Z"⟩ : MethodName) jdk_42_method_154_code 1 (some .boolean) ({ frames := 0, cells := 0, slots := 0, locals := 0 } : Room) ws #[(.ref a1)] h0 n0 [] (Pur (.int (1 : Int32)) h0) := by
  refine Met.of pn_14 (fun m => ef_rm_lat_2 m a1) ?_
  refine Own.getS_ (host := "") (Or.inl (hw _ (mg 19 rfl))) Via.refl S_C d14_0 ?_
  refine Own.if_eq 17 d14_3 (by decide) rfl (fun q => absurd q hz) (fun _ => ?_)
  refine Own.aloadN d14_6 rfl rfl ?_
  refine Own.getF_ (host := "") (Or.inl (hw _ (mg 31 rfl))) Via.refl F_coder_a1 d14_7 ?_
  refine Own.if_ne 17 d14_10 (by decide) rfl (fun q => absurd (by decide) q) (fun _ => ?_)
  refine Own.iconst (1 : Int32) d14_13 rfl ?_
  refine Own.goto_ 18 d14_14 (by decide) rfl ?_
  refine Own.ret_nar (t := .boolean) (by simp) rfl d14_18 (by decide) (by decide) (fun Sf hSf => ?_)
  exact ⟨rfl, rfl⟩
theorem ef_rm_empty_2 (m : MethodId) (a1 : Addr)  : entryFrame m #[(.ref a1)] 1 = mkF m 0 #[.val (.ref a1)] [] := by simp [entryFrame, mkF, argsToLocals, Value.category]
theorem rm_empty_2 (l : Launch) (Z : State) (a0 : Array Value) (hw : HW a0 Z) (ws : List Jvm.Cond) (a1 : Addr) (b : Addr) (kb : ClassId) (vs : List Value) (zc : Int32) (h0 : Heap) (n0 : Nat) (hn : n0 ≤ h0.size) (X_a1 : XSt Z h0 a1) (F_value_a1 : FSv Z h0 a1 (.ref b)) (F_coder_a1 : FSc Z h0 a1 Z0) (V_b : Arl Z h0 b kb .byte vs) (hl : vs.length = 2) (S_C : Sta Z h0 "java/lang/String" "COMPACT_STRINGS" "Z" (.int zc)) (hz : ¬ zc = 0) :
    Met own_EL l Z (⟨"java/lang/String", "isEmpty", "()Z"⟩ : MethodName) jdk_42_method_55_code 1 (some .boolean) ({ frames := 0, cells := 0, slots := 0, locals := 0 } : Room) ws #[(.ref a1)] h0 n0 [] (Pur Z0 h0) := by
  refine Met.of pn_9 (fun m => ef_rm_empty_2 m a1) ?_
  refine Own.aloadN d9_0 rfl rfl ?_
  refine Own.getF_ (host := "") (Or.inl (hw _ (mg 33 rfl))) Via.refl F_value_a1 d9_1 ?_
  refine Own.arraylength_ (2 : Int32) V_b (by rw [hl]; rfl) d9_4 ?_
  refine Own.if_ne 12 d9_5 (by decide) rfl (fun _ => ?_) (fun q => absurd q (by decide))
  refine Own.iconst (0 : Int32) d9_12 rfl ?_
  refine Own.ret_nar (t := .boolean) (by simp) rfl d9_13 (by decide) (by decide) (fun Sf hSf => ?_)
  exact ⟨rfl, rfl⟩
theorem ef_rm_coder_3 (m : MethodId) (a1 : Addr)  : entryFrame m #[(.ref a1)] 1 = mkF m 0 #[.val (.ref a1)] [] := by simp [entryFrame, mkF, argsToLocals, Value.category]
theorem rm_coder_3 (l : Launch) (Z : State) (a0 : Array Value) (hw : HW a0 Z) (ws : List Jvm.Cond) (a1 : Addr) (b : Addr) (kb : ClassId) (vs : List Value) (zc : Int32) (h0 : Heap) (n0 : Nat) (hn : n0 ≤ h0.size) (X_a1 : XSt Z h0 a1) (F_value_a1 : FSv Z h0 a1 (.ref b)) (F_coder_a1 : FSc Z h0 a1 Z0) (V_b : Arl Z h0 b kb .byte vs) (hl : vs.length = 3) (S_C : Sta Z h0 "java/lang/String" "COMPACT_STRINGS" "Z" (.int zc)) (hz : ¬ zc = 0) :
    Met own_EL l Z (⟨"java/lang/String", "coder", "()B"⟩ : MethodName) jdk_42_method_152_code 1 (some .byte) ({ frames := 0, cells := 0, slots := 0, locals := 0 } : Room) ws #[(.ref a1)] h0 n0 [] (Pur Z0 h0) := by
  refine Met.of pn_11 (fun m => ef_rm_coder_3 m a1) ?_
  refine Own.getS_ (host := "") (Or.inl (hw _ (mg 19 rfl))) Via.refl S_C d11_0 ?_
  refine Own.if_eq 13 d11_3 (by decide) rfl (fun q => absurd q hz) (fun _ => ?_)
  refine Own.aloadN d11_6 rfl rfl ?_
  refine Own.getF_ (host := "") (Or.inl (hw _ (mg 31 rfl))) Via.refl F_coder_a1 d11_7 ?_
  refine Own.goto_ 14 d11_10 (by decide) rfl ?_
  refine Own.ret_nar (t := .byte) (by simp) rfl d11_14 (by decide) (by decide) (fun Sf hSf => ?_)
  exact ⟨rfl, rfl⟩
theorem ef_rm_len_3 (m : MethodId) (a1 : Addr)  : entryFrame m #[(.ref a1)] 1 = mkF m 0 #[.val (.ref a1)] [] := by simp [entryFrame, mkF, argsToLocals, Value.category]
theorem rm_len_3 (l : Launch) (Z : State) (a0 : Array Value) (hw : HW a0 Z) (ws : List Jvm.Cond) (a1 : Addr) (b : Addr) (kb : ClassId) (vs : List Value) (zc : Int32) (h0 : Heap) (n0 : Nat) (hn : n0 ≤ h0.size) (X_a1 : XSt Z h0 a1) (F_value_a1 : FSv Z h0 a1 (.ref b)) (F_coder_a1 : FSc Z h0 a1 Z0) (V_b : Arl Z h0 b kb .byte vs) (hl : vs.length = 3) (S_C : Sta Z h0 "java/lang/String" "COMPACT_STRINGS" "Z" (.int zc)) (hz : ¬ zc = 0) :
    Met own_EL l Z (⟨"java/lang/String", "length", "()I"⟩ : MethodName) jdk_42_method_54_code 1 (some .int) ({ frames := 1, cells := 0, slots := 0, locals := 13 } : Room) ws #[(.ref a1)] h0 n0 [] (Pur (.int (3 : Int32)) h0) := by
  refine Met.of pn_10 (fun m => ef_rm_len_3 m a1) ?_
  refine Own.aloadN d10_0 rfl rfl ?_
  refine Own.getF_ (host := "") (Or.inl (hw _ (mg 33 rfl))) Via.refl F_value_a1 d10_1 ?_
  refine Own.arraylength_ (3 : Int32) V_b (by rw [hl]; rfl) d10_4 ?_
  refine Own.aloadN d10_5 rfl rfl ?_
  refine Own.callVP a1 [] [(.int (3 : Int32))] 1 (rm_coder_3 l Z a0 hw [] a1 b kb vs zc h0 n0 hn X_a1 F_value_a1 F_coder_a1 V_b hl S_C hz) (hw _ (mg 52 rfl)) (hw _ (mg 53 rfl)) (fun s hZ => notFace_of_selects (args := #[]) (mvT hZ (hw _ (mg 55 rfl)))) (hw _ (mg 55 rfl)) (hw _ (mg 54 rfl)) (hw _ (mg 7 rfl)) (hw _ (mg 56 rfl)) (by decide) X_a1 d10_6 pd_0 rfl rfl rfl rfl (by decide) (by decide) (by decide) (by decide) ?_
  refine Own.ishr d10_9 ?_
  refine OAt.cast (st' := [(.int (3 : Int32))]) rfl ?_
  refine Own.ret_int rfl d10_10 (by decide) (by decide) (fun Sf hSf => ?_)
  exact ⟨rfl, rfl⟩
theorem ef_rm_lat_3 (m : MethodId) (a1 : Addr)  : entryFrame m #[(.ref a1)] 1 = mkF m 0 #[.val (.ref a1)] [] := by simp [entryFrame, mkF, argsToLocals, Value.category]
theorem rm_lat_3 (l : Launch) (Z : State) (a0 : Array Value) (hw : HW a0 Z) (ws : List Jvm.Cond) (a1 : Addr) (b : Addr) (kb : ClassId) (vs : List Value) (zc : Int32) (h0 : Heap) (n0 : Nat) (hn : n0 ≤ h0.size) (X_a1 : XSt Z h0 a1) (F_value_a1 : FSv Z h0 a1 (.ref b)) (F_coder_a1 : FSc Z h0 a1 Z0) (V_b : Arl Z h0 b kb .byte vs) (hl : vs.length = 3) (S_C : Sta Z h0 "java/lang/String" "COMPACT_STRINGS" "Z" (.int zc)) (hz : ¬ zc = 0) :
    Met own_EL l Z (⟨"java/lang/String", "isLatin1", "()Z"⟩ : MethodName) jdk_42_method_154_code 1 (some .boolean) ({ frames := 0, cells := 0, slots := 0, locals := 0 } : Room) ws #[(.ref a1)] h0 n0 [] (Pur (.int (1 : Int32)) h0) := by
  refine Met.of pn_14 (fun m => ef_rm_lat_3 m a1) ?_
  refine Own.getS_ (host := "") (Or.inl (hw _ (mg 19 rfl))) Via.refl S_C d14_0 ?_
  refine Own.if_eq 17 d14_3 (by decide) rfl (fun q => absurd q hz) (fun _ => ?_)
  refine Own.aloadN d14_6 rfl rfl ?_
  refine Own.getF_ (host := "") (Or.inl (hw _ (mg 31 rfl))) Via.refl F_coder_a1 d14_7 ?_
  refine Own.if_ne 17 d14_10 (by decide) rfl (fun q => absurd (by decide) q) (fun _ => ?_)
  refine Own.iconst (1 : Int32) d14_13 rfl ?_
  refine Own.goto_ 18 d14_14 (by decide) rfl ?_
  refine Own.ret_nar (t := .boolean) (by simp) rfl d14_18 (by decide) (by decide) (fun Sf hSf => ?_)
  exact ⟨rfl, rfl⟩
theorem ef_rm_empty_3 (m : MethodId) (a1 : Addr)  : entryFrame m #[(.ref a1)] 1 = mkF m 0 #[.val (.ref a1)] [] := by simp [entryFrame, mkF, argsToLocals, Value.category]
theorem rm_empty_3 (l : Launch) (Z : State) (a0 : Array Value) (hw : HW a0 Z) (ws : List Jvm.Cond) (a1 : Addr) (b : Addr) (kb : ClassId) (vs : List Value) (zc : Int32) (h0 : Heap) (n0 : Nat) (hn : n0 ≤ h0.size) (X_a1 : XSt Z h0 a1) (F_value_a1 : FSv Z h0 a1 (.ref b)) (F_coder_a1 : FSc Z h0 a1 Z0) (V_b : Arl Z h0 b kb .byte vs) (hl : vs.length = 3) (S_C : Sta Z h0 "java/lang/String" "COMPACT_STRINGS" "Z" (.int zc)) (hz : ¬ zc = 0) :
    Met own_EL l Z (⟨"java/lang/String", "isEmpty", "()Z"⟩ : MethodName) jdk_42_method_55_code 1 (some .boolean) ({ frames := 0, cells := 0, slots := 0, locals := 0 } : Room) ws #[(.ref a1)] h0 n0 [] (Pur Z0 h0) := by
  refine Met.of pn_9 (fun m => ef_rm_empty_3 m a1) ?_
  refine Own.aloadN d9_0 rfl rfl ?_
  refine Own.getF_ (host := "") (Or.inl (hw _ (mg 33 rfl))) Via.refl F_value_a1 d9_1 ?_
  refine Own.arraylength_ (3 : Int32) V_b (by rw [hl]; rfl) d9_4 ?_
  refine Own.if_ne 12 d9_5 (by decide) rfl (fun _ => ?_) (fun q => absurd q (by decide))
  refine Own.iconst (0 : Int32) d9_12 rfl ?_
  refine Own.ret_nar (t := .boolean) (by simp) rfl d9_13 (by decide) (by decide) (fun Sf hSf => ?_)
  exact ⟨rfl, rfl⟩
theorem ef_rm_coder_4 (m : MethodId) (a1 : Addr)  : entryFrame m #[(.ref a1)] 1 = mkF m 0 #[.val (.ref a1)] [] := by simp [entryFrame, mkF, argsToLocals, Value.category]
theorem rm_coder_4 (l : Launch) (Z : State) (a0 : Array Value) (hw : HW a0 Z) (ws : List Jvm.Cond) (a1 : Addr) (b : Addr) (kb : ClassId) (vs : List Value) (zc : Int32) (h0 : Heap) (n0 : Nat) (hn : n0 ≤ h0.size) (X_a1 : XSt Z h0 a1) (F_value_a1 : FSv Z h0 a1 (.ref b)) (F_coder_a1 : FSc Z h0 a1 Z0) (V_b : Arl Z h0 b kb .byte vs) (hl : vs.length = 4) (S_C : Sta Z h0 "java/lang/String" "COMPACT_STRINGS" "Z" (.int zc)) (hz : ¬ zc = 0) :
    Met own_EL l Z (⟨"java/lang/String", "coder", "()B"⟩ : MethodName) jdk_42_method_152_code 1 (some .byte) ({ frames := 0, cells := 0, slots := 0, locals := 0 } : Room) ws #[(.ref a1)] h0 n0 [] (Pur Z0 h0) := by
  refine Met.of pn_11 (fun m => ef_rm_coder_4 m a1) ?_
  refine Own.getS_ (host := "") (Or.inl (hw _ (mg 19 rfl))) Via.refl S_C d11_0 ?_
  refine Own.if_eq 13 d11_3 (by decide) rfl (fun q => absurd q hz) (fun _ => ?_)
  refine Own.aloadN d11_6 rfl rfl ?_
  refine Own.getF_ (host := "") (Or.inl (hw _ (mg 31 rfl))) Via.refl F_coder_a1 d11_7 ?_
  refine Own.goto_ 14 d11_10 (by decide) rfl ?_
  refine Own.ret_nar (t := .byte) (by simp) rfl d11_14 (by decide) (by decide) (fun Sf hSf => ?_)
  exact ⟨rfl, rfl⟩
theorem ef_rm_len_4 (m : MethodId) (a1 : Addr)  : entryFrame m #[(.ref a1)] 1 = mkF m 0 #[.val (.ref a1)] [] := by simp [entryFrame, mkF, argsToLocals, Value.category]
theorem rm_len_4 (l : Launch) (Z : State) (a0 : Array Value) (hw : HW a0 Z) (ws : List Jvm.Cond) (a1 : Addr) (b : Addr) (kb : ClassId) (vs : List Value) (zc : Int32) (h0 : Heap) (n0 : Nat) (hn : n0 ≤ h0.size) (X_a1 : XSt Z h0 a1) (F_value_a1 : FSv Z h0 a1 (.ref b)) (F_coder_a1 : FSc Z h0 a1 Z0) (V_b : Arl Z h0 b kb .byte vs) (hl : vs.length = 4) (S_C : Sta Z h0 "java/lang/String" "COMPACT_STRINGS" "Z" (.int zc)) (hz : ¬ zc = 0) :
    Met own_EL l Z (⟨"java/lang/String", "length", "()I"⟩ : MethodName) jdk_42_method_54_code 1 (some .int) ({ frames := 1, cells := 0, slots := 0, locals := 13 } : Room) ws #[(.ref a1)] h0 n0 [] (Pur (.int (4 : Int32)) h0) := by
  refine Met.of pn_10 (fun m => ef_rm_len_4 m a1) ?_
  refine Own.aloadN d10_0 rfl rfl ?_
  refine Own.getF_ (host := "") (Or.inl (hw _ (mg 33 rfl))) Via.refl F_value_a1 d10_1 ?_
  refine Own.arraylength_ (4 : Int32) V_b (by rw [hl]; rfl) d10_4 ?_
  refine Own.aloadN d10_5 rfl rfl ?_
  refine Own.callVP a1 [] [(.int (4 : Int32))] 1 (rm_coder_4 l Z a0 hw [] a1 b kb vs zc h0 n0 hn X_a1 F_value_a1 F_coder_a1 V_b hl S_C hz) (hw _ (mg 52 rfl)) (hw _ (mg 53 rfl)) (fun s hZ => notFace_of_selects (args := #[]) (mvT hZ (hw _ (mg 55 rfl)))) (hw _ (mg 55 rfl)) (hw _ (mg 54 rfl)) (hw _ (mg 7 rfl)) (hw _ (mg 56 rfl)) (by decide) X_a1 d10_6 pd_0 rfl rfl rfl rfl (by decide) (by decide) (by decide) (by decide) ?_
  refine Own.ishr d10_9 ?_
  refine OAt.cast (st' := [(.int (4 : Int32))]) rfl ?_
  refine Own.ret_int rfl d10_10 (by decide) (by decide) (fun Sf hSf => ?_)
  exact ⟨rfl, rfl⟩
theorem ef_rm_lat_4 (m : MethodId) (a1 : Addr)  : entryFrame m #[(.ref a1)] 1 = mkF m 0 #[.val (.ref a1)] [] := by simp [entryFrame, mkF, argsToLocals, Value.category]
theorem rm_lat_4 (l : Launch) (Z : State) (a0 : Array Value) (hw : HW a0 Z) (ws : List Jvm.Cond) (a1 : Addr) (b : Addr) (kb : ClassId) (vs : List Value) (zc : Int32) (h0 : Heap) (n0 : Nat) (hn : n0 ≤ h0.size) (X_a1 : XSt Z h0 a1) (F_value_a1 : FSv Z h0 a1 (.ref b)) (F_coder_a1 : FSc Z h0 a1 Z0) (V_b : Arl Z h0 b kb .byte vs) (hl : vs.length = 4) (S_C : Sta Z h0 "java/lang/String" "COMPACT_STRINGS" "Z" (.int zc)) (hz : ¬ zc = 0) :
    Met own_EL l Z (⟨"java/lang/String", "isLatin1", "()Z"⟩ : MethodName) jdk_42_method_154_code 1 (some .boolean) ({ frames := 0, cells := 0, slots := 0, locals := 0 } : Room) ws #[(.ref a1)] h0 n0 [] (Pur (.int (1 : Int32)) h0) := by
  refine Met.of pn_14 (fun m => ef_rm_lat_4 m a1) ?_
  refine Own.getS_ (host := "") (Or.inl (hw _ (mg 19 rfl))) Via.refl S_C d14_0 ?_
  refine Own.if_eq 17 d14_3 (by decide) rfl (fun q => absurd q hz) (fun _ => ?_)
  refine Own.aloadN d14_6 rfl rfl ?_
  refine Own.getF_ (host := "") (Or.inl (hw _ (mg 31 rfl))) Via.refl F_coder_a1 d14_7 ?_
  refine Own.if_ne 17 d14_10 (by decide) rfl (fun q => absurd (by decide) q) (fun _ => ?_)
  refine Own.iconst (1 : Int32) d14_13 rfl ?_
  refine Own.goto_ 18 d14_14 (by decide) rfl ?_
  refine Own.ret_nar (t := .boolean) (by simp) rfl d14_18 (by decide) (by decide) (fun Sf hSf => ?_)
  exact ⟨rfl, rfl⟩
theorem ef_rm_empty_4 (m : MethodId) (a1 : Addr)  : entryFrame m #[(.ref a1)] 1 = mkF m 0 #[.val (.ref a1)] [] := by simp [entryFrame, mkF, argsToLocals, Value.category]
theorem rm_empty_4 (l : Launch) (Z : State) (a0 : Array Value) (hw : HW a0 Z) (ws : List Jvm.Cond) (a1 : Addr) (b : Addr) (kb : ClassId) (vs : List Value) (zc : Int32) (h0 : Heap) (n0 : Nat) (hn : n0 ≤ h0.size) (X_a1 : XSt Z h0 a1) (F_value_a1 : FSv Z h0 a1 (.ref b)) (F_coder_a1 : FSc Z h0 a1 Z0) (V_b : Arl Z h0 b kb .byte vs) (hl : vs.length = 4) (S_C : Sta Z h0 "java/lang/String" "COMPACT_STRINGS" "Z" (.int zc)) (hz : ¬ zc = 0) :
    Met own_EL l Z (⟨"java/lang/String", "isEmpty", "()Z"⟩ : MethodName) jdk_42_method_55_code 1 (some .boolean) ({ frames := 0, cells := 0, slots := 0, locals := 0 } : Room) ws #[(.ref a1)] h0 n0 [] (Pur Z0 h0) := by
  refine Met.of pn_9 (fun m => ef_rm_empty_4 m a1) ?_
  refine Own.aloadN d9_0 rfl rfl ?_
  refine Own.getF_ (host := "") (Or.inl (hw _ (mg 33 rfl))) Via.refl F_value_a1 d9_1 ?_
  refine Own.arraylength_ (4 : Int32) V_b (by rw [hl]; rfl) d9_4 ?_
  refine Own.if_ne 12 d9_5 (by decide) rfl (fun _ => ?_) (fun q => absurd q (by decide))
  refine Own.iconst (0 : Int32) d9_12 rfl ?_
  refine Own.ret_nar (t := .boolean) (by simp) rfl d9_13 (by decide) (by decide) (fun Sf hSf => ?_)
  exact ⟨rfl, rfl⟩
theorem ef_rm_coder_5 (m : MethodId) (a1 : Addr)  : entryFrame m #[(.ref a1)] 1 = mkF m 0 #[.val (.ref a1)] [] := by simp [entryFrame, mkF, argsToLocals, Value.category]
theorem rm_coder_5 (l : Launch) (Z : State) (a0 : Array Value) (hw : HW a0 Z) (ws : List Jvm.Cond) (a1 : Addr) (b : Addr) (kb : ClassId) (vs : List Value) (zc : Int32) (h0 : Heap) (n0 : Nat) (hn : n0 ≤ h0.size) (X_a1 : XSt Z h0 a1) (F_value_a1 : FSv Z h0 a1 (.ref b)) (F_coder_a1 : FSc Z h0 a1 Z0) (V_b : Arl Z h0 b kb .byte vs) (hl : vs.length = 5) (S_C : Sta Z h0 "java/lang/String" "COMPACT_STRINGS" "Z" (.int zc)) (hz : ¬ zc = 0) :
    Met own_EL l Z (⟨"java/lang/String", "coder", "()B"⟩ : MethodName) jdk_42_method_152_code 1 (some .byte) ({ frames := 0, cells := 0, slots := 0, locals := 0 } : Room) ws #[(.ref a1)] h0 n0 [] (Pur Z0 h0) := by
  refine Met.of pn_11 (fun m => ef_rm_coder_5 m a1) ?_
  refine Own.getS_ (host := "") (Or.inl (hw _ (mg 19 rfl))) Via.refl S_C d11_0 ?_
  refine Own.if_eq 13 d11_3 (by decide) rfl (fun q => absurd q hz) (fun _ => ?_)
  refine Own.aloadN d11_6 rfl rfl ?_
  refine Own.getF_ (host := "") (Or.inl (hw _ (mg 31 rfl))) Via.refl F_coder_a1 d11_7 ?_
  refine Own.goto_ 14 d11_10 (by decide) rfl ?_
  refine Own.ret_nar (t := .byte) (by simp) rfl d11_14 (by decide) (by decide) (fun Sf hSf => ?_)
  exact ⟨rfl, rfl⟩
theorem ef_rm_len_5 (m : MethodId) (a1 : Addr)  : entryFrame m #[(.ref a1)] 1 = mkF m 0 #[.val (.ref a1)] [] := by simp [entryFrame, mkF, argsToLocals, Value.category]
theorem rm_len_5 (l : Launch) (Z : State) (a0 : Array Value) (hw : HW a0 Z) (ws : List Jvm.Cond) (a1 : Addr) (b : Addr) (kb : ClassId) (vs : List Value) (zc : Int32) (h0 : Heap) (n0 : Nat) (hn : n0 ≤ h0.size) (X_a1 : XSt Z h0 a1) (F_value_a1 : FSv Z h0 a1 (.ref b)) (F_coder_a1 : FSc Z h0 a1 Z0) (V_b : Arl Z h0 b kb .byte vs) (hl : vs.length = 5) (S_C : Sta Z h0 "java/lang/String" "COMPACT_STRINGS" "Z" (.int zc)) (hz : ¬ zc = 0) :
    Met own_EL l Z (⟨"java/lang/String", "length", "()I"⟩ : MethodName) jdk_42_method_54_code 1 (some .int) ({ frames := 1, cells := 0, slots := 0, locals := 13 } : Room) ws #[(.ref a1)] h0 n0 [] (Pur (.int (5 : Int32)) h0) := by
  refine Met.of pn_10 (fun m => ef_rm_len_5 m a1) ?_
  refine Own.aloadN d10_0 rfl rfl ?_
  refine Own.getF_ (host := "") (Or.inl (hw _ (mg 33 rfl))) Via.refl F_value_a1 d10_1 ?_
  refine Own.arraylength_ (5 : Int32) V_b (by rw [hl]; rfl) d10_4 ?_
  refine Own.aloadN d10_5 rfl rfl ?_
  refine Own.callVP a1 [] [(.int (5 : Int32))] 1 (rm_coder_5 l Z a0 hw [] a1 b kb vs zc h0 n0 hn X_a1 F_value_a1 F_coder_a1 V_b hl S_C hz) (hw _ (mg 52 rfl)) (hw _ (mg 53 rfl)) (fun s hZ => notFace_of_selects (args := #[]) (mvT hZ (hw _ (mg 55 rfl)))) (hw _ (mg 55 rfl)) (hw _ (mg 54 rfl)) (hw _ (mg 7 rfl)) (hw _ (mg 56 rfl)) (by decide) X_a1 d10_6 pd_0 rfl rfl rfl rfl (by decide) (by decide) (by decide) (by decide) ?_
  refine Own.ishr d10_9 ?_
  refine OAt.cast (st' := [(.int (5 : Int32))]) rfl ?_
  refine Own.ret_int rfl d10_10 (by decide) (by decide) (fun Sf hSf => ?_)
  exact ⟨rfl, rfl⟩
theorem ef_rm_lat_5 (m : MethodId) (a1 : Addr)  : entryFrame m #[(.ref a1)] 1 = mkF m 0 #[.val (.ref a1)] [] := by simp [entryFrame, mkF, argsToLocals, Value.category]
theorem rm_lat_5 (l : Launch) (Z : State) (a0 : Array Value) (hw : HW a0 Z) (ws : List Jvm.Cond) (a1 : Addr) (b : Addr) (kb : ClassId) (vs : List Value) (zc : Int32) (h0 : Heap) (n0 : Nat) (hn : n0 ≤ h0.size) (X_a1 : XSt Z h0 a1) (F_value_a1 : FSv Z h0 a1 (.ref b)) (F_coder_a1 : FSc Z h0 a1 Z0) (V_b : Arl Z h0 b kb .byte vs) (hl : vs.length = 5) (S_C : Sta Z h0 "java/lang/String" "COMPACT_STRINGS" "Z" (.int zc)) (hz : ¬ zc = 0) :
    Met own_EL l Z (⟨"java/lang/String", "isLatin1", "()Z"⟩ : MethodName) jdk_42_method_154_code 1 (some .boolean) ({ frames := 0, cells := 0, slots := 0, locals := 0 } : Room) ws #[(.ref a1)] h0 n0 [] (Pur (.int (1 : Int32)) h0) := by
  refine Met.of pn_14 (fun m => ef_rm_lat_5 m a1) ?_
  refine Own.getS_ (host := "") (Or.inl (hw _ (mg 19 rfl))) Via.refl S_C d14_0 ?_
  refine Own.if_eq 17 d14_3 (by decide) rfl (fun q => absurd q hz) (fun _ => ?_)
  refine Own.aloadN d14_6 rfl rfl ?_
  refine Own.getF_ (host := "") (Or.inl (hw _ (mg 31 rfl))) Via.refl F_coder_a1 d14_7 ?_
  refine Own.if_ne 17 d14_10 (by decide) rfl (fun q => absurd (by decide) q) (fun _ => ?_)
  refine Own.iconst (1 : Int32) d14_13 rfl ?_
  refine Own.goto_ 18 d14_14 (by decide) rfl ?_
  refine Own.ret_nar (t := .boolean) (by simp) rfl d14_18 (by decide) (by decide) (fun Sf hSf => ?_)
  exact ⟨rfl, rfl⟩
theorem ef_rm_empty_5 (m : MethodId) (a1 : Addr)  : entryFrame m #[(.ref a1)] 1 = mkF m 0 #[.val (.ref a1)] [] := by simp [entryFrame, mkF, argsToLocals, Value.category]
theorem rm_empty_5 (l : Launch) (Z : State) (a0 : Array Value) (hw : HW a0 Z) (ws : List Jvm.Cond) (a1 : Addr) (b : Addr) (kb : ClassId) (vs : List Value) (zc : Int32) (h0 : Heap) (n0 : Nat) (hn : n0 ≤ h0.size) (X_a1 : XSt Z h0 a1) (F_value_a1 : FSv Z h0 a1 (.ref b)) (F_coder_a1 : FSc Z h0 a1 Z0) (V_b : Arl Z h0 b kb .byte vs) (hl : vs.length = 5) (S_C : Sta Z h0 "java/lang/String" "COMPACT_STRINGS" "Z" (.int zc)) (hz : ¬ zc = 0) :
    Met own_EL l Z (⟨"java/lang/String", "isEmpty", "()Z"⟩ : MethodName) jdk_42_method_55_code 1 (some .boolean) ({ frames := 0, cells := 0, slots := 0, locals := 0 } : Room) ws #[(.ref a1)] h0 n0 [] (Pur Z0 h0) := by
  refine Met.of pn_9 (fun m => ef_rm_empty_5 m a1) ?_
  refine Own.aloadN d9_0 rfl rfl ?_
  refine Own.getF_ (host := "") (Or.inl (hw _ (mg 33 rfl))) Via.refl F_value_a1 d9_1 ?_
  refine Own.arraylength_ (5 : Int32) V_b (by rw [hl]; rfl) d9_4 ?_
  refine Own.if_ne 12 d9_5 (by decide) rfl (fun _ => ?_) (fun q => absurd q (by decide))
  refine Own.iconst (0 : Int32) d9_12 rfl ?_
  refine Own.ret_nar (t := .boolean) (by simp) rfl d9_13 (by decide) (by decide) (fun Sf hSf => ?_)
  exact ⟨rfl, rfl⟩
theorem d6_0 : decode jdk_52_method_21_code 0 = .ok (.iconst 0, 1) := by decide +kernel
theorem d6_1 : decode jdk_52_method_21_code 1 = .ok (.istore 5, 2) := by decide +kernel
theorem d6_3 : decode jdk_52_method_21_code 3 = .ok (.iload 5, 2) := by decide +kernel
theorem d6_5 : decode jdk_52_method_21_code 5 = .ok (.iload 4, 2) := by decide +kernel
theorem d6_7 : decode jdk_52_method_21_code 7 = .ok (.if_icmp .ge 37, 3) := by decide +kernel
theorem d6_10 : decode jdk_52_method_21_code 10 = .ok (.aload_n 0, 1) := by decide +kernel
theorem d6_11 : decode jdk_52_method_21_code 11 = .ok (.iload_n 1, 1) := by decide +kernel
theorem d6_12 : decode jdk_52_method_21_code 12 = .ok (.caload, 1) := by decide +kernel
theorem d6_13 : decode jdk_52_method_21_code 13 = .ok (.istore 6, 2) := by decide +kernel
theorem d6_15 : decode jdk_52_method_21_code 15 = .ok (.iload 6, 2) := by decide +kernel
theorem d6_17 : decode jdk_52_method_21_code 17 = .ok (.sipush 255, 3) := by decide +kernel
theorem d6_20 : decode jdk_52_method_21_code 20 = .ok (.if_icmp .le 6, 3) := by decide +kernel
theorem d6_26 : decode jdk_52_method_21_code 26 = .ok (.aload_n 2, 1) := by decide +kernel
theorem d6_27 : decode jdk_52_method_21_code 27 = .ok (.iload_n 3, 1) := by decide +kernel
theorem d6_28 : decode jdk_52_method_21_code 28 = .ok (.iload 6, 2) := by decide +kernel
theorem d6_30 : decode jdk_52_method_21_code 30 = .ok (.i2b, 1) := by decide +kernel
theorem d6_31 : decode jdk_52_method_21_code 31 = .ok (.bastore, 1) := by decide +kernel
theorem d6_32 : decode jdk_52_method_21_code 32 = .ok (.iinc 1 1, 3) := by decide +kernel
theorem d6_35 : decode jdk_52_method_21_code 35 = .ok (.iinc 3 1, 3) := by decide +kernel
theorem d6_38 : decode jdk_52_method_21_code 38 = .ok (.iinc 5 1, 3) := by decide +kernel
theorem d6_41 : decode jdk_52_method_21_code 41 = .ok (.goto (-38), 3) := by decide +kernel
theorem d6_44 : decode jdk_52_method_21_code 44 = .ok (.iload 4, 2) := by decide +kernel
theorem d6_46 : decode jdk_52_method_21_code 46 = .ok (.ireturn, 1) := by decide +kernel
def Q_rm5k1 (Z : State) (a3 : Addr) (kb : ClassId) (c0 : Int32) (h0 : Heap) (n0 : Nat) (v : Option Value) (h : Heap) (Sf : Addr → Prop) : Prop := v = some (.int (1 : Int32)) ∧ Keep h0 h [a3] ∧ Arl Z h a3 kb .byte [(.int (nar .byte (c0.toInt8.toInt32)))]
theorem ef_rm5k1 (m : MethodId) (a1 : Addr) (a3 : Addr)  : entryFrame m #[(.ref a1), Z0, (.ref a3), Z0, (.int (1 : Int32))] 7 = mkF m 0 #[.val (.ref a1), .val Z0, .val (.ref a3), .val Z0, .val (.int (1 : Int32)), .unset, .unset] [] := by simp [entryFrame, mkF, argsToLocals, Value.category]
theorem pn_6 : plainFor (⟨"java/lang/StringUTF16", "compress", "([CI[BII)I"⟩ : MethodName) = true := plainFor_of_name (show plainName "java/lang/StringUTF16" = true by first | (simp [plainName, overriddenIn]; done) | decide +kernel)
theorem rm5k1 (l : Launch) (Z : State) (a0 : Array Value) (hw : HW a0 Z) (ws : List Jvm.Cond) (a1 : Addr) (ka : ClassId) (a3 : Addr) (kb : ClassId) (c0 : Int32) (h0 : Heap) (n0 : Nat) (hn : n0 ≤ h0.size) (V_a1 : Arl Z h0 a1 ka .char [(.int c0)]) (V_a3 : Arl Z h0 a3 kb .byte [Z0]) (ne_a1_a3 : a1 ≠ a3) (g_a3 : n0 ≤ a3) (hc0 : ¬ (255 : Int32) < c0) :
    Met own_EL l Z (⟨"java/lang/StringUTF16", "compress", "([CI[BII)I"⟩ : MethodName) jdk_52_method_21_code 7 (some .int) ({ frames := 0, cells := 0, slots := 0, locals := 0 } : Room) ws #[(.ref a1), Z0, (.ref a3), Z0, (.int (1 : Int32))] h0 n0 [a3] (Q_rm5k1 Z a3 kb c0 h0 n0) := by
  refine Met.of pn_6 (fun m => ef_rm5k1 m a1 a3) ?_
  have K := Keep.refl h0 [a3]
  refine Own.iconst (0 : Int32) d6_0 rfl ?_
  refine Own.istore #[.val (.ref a1), .val Z0, .val (.ref a3), .val Z0, .val (.int (1 : Int32)), .val Z0, .unset] d6_1 rfl ?_
  refine Own.iload d6_3 rfl ?_
  refine Own.iload d6_5 rfl ?_
  refine Own.icmp_ge 44 d6_7 (by decide) rfl (fun q => absurd (by decide) q) (fun _ => ?_)
  refine Own.aloadN d6_10 rfl rfl ?_
  refine Own.iloadN d6_11 rfl ?_
  refine Own.caload_ V_a1 (i := 0) rfl rfl d6_12 ?_
  refine Own.istore #[.val (.ref a1), .val Z0, .val (.ref a3), .val Z0, .val (.int (1 : Int32)), .val Z0, .val (.int c0)] d6_13 rfl ?_
  refine Own.iload d6_15 rfl ?_
  refine Own.sipush (255 : Int32) d6_17 rfl ?_
  refine Own.icmp_le 26 d6_20 (by decide) rfl (fun _ => ?_) (fun q => absurd q hc0)
  refine Own.aloadN d6_26 rfl rfl ?_
  refine Own.iloadN d6_27 rfl ?_
  refine Own.iload d6_28 rfl ?_
  refine Own.i2b d6_30 ?_
  refine Own.bastore_ V_a3 (i := 0) rfl (Nat.le_of_ble_eq_true rfl) g_a3 (mg 0 rfl) d6_31 (fun h1 W1 V1 => ?_)
  clear V_a3
  replace V1 : Arl Z h1 a3 kb .byte [(.int (nar .byte (c0.toInt8.toInt32)))] := V1
  have K := K.wr W1 (Or.inl (mg 0 rfl))
  refine Own.iinc (1 : Int32) #[.val (.ref a1), .val (.int ((0 : Int32) + (1 : Int32))), .val (.ref a3), .val Z0, .val (.int (1 : Int32)), .val Z0, .val (.int c0)] d6_32 rfl rfl rfl ?_
  refine OAt.castL (Ls' := #[.val (.ref a1), .val (.int (1 : Int32)), .val (.ref a3), .val Z0, .val (.int (1 : Int32)), .val Z0, .val (.int c0)]) rfl rfl ?_
  refine Own.iinc (1 : Int32) #[.val (.ref a1), .val (.int (1 : Int32)), .val (.ref a3), .val (.int ((0 : Int32) + (1 : Int32))), .val (.int (1 : Int32)), .val Z0, .val (.int c0)] d6_35 rfl rfl rfl ?_
  refine OAt.castL (Ls' := #[.val (.ref a1), .val (.int (1 : Int32)), .val (.ref a3), .val (.int (1 : Int32)), .val (.int (1 : Int32)), .val Z0, .val (.int c0)]) rfl rfl ?_
  refine Own.iinc (1 : Int32) #[.val (.ref a1), .val (.int (1 : Int32)), .val (.ref a3), .val (.int (1 : Int32)), .val (.int (1 : Int32)), .val (.int ((0 : Int32) + (1 : Int32))), .val (.int c0)] d6_38 rfl rfl rfl ?_
  refine OAt.castL (Ls' := #[.val (.ref a1), .val (.int (1 : Int32)), .val (.ref a3), .val (.int (1 : Int32)), .val (.int (1 : Int32)), .val (.int (1 : Int32)), .val (.int c0)]) rfl rfl ?_
  refine Own.goto_ 3 d6_41 (by decide) rfl ?_
  refine Own.iload d6_3 rfl ?_
  refine Own.iload d6_5 rfl ?_
  refine Own.icmp_ge 44 d6_7 (by decide) rfl (fun _ => ?_) (fun q => absurd q (by decide))
  refine Own.iload d6_44 rfl ?_
  refine Own.ret_int rfl d6_46 (by decide) (by decide) (fun Sf hSf => ?_)
  exact ⟨rfl, K, V1⟩
theorem d5_0 : decode jdk_52_method_16_code 0 = .ok (.iload_n 2, 1) := by decide +kernel
theorem d5_1 : decode jdk_52_method_16_code 1 = .ok (.newarray .byte, 2) := by decide +kernel
theorem d5_3 : decode jdk_52_method_16_code 3 = .ok (.astore_n 3, 1) := by decide +kernel
theorem d5_4 : decode jdk_52_method_16_code 4 = .ok (.aload_n 0, 1) := by decide +kernel
theorem d5_5 : decode jdk_52_method_16_code 5 = .ok (.iload_n 1, 1) := by decide +kernel
theorem d5_6 : decode jdk_52_method_16_code 6 = .ok (.aload_n 3, 1) := by decide +kernel
theorem d5_7 : decode jdk_52_method_16_code 7 = .ok (.iconst 0, 1) := by decide +kernel
theorem d5_8 : decode jdk_52_method_16_code 8 = .ok (.iload_n 2, 1) := by decide +kernel
theorem d5_9 : decode jdk_52_method_16_code 9 = .ok (.invokestatic 115, 3) := by decide +kernel
theorem pd_29 : parseMethodDescriptor "([CI[BII)I" = some ⟨[(.array .char), .int, (.array .byte), .int, .int], some .int⟩ := by decide +kernel
theorem d5_12 : decode jdk_52_method_16_code 12 = .ok (.istore 4, 2) := by decide +kernel
theorem d5_14 : decode jdk_52_method_16_code 14 = .ok (.iload 4, 2) := by decide +kernel
theorem d5_16 : decode jdk_52_method_16_code 16 = .ok (.iload_n 2, 1) := by decide +kernel
theorem d5_17 : decode jdk_52_method_16_code 17 = .ok (.if_icmp .eq 40, 3) := by decide +kernel
theorem d5_57 : decode jdk_52_method_16_code 57 = .ok (.aload_n 3, 1) := by decide +kernel
theorem d5_58 : decode jdk_52_method_16_code 58 = .ok (.areturn, 1) := by decide +kernel
def Q_rm3k1 (Z : State) (c0 : Int32) (h0 : Heap) (n0 : Nat) (v : Option Value) (h : Heap) (Sf : Addr → Prop) : Prop := ∃ (a : Addr) (ka : ClassId), v = some (.ref a) ∧ h0.size ≤ a ∧ Keep h0 h [] ∧ Arl Z h a ka .byte [(.int (nar .byte (c0.toInt8.toInt32)))]
theorem ef_rm3k1 (m : MethodId) (a1 : Addr)  : entryFrame m #[(.ref a1), Z0, (.int (1 : Int32))] 6 = mkF m 0 #[.val (.ref a1), .val Z0, .val (.int (1 : Int32)), .unset, .unset, .unset] [] := by simp [entryFrame, mkF, argsToLocals, Value.category]
theorem pn_5 : plainFor (⟨"java/lang/StringUTF16", "compress", "([CII)[B"⟩ : MethodName) = true := plainFor_of_name (show plainName "java/lang/StringUTF16" = true by first | (simp [plainName, overriddenIn]; done) | decide +kernel)
theorem rm3k1 (l : Launch) (Z : State) (a0 : Array Value) (hw : HW a0 Z) (ws : List Jvm.Cond) (a1 : Addr) (ka : ClassId) (c0 : Int32) (h0 : Heap) (n0 : Nat) (hn : n0 ≤ h0.size) (V_a1 : Arl Z h0 a1 ka .char [(.int c0)]) (hc0 : ¬ (255 : Int32) < c0) :
    Met own_EL l Z (⟨"java/lang/StringUTF16", "compress", "([CII)[B"⟩ : MethodName) jdk_52_method_16_code 6 (some (.array .byte)) ({ frames := 1, cells := 1, slots := 1, locals := 18 } : Room) ws #[(.ref a1), Z0, (.int (1 : Int32))] h0 n0 [] (Q_rm3k1 Z c0 h0 n0) := by
  refine Met.of pn_5 (fun m => ef_rm3k1 m a1) ?_
  have K := Keep.refl h0 []
  refine Own.iloadN d5_0 rfl ?_
  refine Own.newarray_ 1 .byte rfl (hw _ (mg 24 rfl)) d5_1 (N := 1) rfl (by decide) (by decide) (by decide) (by decide) rfl (fun h2 b2 k2 gb2 E2 V2 => ?_)
  have g_b2 : n0 ≤ b2 := by rw [gb2]; exact hn
  have ne_a1_b2 : a1 ≠ b2 := fun q => Nat.ne_of_lt V_a1.lt (q.trans gb2)
  have hn := Nat.le_trans hn E2.1
  replace V_a1 := V_a1.ext E2
  replace V2 : Arl Z h2 b2 k2 .byte [Z0] := V2
  have sz_b2 : h0.size ≤ b2 := by rw [gb2]; exact K.1
  have K := K.ext E2
  refine Own.astoreN #[.val (.ref a1), .val Z0, .val (.int (1 : Int32)), .val (.ref b2), .unset, .unset] d5_3 rfl rfl ?_
  refine Own.aloadN d5_4 rfl rfl ?_
  refine Own.iloadN d5_5 rfl ?_
  refine Own.aloadN d5_6 rfl rfl ?_
  refine Own.iconst (0 : Int32) d5_7 rfl ?_
  refine Own.iloadN d5_8 rfl ?_
  refine Own.callS_ [(.ref a1), Z0, (.ref b2), Z0, (.int (1 : Int32))] [] 0 (rm5k1 l Z a0 hw [] a1 ka b2 k2 c0 h2 n0 hn V_a1 V2 ne_a1_b2 g_b2 hc0) (allS (mg 0 rfl) all0) (hw _ (mg 25 rfl)) (hw _ (mg 26 rfl)) (hw _ (mg 22 rfl)) (hw _ (mg 27 rfl)) (by decide) d5_9 pd_29 rfl rfl rfl rfl (by decide) (by decide) (by decide) (by decide) (fun v3 h3 S3 hq3 => ?_)
  obtain ⟨rfl, K4, V4⟩ := hq3
  have K := K.trans K4 (allS (Or.inr sz_b2) all0)
  refine ⟨[], all0, ?_⟩
  refine OAt.cast (st' := [(.int (1 : Int32))]) rfl ?_
  refine Own.istore #[.val (.ref a1), .val Z0, .val (.int (1 : Int32)), .val (.ref b2), .val (.int (1 : Int32)), .unset] d5_12 rfl ?_
  refine Own.iload d5_14 rfl ?_
  refine Own.iloadN d5_16 rfl ?_
  refine Own.icmp_eq 57 d5_17 (by decide) rfl (fun _ => ?_) (fun q => absurd (by decide) q)
  refine Own.aloadN d5_57 rfl rfl ?_
  refine Own.ret_ref (t := (.array .byte)) rfl rfl rfl d5_58 (by decide) (by decide) (fun Sf hSf => ?_)
  exact ⟨b2, k2, rfl, sz_b2, K, V4⟩
theorem d7_0 : decode jdk_52_method_15_code 0 = .ok (.iload_n 1, 1) := by decide +kernel
theorem d7_1 : decode jdk_52_method_15_code 1 = .ok (.aload_n 0, 1) := by decide +kernel
theorem d7_2 : decode jdk_52_method_15_code 2 = .ok (.arraylength, 1) := by decide +kernel
theorem d7_3 : decode jdk_52_method_15_code 3 = .ok (.isub, 1) := by decide +kernel
theorem d7_4 : decode jdk_52_method_15_code 4 = .ok (.bipush 31, 2) := by decide +kernel
theorem d7_6 : decode jdk_52_method_15_code 6 = .ok (.iushr, 1) := by decide +kernel
theorem d7_7 : decode jdk_52_method_15_code 7 = .ok (.i2b, 1) := by decide +kernel
theorem d7_8 : decode jdk_52_method_15_code 8 = .ok (.ireturn, 1) := by decide +kernel
theorem ef_rmlk1 (m : MethodId) (a1 : Addr)  : entryFrame m #[(.ref a1), (.int (1 : Int32))] 2 = mkF m 0 #[.val (.ref a1), .val (.int (1 : Int32))] [] := by simp [entryFrame, mkF, argsToLocals, Value.category]
theorem pn_7 : plainFor (⟨"java/lang/StringUTF16", "coderFromArrayLen", "([BI)B"⟩ : MethodName) = true := plainFor_of_name (show plainName "java/lang/StringUTF16" = true by first | (simp [plainName, overriddenIn]; done) | decide +kernel)
theorem rmlk1 (l : Launch) (Z : State) (a0 : Array Value) (hw : HW a0 Z) (ws : List Jvm.Cond) (a1 : Addr) (ka : ClassId) (vs : List Value) (h0 : Heap) (n0 : Nat) (hn : n0 ≤ h0.size) (V_a1 : Arl Z h0 a1 ka .byte vs) (hl : vs.length = 1) :
    Met own_EL l Z (⟨"java/lang/StringUTF16", "coderFromArrayLen", "([BI)B"⟩ : MethodName) jdk_52_method_15_code 2 (some .byte) ({ frames := 0, cells := 0, slots := 0, locals := 0 } : Room) ws #[(.ref a1), (.int (1 : Int32))] h0 n0 [] (Pur Z0 h0) := by
  refine Met.of pn_7 (fun m => ef_rmlk1 m a1) ?_
  refine Own.iloadN d7_0 rfl ?_
  refine Own.aloadN d7_1 rfl rfl ?_
  refine Own.arraylength_ (1 : Int32) V_a1 (by rw [hl]; rfl) d7_2 ?_
  refine Own.isub d7_3 ?_
  refine OAt.cast (st' := [Z0]) rfl ?_
  refine Own.bipush (31 : Int32) d7_4 rfl ?_
  refine Own.iushr d7_6 ?_
  refine OAt.cast (st' := [Z0]) rfl ?_
  refine Own.i2b d7_7 ?_
  refine OAt.cast (st' := [Z0]) rfl ?_
  refine Own.ret_nar (t := .byte) (by simp) rfl d7_8 (by decide) (by decide) (fun Sf hSf => ?_)
  exact ⟨rfl, rfl⟩
theorem d3_0 : decode jdk_42_method_149_code 0 = .ok (.aload_n 0, 1) := by decide +kernel
theorem d3_1 : decode jdk_42_method_149_code 1 = .ok (.invokespecial 1, 3) := by decide +kernel
theorem d3_4 : decode jdk_42_method_149_code 4 = .ok (.iload_n 3, 1) := by decide +kernel
theorem d3_5 : decode jdk_42_method_149_code 5 = .ok (.ifCond .ne 22, 3) := by decide +kernel
theorem d3_27 : decode jdk_42_method_149_code 27 = .ok (.getstatic 38, 3) := by decide +kernel
theorem d3_30 : decode jdk_42_method_149_code 30 = .ok (.ifCond .eq 28, 3) := by decide +kernel
theorem d3_33 : decode jdk_42_method_149_code 33 = .ok (.aload_n 1, 1) := by decide +kernel
theorem d3_34 : decode jdk_42_method_149_code 34 = .ok (.iload_n 2, 1) := by decide +kernel
theorem d3_35 : decode jdk_42_method_149_code 35 = .ok (.iload_n 3, 1) := by decide +kernel
theorem d3_36 : decode jdk_42_method_149_code 36 = .ok (.invokestatic 177, 3) := by decide +kernel
theorem pd_27 : parseMethodDescriptor "([CII)[B" = some ⟨[(.array .char), .int, .int], some (.array .byte)⟩ := by decide +kernel
theorem d3_39 : decode jdk_42_method_149_code 39 = .ok (.astore 5, 2) := by decide +kernel
theorem d3_41 : decode jdk_42_method_149_code 41 = .ok (.aload_n 0, 1) := by decide +kernel
theorem d3_42 : decode jdk_42_method_149_code 42 = .ok (.aload 5, 2) := by decide +kernel
theorem d3_44 : decode jdk_42_method_149_code 44 = .ok (.iload_n 3, 1) := by decide +kernel
theorem d3_45 : decode jdk_42_method_149_code 45 = .ok (.invokestatic 47, 3) := by decide +kernel
theorem pd_22 : parseMethodDescriptor "([BI)B" = some ⟨[(.array .byte), .int], some .byte⟩ := by decide +kernel
theorem d3_48 : decode jdk_42_method_149_code 48 = .ok (.putfield 15, 3) := by decide +kernel
theorem d3_51 : decode jdk_42_method_149_code 51 = .ok (.aload_n 0, 1) := by decide +kernel
theorem d3_52 : decode jdk_42_method_149_code 52 = .ok (.aload 5, 2) := by decide +kernel
theorem d3_54 : decode jdk_42_method_149_code 54 = .ok (.putfield 9, 3) := by decide +kernel
theorem d3_57 : decode jdk_42_method_149_code 57 = .ok (.return_, 1) := by decide +kernel
def Q_rm4k1 (Z : State) (a1 : Addr) (c0 : Int32) (h0 : Heap) (n0 : Nat) (v : Option Value) (h : Heap) (Sf : Addr → Prop) : Prop := v = none ∧ Keep h0 h [a1] ∧ ∃ (b : Addr) (kb : ClassId), h0.size ≤ b ∧ FSv Z h a1 (.ref b) ∧ FSc Z h a1 Z0 ∧ Arl Z h b kb .byte [(.int (nar .byte (c0.toInt8.toInt32)))]
theorem ef_rm4k1 (m : MethodId) (a1 : Addr) (a2 : Addr)  : entryFrame m #[(.ref a1), (.ref a2), Z0, (.int (1 : Int32)), .null] 6 = mkF m 0 #[.val (.ref a1), .val (.ref a2), .val Z0, .val (.int (1 : Int32)), .val .null, .unset] [] := by simp [entryFrame, mkF, argsToLocals, Value.category]
theorem pn_3 : plainFor (⟨"java/lang/String", "<init>", "([CIILjava/lang/Void;)V"⟩ : MethodName) = true := plainFor_of_name (show plainName "java/lang/String" = true by first | (simp [plainName, overriddenIn]; done) | decide +kernel)
theorem rm4k1 (l : Launch) (Z : State) (a0 : Array Value) (hw : HW a0 Z) (ws : List Jvm.Cond) (a1 : Addr) (a2 : Addr) (ka : ClassId) (zc : Int32) (c0 : Int32) (h0 : Heap) (n0 : Nat) (hn : n0 ≤ h0.size) (X_a1 : XSt Z h0 a1) (g_a1 : n0 ≤ a1) (F_value_a1 : FSv Z h0 a1 .null) (F_coder_a1 : FSc Z h0 a1 Z0) (V_a2 : Arl Z h0 a2 ka .char [(.int c0)]) (ne_a2_a1 : a2 ≠ a1) (S_C : Sta Z h0 "java/lang/String" "COMPACT_STRINGS" "Z" (.int zc)) (hz : ¬ zc = 0) (hc0 : ¬ (255 : Int32) < c0) :
    Met own_EL l Z (⟨"java/lang/String", "<init>", "([CIILjava/lang/Void;)V"⟩ : MethodName) jdk_42_method_149_code 6 none ({ frames := 2, cells := 1, slots := 1, locals := 35 } : Room) ws #[(.ref a1), (.ref a2), Z0, (.int (1 : Int32)), .null] h0 n0 [a1] (Q_rm4k1 Z a1 c0 h0 n0) := by
  refine Met.of pn_3 (fun m => ef_rm4k1 m a1 a2) ?_
  have K := Keep.refl h0 [a1]
  refine Own.aloadN d3_0 rfl rfl ?_
  refine Own.initO_ (hw _ (mg 16 rfl)) (hw _ (mg 17 rfl)) (hw _ (mg 18 rfl)) d3_1 rfl (by decide) 0 rfl (by decide) ?_
  refine Own.iloadN d3_4 rfl ?_
  refine Own.if_ne 27 d3_5 (by decide) rfl (fun _ => ?_) (fun q => absurd q (by decide))
  refine Own.getS_ (host := "") (Or.inl (hw _ (mg 19 rfl))) Via.refl S_C d3_27 ?_
  refine Own.if_eq 58 d3_30 (by decide) rfl (fun q => absurd q hz) (fun _ => ?_)
  refine Own.aloadN d3_33 rfl rfl ?_
  refine Own.iloadN d3_34 rfl ?_
  refine Own.iloadN d3_35 rfl ?_
  refine Own.callS_ [(.ref a2), Z0, (.int (1 : Int32))] [] 0 (rm3k1 l Z a0 hw [] a2 ka c0 h0 n0 hn V_a2 hc0) all0 (hw _ (mg 20 rfl)) (hw _ (mg 21 rfl)) (hw _ (mg 22 rfl)) (hw _ (mg 23 rfl)) (by decide) d3_36 pd_27 rfl rfl rfl rfl (by decide) (by decide) (by decide) (by decide) (fun v5 h5 S5 hq5 => ?_)
  obtain ⟨b6, k6, rfl, z6, K6, V6⟩ := hq5
  have ne_a1_b6 : a1 ≠ b6 := Nat.ne_of_lt (Nat.lt_of_lt_of_le X_a1.lt z6)
  have ne_b6_a1 := Ne.symm ne_a1_b6
  have sz_b6 : h0.size ≤ b6 := Nat.le_trans K.1 z6
  have hn := Nat.le_trans hn K6.1
  replace X_a1 := X_a1.keep K6
  replace F_value_a1 := F_value_a1.keep K6 nin0
  replace F_coder_a1 := F_coder_a1.keep K6 nin0
  have K := K.trans K6 all0
  refine ⟨[], all0, ?_⟩
  refine OAt.cast (st' := [(.ref b6)]) rfl ?_
  refine Own.astore #[.val (.ref a1), .val (.ref a2), .val Z0, .val (.int (1 : Int32)), .val .null, .val (.ref b6)] d3_39 rfl rfl ?_
  refine Own.aloadN d3_41 rfl rfl ?_
  refine Own.aload d3_42 rfl rfl ?_
  refine Own.iloadN d3_44 rfl ?_
  refine Own.callSP [(.ref b6), (.int (1 : Int32))] [(.ref a1)] 1 (rmlk1 l Z a0 hw [] b6 k6 _ h5 n0 hn V6 rfl) (hw _ (mg 28 rfl)) (hw _ (mg 29 rfl)) (hw _ (mg 22 rfl)) (hw _ (mg 30 rfl)) (by decide) d3_45 pd_22 rfl rfl rfl rfl (by decide) (by decide) (by decide) (by decide) ?_
  refine Own.putFN_ (hw _ (mg 31 rfl)) Via.refl F_coder_a1 X_a1 (Or.inr ⟨(hw _ (mg 32 rfl)), rfl, rfl⟩) (hw _ (mg 6 rfl)) (ty := .byte) (v' := (.int (nar .byte (0 : Int32)))) (by decide) rfl (fits_nar_byte _) g_a1 (mg 0 rfl) d3_48 (fun h7 W8 => ?_)
  replace F_coder_a1 := F_coder_a1.same W8
  replace X_a1 := X_a1.wr W8
  replace F_value_a1 := F_value_a1.other W8 (Or.inr (slot_ne (Or.inr (hw _ (mg 34 rfl))) (Or.inr (hw _ (mg 32 rfl))) (by decide) (t := (.array .byte)) (t' := .byte) (by decide) (by decide)))
  replace V6 := V6.other W8 ne_b6_a1
  rw [show nar .byte (0 : Int32) = 0 from rfl] at F_coder_a1
  have K := K.wr W8 (Or.inl (mg 0 rfl))
  refine Own.aloadN d3_51 rfl rfl ?_
  refine Own.aload d3_52 rfl rfl ?_
  refine Own.putF_ (host := "") (Or.inl (hw _ (mg 33 rfl))) Via.refl F_value_a1 X_a1 (Or.inr ⟨(hw _ (mg 34 rfl)), rfl, rfl⟩) (hw _ (mg 6 rfl)) (ty := (.array .byte)) (by decide) rfl rfl g_a1 (mg 0 rfl) d3_54 (fun h9 W10 => ?_)
  replace F_value_a1 := F_value_a1.same W10
  replace F_coder_a1 := F_coder_a1.other W10 (Or.inr (slot_ne (Or.inr (hw _ (mg 32 rfl))) (Or.inr (hw _ (mg 34 rfl))) (by decide) (t := .byte) (t' := (.array .byte)) (by decide) (by decide)))
  replace V6 := V6.other W10 ne_b6_a1
  have K := K.wr W10 (Or.inl (mg 0 rfl))
  refine Own.ret_void rfl d3_57 (by decide) (by decide) (fun Sf hSf => ?_)
  exact ⟨rfl, K, b6, k6, sz_b6, F_value_a1, F_coder_a1, V6⟩
theorem d2_0 : decode jdk_42_method_3_code 0 = .ok (.aload_n 0, 1) := by decide +kernel
theorem d2_1 : decode jdk_42_method_3_code 1 = .ok (.aload_n 1, 1) := by decide +kernel
theorem d2_2 : decode jdk_42_method_3_code 2 = .ok (.iconst 0, 1) := by decide +kernel
theorem d2_3 : decode jdk_42_method_3_code 3 = .ok (.aload_n 1, 1) := by decide +kernel
theorem d2_4 : decode jdk_42_method_3_code 4 = .ok (.arraylength, 1) := by decide +kernel
theorem d2_5 : decode jdk_42_method_3_code 5 = .ok (.aconst_null, 1) := by decide +kernel
theorem d2_6 : decode jdk_42_method_3_code 6 = .ok (.invokespecial 27, 3) := by decide +kernel
theorem pd_28 : parseMethodDescriptor "([CIILjava/lang/Void;)V" = some ⟨[(.array .char), .int, .int, (.object "java/lang/Void")], none⟩ := by decide +kernel
theorem d2_9 : decode jdk_42_method_3_code 9 = .ok (.return_, 1) := by decide +kernel
def Q_rm1k1 (Z : State) (a1 : Addr) (c0 : Int32) (h0 : Heap) (n0 : Nat) (v : Option Value) (h : Heap) (Sf : Addr → Prop) : Prop := v = none ∧ Keep h0 h [a1] ∧ ∃ (b : Addr) (kb : ClassId), h0.size ≤ b ∧ FSv Z h a1 (.ref b) ∧ FSc Z h a1 Z0 ∧ Arl Z h b kb .byte [(.int (nar .byte (c0.toInt8.toInt32)))]
theorem ef_rm1k1 (m : MethodId) (a1 : Addr) (a2 : Addr)  : entryFrame m #[(.ref a1), (.ref a2)] 2 = mkF m 0 #[.val (.ref a1), .val (.ref a2)] [] := by simp [entryFrame, mkF, argsToLocals, Value.category]
theorem pn_2 : plainFor (⟨"java/lang/String", "<init>", "([C)V"⟩ : MethodName) = true := plainFor_of_name (show plainName "java/lang/String" = true by first | (simp [plainName, overriddenIn]; done) | decide +kernel)
theorem rm1k1 (l : Launch) (Z : State) (a0 : Array Value) (hw : HW a0 Z) (ws : List Jvm.Cond) (a1 : Addr) (a2 : Addr) (ka : ClassId) (zc : Int32) (c0 : Int32) (h0 : Heap) (n0 : Nat) (hn : n0 ≤ h0.size) (X_a1 : XSt Z h0 a1) (g_a1 : n0 ≤ a1) (F_value_a1 : FSv Z h0 a1 .null) (F_coder_a1 : FSc Z h0 a1 Z0) (V_a2 : Arl Z h0 a2 ka .char [(.int c0)]) (ne_a2_a1 : a2 ≠ a1) (S_C : Sta Z h0 "java/lang/String" "COMPACT_STRINGS" "Z" (.int zc)) (hz : ¬ zc = 0) (hc0 : ¬ (255 : Int32) < c0) :
    Met own_EL l Z (⟨"java/lang/String", "<init>", "([C)V"⟩ : MethodName) jdk_42_method_3_code 2 none ({ frames := 3, cells := 1, slots := 1, locals := 52 } : Room) ws #[(.ref a1), (.ref a2)] h0 n0 [a1] (Q_rm1k1 Z a1 c0 h0 n0) := by
  refine Met.of pn_2 (fun m => ef_rm1k1 m a1 a2) ?_
  have K := Keep.refl h0 [a1]
  refine Own.aloadN d2_0 rfl rfl ?_
  refine Own.aloadN d2_1 rfl rfl ?_
  refine Own.iconst (0 : Int32) d2_2 rfl ?_
  refine Own.aloadN d2_3 rfl rfl ?_
  refine Own.arraylength_ (1 : Int32) V_a2 rfl d2_4 ?_
  refine Own.aconstNull d2_5 ?_
  refine Own.callI_ a1 [(.ref a2), Z0, (.int (1 : Int32)), .null] [] 0 (rm4k1 l Z a0 hw [] a1 a2 ka zc c0 h0 n0 hn X_a1 g_a1 F_value_a1 F_coder_a1 V_a2 ne_a2_a1 S_C hz hc0) (allS (mg 0 rfl) all0) (hw _ (mg 12 rfl)) (hw _ (mg 13 rfl)) (hw _ (mg 7 rfl)) (hw _ (mg 15 rfl)) rfl (by decide) d2_6 pd_28 rfl rfl rfl rfl (by decide) (by decide) (by decide) (by decide) (fun v11 h11 S11 hq11 => ?_)
  obtain ⟨rfl, K4, rest4⟩ := hq11
  have K := K.trans K4 (allS (Or.inl (mg 0 rfl)) all0)
  refine ⟨[], all0, ?_⟩
  refine OAt.cast (st' := []) rfl ?_
  refine Own.ret_void rfl d2_9 (by decide) (by decide) (fun Sf hSf => ?_)
  exact ⟨rfl, K, rest4⟩
def Q_rm5k2 (Z : State) (a3 : Addr) (kb : ClassId) (c0 : Int32) (c1 : Int32) (h0 : Heap) (n0 : Nat) (v : Option Value) (h : Heap) (Sf : Addr → Prop) : Prop := v = some (.int (2 : Int32)) ∧ Keep h0 h [a3] ∧ Arl Z h a3 kb .byte [(.int (nar .byte (c0.toInt8.toInt32))), (.int (nar .byte (c1.toInt8.toInt32)))]
theorem ef_rm5k2 (m : MethodId) (a1 : Addr) (a3 : Addr)  : entryFrame m #[(.ref a1), Z0, (.ref a3), Z0, (.int (2 : Int32))] 7 = mkF m 0 #[.val (.ref a1), .val Z0, .val (.ref a3), .val Z0, .val (.int (2 : Int32)), .unset, .unset] [] := by simp [entryFrame, mkF, argsToLocals, Value.category]
theorem rm5k2 (l : Launch) (Z : State) (a0 : Array Value) (hw : HW a0 Z) (ws : List Jvm.Cond) (a1 : Addr) (ka : ClassId) (a3 : Addr) (kb : ClassId) (c0 : Int32) (c1 : Int32) (h0 : Heap) (n0 : Nat) (hn : n0 ≤ h0.size) (V_a1 : Arl Z h0 a1 ka .char [(.int c0), (.int c1)]) (V_a3 : Arl Z h0 a3 kb .byte [Z0, Z0]) (ne_a1_a3 : a1 ≠ a3) (g_a3 : n0 ≤ a3) (hc0 : ¬ (255 : Int32) < c0) (hc1 : ¬ (255 : Int32) < c1) :
    Met own_EL l Z (⟨"java/lang/StringUTF16", "compress", "([CI[BII)I"⟩ : MethodName) jdk_52_method_21_code 7 (some .int) ({ frames := 0, cells := 0, slots := 0, locals := 0 } : Room) ws #[(.ref a1), Z0, (.ref a3), Z0, (.int (2 : Int32))] h0 n0 [a3] (Q_rm5k2 Z a3 kb c0 c1 h0 n0) := by
  refine Met.of pn_6 (fun m => ef_rm5k2 m a1 a3) ?_
  have K := Keep.refl h0 [a3]
  refine Own.iconst (0 : Int32) d6_0 rfl ?_
  refine Own.istore #[.val (.ref a1), .val Z0, .val (.ref a3), .val Z0, .val (.int (2 : Int32)), .val Z0, .unset] d6_1 rfl ?_
  refine Own.iload d6_3 rfl ?_
  refine Own.iload d6_5 rfl ?_
  refine Own.icmp_ge 44 d6_7 (by decide) rfl (fun q => absurd (by decide) q) (fun _ => ?_)
  refine Own.aloadN d6_10 rfl rfl ?_
  refine Own.iloadN d6_11 rfl ?_
  refine Own.caload_ V_a1 (i := 0) rfl rfl d6_12 ?_
  refine Own.istore #[.val (.ref a1), .val Z0, .val (.ref a3), .val Z0, .val (.int (2 : Int32)), .val Z0, .val (.int c0)] d6_13 rfl ?_
  refine Own.iload d6_15 rfl ?_
  refine Own.sipush (255 : Int32) d6_17 rfl ?_
  refine Own.icmp_le 26 d6_20 (by decide) rfl (fun _ => ?_) (fun q => absurd q hc0)
  refine Own.aloadN d6_26 rfl rfl ?_
  refine Own.iloadN d6_27 rfl ?_
  refine Own.iload d6_28 rfl ?_
  refine Own.i2b d6_30 ?_
  refine Own.bastore_ V_a3 (i := 0) rfl (Nat.le_of_ble_eq_true rfl) g_a3 (mg 0 rfl) d6_31 (fun h12 W12 V12 => ?_)
  replace V_a1 := V_a1.other W12 ne_a1_a3
  clear V_a3
  replace V12 : Arl Z h12 a3 kb .byte [(.int (nar .byte (c0.toInt8.toInt32))), Z0] := V12
  have K := K.wr W12 (Or.inl (mg 0 rfl))
  refine Own.iinc (1 : Int32) #[.val (.ref a1), .val (.int ((0 : Int32) + (1 : Int32))), .val (.ref a3), .val Z0, .val (.int (2 : Int32)), .val Z0, .val (.int c0)] d6_32 rfl rfl rfl ?_
  refine OAt.castL (Ls' := #[.val (.ref a1), .val (.int (1 : Int32)), .val (.ref a3), .val Z0, .val (.int (2 : Int32)), .val Z0, .val (.int c0)]) rfl rfl ?_
  refine Own.iinc (1 : Int32) #[.val (.ref a1), .val (.int (1 : Int32)), .val (.ref a3), .val (.int ((0 : Int32) + (1 : Int32))), .val (.int (2 : Int32)), .val Z0, .val (.int c0)] d6_35 rfl rfl rfl ?_
  refine OAt.castL (Ls' := #[.val (.ref a1), .val (.int (1 : Int32)), .val (.ref a3), .val (.int (1 : Int32)), .val (.int (2 : Int32)), .val Z0, .val (.int c0)]) rfl rfl ?_
  refine Own.iinc (1 : Int32) #[.val (.ref a1), .val (.int (1 : Int32)), .val (.ref a3), .val (.int (1 : Int32)), .val (.int (2 : Int32)), .val (.int ((0 : Int32) + (1 : Int32))), .val (.int c0)] d6_38 rfl rfl rfl ?_
  refine OAt.castL (Ls' := #[.val (.ref a1), .val (.int (1 : Int32)), .val (.ref a3), .val (.int (1 : Int32)), .val (.int (2 : Int32)), .val (.int (1 : Int32)), .val (.int c0)]) rfl rfl ?_
  refine Own.goto_ 3 d6_41 (by decide) rfl ?_
  refine Own.iload d6_3 rfl ?_
  refine Own.iload d6_5 rfl ?_
  refine Own.icmp_ge 44 d6_7 (by decide) rfl (fun q => absurd (by decide) q) (fun _ => ?_)
  refine Own.aloadN d6_10 rfl rfl ?_
  refine Own.iloadN d6_11 rfl ?_
  refine Own.caload_ V_a1 (i := 1) rfl rfl d6_12 ?_
  refine Own.istore #[.val (.ref a1), .val (.int (1 : Int32)), .val (.ref a3), .val (.int (1 : Int32)), .val (.int (2 : Int32)), .val (.int (1 : Int32)), .val (.int c1)] d6_13 rfl ?_
  refine Own.iload d6_15 rfl ?_
  refine Own.sipush (255 : Int32) d6_17 rfl ?_
  refine Own.icmp_le 26 d6_20 (by decide) rfl (fun _ => ?_) (fun q => absurd q hc1)
  refine Own.aloadN d6_26 rfl rfl ?_
  refine Own.iloadN d6_27 rfl ?_
  refine Own.iload d6_28 rfl ?_
  refine Own.i2b d6_30 ?_
  refine Own.bastore_ V12 (i := 1) rfl (Nat.le_of_ble_eq_true rfl) g_a3 (mg 0 rfl) d6_31 (fun h13 W13 V13 => ?_)
  clear V12
  replace V13 : Arl Z h13 a3 kb .byte [(.int (nar .byte (c0.toInt8.toInt32))), (.int (nar .byte (c1.toInt8.toInt32)))] := V13
  have K := K.wr W13 (Or.inl (mg 0 rfl))
  refine Own.iinc (1 : Int32) #[.val (.ref a1), .val (.int ((1 : Int32) + (1 : Int32))), .val (.ref a3), .val (.int (1 : Int32)), .val (.int (2 : Int32)), .val (.int (1 : Int32)), .val (.int c1)] d6_32 rfl rfl rfl ?_
  refine OAt.castL (Ls' := #[.val (.ref a1), .val (.int (2 : Int32)), .val (.ref a3), .val (.int (1 : Int32)), .val (.int (2 : Int32)), .val (.int (1 : Int32)), .val (.int c1)]) rfl rfl ?_
  refine Own.iinc (1 : Int32) #[.val (.ref a1), .val (.int (2 : Int32)), .val (.ref a3), .val (.int ((1 : Int32) + (1 : Int32))), .val (.int (2 : Int32)), .val (.int (1 : Int32)), .val (.int c1)] d6_35 rfl rfl rfl ?_
  refine OAt.castL (Ls' := #[.val (.ref a1), .val (.int (2 : Int32)), .val (.ref a3), .val (.int (2 : Int32)), .val (.int (2 : Int32)), .val (.int (1 : Int32)), .val (.int c1)]) rfl rfl ?_
  refine Own.iinc (1 : Int32) #[.val (.ref a1), .val (.int (2 : Int32)), .val (.ref a3), .val (.int (2 : Int32)), .val (.int (2 : Int32)), .val (.int ((1 : Int32) + (1 : Int32))), .val (.int c1)] d6_38 rfl rfl rfl ?_
  refine OAt.castL (Ls' := #[.val (.ref a1), .val (.int (2 : Int32)), .val (.ref a3), .val (.int (2 : Int32)), .val (.int (2 : Int32)), .val (.int (2 : Int32)), .val (.int c1)]) rfl rfl ?_
  refine Own.goto_ 3 d6_41 (by decide) rfl ?_
  refine Own.iload d6_3 rfl ?_
  refine Own.iload d6_5 rfl ?_
  refine Own.icmp_ge 44 d6_7 (by decide) rfl (fun _ => ?_) (fun q => absurd q (by decide))
  refine Own.iload d6_44 rfl ?_
  refine Own.ret_int rfl d6_46 (by decide) (by decide) (fun Sf hSf => ?_)
  exact ⟨rfl, K, V13⟩
def Q_rm3k2 (Z : State) (c0 : Int32) (c1 : Int32) (h0 : Heap) (n0 : Nat) (v : Option Value) (h : Heap) (Sf : Addr → Prop) : Prop := ∃ (a : Addr) (ka : ClassId), v = some (.ref a) ∧ h0.size ≤ a ∧ Keep h0 h [] ∧ Arl Z h a ka .byte [(.int (nar .byte (c0.toInt8.toInt32))), (.int (nar .byte (c1.toInt8.toInt32)))]
theorem ef_rm3k2 (m : MethodId) (a1 : Addr)  : entryFrame m #[(.ref a1), Z0, (.int (2 : Int32))] 6 = mkF m 0 #[.val (.ref a1), .val Z0, .val (.int (2 : Int32)), .unset, .unset, .unset] [] := by simp [entryFrame, mkF, argsToLocals, Value.category]
theorem rm3k2 (l : Launch) (Z : State) (a0 : Array Value) (hw : HW a0 Z) (ws : List Jvm.Cond) (a1 : Addr) (ka : ClassId) (c0 : Int32) (c1 : Int32) (h0 : Heap) (n0 : Nat) (hn : n0 ≤ h0.size) (V_a1 : Arl Z h0 a1 ka .char [(.int c0), (.int c1)]) (hc0 : ¬ (255 : Int32) < c0) (hc1 : ¬ (255 : Int32) < c1) :
    Met own_EL l Z (⟨"java/lang/StringUTF16", "compress", "([CII)[B"⟩ : MethodName) jdk_52_method_16_code 6 (some (.array .byte)) ({ frames := 1, cells := 1, slots := 2, locals := 18 } : Room) ws #[(.ref a1), Z0, (.int (2 : Int32))] h0 n0 [] (Q_rm3k2 Z c0 c1 h0 n0) := by
  refine Met.of pn_5 (fun m => ef_rm3k2 m a1) ?_
  have K := Keep.refl h0 []
  refine Own.iloadN d5_0 rfl ?_
  refine Own.newarray_ 2 .byte rfl (hw _ (mg 24 rfl)) d5_1 (N := 2) rfl (by decide) (by decide) (by decide) (by decide) rfl (fun h14 b14 k14 gb14 E14 V14 => ?_)
  have g_b14 : n0 ≤ b14 := by rw [gb14]; exact hn
  have ne_a1_b14 : a1 ≠ b14 := fun q => Nat.ne_of_lt V_a1.lt (q.trans gb14)
  have hn := Nat.le_trans hn E14.1
  replace V_a1 := V_a1.ext E14
  replace V14 : Arl Z h14 b14 k14 .byte [Z0, Z0] := V14
  have sz_b14 : h0.size ≤ b14 := by rw [gb14]; exact K.1
  have K := K.ext E14
  refine Own.astoreN #[.val (.ref a1), .val Z0, .val (.int (2 : Int32)), .val (.ref b14), .unset, .unset] d5_3 rfl rfl ?_
  refine Own.aloadN d5_4 rfl rfl ?_
  refine Own.iloadN d5_5 rfl ?_
  refine Own.aloadN d5_6 rfl rfl ?_
  refine Own.iconst (0 : Int32) d5_7 rfl ?_
  refine Own.iloadN d5_8 rfl ?_
  refine Own.callS_ [(.ref a1), Z0, (.ref b14), Z0, (.int (2 : Int32))] [] 0 (rm5k2 l Z a0 hw [] a1 ka b14 k14 c0 c1 h14 n0 hn V_a1 V14 ne_a1_b14 g_b14 hc0 hc1) (allS (mg 0 rfl) all0) (hw _ (mg 25 rfl)) (hw _ (mg 26 rfl)) (hw _ (mg 22 rfl)) (hw _ (mg 27 rfl)) (by decide) d5_9 pd_29 rfl rfl rfl rfl (by decide) (by decide) (by decide) (by decide) (fun v15 h15 S15 hq15 => ?_)
  obtain ⟨rfl, K16, V16⟩ := hq15
  have K := K.trans K16 (allS (Or.inr sz_b14) all0)
  refine ⟨[], all0, ?_⟩
  refine OAt.cast (st' := [(.int (2 : Int32))]) rfl ?_
  refine Own.istore #[.val (.ref a1), .val Z0, .val (.int (2 : Int32)), .val (.ref b14), .val (.int (2 : Int32)), .unset] d5_12 rfl ?_
  refine Own.iload d5_14 rfl ?_
  refine Own.iloadN d5_16 rfl ?_
  refine Own.icmp_eq 57 d5_17 (by decide) rfl (fun _ => ?_) (fun q => absurd (by decide) q)
  refine Own.aloadN d5_57 rfl rfl ?_
  refine Own.ret_ref (t := (.array .byte)) rfl rfl rfl d5_58 (by decide) (by decide) (fun Sf hSf => ?_)
  exact ⟨b14, k14, rfl, sz_b14, K, V16⟩
theorem ef_rmlk2 (m : MethodId) (a1 : Addr)  : entryFrame m #[(.ref a1), (.int (2 : Int32))] 2 = mkF m 0 #[.val (.ref a1), .val (.int (2 : Int32))] [] := by simp [entryFrame, mkF, argsToLocals, Value.category]
theorem rmlk2 (l : Launch) (Z : State) (a0 : Array Value) (hw : HW a0 Z) (ws : List Jvm.Cond) (a1 : Addr) (ka : ClassId) (vs : List Value) (h0 : Heap) (n0 : Nat) (hn : n0 ≤ h0.size) (V_a1 : Arl Z h0 a1 ka .byte vs) (hl : vs.length = 2) :
    Met own_EL l Z (⟨"java/lang/StringUTF16", "coderFromArrayLen", "([BI)B"⟩ : MethodName) jdk_52_method_15_code 2 (some .byte) ({ frames := 0, cells := 0, slots := 0, locals := 0 } : Room) ws #[(.ref a1), (.int (2 : Int32))] h0 n0 [] (Pur Z0 h0) := by
  refine Met.of pn_7 (fun m => ef_rmlk2 m a1) ?_
  refine Own.iloadN d7_0 rfl ?_
  refine Own.aloadN d7_1 rfl rfl ?_
  refine Own.arraylength_ (2 : Int32) V_a1 (by rw [hl]; rfl) d7_2 ?_
  refine Own.isub d7_3 ?_
  refine OAt.cast (st' := [Z0]) rfl ?_
  refine Own.bipush (31 : Int32) d7_4 rfl ?_
  refine Own.iushr d7_6 ?_
  refine OAt.cast (st' := [Z0]) rfl ?_
  refine Own.i2b d7_7 ?_
  refine OAt.cast (st' := [Z0]) rfl ?_
  refine Own.ret_nar (t := .byte) (by simp) rfl d7_8 (by decide) (by decide) (fun Sf hSf => ?_)
  exact ⟨rfl, rfl⟩
def Q_rm4k2 (Z : State) (a1 : Addr) (c0 : Int32) (c1 : Int32) (h0 : Heap) (n0 : Nat) (v : Option Value) (h : Heap) (Sf : Addr → Prop) : Prop := v = none ∧ Keep h0 h [a1] ∧ ∃ (b : Addr) (kb : ClassId), h0.size ≤ b ∧ FSv Z h a1 (.ref b) ∧ FSc Z h a1 Z0 ∧ Arl Z h b kb .byte [(.int (nar .byte (c0.toInt8.toInt32))), (.int (nar .byte (c1.toInt8.toInt32)))]
theorem ef_rm4k2 (m : MethodId) (a1 : Addr) (a2 : Addr)  : entryFrame m #[(.ref a1), (.ref a2), Z0, (.int (2 : Int32)), .null] 6 = mkF m 0 #[.val (.ref a1), .val (.ref a2), .val Z0, .val (.int (2 : Int32)), .val .null, .unset] [] := by simp [entryFrame, mkF, argsToLocals, Value.category]
theorem rm4k2 (l : Launch) (Z : State) (a0 : Array Value) (hw : HW a0 Z) (ws : List Jvm.Cond) (a1 : Addr) (a2 : Addr) (ka : ClassId) (zc : Int32) (c0 : Int32) (c1 : Int32) (h0 : Heap) (n0 : Nat) (hn : n0 ≤ h0.size) (X_a1 : XSt Z h0 a1) (g_a1 : n0 ≤ a1) (F_value_a1 : FSv Z h0 a1 .null) (F_coder_a1 : FSc Z h0 a1 Z0) (V_a2 : Arl Z h0 a2 ka .char [(.int c0), (.int c1)]) (ne_a2_a1 : a2 ≠ a1) (S_C : Sta Z h0 "java/lang/String" "COMPACT_STRINGS" "Z" (.int zc)) (hz : ¬ zc = 0) (hc0 : ¬ (255 : Int32) < c0) (hc1 : ¬ (255 : Int32) < c1) :
    Met own_EL l Z (⟨"java/lang/String", "<init>", "([CIILjava/lang/Void;)V"⟩ : MethodName) jdk_42_method_149_code 6 none ({ frames := 2, cells := 1, slots := 2, locals := 35 } : Room) ws #[(.ref a1), (.ref a2), Z0, (.int (2 : Int32)), .null] h0 n0 [a1] (Q_rm4k2 Z a1 c0 c1 h0 n0) := by
  refine Met.of pn_3 (fun m => ef_rm4k2 m a1 a2) ?_
  have K := Keep.refl h0 [a1]
  refine Own.aloadN d3_0 rfl rfl ?_
  refine Own.initO_ (hw _ (mg 16 rfl)) (hw _ (mg 17 rfl)) (hw _ (mg 18 rfl)) d3_1 rfl (by decide) 0 rfl (by decide) ?_
  refine Own.iloadN d3_4 rfl ?_
  refine Own.if_ne 27 d3_5 (by decide) rfl (fun _ => ?_) (fun q => absurd q (by decide))
  refine Own.getS_ (host := "") (Or.inl (hw _ (mg 19 rfl))) Via.refl S_C d3_27 ?_
  refine Own.if_eq 58 d3_30 (by decide) rfl (fun q => absurd q hz) (fun _ => ?_)
  refine Own.aloadN d3_33 rfl rfl ?_
  refine Own.iloadN d3_34 rfl ?_
  refine Own.iloadN d3_35 rfl ?_
  refine Own.callS_ [(.ref a2), Z0, (.int (2 : Int32))] [] 0 (rm3k2 l Z a0 hw [] a2 ka c0 c1 h0 n0 hn V_a2 hc0 hc1) all0 (hw _ (mg 20 rfl)) (hw _ (mg 21 rfl)) (hw _ (mg 22 rfl)) (hw _ (mg 23 rfl)) (by decide) d3_36 pd_27 rfl rfl rfl rfl (by decide) (by decide) (by decide) (by decide) (fun v17 h17 S17 hq17 => ?_)
  obtain ⟨b18, k18, rfl, z18, K18, V18⟩ := hq17
  have ne_a1_b18 : a1 ≠ b18 := Nat.ne_of_lt (Nat.lt_of_lt_of_le X_a1.lt z18)
  have ne_b18_a1 := Ne.symm ne_a1_b18
  have sz_b18 : h0.size ≤ b18 := Nat.le_trans K.1 z18
  have hn := Nat.le_trans hn K18.1
  replace X_a1 := X_a1.keep K18
  replace F_value_a1 := F_value_a1.keep K18 nin0
  replace F_coder_a1 := F_coder_a1.keep K18 nin0
  have K := K.trans K18 all0
  refine ⟨[], all0, ?_⟩
  refine OAt.cast (st' := [(.ref b18)]) rfl ?_
  refine Own.astore #[.val (.ref a1), .val (.ref a2), .val Z0, .val (.int (2 : Int32)), .val .null, .val (.ref b18)] d3_39 rfl rfl ?_
  refine Own.aloadN d3_41 rfl rfl ?_
  refine Own.aload d3_42 rfl rfl ?_
  refine Own.iloadN d3_44 rfl ?_
  refine Own.callSP [(.ref b18), (.int (2 : Int32))] [(.ref a1)] 1 (rmlk2 l Z a0 hw [] b18 k18 _ h17 n0 hn V18 rfl) (hw _ (mg 28 rfl)) (hw _ (mg 29 rfl)) (hw _ (mg 22 rfl)) (hw _ (mg 30 rfl)) (by decide) d3_45 pd_22 rfl rfl rfl rfl (by decide) (by decide) (by decide) (by decide) ?_
  refine Own.putFN_ (hw _ (mg 31 rfl)) Via.refl F_coder_a1 X_a1 (Or.inr ⟨(hw _ (mg 32 rfl)), rfl, rfl⟩) (hw _ (mg 6 rfl)) (ty := .byte) (v' := (.int (nar .byte (0 : Int32)))) (by decide) rfl (fits_nar_byte _) g_a1 (mg 0 rfl) d3_48 (fun h19 W20 => ?_)
  replace F_coder_a1 := F_coder_a1.same W20
  replace X_a1 := X_a1.wr W20
  replace F_value_a1 := F_value_a1.other W20 (Or.inr (slot_ne (Or.inr (hw _ (mg 34 rfl))) (Or.inr (hw _ (mg 32 rfl))) (by decide) (t := (.array .byte)) (t' := .byte) (by decide) (by decide)))
  replace V18 := V18.other W20 ne_b18_a1
  rw [show nar .byte (0 : Int32) = 0 from rfl] at F_coder_a1
  have K := K.wr W20 (Or.inl (mg 0 rfl))
  refine Own.aloadN d3_51 rfl rfl ?_
  refine Own.aload d3_52 rfl rfl ?_
  refine Own.putF_ (host := "") (Or.inl (hw _ (mg 33 rfl))) Via.refl F_value_a1 X_a1 (Or.inr ⟨(hw _ (mg 34 rfl)), rfl, rfl⟩) (hw _ (mg 6 rfl)) (ty := (.array .byte)) (by decide) rfl rfl g_a1 (mg 0 rfl) d3_54 (fun h21 W22 => ?_)
  replace F_value_a1 := F_value_a1.same W22
  replace F_coder_a1 := F_coder_a1.other W22 (Or.inr (slot_ne (Or.inr (hw _ (mg 32 rfl))) (Or.inr (hw _ (mg 34 rfl))) (by decide) (t := .byte) (t' := (.array .byte)) (by decide) (by decide)))
  replace V18 := V18.other W22 ne_b18_a1
  have K := K.wr W22 (Or.inl (mg 0 rfl))
  refine Own.ret_void rfl d3_57 (by decide) (by decide) (fun Sf hSf => ?_)
  exact ⟨rfl, K, b18, k18, sz_b18, F_value_a1, F_coder_a1, V18⟩
def Q_rm1k2 (Z : State) (a1 : Addr) (c0 : Int32) (c1 : Int32) (h0 : Heap) (n0 : Nat) (v : Option Value) (h : Heap) (Sf : Addr → Prop) : Prop := v = none ∧ Keep h0 h [a1] ∧ ∃ (b : Addr) (kb : ClassId), h0.size ≤ b ∧ FSv Z h a1 (.ref b) ∧ FSc Z h a1 Z0 ∧ Arl Z h b kb .byte [(.int (nar .byte (c0.toInt8.toInt32))), (.int (nar .byte (c1.toInt8.toInt32)))]
theorem ef_rm1k2 (m : MethodId) (a1 : Addr) (a2 : Addr)  : entryFrame m #[(.ref a1), (.ref a2)] 2 = mkF m 0 #[.val (.ref a1), .val (.ref a2)] [] := by simp [entryFrame, mkF, argsToLocals, Value.category]
theorem rm1k2 (l : Launch) (Z : State) (a0 : Array Value) (hw : HW a0 Z) (ws : List Jvm.Cond) (a1 : Addr) (a2 : Addr) (ka : ClassId) (zc : Int32) (c0 : Int32) (c1 : Int32) (h0 : Heap) (n0 : Nat) (hn : n0 ≤ h0.size) (X_a1 : XSt Z h0 a1) (g_a1 : n0 ≤ a1) (F_value_a1 : FSv Z h0 a1 .null) (F_coder_a1 : FSc Z h0 a1 Z0) (V_a2 : Arl Z h0 a2 ka .char [(.int c0), (.int c1)]) (ne_a2_a1 : a2 ≠ a1) (S_C : Sta Z h0 "java/lang/String" "COMPACT_STRINGS" "Z" (.int zc)) (hz : ¬ zc = 0) (hc0 : ¬ (255 : Int32) < c0) (hc1 : ¬ (255 : Int32) < c1) :
    Met own_EL l Z (⟨"java/lang/String", "<init>", "([C)V"⟩ : MethodName) jdk_42_method_3_code 2 none ({ frames := 3, cells := 1, slots := 2, locals := 52 } : Room) ws #[(.ref a1), (.ref a2)] h0 n0 [a1] (Q_rm1k2 Z a1 c0 c1 h0 n0) := by
  refine Met.of pn_2 (fun m => ef_rm1k2 m a1 a2) ?_
  have K := Keep.refl h0 [a1]
  refine Own.aloadN d2_0 rfl rfl ?_
  refine Own.aloadN d2_1 rfl rfl ?_
  refine Own.iconst (0 : Int32) d2_2 rfl ?_
  refine Own.aloadN d2_3 rfl rfl ?_
  refine Own.arraylength_ (2 : Int32) V_a2 rfl d2_4 ?_
  refine Own.aconstNull d2_5 ?_
  refine Own.callI_ a1 [(.ref a2), Z0, (.int (2 : Int32)), .null] [] 0 (rm4k2 l Z a0 hw [] a1 a2 ka zc c0 c1 h0 n0 hn X_a1 g_a1 F_value_a1 F_coder_a1 V_a2 ne_a2_a1 S_C hz hc0 hc1) (allS (mg 0 rfl) all0) (hw _ (mg 12 rfl)) (hw _ (mg 13 rfl)) (hw _ (mg 7 rfl)) (hw _ (mg 15 rfl)) rfl (by decide) d2_6 pd_28 rfl rfl rfl rfl (by decide) (by decide) (by decide) (by decide) (fun v23 h23 S23 hq23 => ?_)
  obtain ⟨rfl, K4, rest4⟩ := hq23
  have K := K.trans K4 (allS (Or.inl (mg 0 rfl)) all0)
  refine ⟨[], all0, ?_⟩
  refine OAt.cast (st' := []) rfl ?_
  refine Own.ret_void rfl d2_9 (by decide) (by decide) (fun Sf hSf => ?_)
  exact ⟨rfl, K, rest4⟩
theorem d3_8 : decode jdk_42_method_149_code 8 = .ok (.aload_n 0, 1) := by decide +kernel
theorem d3_9 : decode jdk_42_method_149_code 9 = .ok (.ldc 7, 2) := by decide +kernel
theorem d3_11 : decode jdk_42_method_149_code 11 = .ok (.getfield 9, 3) := by decide +kernel
theorem d3_14 : decode jdk_42_method_149_code 14 = .ok (.putfield 9, 3) := by decide +kernel
theorem d3_17 : decode jdk_42_method_149_code 17 = .ok (.aload_n 0, 1) := by decide +kernel
theorem d3_18 : decode jdk_42_method_149_code 18 = .ok (.ldc 7, 2) := by decide +kernel
theorem d3_20 : decode jdk_42_method_149_code 20 = .ok (.getfield 15, 3) := by decide +kernel
theorem d3_23 : decode jdk_42_method_149_code 23 = .ok (.putfield 15, 3) := by decide +kernel
theorem d3_26 : decode jdk_42_method_149_code 26 = .ok (.return_, 1) := by decide +kernel
def Q_rm4k0 (Z : State) (a1 : Addr) (h0 : Heap) (n0 : Nat) (v : Option Value) (h : Heap) (Sf : Addr → Prop) : Prop := v = none ∧ Keep h0 h [a1] ∧ ∃ (b : Addr) (kb : ClassId), FSv Z h a1 (.ref b) ∧ FSc Z h a1 Z0 ∧ Arl Z h b kb .byte []
theorem ef_rm4k0 (m : MethodId) (a1 : Addr) (a2 : Addr)  : entryFrame m #[(.ref a1), (.ref a2), Z0, Z0, .null] 6 = mkF m 0 #[.val (.ref a1), .val (.ref a2), .val Z0, .val Z0, .val .null, .unset] [] := by simp [entryFrame, mkF, argsToLocals, Value.category]
theorem rm4k0 (l : Launch) (Z : State) (a0 : Array Value) (hw : HW a0 Z) (ws : List Jvm.Cond) (a1 : Addr) (a2 : Addr) (ka : ClassId) (h0 : Heap) (n0 : Nat) (hn : n0 ≤ h0.size) (X_a1 : XSt Z h0 a1) (g_a1 : n0 ≤ a1) (F_value_a1 : FSv Z h0 a1 .null) (F_coder_a1 : FSc Z h0 a1 Z0) (V_a2 : Arl Z h0 a2 ka .char []) (ne_a2_a1 : a2 ≠ a1) :
    Met own_EL l Z (⟨"java/lang/String", "<init>", "([CIILjava/lang/Void;)V"⟩ : MethodName) jdk_42_method_149_code 6 none ({ frames := 1, cells := 4, slots := 8, locals := 12 } : Room) ws #[(.ref a1), (.ref a2), Z0, Z0, .null] h0 n0 [a1] (Q_rm4k0 Z a1 h0 n0) := by
  refine Met.of pn_3 (fun m => ef_rm4k0 m a1 a2) ?_
  have K := Keep.refl h0 [a1]
  refine Own.aloadN d3_0 rfl rfl ?_
  refine Own.initO_ (hw _ (mg 16 rfl)) (hw _ (mg 17 rfl)) (hw _ (mg 18 rfl)) d3_1 rfl (by decide) 0 rfl (by decide) ?_
  refine Own.iloadN d3_4 rfl ?_
  refine Own.if_ne 27 d3_5 (by decide) rfl (fun q => absurd (by decide) q) (fun _ => ?_)
  refine Own.aloadN d3_8 rfl rfl ?_
  refine Own.ldcC_ (vs := []) (z := (0 : Int32)) 0 (hw _ (mg 35 rfl)) (own_wS hw) (mg 1 rfl) (own_EW hw) ⟨by decide, by decide⟩ rfl d3_9 (by decide) (by decide) (by decide) (by decide) (fun h24 b24 t24 kt24 E24 X_b24 F_coder_b24 F_value_b24 V_t24 hne24 => ?_)
  replace X_a1 := X_a1.ext E24
  replace F_value_a1 := F_value_a1.ext E24
  replace F_coder_a1 := F_coder_a1.ext E24
  have ne_a1_t24 := (hne24 a1 (mg 0 rfl)).2
  have ne_t24_a1 := Ne.symm ne_a1_t24
  have K := K.ext E24
  refine Own.getF_ (host := "") (Or.inl (hw _ (mg 33 rfl))) Via.refl F_value_b24 d3_11 ?_
  refine Own.putF_ (host := "") (Or.inl (hw _ (mg 33 rfl))) Via.refl F_value_a1 X_a1 (Or.inr ⟨(hw _ (mg 34 rfl)), rfl, rfl⟩) (hw _ (mg 6 rfl)) (ty := (.array .byte)) (by decide) rfl rfl g_a1 (mg 0 rfl) d3_14 (fun h25 W26 => ?_)
  replace F_value_a1 := F_value_a1.same W26
  replace X_a1 := X_a1.wr W26
  replace F_coder_a1 := F_coder_a1.other W26 (Or.inr (slot_ne (Or.inr (hw _ (mg 32 rfl))) (Or.inr (hw _ (mg 34 rfl))) (by decide) (t := .byte) (t' := (.array .byte)) (by decide) (by decide)))
  replace V_t24 := V_t24.other W26 ne_t24_a1
  have K := K.wr W26 (Or.inl (mg 0 rfl))
  refine Own.aloadN d3_17 rfl rfl ?_
  refine Own.ldcC_ (vs := []) (z := (0 : Int32)) 0 (hw _ (mg 35 rfl)) (own_wS hw) (mg 1 rfl) (own_EW hw) ⟨by decide, by decide⟩ rfl d3_18 (by decide) (by decide) (by decide) (by decide) (fun h27 b27 t27 kt27 E27 X_b27 F_coder_b27 F_value_b27 V_t27 hne27 => ?_)
  replace X_a1 := X_a1.ext E27
  replace F_value_a1 := F_value_a1.ext E27
  replace F_coder_a1 := F_coder_a1.ext E27
  replace V_t24 := V_t24.ext E27
  have K := K.ext E27
  refine Own.getF_ (host := "") (Or.inl (hw _ (mg 31 rfl))) Via.refl F_coder_b27 d3_20 ?_
  refine Own.putFN_ (hw _ (mg 31 rfl)) Via.refl F_coder_a1 X_a1 (Or.inr ⟨(hw _ (mg 32 rfl)), rfl, rfl⟩) (hw _ (mg 6 rfl)) (ty := .byte) (v' := (.int (nar .byte (0 : Int32)))) (by decide) rfl (fits_nar_byte _) g_a1 (mg 0 rfl) d3_23 (fun h28 W29 => ?_)
  replace F_coder_a1 := F_coder_a1.same W29
  replace F_value_a1 := F_value_a1.other W29 (Or.inr (slot_ne (Or.inr (hw _ (mg 34 rfl))) (Or.inr (hw _ (mg 32 rfl))) (by decide) (t := (.array .byte)) (t' := .byte) (by decide) (by decide)))
  replace V_t24 := V_t24.other W29 ne_t24_a1
  rw [show nar .byte (0 : Int32) = 0 from rfl] at F_coder_a1
  have K := K.wr W29 (Or.inl (mg 0 rfl))
  refine Own.ret_void rfl d3_26 (by decide) (by decide) (fun Sf hSf => ?_)
  exact ⟨rfl, K, t24, kt24, F_value_a1, F_coder_a1, V_t24⟩
def Q_rm1k0 (Z : State) (a1 : Addr) (h0 : Heap) (n0 : Nat) (v : Option Value) (h : Heap) (Sf : Addr → Prop) : Prop := v = none ∧ Keep h0 h [a1] ∧ ∃ (b : Addr) (kb : ClassId), FSv Z h a1 (.ref b) ∧ FSc Z h a1 Z0 ∧ Arl Z h b kb .byte []
theorem ef_rm1k0 (m : MethodId) (a1 : Addr) (a2 : Addr)  : entryFrame m #[(.ref a1), (.ref a2)] 2 = mkF m 0 #[.val (.ref a1), .val (.ref a2)] [] := by simp [entryFrame, mkF, argsToLocals, Value.category]
theorem rm1k0 (l : Launch) (Z : State) (a0 : Array Value) (hw : HW a0 Z) (ws : List Jvm.Cond) (a1 : Addr) (a2 : Addr) (ka : ClassId) (h0 : Heap) (n0 : Nat) (hn : n0 ≤ h0.size) (X_a1 : XSt Z h0 a1) (g_a1 : n0 ≤ a1) (F_value_a1 : FSv Z h0 a1 .null) (F_coder_a1 : FSc Z h0 a1 Z0) (V_a2 : Arl Z h0 a2 ka .char []) (ne_a2_a1 : a2 ≠ a1) :
    Met own_EL l Z (⟨"java/lang/String", "<init>", "([C)V"⟩ : MethodName) jdk_42_method_3_code 2 none ({ frames := 2, cells := 4, slots := 8, locals := 29 } : Room) ws #[(.ref a1), (.ref a2)] h0 n0 [a1] (Q_rm1k0 Z a1 h0 n0) := by
  refine Met.of pn_2 (fun m => ef_rm1k0 m a1 a2) ?_
  have K := Keep.refl h0 [a1]
  refine Own.aloadN d2_0 rfl rfl ?_
  refine Own.aloadN d2_1 rfl rfl ?_
  refine Own.iconst (0 : Int32) d2_2 rfl ?_
  refine Own.aloadN d2_3 rfl rfl ?_
  refine Own.arraylength_ (0 : Int32) V_a2 rfl d2_4 ?_
  refine Own.aconstNull d2_5 ?_
  refine Own.callI_ a1 [(.ref a2), Z0, Z0, .null] [] 0 (rm4k0 l Z a0 hw [] a1 a2 ka h0 n0 hn X_a1 g_a1 F_value_a1 F_coder_a1 V_a2 ne_a2_a1) (allS (mg 0 rfl) all0) (hw _ (mg 12 rfl)) (hw _ (mg 13 rfl)) (hw _ (mg 7 rfl)) (hw _ (mg 15 rfl)) rfl (by decide) d2_6 pd_28 rfl rfl rfl rfl (by decide) (by decide) (by decide) (by decide) (fun v30 h30 S30 hq30 => ?_)
  obtain ⟨rfl, K4, rest4⟩ := hq30
  have K := K.trans K4 (allS (Or.inl (mg 0 rfl)) all0)
  refine ⟨[], all0, ?_⟩
  refine OAt.cast (st' := []) rfl ?_
  refine Own.ret_void rfl d2_9 (by decide) (by decide) (fun Sf hSf => ?_)
  exact ⟨rfl, K, rest4⟩
theorem d1_0 : decode method_3_code 0 = .ok (.iload_n 0, 1) := by decide +kernel
theorem d1_1 : decode method_3_code 1 = .ok (.ifCond .ne 14, 3) := by decide +kernel
theorem d1_4 : decode method_3_code 4 = .ok (.new 21, 3) := by decide +kernel
theorem d1_7 : decode method_3_code 7 = .ok (.dup, 1) := by decide +kernel
theorem d1_8 : decode method_3_code 8 = .ok (.iconst 0, 1) := by decide +kernel
theorem d1_9 : decode method_3_code 9 = .ok (.newarray .char, 2) := by decide +kernel
theorem d1_11 : decode method_3_code 11 = .ok (.invokespecial 30, 3) := by decide +kernel
theorem pd_26 : parseMethodDescriptor "([C)V" = some ⟨[(.array .char)], none⟩ := by decide +kernel
theorem d1_14 : decode method_3_code 14 = .ok (.areturn, 1) := by decide +kernel
def Q_rmMk0 (Z : State) (x : Int32) (y : Int32) (h0 : Heap) (n0 : Nat) (v : Option Value) (h : Heap) (Sf : Addr → Prop) : Prop := Keep h0 h [] ∧ ∃ (a b : Addr) (kb : ClassId), v = some (.ref a) ∧ XSt Z h a ∧ FSv Z h a (.ref b) ∧ FSc Z h a Z0 ∧ Arl Z h b kb .byte []
theorem ef_rmMk0 (m : MethodId) (x : Int32) (y : Int32)  : entryFrame m #[Z0, (.int x), (.int y)] 3 = mkF m 0 #[.val Z0, .val (.int x), .val (.int y)] [] := by simp [entryFrame, mkF, argsToLocals, Value.category]
theorem pn_1 : plainFor (⟨"com/example/hits_by_heading/hitsbyheading/document/DocumentSectionLocationPinLaw", "make", "(ICC)Ljava/lang/String;"⟩ : MethodName) = true := plainFor_of_name (show plainName "com/example/hits_by_heading/hitsbyheading/document/DocumentSectionLocationPinLaw" = true by first | (simp [plainName, overriddenIn]; done) | decide +kernel)
theorem rmMk0 (l : Launch) (Z : State) (a0 : Array Value) (hw : HW a0 Z) (ws : List Jvm.Cond) (x : Int32) (y : Int32) (zc : Int32) (h0 : Heap) (n0 : Nat) (hn : n0 ≤ h0.size) (S_C : Sta Z h0 "java/lang/String" "COMPACT_STRINGS" "Z" (.int zc)) (hz : ¬ zc = 0) (hx : ¬ (255 : Int32) < nar .char x) (hy : ¬ (255 : Int32) < nar .char y) :
    Met own_EL l Z (⟨"com/example/hits_by_heading/hitsbyheading/document/DocumentSectionLocationPinLaw", "make", "(ICC)Ljava/lang/String;"⟩ : MethodName) method_3_code 3 (some (.object "java/lang/String")) ({ frames := 3, cells := 8, slots := 20, locals := 43 } : Room) ws #[Z0, (.int x), (.int y)] h0 n0 [] (Q_rmMk0 Z x y h0 n0) := by
  refine Met.of pn_1 (fun m => ef_rmMk0 m x y) ?_
  have K := Keep.refl h0 []
  refine Own.iloadN d1_0 rfl ?_
  refine Own.if_ne 15 d1_1 (by decide) rfl (fun q => absurd (by decide) q) (fun _ => ?_)
  refine Own.new_ (hw _ (mg 5 rfl)) (hw _ (mg 6 rfl)) (hw _ (mg 7 rfl)) d1_4 (by decide) (by decide) (fun h31 b31 gb31 E31 X31 D31 => ?_)
  have g_b31 : n0 ≤ b31 := by rw [gb31]; exact hn
  have hn := Nat.le_trans hn E31.1
  have X_b31 := X31
  have F_coder_b31 : FSc Z h31 b31 Z0 := D31 (Or.inr (hw _ (mg 32 rfl))) (ty := .byte) (by decide)
  have F_value_b31 : FSv Z h31 b31 .null := D31 (Or.inr (hw _ (mg 34 rfl))) (ty := (.array .byte)) (by decide)
  have sz_b31 : h0.size ≤ b31 := by rw [gb31]; exact K.1
  have K := K.ext E31
  refine Own.dup d1_7 rfl ?_
  refine Own.iconst (0 : Int32) d1_8 rfl ?_
  refine Own.newarray_ 0 .char rfl (hw _ (mg 8 rfl)) d1_9 (N := 0) rfl (by decide) (by decide) (by decide) (by decide) rfl (fun h32 b32 k32 gb32 E32 V32 => ?_)
  have ne_b31_b32 : b31 ≠ b32 := fun q => Nat.ne_of_lt X_b31.lt (q.trans gb32)
  have ne_b32_b31 := Ne.symm ne_b31_b32
  have hn := Nat.le_trans hn E32.1
  replace X_b31 := X_b31.ext E32
  replace F_coder_b31 := F_coder_b31.ext E32
  replace F_value_b31 := F_value_b31.ext E32
  replace V32 : Arl Z h32 b32 k32 .char [] := V32
  have K := K.ext E32
  refine Own.callI_ b31 [(.ref b32)] [(.ref b31)] 1 (rm1k0 l Z a0 hw [] b31 b32 k32 h32 n0 hn X_b31 g_b31 F_value_b31 F_coder_b31 V32 ne_b32_b31) (allS (mg 1 rfl) all0) (hw _ (mg 9 rfl)) (hw _ (mg 10 rfl)) (hw _ (mg 7 rfl)) (hw _ (mg 11 rfl)) rfl (by decide) d1_11 pd_26 rfl rfl rfl rfl (by decide) (by decide) (by decide) (by decide) (fun v33 h33 S33 hq33 => ?_)
  obtain ⟨rfl, K34, b34, k34, Fv34, Fc34, V34⟩ := hq33
  replace X_b31 := X_b31.keep K34
  have F_value_b31 := Fv34
  have F_coder_b31 := Fc34
  have K := K.trans K34 (allS (Or.inr sz_b31) all0)
  refine ⟨[], all0, ?_⟩
  refine OAt.cast (st' := [(.ref b31)]) rfl ?_
  refine Own.ret_ref (t := (.object "java/lang/String")) rfl rfl rfl d1_14 (by decide) (by decide) (fun Sf hSf => ?_)
  exact ⟨K, b31, b34, k34, rfl, X_b31, F_value_b31, F_coder_b31, V34⟩
theorem d1_15 : decode method_3_code 15 = .ok (.iload_n 0, 1) := by decide +kernel
theorem d1_16 : decode method_3_code 16 = .ok (.iconst 1, 1) := by decide +kernel
theorem d1_17 : decode method_3_code 17 = .ok (.if_icmp .ne 18, 3) := by decide +kernel
theorem d1_20 : decode method_3_code 20 = .ok (.new 21, 3) := by decide +kernel
theorem d1_23 : decode method_3_code 23 = .ok (.dup, 1) := by decide +kernel
theorem d1_24 : decode method_3_code 24 = .ok (.iconst 1, 1) := by decide +kernel
theorem d1_25 : decode method_3_code 25 = .ok (.newarray .char, 2) := by decide +kernel
theorem d1_27 : decode method_3_code 27 = .ok (.dup, 1) := by decide +kernel
theorem d1_28 : decode method_3_code 28 = .ok (.iconst 0, 1) := by decide +kernel
theorem d1_29 : decode method_3_code 29 = .ok (.iload_n 1, 1) := by decide +kernel
theorem d1_30 : decode method_3_code 30 = .ok (.castore, 1) := by decide +kernel
theorem d1_31 : decode method_3_code 31 = .ok (.invokespecial 30, 3) := by decide +kernel
theorem d1_34 : decode method_3_code 34 = .ok (.areturn, 1) := by decide +kernel
def Q_rmMk1 (Z : State) (x : Int32) (y : Int32) (h0 : Heap) (n0 : Nat) (v : Option Value) (h : Heap) (Sf : Addr → Prop) : Prop := Keep h0 h [] ∧ ∃ (a b : Addr) (kb : ClassId), v = some (.ref a) ∧ XSt Z h a ∧ FSv Z h a (.ref b) ∧ FSc Z h a Z0 ∧ Arl Z h b kb .byte [(.int (nar .byte ((nar .char x).toInt8.toInt32)))]
theorem ef_rmMk1 (m : MethodId) (x : Int32) (y : Int32)  : entryFrame m #[(.int (1 : Int32)), (.int x), (.int y)] 3 = mkF m 0 #[.val (.int (1 : Int32)), .val (.int x), .val (.int y)] [] := by simp [entryFrame, mkF, argsToLocals, Value.category]
theorem rmMk1 (l : Launch) (Z : State) (a0 : Array Value) (hw : HW a0 Z) (ws : List Jvm.Cond) (x : Int32) (y : Int32) (zc : Int32) (h0 : Heap) (n0 : Nat) (hn : n0 ≤ h0.size) (S_C : Sta Z h0 "java/lang/String" "COMPACT_STRINGS" "Z" (.int zc)) (hz : ¬ zc = 0) (hx : ¬ (255 : Int32) < nar .char x) (hy : ¬ (255 : Int32) < nar .char y) :
    Met own_EL l Z (⟨"com/example/hits_by_heading/hitsbyheading/document/DocumentSectionLocationPinLaw", "make", "(ICC)Ljava/lang/String;"⟩ : MethodName) method_3_code 3 (some (.object "java/lang/String")) ({ frames := 4, cells := 8, slots := 20, locals := 66 } : Room) ws #[(.int (1 : Int32)), (.int x), (.int y)] h0 n0 [] (Q_rmMk1 Z x y h0 n0) := by
  refine Met.of pn_1 (fun m => ef_rmMk1 m x y) ?_
  have K := Keep.refl h0 []
  refine Own.iloadN d1_0 rfl ?_
  refine Own.if_ne 15 d1_1 (by decide) rfl (fun _ => ?_) (fun q => absurd q (by decide))
  refine Own.iloadN d1_15 rfl ?_
  refine Own.iconst (1 : Int32) d1_16 rfl ?_
  refine Own.icmp_ne 35 d1_17 (by decide) rfl (fun q => absurd (by decide) q) (fun _ => ?_)
  refine Own.new_ (hw _ (mg 5 rfl)) (hw _ (mg 6 rfl)) (hw _ (mg 7 rfl)) d1_20 (by decide) (by decide) (fun h35 b35 gb35 E35 X35 D35 => ?_)
  have g_b35 : n0 ≤ b35 := by rw [gb35]; exact hn
  have hn := Nat.le_trans hn E35.1
  replace S_C := S_C.ext E35
  have X_b35 := X35
  have F_coder_b35 : FSc Z h35 b35 Z0 := D35 (Or.inr (hw _ (mg 32 rfl))) (ty := .byte) (by decide)
  have F_value_b35 : FSv Z h35 b35 .null := D35 (Or.inr (hw _ (mg 34 rfl))) (ty := (.array .byte)) (by decide)
  have sz_b35 : h0.size ≤ b35 := by rw [gb35]; exact K.1
  have K := K.ext E35
  refine Own.dup d1_23 rfl ?_
  refine Own.iconst (1 : Int32) d1_24 rfl ?_
  refine Own.newarray_ 1 .char rfl (hw _ (mg 8 rfl)) d1_25 (N := 1) rfl (by decide) (by decide) (by decide) (by decide) rfl (fun h36 b36 k36 gb36 E36 V36 => ?_)
  have g_b36 : n0 ≤ b36 := by rw [gb36]; exact hn
  have ne_b35_b36 : b35 ≠ b36 := fun q => Nat.ne_of_lt X_b35.lt (q.trans gb36)
  have ne_b36_b35 := Ne.symm ne_b35_b36
  have hn := Nat.le_trans hn E36.1
  replace S_C := S_C.ext E36
  replace X_b35 := X_b35.ext E36
  replace F_coder_b35 := F_coder_b35.ext E36
  replace F_value_b35 := F_value_b35.ext E36
  replace V36 : Arl Z h36 b36 k36 .char [Z0] := V36
  have sz_b36 : h0.size ≤ b36 := by rw [gb36]; exact K.1
  have K := K.ext E36
  refine Own.dup d1_27 rfl ?_
  refine Own.iconst (0 : Int32) d1_28 rfl ?_
  refine Own.iloadN d1_29 rfl ?_
  refine Own.castore_ V36 (i := 0) rfl (Nat.le_of_ble_eq_true rfl) g_b36 (mg 0 rfl) d1_30 (fun h37 W37 V37 => ?_)
  have hn : n0 ≤ h37.size := by rw [W37.size]; exact hn
  replace S_C := S_C.wr W37
  replace X_b35 := X_b35.wr W37
  replace F_coder_b35 := F_coder_b35.other W37 (Or.inl ne_b35_b36)
  replace F_value_b35 := F_value_b35.other W37 (Or.inl ne_b35_b36)
  clear V36
  replace V37 : Arl Z h37 b36 k36 .char [(.int (nar .char x))] := V37
  have K := K.wr W37 (Or.inr sz_b36)
  refine Own.callI_ b35 [(.ref b36)] [(.ref b35)] 1 (rm1k1 l Z a0 hw [] b35 b36 k36 zc (nar .char x) h37 n0 hn X_b35 g_b35 F_value_b35 F_coder_b35 V37 ne_b36_b35 S_C hz hx) (allS (mg 1 rfl) all0) (hw _ (mg 9 rfl)) (hw _ (mg 10 rfl)) (hw _ (mg 7 rfl)) (hw _ (mg 11 rfl)) rfl (by decide) d1_31 pd_26 rfl rfl rfl rfl (by decide) (by decide) (by decide) (by decide) (fun v38 h38 S38 hq38 => ?_)
  obtain ⟨rfl, K39, b39, k39, z39, Fv39, Fc39, V39⟩ := hq38
  replace X_b35 := X_b35.keep K39
  have F_value_b35 := Fv39
  have F_coder_b35 := Fc39
  have K := K.trans K39 (allS (Or.inr sz_b35) all0)
  refine ⟨[], all0, ?_⟩
  refine OAt.cast (st' := [(.ref b35)]) rfl ?_
  refine Own.ret_ref (t := (.object "java/lang/String")) rfl rfl rfl d1_34 (by decide) (by decide) (fun Sf hSf => ?_)
  exact ⟨K, b35, b39, k39, rfl, X_b35, F_value_b35, F_coder_b35, V39⟩
theorem d1_35 : decode method_3_code 35 = .ok (.new 21, 3) := by decide +kernel
theorem d1_38 : decode method_3_code 38 = .ok (.dup, 1) := by decide +kernel
theorem d1_39 : decode method_3_code 39 = .ok (.iconst 2, 1) := by decide +kernel
theorem d1_40 : decode method_3_code 40 = .ok (.newarray .char, 2) := by decide +kernel
theorem d1_42 : decode method_3_code 42 = .ok (.dup, 1) := by decide +kernel
theorem d1_43 : decode method_3_code 43 = .ok (.iconst 0, 1) := by decide +kernel
theorem d1_44 : decode method_3_code 44 = .ok (.iload_n 1, 1) := by decide +kernel
theorem d1_45 : decode method_3_code 45 = .ok (.castore, 1) := by decide +kernel
theorem d1_46 : decode method_3_code 46 = .ok (.dup, 1) := by decide +kernel
theorem d1_47 : decode method_3_code 47 = .ok (.iconst 1, 1) := by decide +kernel
theorem d1_48 : decode method_3_code 48 = .ok (.iload_n 2, 1) := by decide +kernel
theorem d1_49 : decode method_3_code 49 = .ok (.castore, 1) := by decide +kernel
theorem d1_50 : decode method_3_code 50 = .ok (.invokespecial 30, 3) := by decide +kernel
theorem d1_53 : decode method_3_code 53 = .ok (.areturn, 1) := by decide +kernel
def Q_rmMk2 (Z : State) (x : Int32) (y : Int32) (h0 : Heap) (n0 : Nat) (v : Option Value) (h : Heap) (Sf : Addr → Prop) : Prop := Keep h0 h [] ∧ ∃ (a b : Addr) (kb : ClassId), v = some (.ref a) ∧ XSt Z h a ∧ FSv Z h a (.ref b) ∧ FSc Z h a Z0 ∧ Arl Z h b kb .byte [(.int (nar .byte ((nar .char x).toInt8.toInt32))), (.int (nar .byte ((nar .char y).toInt8.toInt32)))]
theorem ef_rmMk2 (m : MethodId) (x : Int32) (y : Int32)  : entryFrame m #[(.int (2 : Int32)), (.int x), (.int y)] 3 = mkF m 0 #[.val (.int (2 : Int32)), .val (.int x), .val (.int y)] [] := by simp [entryFrame, mkF, argsToLocals, Value.category]
theorem rmMk2 (l : Launch) (Z : State) (a0 : Array Value) (hw : HW a0 Z) (ws : List Jvm.Cond) (x : Int32) (y : Int32) (zc : Int32) (h0 : Heap) (n0 : Nat) (hn : n0 ≤ h0.size) (S_C : Sta Z h0 "java/lang/String" "COMPACT_STRINGS" "Z" (.int zc)) (hz : ¬ zc = 0) (hx : ¬ (255 : Int32) < nar .char x) (hy : ¬ (255 : Int32) < nar .char y) :
    Met own_EL l Z (⟨"com/example/hits_by_heading/hitsbyheading/document/DocumentSectionLocationPinLaw", "make", "(ICC)Ljava/lang/String;"⟩ : MethodName) method_3_code 3 (some (.object "java/lang/String")) ({ frames := 4, cells := 8, slots := 20, locals := 66 } : Room) ws #[(.int (2 : Int32)), (.int x), (.int y)] h0 n0 [] (Q_rmMk2 Z x y h0 n0) := by
  refine Met.of pn_1 (fun m => ef_rmMk2 m x y) ?_
  have K := Keep.refl h0 []
  refine Own.iloadN d1_0 rfl ?_
  refine Own.if_ne 15 d1_1 (by decide) rfl (fun _ => ?_) (fun q => absurd q (by decide))
  refine Own.iloadN d1_15 rfl ?_
  refine Own.iconst (1 : Int32) d1_16 rfl ?_
  refine Own.icmp_ne 35 d1_17 (by decide) rfl (fun _ => ?_) (fun q => absurd q (by decide))
  refine Own.new_ (hw _ (mg 5 rfl)) (hw _ (mg 6 rfl)) (hw _ (mg 7 rfl)) d1_35 (by decide) (by decide) (fun h40 b40 gb40 E40 X40 D40 => ?_)
  have g_b40 : n0 ≤ b40 := by rw [gb40]; exact hn
  have hn := Nat.le_trans hn E40.1
  replace S_C := S_C.ext E40
  have X_b40 := X40
  have F_coder_b40 : FSc Z h40 b40 Z0 := D40 (Or.inr (hw _ (mg 32 rfl))) (ty := .byte) (by decide)
  have F_value_b40 : FSv Z h40 b40 .null := D40 (Or.inr (hw _ (mg 34 rfl))) (ty := (.array .byte)) (by decide)
  have sz_b40 : h0.size ≤ b40 := by rw [gb40]; exact K.1
  have K := K.ext E40
  refine Own.dup d1_38 rfl ?_
  refine Own.iconst (2 : Int32) d1_39 rfl ?_
  refine Own.newarray_ 2 .char rfl (hw _ (mg 8 rfl)) d1_40 (N := 2) rfl (by decide) (by decide) (by decide) (by decide) rfl (fun h41 b41 k41 gb41 E41 V41 => ?_)
  have g_b41 : n0 ≤ b41 := by rw [gb41]; exact hn
  have ne_b40_b41 : b40 ≠ b41 := fun q => Nat.ne_of_lt X_b40.lt (q.trans gb41)
  have ne_b41_b40 := Ne.symm ne_b40_b41
  have hn := Nat.le_trans hn E41.1
  replace S_C := S_C.ext E41
  replace X_b40 := X_b40.ext E41
  replace F_coder_b40 := F_coder_b40.ext E41
  replace F_value_b40 := F_value_b40.ext E41
  replace V41 : Arl Z h41 b41 k41 .char [Z0, Z0] := V41
  have sz_b41 : h0.size ≤ b41 := by rw [gb41]; exact K.1
  have K := K.ext E41
  refine Own.dup d1_42 rfl ?_
  refine Own.iconst (0 : Int32) d1_43 rfl ?_
  refine Own.iloadN d1_44 rfl ?_
  refine Own.castore_ V41 (i := 0) rfl (Nat.le_of_ble_eq_true rfl) g_b41 (mg 0 rfl) d1_45 (fun h42 W42 V42 => ?_)
  have hn : n0 ≤ h42.size := by rw [W42.size]; exact hn
  replace S_C := S_C.wr W42
  replace X_b40 := X_b40.wr W42
  replace F_coder_b40 := F_coder_b40.other W42 (Or.inl ne_b40_b41)
  replace F_value_b40 := F_value_b40.other W42 (Or.inl ne_b40_b41)
  clear V41
  replace V42 : Arl Z h42 b41 k41 .char [(.int (nar .char x)), Z0] := V42
  have K := K.wr W42 (Or.inr sz_b41)
  refine Own.dup d1_46 rfl ?_
  refine Own.iconst (1 : Int32) d1_47 rfl ?_
  refine Own.iloadN d1_48 rfl ?_
  refine Own.castore_ V42 (i := 1) rfl (Nat.le_of_ble_eq_true rfl) g_b41 (mg 0 rfl) d1_49 (fun h43 W43 V43 => ?_)
  have hn : n0 ≤ h43.size := by rw [W43.size]; exact hn
  replace S_C := S_C.wr W43
  replace X_b40 := X_b40.wr W43
  replace F_coder_b40 := F_coder_b40.other W43 (Or.inl ne_b40_b41)
  replace F_value_b40 := F_value_b40.other W43 (Or.inl ne_b40_b41)
  clear V42
  replace V43 : Arl Z h43 b41 k41 .char [(.int (nar .char x)), (.int (nar .char y))] := V43
  have K := K.wr W43 (Or.inr sz_b41)
  refine Own.callI_ b40 [(.ref b41)] [(.ref b40)] 1 (rm1k2 l Z a0 hw [] b40 b41 k41 zc (nar .char x) (nar .char y) h43 n0 hn X_b40 g_b40 F_value_b40 F_coder_b40 V43 ne_b41_b40 S_C hz hx hy) (allS (mg 1 rfl) all0) (hw _ (mg 9 rfl)) (hw _ (mg 10 rfl)) (hw _ (mg 7 rfl)) (hw _ (mg 11 rfl)) rfl (by decide) d1_50 pd_26 rfl rfl rfl rfl (by decide) (by decide) (by decide) (by decide) (fun v44 h44 S44 hq44 => ?_)
  obtain ⟨rfl, K45, b45, k45, z45, Fv45, Fc45, V45⟩ := hq44
  replace X_b40 := X_b40.keep K45
  have F_value_b40 := Fv45
  have F_coder_b40 := Fc45
  have K := K.trans K45 (allS (Or.inr sz_b40) all0)
  refine ⟨[], all0, ?_⟩
  refine OAt.cast (st' := [(.ref b40)]) rfl ?_
  refine Own.ret_ref (t := (.object "java/lang/String")) rfl rfl rfl d1_53 (by decide) (by decide) (fun Sf hSf => ?_)
  exact ⟨K, b40, b45, k45, rfl, X_b40, F_value_b40, F_coder_b40, V45⟩
theorem d20_0 : decode jdk_68_method_2_code 0 = .ok (.aload_n 0, 1) := by decide +kernel
theorem d20_1 : decode jdk_68_method_2_code 1 = .ok (.invokespecial 3, 3) := by decide +kernel
theorem d20_4 : decode jdk_68_method_2_code 4 = .ok (.getstatic 18, 3) := by decide +kernel
theorem d20_7 : decode jdk_68_method_2_code 7 = .ok (.ifCond .eq 18, 3) := by decide +kernel
theorem d20_10 : decode jdk_68_method_2_code 10 = .ok (.aload_n 0, 1) := by decide +kernel
theorem d20_11 : decode jdk_68_method_2_code 11 = .ok (.iload_n 1, 1) := by decide +kernel
theorem d20_12 : decode jdk_68_method_2_code 12 = .ok (.newarray .byte, 2) := by decide +kernel
theorem d20_14 : decode jdk_68_method_2_code 14 = .ok (.putfield 15, 3) := by decide +kernel
theorem d20_17 : decode jdk_68_method_2_code 17 = .ok (.aload_n 0, 1) := by decide +kernel
theorem d20_18 : decode jdk_68_method_2_code 18 = .ok (.iconst 0, 1) := by decide +kernel
theorem d20_19 : decode jdk_68_method_2_code 19 = .ok (.putfield 22, 3) := by decide +kernel
theorem d20_22 : decode jdk_68_method_2_code 22 = .ok (.goto 16, 3) := by decide +kernel
theorem d20_38 : decode jdk_68_method_2_code 38 = .ok (.return_, 1) := by decide +kernel
def Q_rmAI (Z : State) (a1 : Addr) (h0 : Heap) (n0 : Nat) (v : Option Value) (h : Heap) (Sf : Addr → Prop) : Prop := v = none ∧ Keep h0 h [a1] ∧ ∃ (b : Addr) (kb : ClassId), h0.size ≤ b ∧ FAv Z h a1 (.ref b) ∧ FAc Z h a1 Z0 ∧ FAn Z h a1 Z0 ∧ Arl Z h b kb .byte [Z0, Z0, Z0, Z0, Z0, Z0, Z0, Z0, Z0, Z0, Z0, Z0, Z0, Z0, Z0, Z0] ∧ Sf b
theorem ef_rmAI (m : MethodId) (a1 : Addr)  : entryFrame m #[(.ref a1), (.int (16 : Int32))] 2 = mkF m 0 #[.val (.ref a1), .val (.int (16 : Int32))] [] := by simp [entryFrame, mkF, argsToLocals, Value.category]
theorem pn_20 : plainFor (⟨"java/lang/AbstractStringBuilder", "<init>", "(I)V"⟩ : MethodName) = true := plainFor_of_name (show plainName "java/lang/AbstractStringBuilder" = true by first | (simp [plainName, overriddenIn]; done) | decide +kernel)
theorem rmAI (l : Launch) (Z : State) (a0 : Array Value) (hw : HW a0 Z) (ws : List Jvm.Cond) (a1 : Addr) (zc : Int32) (h0 : Heap) (n0 : Nat) (hn : n0 ≤ h0.size) (X_a1 : Exa Z h0 a1 "java/lang/StringBuilder") (g_a1 : n0 ≤ a1) (F_value_a1 : FAv Z h0 a1 .null) (F_coder_a1 : FAc Z h0 a1 Z0) (F_count_a1 : FAn Z h0 a1 Z0) (S_C : Sta Z h0 "java/lang/String" "COMPACT_STRINGS" "Z" (.int zc)) (hz : ¬ zc = 0) :
    Met own_EL l Z (⟨"java/lang/AbstractStringBuilder", "<init>", "(I)V"⟩ : MethodName) jdk_68_method_2_code 2 none ({ frames := 1, cells := 1, slots := 16, locals := 12 } : Room) ws #[(.ref a1), (.int (16 : Int32))] h0 n0 [a1] (Q_rmAI Z a1 h0 n0) := by
  refine Met.of pn_20 (fun m => ef_rmAI m a1) ?_
  have K := Keep.refl h0 [a1]
  refine Own.aloadN d20_0 rfl rfl ?_
  refine Own.initO_ (hw _ (mg 97 rfl)) (hw _ (mg 17 rfl)) (hw _ (mg 18 rfl)) d20_1 rfl (by decide) 0 rfl (by decide) ?_
  refine Own.getS_ (host := "") (Or.inl (hw _ (mg 98 rfl))) Via.refl S_C d20_4 ?_
  refine Own.if_eq 25 d20_7 (by decide) rfl (fun q => absurd q hz) (fun _ => ?_)
  refine Own.aloadN d20_10 rfl rfl ?_
  refine Own.iloadN d20_11 rfl ?_
  refine Own.newarray_ 16 .byte rfl (hw _ (mg 24 rfl)) d20_12 (N := 16) rfl (by decide) (by decide) (by decide) (by decide) rfl (fun h46 b46 k46 gb46 E46 V46 => ?_)
  have ne_a1_b46 : a1 ≠ b46 := fun q => Nat.ne_of_lt X_a1.lt (q.trans gb46)
  have ne_b46_a1 := Ne.symm ne_a1_b46
  replace X_a1 := X_a1.ext E46
  replace F_value_a1 := F_value_a1.ext E46
  replace F_coder_a1 := F_coder_a1.ext E46
  replace F_count_a1 := F_count_a1.ext E46
  replace V46 : Arl Z h46 b46 k46 .byte [Z0, Z0, Z0, Z0, Z0, Z0, Z0, Z0, Z0, Z0, Z0, Z0, Z0, Z0, Z0, Z0] := V46
  have sz_b46 : h0.size ≤ b46 := by rw [gb46]; exact K.1
  have K := K.ext E46
  refine Own.putF_ (host := "") (Or.inl (hw _ (mg 99 rfl))) Via.refl F_value_a1 X_a1 (Or.inl (hw _ (mg 100 rfl))) (hw _ (mg 86 rfl)) (ty := (.array .byte)) (by decide) rfl rfl g_a1 (mg 1 rfl) d20_14 (fun h47 W48 => ?_)
  replace F_value_a1 := F_value_a1.same W48
  replace X_a1 := X_a1.wr W48
  replace F_coder_a1 := F_coder_a1.other W48 (Or.inr (slot_ne (Or.inl (hw _ (mg 102 rfl))) (Or.inl (hw _ (mg 100 rfl))) (by decide) (t := .byte) (t' := (.array .byte)) (by decide) (by decide)))
  replace F_count_a1 := F_count_a1.other W48 (Or.inr (slot_ne (Or.inl (hw _ (mg 115 rfl))) (Or.inl (hw _ (mg 100 rfl))) (by decide) (t := .int) (t' := (.array .byte)) (by decide) (by decide)))
  replace V46 := V46.other W48 ne_b46_a1
  have K := K.wr W48 (Or.inl (mg 0 rfl))
  refine Own.aloadN d20_17 rfl rfl ?_
  refine Own.iconst (0 : Int32) d20_18 rfl ?_
  refine Own.putFN_ (hw _ (mg 101 rfl)) Via.refl F_coder_a1 X_a1 (Or.inl (hw _ (mg 102 rfl))) (hw _ (mg 86 rfl)) (ty := .byte) (v' := (.int (nar .byte (0 : Int32)))) (by decide) rfl (fits_nar_byte _) g_a1 (mg 1 rfl) d20_19 (fun h49 W50 => ?_)
  replace F_coder_a1 := F_coder_a1.same W50
  replace F_value_a1 := F_value_a1.other W50 (Or.inr (slot_ne (Or.inl (hw _ (mg 100 rfl))) (Or.inl (hw _ (mg 102 rfl))) (by decide) (t := (.array .byte)) (t' := .byte) (by decide) (by decide)))
  replace F_count_a1 := F_count_a1.other W50 (Or.inr (slot_ne (Or.inl (hw _ (mg 115 rfl))) (Or.inl (hw _ (mg 102 rfl))) (by decide) (t := .int) (t' := .byte) (by decide) (by decide)))
  replace V46 := V46.other W50 ne_b46_a1
  rw [show nar .byte (0 : Int32) = 0 from rfl] at F_coder_a1
  have K := K.wr W50 (Or.inl (mg 0 rfl))
  refine Own.goto_ 38 d20_22 (by decide) rfl ?_
  refine Own.ret_void rfl d20_38 (by decide) (by decide) (fun Sf hSf => ?_)
  exact ⟨rfl, K, b46, k46, sz_b46, F_value_a1, F_coder_a1, F_count_a1, V46, hSf _ (mg 0 rfl)⟩
theorem d19_0 : decode jdk_67_method_1_code 0 = .ok (.aload_n 0, 1) := by decide +kernel
theorem d19_1 : decode jdk_67_method_1_code 1 = .ok (.bipush 16, 2) := by decide +kernel
theorem d19_3 : decode jdk_67_method_1_code 3 = .ok (.invokespecial 1, 3) := by decide +kernel
theorem pd_7 : parseMethodDescriptor "(I)V" = some ⟨[.int], none⟩ := by decide +kernel
theorem d19_6 : decode jdk_67_method_1_code 6 = .ok (.return_, 1) := by decide +kernel
def Q_rmSBI (Z : State) (a1 : Addr) (h0 : Heap) (n0 : Nat) (v : Option Value) (h : Heap) (Sf : Addr → Prop) : Prop := v = none ∧ Keep h0 h [a1] ∧ ∃ (b : Addr) (kb : ClassId), h0.size ≤ b ∧ FAv Z h a1 (.ref b) ∧ FAc Z h a1 Z0 ∧ FAn Z h a1 Z0 ∧ Arl Z h b kb .byte [Z0, Z0, Z0, Z0, Z0, Z0, Z0, Z0, Z0, Z0, Z0, Z0, Z0, Z0, Z0, Z0] ∧ Sf b
theorem ef_rmSBI (m : MethodId) (a1 : Addr)  : entryFrame m #[(.ref a1)] 1 = mkF m 0 #[.val (.ref a1)] [] := by simp [entryFrame, mkF, argsToLocals, Value.category]
theorem pn_19 : plainFor (⟨"java/lang/StringBuilder", "<init>", "()V"⟩ : MethodName) = true := plainFor_of_name (show plainName "java/lang/StringBuilder" = true by first | (simp [plainName, overriddenIn]; done) | decide +kernel)
theorem rmSBI (l : Launch) (Z : State) (a0 : Array Value) (hw : HW a0 Z) (ws : List Jvm.Cond) (a1 : Addr) (zc : Int32) (h0 : Heap) (n0 : Nat) (hn : n0 ≤ h0.size) (X_a1 : Exa Z h0 a1 "java/lang/StringBuilder") (g_a1 : n0 ≤ a1) (F_value_a1 : FAv Z h0 a1 .null) (F_coder_a1 : FAc Z h0 a1 Z0) (F_count_a1 : FAn Z h0 a1 Z0) (S_C : Sta Z h0 "java/lang/String" "COMPACT_STRINGS" "Z" (.int zc)) (hz : ¬ zc = 0) :
    Met own_EL l Z (⟨"java/lang/StringBuilder", "<init>", "()V"⟩ : MethodName) jdk_67_method_1_code 1 none ({ frames := 2, cells := 1, slots := 16, locals := 25 } : Room) ws #[(.ref a1)] h0 n0 [a1] (Q_rmSBI Z a1 h0 n0) := by
  refine Met.of pn_19 (fun m => ef_rmSBI m a1) ?_
  have K := Keep.refl h0 [a1]
  refine Own.aloadN d19_0 rfl rfl ?_
  refine Own.bipush (16 : Int32) d19_1 rfl ?_
  refine Own.callI_ a1 [(.int (16 : Int32))] [] 0 (rmAI l Z a0 hw [] a1 zc h0 n0 hn X_a1 g_a1 F_value_a1 F_coder_a1 F_count_a1 S_C hz) (allS (mg 0 rfl) all0) (hw _ (mg 91 rfl)) (hw _ (mg 92 rfl)) (hw _ (mg 95 rfl)) (hw _ (mg 96 rfl)) rfl (by decide) d19_3 pd_7 rfl rfl rfl rfl (by decide) (by decide) (by decide) (by decide) (fun v51 h51 S51 hq51 => ?_)
  obtain ⟨rfl, K52, u52, ku52, z52, G1, G2, G3, V52, Y52⟩ := hq51
  have sz_u52 : h0.size ≤ u52 := Nat.le_trans K.1 z52
  have K := K.trans K52 (allS (Or.inl (mg 0 rfl)) all0)
  have F_value_a1 := G1
  have F_coder_a1 := G2
  have F_count_a1 := G3
  refine ⟨[u52], (allS Y52 all0), ?_⟩
  refine OAt.cast (st' := []) rfl ?_
  refine Own.ret_void rfl d19_6 (by decide) (by decide) (fun Sf hSf => ?_)
  exact ⟨rfl, K, u52, ku52, sz_u52, F_value_a1, F_coder_a1, F_count_a1, V52, hSf _ (mg 0 rfl)⟩
theorem ef_rmCO (m : MethodId) (a1 : Addr)  : entryFrame m #[(.ref a1)] 1 = mkF m 0 #[.val (.ref a1)] [] := by simp [entryFrame, mkF, argsToLocals, Value.category]
theorem rmCO (l : Launch) (Z : State) (a0 : Array Value) (hw : HW a0 Z) (ws : List Jvm.Cond) (a1 : Addr) (zc : Int32) (h0 : Heap) (n0 : Nat) (hn : n0 ≤ h0.size) (F_c : FSc Z h0 a1 Z0) (S_C : Sta Z h0 "java/lang/String" "COMPACT_STRINGS" "Z" (.int zc)) (hz : ¬ zc = 0) :
    Met own_EL l Z (⟨"java/lang/String", "coder", "()B"⟩ : MethodName) jdk_42_method_152_code 1 (some .byte) ({ frames := 0, cells := 0, slots := 0, locals := 0 } : Room) ws #[(.ref a1)] h0 n0 [] (Pur Z0 h0) := by
  refine Met.of pn_11 (fun m => ef_rmCO m a1) ?_
  refine Own.getS_ (host := "") (Or.inl (hw _ (mg 19 rfl))) Via.refl S_C d11_0 ?_
  refine Own.if_eq 13 d11_3 (by decide) rfl (fun q => absurd q hz) (fun _ => ?_)
  refine Own.aloadN d11_6 rfl rfl ?_
  refine Own.getF_ (host := "") (Or.inl (hw _ (mg 31 rfl))) Via.refl F_c d11_7 ?_
  refine Own.goto_ 14 d11_10 (by decide) rfl ?_
  refine Own.ret_nar (t := .byte) (by simp) rfl d11_14 (by decide) (by decide) (fun Sf hSf => ?_)
  exact ⟨rfl, rfl⟩
theorem d25_0 : decode jdk_68_method_71_code 0 = .ok (.getstatic 18, 3) := by decide +kernel
theorem d25_3 : decode jdk_68_method_71_code 3 = .ok (.ifCond .eq 18, 3) := by decide +kernel
theorem d25_6 : decode jdk_68_method_71_code 6 = .ok (.aload_n 0, 1) := by decide +kernel
theorem d25_7 : decode jdk_68_method_71_code 7 = .ok (.getfield 22, 3) := by decide +kernel
theorem d25_10 : decode jdk_68_method_71_code 10 = .ok (.aload_n 1, 1) := by decide +kernel
theorem d25_11 : decode jdk_68_method_71_code 11 = .ok (.invokevirtual 40, 3) := by decide +kernel
theorem d25_14 : decode jdk_68_method_71_code 14 = .ok (.if_icmp .eq 7, 3) := by decide +kernel
theorem d25_21 : decode jdk_68_method_71_code 21 = .ok (.return_, 1) := by decide +kernel
theorem ef_rmIF (m : MethodId) (a1 : Addr) (a2 : Addr)  : entryFrame m #[(.ref a1), (.ref a2)] 2 = mkF m 0 #[.val (.ref a1), .val (.ref a2)] [] := by simp [entryFrame, mkF, argsToLocals, Value.category]
theorem pn_25 : plainFor (⟨"java/lang/AbstractStringBuilder", "inflateIfNeededFor", "(Ljava/lang/String;)V"⟩ : MethodName) = true := plainFor_of_name (show plainName "java/lang/AbstractStringBuilder" = true by first | (simp [plainName, overriddenIn]; done) | decide +kernel)
theorem rmIF (l : Launch) (Z : State) (a0 : Array Value) (hw : HW a0 Z) (ws : List Jvm.Cond) (a1 : Addr) (a2 : Addr) (zc : Int32) (h0 : Heap) (n0 : Nat) (hn : n0 ≤ h0.size) (X_a2 : XSt Z h0 a2) (F_coder_a2 : FSc Z h0 a2 Z0) (F_coder_a1 : FAc Z h0 a1 Z0) (S_C : Sta Z h0 "java/lang/String" "COMPACT_STRINGS" "Z" (.int zc)) (hz : ¬ zc = 0) :
    Met own_EL l Z (⟨"java/lang/AbstractStringBuilder", "inflateIfNeededFor", "(Ljava/lang/String;)V"⟩ : MethodName) jdk_68_method_71_code 2 none ({ frames := 1, cells := 0, slots := 0, locals := 13 } : Room) ws #[(.ref a1), (.ref a2)] h0 n0 [] (Pur0 h0) := by
  refine Met.of pn_25 (fun m => ef_rmIF m a1 a2) ?_
  refine Own.getS_ (host := "") (Or.inl (hw _ (mg 98 rfl))) Via.refl S_C d25_0 ?_
  refine Own.if_eq 21 d25_3 (by decide) rfl (fun q => absurd q hz) (fun _ => ?_)
  refine Own.aloadN d25_6 rfl rfl ?_
  refine Own.getF_ (host := "") (Or.inl (hw _ (mg 101 rfl))) Via.refl F_coder_a1 d25_7 ?_
  refine Own.aloadN d25_10 rfl rfl ?_
  refine Own.callVP a2 [] [Z0] 1 (rmCO l Z a0 hw [] a2 zc h0 n0 hn F_coder_a2 S_C hz) (hw _ (mg 131 rfl)) (hw _ (mg 53 rfl)) (fun s hZ => notFace_of_selects (args := #[]) (mvT hZ (hw _ (mg 55 rfl)))) (hw _ (mg 55 rfl)) (hw _ (mg 54 rfl)) (hw _ (mg 7 rfl)) (hw _ (mg 56 rfl)) (by decide) X_a2 d25_11 pd_0 rfl rfl rfl rfl (by decide) (by decide) (by decide) (by decide) ?_
  refine Own.icmp_eq 21 d25_14 (by decide) rfl (fun _ => ?_) (fun q => absurd (by decide) q)
  refine Own.ret_void rfl d25_21 (by decide) (by decide) (fun Sf hSf => ?_)
  exact ⟨rfl, rfl⟩
theorem d26_0 : decode jdk_42_method_147_code 0 = .ok (.aload_n 0, 1) := by decide +kernel
theorem d26_1 : decode jdk_42_method_147_code 1 = .ok (.invokevirtual 335, 3) := by decide +kernel
theorem d26_4 : decode jdk_42_method_147_code 4 = .ok (.iload_n 3, 1) := by decide +kernel
theorem d26_5 : decode jdk_42_method_147_code 5 = .ok (.if_icmp .ne 23, 3) := by decide +kernel
theorem d26_8 : decode jdk_42_method_147_code 8 = .ok (.aload_n 0, 1) := by decide +kernel
theorem d26_9 : decode jdk_42_method_147_code 9 = .ok (.getfield 9, 3) := by decide +kernel
theorem d26_12 : decode jdk_42_method_147_code 12 = .ok (.iconst 0, 1) := by decide +kernel
theorem d26_13 : decode jdk_42_method_147_code 13 = .ok (.aload_n 1, 1) := by decide +kernel
theorem d26_14 : decode jdk_42_method_147_code 14 = .ok (.iload_n 2, 1) := by decide +kernel
theorem d26_15 : decode jdk_42_method_147_code 15 = .ok (.iload_n 3, 1) := by decide +kernel
theorem d26_16 : decode jdk_42_method_147_code 16 = .ok (.ishl, 1) := by decide +kernel
theorem d26_17 : decode jdk_42_method_147_code 17 = .ok (.aload_n 0, 1) := by decide +kernel
theorem d26_18 : decode jdk_42_method_147_code 18 = .ok (.getfield 9, 3) := by decide +kernel
theorem d26_21 : decode jdk_42_method_147_code 21 = .ok (.arraylength, 1) := by decide +kernel
theorem d26_22 : decode jdk_42_method_147_code 22 = .ok (.invokestatic 212, 3) := by decide +kernel
theorem d26_25 : decode jdk_42_method_147_code 25 = .ok (.goto 18, 3) := by decide +kernel
theorem d26_43 : decode jdk_42_method_147_code 43 = .ok (.return_, 1) := by decide +kernel
def Q_rmGB0_0 (Z : State) (b : Addr) (kb : ClassId) (h0 : Heap) (n0 : Nat) (v : Option Value) (h : Heap) (Sf : Addr → Prop) : Prop := v = none ∧ Keep h0 h [b] ∧ Arl Z h b kb .byte [Z0, Z0, Z0, Z0, Z0, Z0, Z0, Z0, Z0, Z0, Z0, Z0, Z0, Z0, Z0, Z0]
theorem ef_rmGB0_0 (m : MethodId) (a2 : Addr) (b : Addr)  : entryFrame m #[(.ref a2), (.ref b), Z0, Z0] 4 = mkF m 0 #[.val (.ref a2), .val (.ref b), .val Z0, .val Z0] [] := by simp [entryFrame, mkF, argsToLocals, Value.category]
theorem pn_26 : plainFor (⟨"java/lang/String", "getBytes", "([BIB)V"⟩ : MethodName) = true := plainFor_of_name (show plainName "java/lang/String" = true by first | (simp [plainName, overriddenIn]; done) | decide +kernel)
theorem rmGB0_0 (l : Launch) (Z : State) (a0 : Array Value) (hw : HW a0 Z) (ws : List Jvm.Cond) (a2 : Addr) (t : Addr) (kt : ClassId) (b : Addr) (kb : ClassId) (zc : Int32) (h0 : Heap) (n0 : Nat) (hn : n0 ≤ h0.size) (X_a2 : XSt Z h0 a2) (F_value_a2 : FSv Z h0 a2 (.ref t)) (F_coder_a2 : FSc Z h0 a2 Z0) (V_t : Arl Z h0 t kt .byte []) (V_b : Arl Z h0 b kb .byte [Z0, Z0, Z0, Z0, Z0, Z0, Z0, Z0, Z0, Z0, Z0, Z0, Z0, Z0, Z0, Z0]) (S_C : Sta Z h0 "java/lang/String" "COMPACT_STRINGS" "Z" (.int zc)) (hz : ¬ zc = 0) (g_b : n0 ≤ b) (ne_a2_b : a2 ≠ b) (ne_t_b : t ≠ b) :
    Met own_EL l Z (⟨"java/lang/String", "getBytes", "([BIB)V"⟩ : MethodName) jdk_42_method_147_code 4 none ({ frames := 1, cells := 0, slots := 0, locals := 51 } : Room) ws #[(.ref a2), (.ref b), Z0, Z0] h0 n0 [b] (Q_rmGB0_0 Z b kb h0 n0) := by
  refine Met.of pn_26 (fun m => ef_rmGB0_0 m a2 b) ?_
  have K := Keep.refl h0 [b]
  refine Own.aloadN d26_0 rfl rfl ?_
  refine Own.callVP a2 [] [] 0 (rmCO l Z a0 hw [] a2 zc h0 n0 hn F_coder_a2 S_C hz) (hw _ (mg 52 rfl)) (hw _ (mg 53 rfl)) (fun s hZ => notFace_of_selects (args := #[]) (mvT hZ (hw _ (mg 55 rfl)))) (hw _ (mg 55 rfl)) (hw _ (mg 54 rfl)) (hw _ (mg 7 rfl)) (hw _ (mg 56 rfl)) (by decide) X_a2 d26_1 pd_0 rfl rfl rfl rfl (by decide) (by decide) (by decide) (by decide) ?_
  refine Own.iloadN d26_4 rfl ?_
  refine Own.icmp_ne 28 d26_5 (by decide) rfl (fun q => absurd (by decide) q) (fun _ => ?_)
  refine Own.aloadN d26_8 rfl rfl ?_
  refine Own.getF_ (host := "") (Or.inl (hw _ (mg 33 rfl))) Via.refl F_value_a2 d26_9 ?_
  refine Own.iconst (0 : Int32) d26_12 rfl ?_
  refine Own.aloadN d26_13 rfl rfl ?_
  refine Own.iloadN d26_14 rfl ?_
  refine Own.iloadN d26_15 rfl ?_
  refine Own.ishl d26_16 ?_
  refine OAt.cast (st' := [Z0, (.ref b), Z0, (.ref t)]) rfl ?_
  refine Own.aloadN d26_17 rfl rfl ?_
  refine Own.getF_ (host := "") (Or.inl (hw _ (mg 33 rfl))) Via.refl F_value_a2 d26_18 ?_
  refine Own.arraylength_ (0 : Int32) V_t rfl d26_21 ?_
  refine Own.arraycopy_ (i := 0) (j := 0) (n := 0) 0 (hw _ (mg 137 rfl)) (hw _ (mg 140 rfl)) (hw _ (mg 138 rfl)) (hw _ (mg 139 rfl)) V_t V_b rfl rfl rfl rfl (Nat.le_of_ble_eq_true rfl) (Nat.le_of_ble_eq_true rfl) g_b (mg 0 rfl) rfl d26_22 (by decide) rfl (by decide) (fun h53 K53 V53 => ?_)
  clear V_b
  replace V53 : Arl Z h53 b kb .byte [Z0, Z0, Z0, Z0, Z0, Z0, Z0, Z0, Z0, Z0, Z0, Z0, Z0, Z0, Z0, Z0] := V53
  have K := K.trans K53 (allS (Or.inl (mg 0 rfl)) all0)
  refine Own.goto_ 43 d26_25 (by decide) rfl ?_
  refine Own.ret_void rfl d26_43 (by decide) (by decide) (fun Sf hSf => ?_)
  exact ⟨rfl, K, V53⟩
theorem d24_0 : decode jdk_68_method_73_code 0 = .ok (.aload_n 0, 1) := by decide +kernel
theorem d24_1 : decode jdk_68_method_73_code 1 = .ok (.aload_n 2, 1) := by decide +kernel
theorem d24_2 : decode jdk_68_method_73_code 2 = .ok (.invokevirtual 397, 3) := by decide +kernel
theorem pd_18 : parseMethodDescriptor "(Ljava/lang/String;)V" = some ⟨[(.object "java/lang/String")], none⟩ := by decide +kernel
theorem d24_5 : decode jdk_68_method_73_code 5 = .ok (.aload_n 2, 1) := by decide +kernel
theorem d24_6 : decode jdk_68_method_73_code 6 = .ok (.aload_n 0, 1) := by decide +kernel
theorem d24_7 : decode jdk_68_method_73_code 7 = .ok (.getfield 15, 3) := by decide +kernel
theorem d24_10 : decode jdk_68_method_73_code 10 = .ok (.iload_n 1, 1) := by decide +kernel
theorem d24_11 : decode jdk_68_method_73_code 11 = .ok (.aload_n 0, 1) := by decide +kernel
theorem d24_12 : decode jdk_68_method_73_code 12 = .ok (.getfield 22, 3) := by decide +kernel
theorem d24_15 : decode jdk_68_method_73_code 15 = .ok (.invokevirtual 399, 3) := by decide +kernel
theorem pd_24 : parseMethodDescriptor "([BIB)V" = some ⟨[(.array .byte), .int, .byte], none⟩ := by decide +kernel
theorem d24_18 : decode jdk_68_method_73_code 18 = .ok (.return_, 1) := by decide +kernel
def Q_rmPS0_0 (Z : State) (b : Addr) (kb : ClassId) (h0 : Heap) (n0 : Nat) (v : Option Value) (h : Heap) (Sf : Addr → Prop) : Prop := v = none ∧ Keep h0 h [b] ∧ Arl Z h b kb .byte [Z0, Z0, Z0, Z0, Z0, Z0, Z0, Z0, Z0, Z0, Z0, Z0, Z0, Z0, Z0, Z0]
theorem ef_rmPS0_0 (m : MethodId) (a1 : Addr) (a2 : Addr)  : entryFrame m #[(.ref a1), Z0, (.ref a2)] 3 = mkF m 0 #[.val (.ref a1), .val Z0, .val (.ref a2)] [] := by simp [entryFrame, mkF, argsToLocals, Value.category]
theorem pn_24 : plainFor (⟨"java/lang/AbstractStringBuilder", "putStringAt", "(ILjava/lang/String;)V"⟩ : MethodName) = true := plainFor_of_name (show plainName "java/lang/AbstractStringBuilder" = true by first | (simp [plainName, overriddenIn]; done) | decide +kernel)
theorem rmPS0_0 (l : Launch) (Z : State) (a0 : Array Value) (hw : HW a0 Z) (ws : List Jvm.Cond) (a1 : Addr) (a2 : Addr) (t : Addr) (kt : ClassId) (b : Addr) (kb : ClassId) (zc : Int32) (h0 : Heap) (n0 : Nat) (hn : n0 ≤ h0.size) (X_a2 : XSt Z h0 a2) (F_value_a2 : FSv Z h0 a2 (.ref t)) (F_coder_a2 : FSc Z h0 a2 Z0) (V_t : Arl Z h0 t kt .byte []) (X_a1 : Exa Z h0 a1 "java/lang/StringBuilder") (F_value_a1 : FAv Z h0 a1 (.ref b)) (F_coder_a1 : FAc Z h0 a1 Z0) (F_count_a1 : FAn Z h0 a1 Z0) (V_b : Arl Z h0 b kb .byte [Z0, Z0, Z0, Z0, Z0, Z0, Z0, Z0, Z0, Z0, Z0, Z0, Z0, Z0, Z0, Z0]) (S_C : Sta Z h0 "java/lang/String" "COMPACT_STRINGS" "Z" (.int zc)) (hz : ¬ zc = 0) (g_a1 : n0 ≤ a1) (g_b : n0 ≤ b) (ne_a1_b : a1 ≠ b) (ne_a2_b : a2 ≠ b) (ne_t_b : t ≠ b) (ne_a2_a1 : a2 ≠ a1) (ne_t_a1 : t ≠ a1) :
    Met own_EL l Z (⟨"java/lang/AbstractStringBuilder", "putStringAt", "(ILjava/lang/String;)V"⟩ : MethodName) jdk_68_method_73_code 3 none ({ frames := 2, cells := 0, slots := 0, locals := 66 } : Room) ws #[(.ref a1), Z0, (.ref a2)] h0 n0 [b] (Q_rmPS0_0 Z b kb h0 n0) := by
  refine Met.of pn_24 (fun m => ef_rmPS0_0 m a1 a2) ?_
  have K := Keep.refl h0 [b]
  refine Own.aloadN d24_0 rfl rfl ?_
  refine Own.aloadN d24_1 rfl rfl ?_
  refine Own.callP0 a1 [(.ref a2)] [] 0 (rmIF l Z a0 hw [] a1 a2 zc h0 n0 hn X_a2 F_coder_a2 F_coder_a1 S_C hz) (hw _ (mg 126 rfl)) (hw _ (mg 127 rfl)) (sel_own (hw _ (mg 129 rfl)) (hw _ (mg 128 rfl)) (hw _ (mg 127 rfl)) (by decide)) (hw _ (mg 128 rfl)) (hw _ (mg 95 rfl)) (hw _ (mg 130 rfl)) (by decide) X_a1 d24_2 pd_18 rfl rfl rfl rfl (by decide) (by decide) (by decide) (by decide) ?_
  refine Own.aloadN d24_5 rfl rfl ?_
  refine Own.aloadN d24_6 rfl rfl ?_
  refine Own.getF_ (host := "") (Or.inl (hw _ (mg 99 rfl))) Via.refl F_value_a1 d24_7 ?_
  refine Own.iloadN d24_10 rfl ?_
  refine Own.aloadN d24_11 rfl rfl ?_
  refine Own.getF_ (host := "") (Or.inl (hw _ (mg 101 rfl))) Via.refl F_coder_a1 d24_12 ?_
  refine Own.callV_ a2 [(.ref b), Z0, Z0] [] 0 (rmGB0_0 l Z a0 hw [] a2 t kt b kb zc  h0 n0 hn X_a2 F_value_a2 F_coder_a2 V_t V_b S_C hz g_b ne_a2_b ne_t_b) (allS (mg 0 rfl) all0) (hw _ (mg 132 rfl)) (hw _ (mg 133 rfl)) (fun s hZ => notFace_of_selects (args := #[]) (mvT hZ (hw _ (mg 135 rfl)))) (hw _ (mg 135 rfl)) (hw _ (mg 134 rfl)) (hw _ (mg 7 rfl)) (hw _ (mg 136 rfl)) (by decide) X_a2 d24_15 pd_24 rfl rfl rfl rfl (by decide) (by decide) (by decide) (by decide) (fun v54 h54 S54 hq54 => ?_)
  obtain ⟨rfl, K55, V55⟩ := hq54
  have K := K.trans K55 (allS (Or.inl (mg 0 rfl)) all0)
  refine ⟨[], all0, ?_⟩
  refine OAt.cast (st' := []) rfl ?_
  refine Own.ret_void rfl d24_18 (by decide) (by decide) (fun Sf hSf => ?_)
  exact ⟨rfl, K, V55⟩
theorem d23_0 : decode jdk_68_method_9_code 0 = .ok (.aload_n 0, 1) := by decide +kernel
theorem d23_1 : decode jdk_68_method_9_code 1 = .ok (.getfield 15, 3) := by decide +kernel
theorem d23_4 : decode jdk_68_method_9_code 4 = .ok (.arraylength, 1) := by decide +kernel
theorem d23_5 : decode jdk_68_method_9_code 5 = .ok (.aload_n 0, 1) := by decide +kernel
theorem d23_6 : decode jdk_68_method_9_code 6 = .ok (.getfield 22, 3) := by decide +kernel
theorem d23_9 : decode jdk_68_method_9_code 9 = .ok (.ishr, 1) := by decide +kernel
theorem d23_10 : decode jdk_68_method_9_code 10 = .ok (.istore_n 2, 1) := by decide +kernel
theorem d23_11 : decode jdk_68_method_9_code 11 = .ok (.iload_n 1, 1) := by decide +kernel
theorem d23_12 : decode jdk_68_method_9_code 12 = .ok (.iload_n 2, 1) := by decide +kernel
theorem d23_13 : decode jdk_68_method_9_code 13 = .ok (.isub, 1) := by decide +kernel
theorem d23_14 : decode jdk_68_method_9_code 14 = .ok (.ifCond .le 24, 3) := by decide +kernel
theorem d23_38 : decode jdk_68_method_9_code 38 = .ok (.return_, 1) := by decide +kernel
theorem ef_rmEC0_0 (m : MethodId) (a1 : Addr)  : entryFrame m #[(.ref a1), Z0] 3 = mkF m 0 #[.val (.ref a1), .val Z0, .unset] [] := by simp [entryFrame, mkF, argsToLocals, Value.category]
theorem pn_23 : plainFor (⟨"java/lang/AbstractStringBuilder", "ensureCapacityInternal", "(I)V"⟩ : MethodName) = true := plainFor_of_name (show plainName "java/lang/AbstractStringBuilder" = true by first | (simp [plainName, overriddenIn]; done) | decide +kernel)
theorem rmEC0_0 (l : Launch) (Z : State) (a0 : Array Value) (hw : HW a0 Z) (ws : List Jvm.Cond) (a1 : Addr) (b : Addr) (kb : ClassId) (h0 : Heap) (n0 : Nat) (hn : n0 ≤ h0.size) (F_value_a1 : FAv Z h0 a1 (.ref b)) (F_coder_a1 : FAc Z h0 a1 Z0) (V_b : Arl Z h0 b kb .byte [Z0, Z0, Z0, Z0, Z0, Z0, Z0, Z0, Z0, Z0, Z0, Z0, Z0, Z0, Z0, Z0]) :
    Met own_EL l Z (⟨"java/lang/AbstractStringBuilder", "ensureCapacityInternal", "(I)V"⟩ : MethodName) jdk_68_method_9_code 3 none ({ frames := 0, cells := 0, slots := 0, locals := 0 } : Room) ws #[(.ref a1), Z0] h0 n0 [] (Pur0 h0) := by
  refine Met.of pn_23 (fun m => ef_rmEC0_0 m a1) ?_
  refine Own.aloadN d23_0 rfl rfl ?_
  refine Own.getF_ (host := "") (Or.inl (hw _ (mg 99 rfl))) Via.refl F_value_a1 d23_1 ?_
  refine Own.arraylength_ (16 : Int32) V_b rfl d23_4 ?_
  refine Own.aloadN d23_5 rfl rfl ?_
  refine Own.getF_ (host := "") (Or.inl (hw _ (mg 101 rfl))) Via.refl F_coder_a1 d23_6 ?_
  refine Own.ishr d23_9 ?_
  refine OAt.cast (st' := [(.int (16 : Int32))]) rfl ?_
  refine Own.istoreN #[.val (.ref a1), .val Z0, .val (.int (16 : Int32))] d23_10 rfl ?_
  refine Own.iloadN d23_11 rfl ?_
  refine Own.iloadN d23_12 rfl ?_
  refine Own.isub d23_13 ?_
  refine OAt.cast (st' := [(.int (-16 : Int32))]) rfl ?_
  refine Own.if_le 38 d23_14 (by decide) rfl (fun _ => ?_) (fun q => absurd q (by decide))
  refine Own.ret_void rfl d23_38 (by decide) (by decide) (fun Sf hSf => ?_)
  exact ⟨rfl, rfl⟩
theorem d22_0 : decode jdk_68_method_22_code 0 = .ok (.aload_n 1, 1) := by decide +kernel
theorem d22_1 : decode jdk_68_method_22_code 1 = .ok (.ifnonnull 8, 3) := by decide +kernel
theorem d22_9 : decode jdk_68_method_22_code 9 = .ok (.aload_n 1, 1) := by decide +kernel
theorem d22_10 : decode jdk_68_method_22_code 10 = .ok (.invokevirtual 32, 3) := by decide +kernel
theorem pd_1 : parseMethodDescriptor "()I" = some ⟨[], some .int⟩ := by decide +kernel
theorem d22_13 : decode jdk_68_method_22_code 13 = .ok (.istore_n 2, 1) := by decide +kernel
theorem d22_14 : decode jdk_68_method_22_code 14 = .ok (.aload_n 0, 1) := by decide +kernel
theorem d22_15 : decode jdk_68_method_22_code 15 = .ok (.aload_n 0, 1) := by decide +kernel
theorem d22_16 : decode jdk_68_method_22_code 16 = .ok (.getfield 79, 3) := by decide +kernel
theorem d22_19 : decode jdk_68_method_22_code 19 = .ok (.iload_n 2, 1) := by decide +kernel
theorem d22_20 : decode jdk_68_method_22_code 20 = .ok (.iadd, 1) := by decide +kernel
theorem d22_21 : decode jdk_68_method_22_code 21 = .ok (.invokevirtual 100, 3) := by decide +kernel
theorem d22_24 : decode jdk_68_method_22_code 24 = .ok (.aload_n 0, 1) := by decide +kernel
theorem d22_25 : decode jdk_68_method_22_code 25 = .ok (.aload_n 0, 1) := by decide +kernel
theorem d22_26 : decode jdk_68_method_22_code 26 = .ok (.getfield 79, 3) := by decide +kernel
theorem d22_29 : decode jdk_68_method_22_code 29 = .ok (.aload_n 1, 1) := by decide +kernel
theorem d22_30 : decode jdk_68_method_22_code 30 = .ok (.invokevirtual 208, 3) := by decide +kernel
theorem pd_13 : parseMethodDescriptor "(ILjava/lang/String;)V" = some ⟨[.int, (.object "java/lang/String")], none⟩ := by decide +kernel
theorem d22_33 : decode jdk_68_method_22_code 33 = .ok (.aload_n 0, 1) := by decide +kernel
theorem d22_34 : decode jdk_68_method_22_code 34 = .ok (.dup, 1) := by decide +kernel
theorem d22_35 : decode jdk_68_method_22_code 35 = .ok (.getfield 79, 3) := by decide +kernel
theorem d22_38 : decode jdk_68_method_22_code 38 = .ok (.iload_n 2, 1) := by decide +kernel
theorem d22_39 : decode jdk_68_method_22_code 39 = .ok (.iadd, 1) := by decide +kernel
theorem d22_40 : decode jdk_68_method_22_code 40 = .ok (.putfield 79, 3) := by decide +kernel
theorem d22_43 : decode jdk_68_method_22_code 43 = .ok (.aload_n 0, 1) := by decide +kernel
theorem d22_44 : decode jdk_68_method_22_code 44 = .ok (.areturn, 1) := by decide +kernel
def Q_rmAA0_0 (Z : State) (a1 : Addr) (b : Addr) (kb : ClassId) (h0 : Heap) (n0 : Nat) (v : Option Value) (h : Heap) (Sf : Addr → Prop) : Prop := v = some (.ref a1) ∧ Keep h0 h [a1, b] ∧ FAv Z h a1 (.ref b) ∧ FAc Z h a1 Z0 ∧ FAn Z h a1 Z0 ∧ Arl Z h b kb .byte [Z0, Z0, Z0, Z0, Z0, Z0, Z0, Z0, Z0, Z0, Z0, Z0, Z0, Z0, Z0, Z0]
theorem ef_rmAA0_0 (m : MethodId) (a1 : Addr) (a2 : Addr)  : entryFrame m #[(.ref a1), (.ref a2)] 3 = mkF m 0 #[.val (.ref a1), .val (.ref a2), .unset] [] := by simp [entryFrame, mkF, argsToLocals, Value.category]
theorem pn_22 : plainFor (⟨"java/lang/AbstractStringBuilder", "append", "(Ljava/lang/String;)Ljava/lang/AbstractStringBuilder;"⟩ : MethodName) = true := plainFor_of_name (show plainName "java/lang/AbstractStringBuilder" = true by first | (simp [plainName, overriddenIn]; done) | decide +kernel)
theorem rmAA0_0 (l : Launch) (Z : State) (a0 : Array Value) (hw : HW a0 Z) (ws : List Jvm.Cond) (a1 : Addr) (a2 : Addr) (t : Addr) (kt : ClassId) (b : Addr) (kb : ClassId) (zc : Int32) (h0 : Heap) (n0 : Nat) (hn : n0 ≤ h0.size) (X_a2 : XSt Z h0 a2) (F_value_a2 : FSv Z h0 a2 (.ref t)) (F_coder_a2 : FSc Z h0 a2 Z0) (V_t : Arl Z h0 t kt .byte []) (X_a1 : Exa Z h0 a1 "java/lang/StringBuilder") (F_value_a1 : FAv Z h0 a1 (.ref b)) (F_coder_a1 : FAc Z h0 a1 Z0) (F_count_a1 : FAn Z h0 a1 Z0) (V_b : Arl Z h0 b kb .byte [Z0, Z0, Z0, Z0, Z0, Z0, Z0, Z0, Z0, Z0, Z0, Z0, Z0, Z0, Z0, Z0]) (S_C : Sta Z h0 "java/lang/String" "COMPACT_STRINGS" "Z" (.int zc)) (hz : ¬ zc = 0) (g_a1 : n0 ≤ a1) (g_b : n0 ≤ b) (ne_a1_b : a1 ≠ b) (ne_a2_b : a2 ≠ b) (ne_t_b : t ≠ b) (ne_a2_a1 : a2 ≠ a1) (ne_t_a1 : t ≠ a1) :
    Met own_EL l Z (⟨"java/lang/AbstractStringBuilder", "append", "(Ljava/lang/String;)Ljava/lang/AbstractStringBuilder;"⟩ : MethodName) jdk_68_method_22_code 3 (some (.object "java/lang/AbstractStringBuilder")) ({ frames := 3, cells := 0, slots := 0, locals := 80 } : Room) ws #[(.ref a1), (.ref a2)] h0 n0 [a1, b] (Q_rmAA0_0 Z a1 b kb h0 n0) := by
  refine Met.of pn_22 (fun m => ef_rmAA0_0 m a1 a2) ?_
  have ne_b_a1 := Ne.symm ne_a1_b
  have K := Keep.refl h0 [a1, b]
  refine Own.aloadN d22_0 rfl rfl ?_
  refine Own.ifnonnullYes 9 d22_1 (by decide) rfl ?_
  refine Own.aloadN d22_9 rfl rfl ?_
  refine Own.callVP a2 [] [] 0 (rm_len_0 l Z a0 hw [] a2 t kt _ zc h0 n0 hn X_a2 F_value_a2 F_coder_a2 V_t rfl S_C hz) (hw _ (mg 113 rfl)) (hw _ (mg 48 rfl)) (fun s hZ => notFace_of_selects (args := #[]) (mvT hZ (hw _ (mg 50 rfl)))) (hw _ (mg 50 rfl)) (hw _ (mg 49 rfl)) (hw _ (mg 7 rfl)) (hw _ (mg 51 rfl)) (by decide) X_a2 d22_10 pd_1 rfl rfl rfl rfl (by decide) (by decide) (by decide) (by decide) ?_
  refine Own.istoreN #[.val (.ref a1), .val (.ref a2), .val Z0] d22_13 rfl ?_
  refine Own.aloadN d22_14 rfl rfl ?_
  refine Own.aloadN d22_15 rfl rfl ?_
  refine Own.getF_ (host := "") (Or.inl (hw _ (mg 114 rfl))) Via.refl F_count_a1 d22_16 ?_
  refine Own.iloadN d22_19 rfl ?_
  refine Own.iadd d22_20 ?_
  refine OAt.cast (st' := [Z0, (.ref a1)]) rfl ?_
  refine Own.callP0 a1 [Z0] [] 0 (rmEC0_0 l Z a0 hw [] a1 b kb  h0 n0 hn F_value_a1 F_coder_a1 V_b) (hw _ (mg 116 rfl)) (hw _ (mg 117 rfl)) (sel_own (hw _ (mg 119 rfl)) (hw _ (mg 118 rfl)) (hw _ (mg 117 rfl)) (by decide)) (hw _ (mg 118 rfl)) (hw _ (mg 95 rfl)) (hw _ (mg 120 rfl)) (by decide) X_a1 d22_21 pd_7 rfl rfl rfl rfl (by decide) (by decide) (by decide) (by decide) ?_
  refine Own.aloadN d22_24 rfl rfl ?_
  refine Own.aloadN d22_25 rfl rfl ?_
  refine Own.getF_ (host := "") (Or.inl (hw _ (mg 114 rfl))) Via.refl F_count_a1 d22_26 ?_
  refine Own.aloadN d22_29 rfl rfl ?_
  refine Own.callP_ a1 [Z0, (.ref a2)] [] 0 (rmPS0_0 l Z a0 hw [] a1 a2 t kt b kb zc  h0 n0 hn X_a2 F_value_a2 F_coder_a2 V_t X_a1 F_value_a1 F_coder_a1 F_count_a1 V_b S_C hz g_a1 g_b ne_a1_b ne_a2_b ne_t_b ne_a2_a1 ne_t_a1) (allS (mg 1 rfl) all0) (hw _ (mg 121 rfl)) (hw _ (mg 122 rfl)) (sel_own (hw _ (mg 124 rfl)) (hw _ (mg 123 rfl)) (hw _ (mg 122 rfl)) (by decide)) (hw _ (mg 123 rfl)) (hw _ (mg 95 rfl)) (hw _ (mg 125 rfl)) (by decide) X_a1 d22_30 pd_13 rfl rfl rfl rfl (by decide) (by decide) (by decide) (by decide) (fun v56 h56 S56 hq56 => ?_)
  obtain ⟨rfl, K57, V57⟩ := hq56
  replace X_a1 := X_a1.keep K57
  replace F_value_a1 := F_value_a1.keep K57 (ninS ne_a1_b nin0)
  replace F_coder_a1 := F_coder_a1.keep K57 (ninS ne_a1_b nin0)
  replace F_count_a1 := F_count_a1.keep K57 (ninS ne_a1_b nin0)
  have K := K.trans K57 (allS (Or.inl (mg 1 rfl)) all0)
  refine ⟨[], all0, ?_⟩
  refine OAt.cast (st' := []) rfl ?_
  refine Own.aloadN d22_33 rfl rfl ?_
  refine Own.dup d22_34 rfl ?_
  refine Own.getF_ (host := "") (Or.inl (hw _ (mg 114 rfl))) Via.refl F_count_a1 d22_35 ?_
  refine Own.iloadN d22_38 rfl ?_
  refine Own.iadd d22_39 ?_
  refine OAt.cast (st' := [Z0, (.ref a1)]) rfl ?_
  refine Own.putF_ (host := "") (Or.inl (hw _ (mg 114 rfl))) Via.refl F_count_a1 X_a1 (Or.inl (hw _ (mg 115 rfl))) (hw _ (mg 86 rfl)) (ty := .int) (by decide) rfl rfl g_a1 (mg 0 rfl) d22_40 (fun h58 W59 => ?_)
  replace F_count_a1 := F_count_a1.same W59
  replace F_value_a1 := F_value_a1.other W59 (Or.inr (slot_ne (Or.inl (hw _ (mg 100 rfl))) (Or.inl (hw _ (mg 115 rfl))) (by decide) (t := (.array .byte)) (t' := .int) (by decide) (by decide)))
  replace F_coder_a1 := F_coder_a1.other W59 (Or.inr (slot_ne (Or.inl (hw _ (mg 102 rfl))) (Or.inl (hw _ (mg 115 rfl))) (by decide) (t := .byte) (t' := .int) (by decide) (by decide)))
  replace V57 := V57.other W59 ne_b_a1
  have K := K.wr W59 (Or.inl (mg 0 rfl))
  refine Own.aloadN d22_43 rfl rfl ?_
  refine Own.ret_ref (t := (.object "java/lang/AbstractStringBuilder")) rfl rfl rfl d22_44 (by decide) (by decide) (fun Sf hSf => ?_)
  exact ⟨rfl, K, F_value_a1, F_coder_a1, F_count_a1, V57⟩
theorem d21_0 : decode jdk_67_method_7_code 0 = .ok (.aload_n 0, 1) := by decide +kernel
theorem d21_1 : decode jdk_67_method_7_code 1 = .ok (.aload_n 1, 1) := by decide +kernel
theorem d21_2 : decode jdk_67_method_7_code 2 = .ok (.invokespecial 29, 3) := by decide +kernel
theorem pd_16 : parseMethodDescriptor "(Ljava/lang/String;)Ljava/lang/AbstractStringBuilder;" = some ⟨[(.object "java/lang/String")], some (.object "java/lang/AbstractStringBuilder")⟩ := by decide +kernel
theorem d21_5 : decode jdk_67_method_7_code 5 = .ok (.pop, 1) := by decide +kernel
theorem d21_6 : decode jdk_67_method_7_code 6 = .ok (.aload_n 0, 1) := by decide +kernel
theorem d21_7 : decode jdk_67_method_7_code 7 = .ok (.areturn, 1) := by decide +kernel
def Q_rmSA0_0 (Z : State) (a1 : Addr) (b : Addr) (kb : ClassId) (h0 : Heap) (n0 : Nat) (v : Option Value) (h : Heap) (Sf : Addr → Prop) : Prop := v = some (.ref a1) ∧ Keep h0 h [a1, b] ∧ FAv Z h a1 (.ref b) ∧ FAc Z h a1 Z0 ∧ FAn Z h a1 Z0 ∧ Arl Z h b kb .byte [Z0, Z0, Z0, Z0, Z0, Z0, Z0, Z0, Z0, Z0, Z0, Z0, Z0, Z0, Z0, Z0]
theorem ef_rmSA0_0 (m : MethodId) (a1 : Addr) (a2 : Addr)  : entryFrame m #[(.ref a1), (.ref a2)] 2 = mkF m 0 #[.val (.ref a1), .val (.ref a2)] [] := by simp [entryFrame, mkF, argsToLocals, Value.category]
theorem pn_21 : plainFor (⟨"java/lang/StringBuilder", "append", "(Ljava/lang/String;)Ljava/lang/StringBuilder;"⟩ : MethodName) = true := plainFor_of_name (show plainName "java/lang/StringBuilder" = true by first | (simp [plainName, overriddenIn]; done) | decide +kernel)
theorem rmSA0_0 (l : Launch) (Z : State) (a0 : Array Value) (hw : HW a0 Z) (ws : List Jvm.Cond) (a1 : Addr) (a2 : Addr) (t : Addr) (kt : ClassId) (b : Addr) (kb : ClassId) (zc : Int32) (h0 : Heap) (n0 : Nat) (hn : n0 ≤ h0.size) (X_a2 : XSt Z h0 a2) (F_value_a2 : FSv Z h0 a2 (.ref t)) (F_coder_a2 : FSc Z h0 a2 Z0) (V_t : Arl Z h0 t kt .byte []) (X_a1 : Exa Z h0 a1 "java/lang/StringBuilder") (F_value_a1 : FAv Z h0 a1 (.ref b)) (F_coder_a1 : FAc Z h0 a1 Z0) (F_count_a1 : FAn Z h0 a1 Z0) (V_b : Arl Z h0 b kb .byte [Z0, Z0, Z0, Z0, Z0, Z0, Z0, Z0, Z0, Z0, Z0, Z0, Z0, Z0, Z0, Z0]) (S_C : Sta Z h0 "java/lang/String" "COMPACT_STRINGS" "Z" (.int zc)) (hz : ¬ zc = 0) (g_a1 : n0 ≤ a1) (g_b : n0 ≤ b) (ne_a1_b : a1 ≠ b) (ne_a2_b : a2 ≠ b) (ne_t_b : t ≠ b) (ne_a2_a1 : a2 ≠ a1) (ne_t_a1 : t ≠ a1) :
    Met own_EL l Z (⟨"java/lang/StringBuilder", "append", "(Ljava/lang/String;)Ljava/lang/StringBuilder;"⟩ : MethodName) jdk_67_method_7_code 2 (some (.object "java/lang/StringBuilder")) ({ frames := 4, cells := 0, slots := 0, locals := 94 } : Room) ws #[(.ref a1), (.ref a2)] h0 n0 [a1, b] (Q_rmSA0_0 Z a1 b kb h0 n0) := by
  refine Met.of pn_21 (fun m => ef_rmSA0_0 m a1 a2) ?_
  have K := Keep.refl h0 [a1, b]
  refine Own.aloadN d21_0 rfl rfl ?_
  refine Own.aloadN d21_1 rfl rfl ?_
  refine Own.callU_ a1 [(.ref a2)] [] 0 (rmAA0_0 l Z a0 hw [] a1 a2 t kt b kb zc  h0 n0 hn X_a2 F_value_a2 F_coder_a2 V_t X_a1 F_value_a1 F_coder_a1 F_count_a1 V_b S_C hz g_a1 g_b ne_a1_b ne_a2_b ne_t_b ne_a2_a1 ne_t_a1) (allS (mg 0 rfl) (allS (mg 1 rfl) all0)) (hw _ (mg 108 rfl)) (same_own (face_same (hw _ (mg 119 rfl)) rfl) (hw _ (mg 109 rfl)) (by decide)) (hw _ (mg 109 rfl)) (hw _ (mg 110 rfl)) (hw _ (mg 95 rfl)) (hw _ (mg 112 rfl)) (by decide) (Ins.self X_a1) d21_2 pd_16 rfl rfl rfl rfl (by decide) (by decide) (by decide) (by decide) (fun v60 h60 S60 hq60 => ?_)
  obtain ⟨rfl, K61, G1, G2, G3, V61⟩ := hq60
  have K := K.trans K61 (allS (Or.inl (mg 0 rfl)) (allS (Or.inl (mg 1 rfl)) all0))
  have F_value_a1 := G1
  have F_coder_a1 := G2
  have F_count_a1 := G3
  refine ⟨[], all0, ?_⟩
  refine OAt.cast (st' := [(.ref a1)]) rfl ?_
  refine Own.pop d21_5 rfl ?_
  refine Own.aloadN d21_6 rfl rfl ?_
  refine Own.ret_ref (t := (.object "java/lang/StringBuilder")) rfl rfl rfl d21_7 (by decide) (by decide) (fun Sf hSf => ?_)
  exact ⟨rfl, K, F_value_a1, F_coder_a1, F_count_a1, V61⟩
def Q_rmGB0_1 (Z : State) (b : Addr) (kb : ClassId) (y0 : Value) (h0 : Heap) (n0 : Nat) (v : Option Value) (h : Heap) (Sf : Addr → Prop) : Prop := v = none ∧ Keep h0 h [b] ∧ Arl Z h b kb .byte [y0, Z0, Z0, Z0, Z0, Z0, Z0, Z0, Z0, Z0, Z0, Z0, Z0, Z0, Z0, Z0]
theorem ef_rmGB0_1 (m : MethodId) (a2 : Addr) (b : Addr)  : entryFrame m #[(.ref a2), (.ref b), Z0, Z0] 4 = mkF m 0 #[.val (.ref a2), .val (.ref b), .val Z0, .val Z0] [] := by simp [entryFrame, mkF, argsToLocals, Value.category]
theorem rmGB0_1 (l : Launch) (Z : State) (a0 : Array Value) (hw : HW a0 Z) (ws : List Jvm.Cond) (a2 : Addr) (t : Addr) (kt : ClassId) (b : Addr) (kb : ClassId) (zc : Int32) (y0 : Value) (h0 : Heap) (n0 : Nat) (hn : n0 ≤ h0.size) (X_a2 : XSt Z h0 a2) (F_value_a2 : FSv Z h0 a2 (.ref t)) (F_coder_a2 : FSc Z h0 a2 Z0) (V_t : Arl Z h0 t kt .byte [y0]) (V_b : Arl Z h0 b kb .byte [Z0, Z0, Z0, Z0, Z0, Z0, Z0, Z0, Z0, Z0, Z0, Z0, Z0, Z0, Z0, Z0]) (S_C : Sta Z h0 "java/lang/String" "COMPACT_STRINGS" "Z" (.int zc)) (hz : ¬ zc = 0) (g_b : n0 ≤ b) (ne_a2_b : a2 ≠ b) (ne_t_b : t ≠ b) :
    Met own_EL l Z (⟨"java/lang/String", "getBytes", "([BIB)V"⟩ : MethodName) jdk_42_method_147_code 4 none ({ frames := 1, cells := 0, slots := 0, locals := 51 } : Room) ws #[(.ref a2), (.ref b), Z0, Z0] h0 n0 [b] (Q_rmGB0_1 Z b kb y0 h0 n0) := by
  refine Met.of pn_26 (fun m => ef_rmGB0_1 m a2 b) ?_
  have K := Keep.refl h0 [b]
  refine Own.aloadN d26_0 rfl rfl ?_
  refine Own.callVP a2 [] [] 0 (rmCO l Z a0 hw [] a2 zc h0 n0 hn F_coder_a2 S_C hz) (hw _ (mg 52 rfl)) (hw _ (mg 53 rfl)) (fun s hZ => notFace_of_selects (args := #[]) (mvT hZ (hw _ (mg 55 rfl)))) (hw _ (mg 55 rfl)) (hw _ (mg 54 rfl)) (hw _ (mg 7 rfl)) (hw _ (mg 56 rfl)) (by decide) X_a2 d26_1 pd_0 rfl rfl rfl rfl (by decide) (by decide) (by decide) (by decide) ?_
  refine Own.iloadN d26_4 rfl ?_
  refine Own.icmp_ne 28 d26_5 (by decide) rfl (fun q => absurd (by decide) q) (fun _ => ?_)
  refine Own.aloadN d26_8 rfl rfl ?_
  refine Own.getF_ (host := "") (Or.inl (hw _ (mg 33 rfl))) Via.refl F_value_a2 d26_9 ?_
  refine Own.iconst (0 : Int32) d26_12 rfl ?_
  refine Own.aloadN d26_13 rfl rfl ?_
  refine Own.iloadN d26_14 rfl ?_
  refine Own.iloadN d26_15 rfl ?_
  refine Own.ishl d26_16 ?_
  refine OAt.cast (st' := [Z0, (.ref b), Z0, (.ref t)]) rfl ?_
  refine Own.aloadN d26_17 rfl rfl ?_
  refine Own.getF_ (host := "") (Or.inl (hw _ (mg 33 rfl))) Via.refl F_value_a2 d26_18 ?_
  refine Own.arraylength_ (1 : Int32) V_t rfl d26_21 ?_
  refine Own.arraycopy_ (i := 0) (j := 0) (n := 1) 0 (hw _ (mg 137 rfl)) (hw _ (mg 140 rfl)) (hw _ (mg 138 rfl)) (hw _ (mg 139 rfl)) V_t V_b rfl rfl rfl rfl (Nat.le_of_ble_eq_true rfl) (Nat.le_of_ble_eq_true rfl) g_b (mg 0 rfl) rfl d26_22 (by decide) rfl (by decide) (fun h62 K62 V62 => ?_)
  clear V_b
  replace V62 : Arl Z h62 b kb .byte [y0, Z0, Z0, Z0, Z0, Z0, Z0, Z0, Z0, Z0, Z0, Z0, Z0, Z0, Z0, Z0] := V62
  have K := K.trans K62 (allS (Or.inl (mg 0 rfl)) all0)
  refine Own.goto_ 43 d26_25 (by decide) rfl ?_
  refine Own.ret_void rfl d26_43 (by decide) (by decide) (fun Sf hSf => ?_)
  exact ⟨rfl, K, V62⟩
def Q_rmPS0_1 (Z : State) (b : Addr) (kb : ClassId) (y0 : Value) (h0 : Heap) (n0 : Nat) (v : Option Value) (h : Heap) (Sf : Addr → Prop) : Prop := v = none ∧ Keep h0 h [b] ∧ Arl Z h b kb .byte [y0, Z0, Z0, Z0, Z0, Z0, Z0, Z0, Z0, Z0, Z0, Z0, Z0, Z0, Z0, Z0]
theorem ef_rmPS0_1 (m : MethodId) (a1 : Addr) (a2 : Addr)  : entryFrame m #[(.ref a1), Z0, (.ref a2)] 3 = mkF m 0 #[.val (.ref a1), .val Z0, .val (.ref a2)] [] := by simp [entryFrame, mkF, argsToLocals, Value.category]
theorem rmPS0_1 (l : Launch) (Z : State) (a0 : Array Value) (hw : HW a0 Z) (ws : List Jvm.Cond) (a1 : Addr) (a2 : Addr) (t : Addr) (kt : ClassId) (b : Addr) (kb : ClassId) (zc : Int32) (y0 : Value) (h0 : Heap) (n0 : Nat) (hn : n0 ≤ h0.size) (X_a2 : XSt Z h0 a2) (F_value_a2 : FSv Z h0 a2 (.ref t)) (F_coder_a2 : FSc Z h0 a2 Z0) (V_t : Arl Z h0 t kt .byte [y0]) (X_a1 : Exa Z h0 a1 "java/lang/StringBuilder") (F_value_a1 : FAv Z h0 a1 (.ref b)) (F_coder_a1 : FAc Z h0 a1 Z0) (F_count_a1 : FAn Z h0 a1 Z0) (V_b : Arl Z h0 b kb .byte [Z0, Z0, Z0, Z0, Z0, Z0, Z0, Z0, Z0, Z0, Z0, Z0, Z0, Z0, Z0, Z0]) (S_C : Sta Z h0 "java/lang/String" "COMPACT_STRINGS" "Z" (.int zc)) (hz : ¬ zc = 0) (g_a1 : n0 ≤ a1) (g_b : n0 ≤ b) (ne_a1_b : a1 ≠ b) (ne_a2_b : a2 ≠ b) (ne_t_b : t ≠ b) (ne_a2_a1 : a2 ≠ a1) (ne_t_a1 : t ≠ a1) :
    Met own_EL l Z (⟨"java/lang/AbstractStringBuilder", "putStringAt", "(ILjava/lang/String;)V"⟩ : MethodName) jdk_68_method_73_code 3 none ({ frames := 2, cells := 0, slots := 0, locals := 66 } : Room) ws #[(.ref a1), Z0, (.ref a2)] h0 n0 [b] (Q_rmPS0_1 Z b kb y0 h0 n0) := by
  refine Met.of pn_24 (fun m => ef_rmPS0_1 m a1 a2) ?_
  have K := Keep.refl h0 [b]
  refine Own.aloadN d24_0 rfl rfl ?_
  refine Own.aloadN d24_1 rfl rfl ?_
  refine Own.callP0 a1 [(.ref a2)] [] 0 (rmIF l Z a0 hw [] a1 a2 zc h0 n0 hn X_a2 F_coder_a2 F_coder_a1 S_C hz) (hw _ (mg 126 rfl)) (hw _ (mg 127 rfl)) (sel_own (hw _ (mg 129 rfl)) (hw _ (mg 128 rfl)) (hw _ (mg 127 rfl)) (by decide)) (hw _ (mg 128 rfl)) (hw _ (mg 95 rfl)) (hw _ (mg 130 rfl)) (by decide) X_a1 d24_2 pd_18 rfl rfl rfl rfl (by decide) (by decide) (by decide) (by decide) ?_
  refine Own.aloadN d24_5 rfl rfl ?_
  refine Own.aloadN d24_6 rfl rfl ?_
  refine Own.getF_ (host := "") (Or.inl (hw _ (mg 99 rfl))) Via.refl F_value_a1 d24_7 ?_
  refine Own.iloadN d24_10 rfl ?_
  refine Own.aloadN d24_11 rfl rfl ?_
  refine Own.getF_ (host := "") (Or.inl (hw _ (mg 101 rfl))) Via.refl F_coder_a1 d24_12 ?_
  refine Own.callV_ a2 [(.ref b), Z0, Z0] [] 0 (rmGB0_1 l Z a0 hw [] a2 t kt b kb zc y0 h0 n0 hn X_a2 F_value_a2 F_coder_a2 V_t V_b S_C hz g_b ne_a2_b ne_t_b) (allS (mg 0 rfl) all0) (hw _ (mg 132 rfl)) (hw _ (mg 133 rfl)) (fun s hZ => notFace_of_selects (args := #[]) (mvT hZ (hw _ (mg 135 rfl)))) (hw _ (mg 135 rfl)) (hw _ (mg 134 rfl)) (hw _ (mg 7 rfl)) (hw _ (mg 136 rfl)) (by decide) X_a2 d24_15 pd_24 rfl rfl rfl rfl (by decide) (by decide) (by decide) (by decide) (fun v63 h63 S63 hq63 => ?_)
  obtain ⟨rfl, K64, V64⟩ := hq63
  have K := K.trans K64 (allS (Or.inl (mg 0 rfl)) all0)
  refine ⟨[], all0, ?_⟩
  refine OAt.cast (st' := []) rfl ?_
  refine Own.ret_void rfl d24_18 (by decide) (by decide) (fun Sf hSf => ?_)
  exact ⟨rfl, K, V64⟩
theorem ef_rmEC0_1 (m : MethodId) (a1 : Addr)  : entryFrame m #[(.ref a1), (.int (1 : Int32))] 3 = mkF m 0 #[.val (.ref a1), .val (.int (1 : Int32)), .unset] [] := by simp [entryFrame, mkF, argsToLocals, Value.category]
theorem rmEC0_1 (l : Launch) (Z : State) (a0 : Array Value) (hw : HW a0 Z) (ws : List Jvm.Cond) (a1 : Addr) (b : Addr) (kb : ClassId) (h0 : Heap) (n0 : Nat) (hn : n0 ≤ h0.size) (F_value_a1 : FAv Z h0 a1 (.ref b)) (F_coder_a1 : FAc Z h0 a1 Z0) (V_b : Arl Z h0 b kb .byte [Z0, Z0, Z0, Z0, Z0, Z0, Z0, Z0, Z0, Z0, Z0, Z0, Z0, Z0, Z0, Z0]) :
    Met own_EL l Z (⟨"java/lang/AbstractStringBuilder", "ensureCapacityInternal", "(I)V"⟩ : MethodName) jdk_68_method_9_code 3 none ({ frames := 0, cells := 0, slots := 0, locals := 0 } : Room) ws #[(.ref a1), (.int (1 : Int32))] h0 n0 [] (Pur0 h0) := by
  refine Met.of pn_23 (fun m => ef_rmEC0_1 m a1) ?_
  refine Own.aloadN d23_0 rfl rfl ?_
  refine Own.getF_ (host := "") (Or.inl (hw _ (mg 99 rfl))) Via.refl F_value_a1 d23_1 ?_
  refine Own.arraylength_ (16 : Int32) V_b rfl d23_4 ?_
  refine Own.aloadN d23_5 rfl rfl ?_
  refine Own.getF_ (host := "") (Or.inl (hw _ (mg 101 rfl))) Via.refl F_coder_a1 d23_6 ?_
  refine Own.ishr d23_9 ?_
  refine OAt.cast (st' := [(.int (16 : Int32))]) rfl ?_
  refine Own.istoreN #[.val (.ref a1), .val (.int (1 : Int32)), .val (.int (16 : Int32))] d23_10 rfl ?_
  refine Own.iloadN d23_11 rfl ?_
  refine Own.iloadN d23_12 rfl ?_
  refine Own.isub d23_13 ?_
  refine OAt.cast (st' := [(.int (-15 : Int32))]) rfl ?_
  refine Own.if_le 38 d23_14 (by decide) rfl (fun _ => ?_) (fun q => absurd q (by decide))
  refine Own.ret_void rfl d23_38 (by decide) (by decide) (fun Sf hSf => ?_)
  exact ⟨rfl, rfl⟩
def Q_rmAA0_1 (Z : State) (a1 : Addr) (b : Addr) (kb : ClassId) (y0 : Value) (h0 : Heap) (n0 : Nat) (v : Option Value) (h : Heap) (Sf : Addr → Prop) : Prop := v = some (.ref a1) ∧ Keep h0 h [a1, b] ∧ FAv Z h a1 (.ref b) ∧ FAc Z h a1 Z0 ∧ FAn Z h a1 (.int (1 : Int32)) ∧ Arl Z h b kb .byte [y0, Z0, Z0, Z0, Z0, Z0, Z0, Z0, Z0, Z0, Z0, Z0, Z0, Z0, Z0, Z0]
theorem ef_rmAA0_1 (m : MethodId) (a1 : Addr) (a2 : Addr)  : entryFrame m #[(.ref a1), (.ref a2)] 3 = mkF m 0 #[.val (.ref a1), .val (.ref a2), .unset] [] := by simp [entryFrame, mkF, argsToLocals, Value.category]
theorem rmAA0_1 (l : Launch) (Z : State) (a0 : Array Value) (hw : HW a0 Z) (ws : List Jvm.Cond) (a1 : Addr) (a2 : Addr) (t : Addr) (kt : ClassId) (b : Addr) (kb : ClassId) (zc : Int32) (y0 : Value) (h0 : Heap) (n0 : Nat) (hn : n0 ≤ h0.size) (X_a2 : XSt Z h0 a2) (F_value_a2 : FSv Z h0 a2 (.ref t)) (F_coder_a2 : FSc Z h0 a2 Z0) (V_t : Arl Z h0 t kt .byte [y0]) (X_a1 : Exa Z h0 a1 "java/lang/StringBuilder") (F_value_a1 : FAv Z h0 a1 (.ref b)) (F_coder_a1 : FAc Z h0 a1 Z0) (F_count_a1 : FAn Z h0 a1 Z0) (V_b : Arl Z h0 b kb .byte [Z0, Z0, Z0, Z0, Z0, Z0, Z0, Z0, Z0, Z0, Z0, Z0, Z0, Z0, Z0, Z0]) (S_C : Sta Z h0 "java/lang/String" "COMPACT_STRINGS" "Z" (.int zc)) (hz : ¬ zc = 0) (g_a1 : n0 ≤ a1) (g_b : n0 ≤ b) (ne_a1_b : a1 ≠ b) (ne_a2_b : a2 ≠ b) (ne_t_b : t ≠ b) (ne_a2_a1 : a2 ≠ a1) (ne_t_a1 : t ≠ a1) :
    Met own_EL l Z (⟨"java/lang/AbstractStringBuilder", "append", "(Ljava/lang/String;)Ljava/lang/AbstractStringBuilder;"⟩ : MethodName) jdk_68_method_22_code 3 (some (.object "java/lang/AbstractStringBuilder")) ({ frames := 3, cells := 0, slots := 0, locals := 80 } : Room) ws #[(.ref a1), (.ref a2)] h0 n0 [a1, b] (Q_rmAA0_1 Z a1 b kb y0 h0 n0) := by
  refine Met.of pn_22 (fun m => ef_rmAA0_1 m a1 a2) ?_
  have ne_b_a1 := Ne.symm ne_a1_b
  have K := Keep.refl h0 [a1, b]
  refine Own.aloadN d22_0 rfl rfl ?_
  refine Own.ifnonnullYes 9 d22_1 (by decide) rfl ?_
  refine Own.aloadN d22_9 rfl rfl ?_
  refine Own.callVP a2 [] [] 0 (rm_len_1 l Z a0 hw [] a2 t kt _ zc h0 n0 hn X_a2 F_value_a2 F_coder_a2 V_t rfl S_C hz) (hw _ (mg 113 rfl)) (hw _ (mg 48 rfl)) (fun s hZ => notFace_of_selects (args := #[]) (mvT hZ (hw _ (mg 50 rfl)))) (hw _ (mg 50 rfl)) (hw _ (mg 49 rfl)) (hw _ (mg 7 rfl)) (hw _ (mg 51 rfl)) (by decide) X_a2 d22_10 pd_1 rfl rfl rfl rfl (by decide) (by decide) (by decide) (by decide) ?_
  refine Own.istoreN #[.val (.ref a1), .val (.ref a2), .val (.int (1 : Int32))] d22_13 rfl ?_
  refine Own.aloadN d22_14 rfl rfl ?_
  refine Own.aloadN d22_15 rfl rfl ?_
  refine Own.getF_ (host := "") (Or.inl (hw _ (mg 114 rfl))) Via.refl F_count_a1 d22_16 ?_
  refine Own.iloadN d22_19 rfl ?_
  refine Own.iadd d22_20 ?_
  refine OAt.cast (st' := [(.int (1 : Int32)), (.ref a1)]) rfl ?_
  refine Own.callP0 a1 [(.int (1 : Int32))] [] 0 (rmEC0_1 l Z a0 hw [] a1 b kb  h0 n0 hn F_value_a1 F_coder_a1 V_b) (hw _ (mg 116 rfl)) (hw _ (mg 117 rfl)) (sel_own (hw _ (mg 119 rfl)) (hw _ (mg 118 rfl)) (hw _ (mg 117 rfl)) (by decide)) (hw _ (mg 118 rfl)) (hw _ (mg 95 rfl)) (hw _ (mg 120 rfl)) (by decide) X_a1 d22_21 pd_7 rfl rfl rfl rfl (by decide) (by decide) (by decide) (by decide) ?_
  refine Own.aloadN d22_24 rfl rfl ?_
  refine Own.aloadN d22_25 rfl rfl ?_
  refine Own.getF_ (host := "") (Or.inl (hw _ (mg 114 rfl))) Via.refl F_count_a1 d22_26 ?_
  refine Own.aloadN d22_29 rfl rfl ?_
  refine Own.callP_ a1 [Z0, (.ref a2)] [] 0 (rmPS0_1 l Z a0 hw [] a1 a2 t kt b kb zc y0 h0 n0 hn X_a2 F_value_a2 F_coder_a2 V_t X_a1 F_value_a1 F_coder_a1 F_count_a1 V_b S_C hz g_a1 g_b ne_a1_b ne_a2_b ne_t_b ne_a2_a1 ne_t_a1) (allS (mg 1 rfl) all0) (hw _ (mg 121 rfl)) (hw _ (mg 122 rfl)) (sel_own (hw _ (mg 124 rfl)) (hw _ (mg 123 rfl)) (hw _ (mg 122 rfl)) (by decide)) (hw _ (mg 123 rfl)) (hw _ (mg 95 rfl)) (hw _ (mg 125 rfl)) (by decide) X_a1 d22_30 pd_13 rfl rfl rfl rfl (by decide) (by decide) (by decide) (by decide) (fun v65 h65 S65 hq65 => ?_)
  obtain ⟨rfl, K66, V66⟩ := hq65
  replace X_a1 := X_a1.keep K66
  replace F_value_a1 := F_value_a1.keep K66 (ninS ne_a1_b nin0)
  replace F_coder_a1 := F_coder_a1.keep K66 (ninS ne_a1_b nin0)
  replace F_count_a1 := F_count_a1.keep K66 (ninS ne_a1_b nin0)
  have K := K.trans K66 (allS (Or.inl (mg 1 rfl)) all0)
  refine ⟨[], all0, ?_⟩
  refine OAt.cast (st' := []) rfl ?_
  refine Own.aloadN d22_33 rfl rfl ?_
  refine Own.dup d22_34 rfl ?_
  refine Own.getF_ (host := "") (Or.inl (hw _ (mg 114 rfl))) Via.refl F_count_a1 d22_35 ?_
  refine Own.iloadN d22_38 rfl ?_
  refine Own.iadd d22_39 ?_
  refine OAt.cast (st' := [(.int (1 : Int32)), (.ref a1)]) rfl ?_
  refine Own.putF_ (host := "") (Or.inl (hw _ (mg 114 rfl))) Via.refl F_count_a1 X_a1 (Or.inl (hw _ (mg 115 rfl))) (hw _ (mg 86 rfl)) (ty := .int) (by decide) rfl rfl g_a1 (mg 0 rfl) d22_40 (fun h67 W68 => ?_)
  replace F_count_a1 := F_count_a1.same W68
  replace F_value_a1 := F_value_a1.other W68 (Or.inr (slot_ne (Or.inl (hw _ (mg 100 rfl))) (Or.inl (hw _ (mg 115 rfl))) (by decide) (t := (.array .byte)) (t' := .int) (by decide) (by decide)))
  replace F_coder_a1 := F_coder_a1.other W68 (Or.inr (slot_ne (Or.inl (hw _ (mg 102 rfl))) (Or.inl (hw _ (mg 115 rfl))) (by decide) (t := .byte) (t' := .int) (by decide) (by decide)))
  replace V66 := V66.other W68 ne_b_a1
  have K := K.wr W68 (Or.inl (mg 0 rfl))
  refine Own.aloadN d22_43 rfl rfl ?_
  refine Own.ret_ref (t := (.object "java/lang/AbstractStringBuilder")) rfl rfl rfl d22_44 (by decide) (by decide) (fun Sf hSf => ?_)
  exact ⟨rfl, K, F_value_a1, F_coder_a1, F_count_a1, V66⟩
def Q_rmSA0_1 (Z : State) (a1 : Addr) (b : Addr) (kb : ClassId) (y0 : Value) (h0 : Heap) (n0 : Nat) (v : Option Value) (h : Heap) (Sf : Addr → Prop) : Prop := v = some (.ref a1) ∧ Keep h0 h [a1, b] ∧ FAv Z h a1 (.ref b) ∧ FAc Z h a1 Z0 ∧ FAn Z h a1 (.int (1 : Int32)) ∧ Arl Z h b kb .byte [y0, Z0, Z0, Z0, Z0, Z0, Z0, Z0, Z0, Z0, Z0, Z0, Z0, Z0, Z0, Z0]
theorem ef_rmSA0_1 (m : MethodId) (a1 : Addr) (a2 : Addr)  : entryFrame m #[(.ref a1), (.ref a2)] 2 = mkF m 0 #[.val (.ref a1), .val (.ref a2)] [] := by simp [entryFrame, mkF, argsToLocals, Value.category]
theorem rmSA0_1 (l : Launch) (Z : State) (a0 : Array Value) (hw : HW a0 Z) (ws : List Jvm.Cond) (a1 : Addr) (a2 : Addr) (t : Addr) (kt : ClassId) (b : Addr) (kb : ClassId) (zc : Int32) (y0 : Value) (h0 : Heap) (n0 : Nat) (hn : n0 ≤ h0.size) (X_a2 : XSt Z h0 a2) (F_value_a2 : FSv Z h0 a2 (.ref t)) (F_coder_a2 : FSc Z h0 a2 Z0) (V_t : Arl Z h0 t kt .byte [y0]) (X_a1 : Exa Z h0 a1 "java/lang/StringBuilder") (F_value_a1 : FAv Z h0 a1 (.ref b)) (F_coder_a1 : FAc Z h0 a1 Z0) (F_count_a1 : FAn Z h0 a1 Z0) (V_b : Arl Z h0 b kb .byte [Z0, Z0, Z0, Z0, Z0, Z0, Z0, Z0, Z0, Z0, Z0, Z0, Z0, Z0, Z0, Z0]) (S_C : Sta Z h0 "java/lang/String" "COMPACT_STRINGS" "Z" (.int zc)) (hz : ¬ zc = 0) (g_a1 : n0 ≤ a1) (g_b : n0 ≤ b) (ne_a1_b : a1 ≠ b) (ne_a2_b : a2 ≠ b) (ne_t_b : t ≠ b) (ne_a2_a1 : a2 ≠ a1) (ne_t_a1 : t ≠ a1) :
    Met own_EL l Z (⟨"java/lang/StringBuilder", "append", "(Ljava/lang/String;)Ljava/lang/StringBuilder;"⟩ : MethodName) jdk_67_method_7_code 2 (some (.object "java/lang/StringBuilder")) ({ frames := 4, cells := 0, slots := 0, locals := 94 } : Room) ws #[(.ref a1), (.ref a2)] h0 n0 [a1, b] (Q_rmSA0_1 Z a1 b kb y0 h0 n0) := by
  refine Met.of pn_21 (fun m => ef_rmSA0_1 m a1 a2) ?_
  have K := Keep.refl h0 [a1, b]
  refine Own.aloadN d21_0 rfl rfl ?_
  refine Own.aloadN d21_1 rfl rfl ?_
  refine Own.callU_ a1 [(.ref a2)] [] 0 (rmAA0_1 l Z a0 hw [] a1 a2 t kt b kb zc y0 h0 n0 hn X_a2 F_value_a2 F_coder_a2 V_t X_a1 F_value_a1 F_coder_a1 F_count_a1 V_b S_C hz g_a1 g_b ne_a1_b ne_a2_b ne_t_b ne_a2_a1 ne_t_a1) (allS (mg 0 rfl) (allS (mg 1 rfl) all0)) (hw _ (mg 108 rfl)) (same_own (face_same (hw _ (mg 119 rfl)) rfl) (hw _ (mg 109 rfl)) (by decide)) (hw _ (mg 109 rfl)) (hw _ (mg 110 rfl)) (hw _ (mg 95 rfl)) (hw _ (mg 112 rfl)) (by decide) (Ins.self X_a1) d21_2 pd_16 rfl rfl rfl rfl (by decide) (by decide) (by decide) (by decide) (fun v69 h69 S69 hq69 => ?_)
  obtain ⟨rfl, K70, G1, G2, G3, V70⟩ := hq69
  have K := K.trans K70 (allS (Or.inl (mg 0 rfl)) (allS (Or.inl (mg 1 rfl)) all0))
  have F_value_a1 := G1
  have F_coder_a1 := G2
  have F_count_a1 := G3
  refine ⟨[], all0, ?_⟩
  refine OAt.cast (st' := [(.ref a1)]) rfl ?_
  refine Own.pop d21_5 rfl ?_
  refine Own.aloadN d21_6 rfl rfl ?_
  refine Own.ret_ref (t := (.object "java/lang/StringBuilder")) rfl rfl rfl d21_7 (by decide) (by decide) (fun Sf hSf => ?_)
  exact ⟨rfl, K, F_value_a1, F_coder_a1, F_count_a1, V70⟩
def Q_rmGB0_2 (Z : State) (b : Addr) (kb : ClassId) (y0 : Value) (y1 : Value) (h0 : Heap) (n0 : Nat) (v : Option Value) (h : Heap) (Sf : Addr → Prop) : Prop := v = none ∧ Keep h0 h [b] ∧ Arl Z h b kb .byte [y0, y1, Z0, Z0, Z0, Z0, Z0, Z0, Z0, Z0, Z0, Z0, Z0, Z0, Z0, Z0]
theorem ef_rmGB0_2 (m : MethodId) (a2 : Addr) (b : Addr)  : entryFrame m #[(.ref a2), (.ref b), Z0, Z0] 4 = mkF m 0 #[.val (.ref a2), .val (.ref b), .val Z0, .val Z0] [] := by simp [entryFrame, mkF, argsToLocals, Value.category]
theorem rmGB0_2 (l : Launch) (Z : State) (a0 : Array Value) (hw : HW a0 Z) (ws : List Jvm.Cond) (a2 : Addr) (t : Addr) (kt : ClassId) (b : Addr) (kb : ClassId) (zc : Int32) (y0 : Value) (y1 : Value) (h0 : Heap) (n0 : Nat) (hn : n0 ≤ h0.size) (X_a2 : XSt Z h0 a2) (F_value_a2 : FSv Z h0 a2 (.ref t)) (F_coder_a2 : FSc Z h0 a2 Z0) (V_t : Arl Z h0 t kt .byte [y0, y1]) (V_b : Arl Z h0 b kb .byte [Z0, Z0, Z0, Z0, Z0, Z0, Z0, Z0, Z0, Z0, Z0, Z0, Z0, Z0, Z0, Z0]) (S_C : Sta Z h0 "java/lang/String" "COMPACT_STRINGS" "Z" (.int zc)) (hz : ¬ zc = 0) (g_b : n0 ≤ b) (ne_a2_b : a2 ≠ b) (ne_t_b : t ≠ b) :
    Met own_EL l Z (⟨"java/lang/String", "getBytes", "([BIB)V"⟩ : MethodName) jdk_42_method_147_code 4 none ({ frames := 1, cells := 0, slots := 0, locals := 51 } : Room) ws #[(.ref a2), (.ref b), Z0, Z0] h0 n0 [b] (Q_rmGB0_2 Z b kb y0 y1 h0 n0) := by
  refine Met.of pn_26 (fun m => ef_rmGB0_2 m a2 b) ?_
  have K := Keep.refl h0 [b]
  refine Own.aloadN d26_0 rfl rfl ?_
  refine Own.callVP a2 [] [] 0 (rmCO l Z a0 hw [] a2 zc h0 n0 hn F_coder_a2 S_C hz) (hw _ (mg 52 rfl)) (hw _ (mg 53 rfl)) (fun s hZ => notFace_of_selects (args := #[]) (mvT hZ (hw _ (mg 55 rfl)))) (hw _ (mg 55 rfl)) (hw _ (mg 54 rfl)) (hw _ (mg 7 rfl)) (hw _ (mg 56 rfl)) (by decide) X_a2 d26_1 pd_0 rfl rfl rfl rfl (by decide) (by decide) (by decide) (by decide) ?_
  refine Own.iloadN d26_4 rfl ?_
  refine Own.icmp_ne 28 d26_5 (by decide) rfl (fun q => absurd (by decide) q) (fun _ => ?_)
  refine Own.aloadN d26_8 rfl rfl ?_
  refine Own.getF_ (host := "") (Or.inl (hw _ (mg 33 rfl))) Via.refl F_value_a2 d26_9 ?_
  refine Own.iconst (0 : Int32) d26_12 rfl ?_
  refine Own.aloadN d26_13 rfl rfl ?_
  refine Own.iloadN d26_14 rfl ?_
  refine Own.iloadN d26_15 rfl ?_
  refine Own.ishl d26_16 ?_
  refine OAt.cast (st' := [Z0, (.ref b), Z0, (.ref t)]) rfl ?_
  refine Own.aloadN d26_17 rfl rfl ?_
  refine Own.getF_ (host := "") (Or.inl (hw _ (mg 33 rfl))) Via.refl F_value_a2 d26_18 ?_
  refine Own.arraylength_ (2 : Int32) V_t rfl d26_21 ?_
  refine Own.arraycopy_ (i := 0) (j := 0) (n := 2) 0 (hw _ (mg 137 rfl)) (hw _ (mg 140 rfl)) (hw _ (mg 138 rfl)) (hw _ (mg 139 rfl)) V_t V_b rfl rfl rfl rfl (Nat.le_of_ble_eq_true rfl) (Nat.le_of_ble_eq_true rfl) g_b (mg 0 rfl) rfl d26_22 (by decide) rfl (by decide) (fun h71 K71 V71 => ?_)
  clear V_b
  replace V71 : Arl Z h71 b kb .byte [y0, y1, Z0, Z0, Z0, Z0, Z0, Z0, Z0, Z0, Z0, Z0, Z0, Z0, Z0, Z0] := V71
  have K := K.trans K71 (allS (Or.inl (mg 0 rfl)) all0)
  refine Own.goto_ 43 d26_25 (by decide) rfl ?_
  refine Own.ret_void rfl d26_43 (by decide) (by decide) (fun Sf hSf => ?_)
  exact ⟨rfl, K, V71⟩
def Q_rmPS0_2 (Z : State) (b : Addr) (kb : ClassId) (y0 : Value) (y1 : Value) (h0 : Heap) (n0 : Nat) (v : Option Value) (h : Heap) (Sf : Addr → Prop) : Prop := v = none ∧ Keep h0 h [b] ∧ Arl Z h b kb .byte [y0, y1, Z0, Z0, Z0, Z0, Z0, Z0, Z0, Z0, Z0, Z0, Z0, Z0, Z0, Z0]
theorem ef_rmPS0_2 (m : MethodId) (a1 : Addr) (a2 : Addr)  : entryFrame m #[(.ref a1), Z0, (.ref a2)] 3 = mkF m 0 #[.val (.ref a1), .val Z0, .val (.ref a2)] [] := by simp [entryFrame, mkF, argsToLocals, Value.category]
theorem rmPS0_2 (l : Launch) (Z : State) (a0 : Array Value) (hw : HW a0 Z) (ws : List Jvm.Cond) (a1 : Addr) (a2 : Addr) (t : Addr) (kt : ClassId) (b : Addr) (kb : ClassId) (zc : Int32) (y0 : Value) (y1 : Value) (h0 : Heap) (n0 : Nat) (hn : n0 ≤ h0.size) (X_a2 : XSt Z h0 a2) (F_value_a2 : FSv Z h0 a2 (.ref t)) (F_coder_a2 : FSc Z h0 a2 Z0) (V_t : Arl Z h0 t kt .byte [y0, y1]) (X_a1 : Exa Z h0 a1 "java/lang/StringBuilder") (F_value_a1 : FAv Z h0 a1 (.ref b)) (F_coder_a1 : FAc Z h0 a1 Z0) (F_count_a1 : FAn Z h0 a1 Z0) (V_b : Arl Z h0 b kb .byte [Z0, Z0, Z0, Z0, Z0, Z0, Z0, Z0, Z0, Z0, Z0, Z0, Z0, Z0, Z0, Z0]) (S_C : Sta Z h0 "java/lang/String" "COMPACT_STRINGS" "Z" (.int zc)) (hz : ¬ zc = 0) (g_a1 : n0 ≤ a1) (g_b : n0 ≤ b) (ne_a1_b : a1 ≠ b) (ne_a2_b : a2 ≠ b) (ne_t_b : t ≠ b) (ne_a2_a1 : a2 ≠ a1) (ne_t_a1 : t ≠ a1) :
    Met own_EL l Z (⟨"java/lang/AbstractStringBuilder", "putStringAt", "(ILjava/lang/String;)V"⟩ : MethodName) jdk_68_method_73_code 3 none ({ frames := 2, cells := 0, slots := 0, locals := 66 } : Room) ws #[(.ref a1), Z0, (.ref a2)] h0 n0 [b] (Q_rmPS0_2 Z b kb y0 y1 h0 n0) := by
  refine Met.of pn_24 (fun m => ef_rmPS0_2 m a1 a2) ?_
  have K := Keep.refl h0 [b]
  refine Own.aloadN d24_0 rfl rfl ?_
  refine Own.aloadN d24_1 rfl rfl ?_
  refine Own.callP0 a1 [(.ref a2)] [] 0 (rmIF l Z a0 hw [] a1 a2 zc h0 n0 hn X_a2 F_coder_a2 F_coder_a1 S_C hz) (hw _ (mg 126 rfl)) (hw _ (mg 127 rfl)) (sel_own (hw _ (mg 129 rfl)) (hw _ (mg 128 rfl)) (hw _ (mg 127 rfl)) (by decide)) (hw _ (mg 128 rfl)) (hw _ (mg 95 rfl)) (hw _ (mg 130 rfl)) (by decide) X_a1 d24_2 pd_18 rfl rfl rfl rfl (by decide) (by decide) (by decide) (by decide) ?_
  refine Own.aloadN d24_5 rfl rfl ?_
  refine Own.aloadN d24_6 rfl rfl ?_
  refine Own.getF_ (host := "") (Or.inl (hw _ (mg 99 rfl))) Via.refl F_value_a1 d24_7 ?_
  refine Own.iloadN d24_10 rfl ?_
  refine Own.aloadN d24_11 rfl rfl ?_
  refine Own.getF_ (host := "") (Or.inl (hw _ (mg 101 rfl))) Via.refl F_coder_a1 d24_12 ?_
  refine Own.callV_ a2 [(.ref b), Z0, Z0] [] 0 (rmGB0_2 l Z a0 hw [] a2 t kt b kb zc y0 y1 h0 n0 hn X_a2 F_value_a2 F_coder_a2 V_t V_b S_C hz g_b ne_a2_b ne_t_b) (allS (mg 0 rfl) all0) (hw _ (mg 132 rfl)) (hw _ (mg 133 rfl)) (fun s hZ => notFace_of_selects (args := #[]) (mvT hZ (hw _ (mg 135 rfl)))) (hw _ (mg 135 rfl)) (hw _ (mg 134 rfl)) (hw _ (mg 7 rfl)) (hw _ (mg 136 rfl)) (by decide) X_a2 d24_15 pd_24 rfl rfl rfl rfl (by decide) (by decide) (by decide) (by decide) (fun v72 h72 S72 hq72 => ?_)
  obtain ⟨rfl, K73, V73⟩ := hq72
  have K := K.trans K73 (allS (Or.inl (mg 0 rfl)) all0)
  refine ⟨[], all0, ?_⟩
  refine OAt.cast (st' := []) rfl ?_
  refine Own.ret_void rfl d24_18 (by decide) (by decide) (fun Sf hSf => ?_)
  exact ⟨rfl, K, V73⟩
theorem ef_rmEC0_2 (m : MethodId) (a1 : Addr)  : entryFrame m #[(.ref a1), (.int (2 : Int32))] 3 = mkF m 0 #[.val (.ref a1), .val (.int (2 : Int32)), .unset] [] := by simp [entryFrame, mkF, argsToLocals, Value.category]
theorem rmEC0_2 (l : Launch) (Z : State) (a0 : Array Value) (hw : HW a0 Z) (ws : List Jvm.Cond) (a1 : Addr) (b : Addr) (kb : ClassId) (h0 : Heap) (n0 : Nat) (hn : n0 ≤ h0.size) (F_value_a1 : FAv Z h0 a1 (.ref b)) (F_coder_a1 : FAc Z h0 a1 Z0) (V_b : Arl Z h0 b kb .byte [Z0, Z0, Z0, Z0, Z0, Z0, Z0, Z0, Z0, Z0, Z0, Z0, Z0, Z0, Z0, Z0]) :
    Met own_EL l Z (⟨"java/lang/AbstractStringBuilder", "ensureCapacityInternal", "(I)V"⟩ : MethodName) jdk_68_method_9_code 3 none ({ frames := 0, cells := 0, slots := 0, locals := 0 } : Room) ws #[(.ref a1), (.int (2 : Int32))] h0 n0 [] (Pur0 h0) := by
  refine Met.of pn_23 (fun m => ef_rmEC0_2 m a1) ?_
  refine Own.aloadN d23_0 rfl rfl ?_
  refine Own.getF_ (host := "") (Or.inl (hw _ (mg 99 rfl))) Via.refl F_value_a1 d23_1 ?_
  refine Own.arraylength_ (16 : Int32) V_b rfl d23_4 ?_
  refine Own.aloadN d23_5 rfl rfl ?_
  refine Own.getF_ (host := "") (Or.inl (hw _ (mg 101 rfl))) Via.refl F_coder_a1 d23_6 ?_
  refine Own.ishr d23_9 ?_
  refine OAt.cast (st' := [(.int (16 : Int32))]) rfl ?_
  refine Own.istoreN #[.val (.ref a1), .val (.int (2 : Int32)), .val (.int (16 : Int32))] d23_10 rfl ?_
  refine Own.iloadN d23_11 rfl ?_
  refine Own.iloadN d23_12 rfl ?_
  refine Own.isub d23_13 ?_
  refine OAt.cast (st' := [(.int (-14 : Int32))]) rfl ?_
  refine Own.if_le 38 d23_14 (by decide) rfl (fun _ => ?_) (fun q => absurd q (by decide))
  refine Own.ret_void rfl d23_38 (by decide) (by decide) (fun Sf hSf => ?_)
  exact ⟨rfl, rfl⟩
def Q_rmAA0_2 (Z : State) (a1 : Addr) (b : Addr) (kb : ClassId) (y0 : Value) (y1 : Value) (h0 : Heap) (n0 : Nat) (v : Option Value) (h : Heap) (Sf : Addr → Prop) : Prop := v = some (.ref a1) ∧ Keep h0 h [a1, b] ∧ FAv Z h a1 (.ref b) ∧ FAc Z h a1 Z0 ∧ FAn Z h a1 (.int (2 : Int32)) ∧ Arl Z h b kb .byte [y0, y1, Z0, Z0, Z0, Z0, Z0, Z0, Z0, Z0, Z0, Z0, Z0, Z0, Z0, Z0]
theorem ef_rmAA0_2 (m : MethodId) (a1 : Addr) (a2 : Addr)  : entryFrame m #[(.ref a1), (.ref a2)] 3 = mkF m 0 #[.val (.ref a1), .val (.ref a2), .unset] [] := by simp [entryFrame, mkF, argsToLocals, Value.category]
theorem rmAA0_2 (l : Launch) (Z : State) (a0 : Array Value) (hw : HW a0 Z) (ws : List Jvm.Cond) (a1 : Addr) (a2 : Addr) (t : Addr) (kt : ClassId) (b : Addr) (kb : ClassId) (zc : Int32) (y0 : Value) (y1 : Value) (h0 : Heap) (n0 : Nat) (hn : n0 ≤ h0.size) (X_a2 : XSt Z h0 a2) (F_value_a2 : FSv Z h0 a2 (.ref t)) (F_coder_a2 : FSc Z h0 a2 Z0) (V_t : Arl Z h0 t kt .byte [y0, y1]) (X_a1 : Exa Z h0 a1 "java/lang/StringBuilder") (F_value_a1 : FAv Z h0 a1 (.ref b)) (F_coder_a1 : FAc Z h0 a1 Z0) (F_count_a1 : FAn Z h0 a1 Z0) (V_b : Arl Z h0 b kb .byte [Z0, Z0, Z0, Z0, Z0, Z0, Z0, Z0, Z0, Z0, Z0, Z0, Z0, Z0, Z0, Z0]) (S_C : Sta Z h0 "java/lang/String" "COMPACT_STRINGS" "Z" (.int zc)) (hz : ¬ zc = 0) (g_a1 : n0 ≤ a1) (g_b : n0 ≤ b) (ne_a1_b : a1 ≠ b) (ne_a2_b : a2 ≠ b) (ne_t_b : t ≠ b) (ne_a2_a1 : a2 ≠ a1) (ne_t_a1 : t ≠ a1) :
    Met own_EL l Z (⟨"java/lang/AbstractStringBuilder", "append", "(Ljava/lang/String;)Ljava/lang/AbstractStringBuilder;"⟩ : MethodName) jdk_68_method_22_code 3 (some (.object "java/lang/AbstractStringBuilder")) ({ frames := 3, cells := 0, slots := 0, locals := 80 } : Room) ws #[(.ref a1), (.ref a2)] h0 n0 [a1, b] (Q_rmAA0_2 Z a1 b kb y0 y1 h0 n0) := by
  refine Met.of pn_22 (fun m => ef_rmAA0_2 m a1 a2) ?_
  have ne_b_a1 := Ne.symm ne_a1_b
  have K := Keep.refl h0 [a1, b]
  refine Own.aloadN d22_0 rfl rfl ?_
  refine Own.ifnonnullYes 9 d22_1 (by decide) rfl ?_
  refine Own.aloadN d22_9 rfl rfl ?_
  refine Own.callVP a2 [] [] 0 (rm_len_2 l Z a0 hw [] a2 t kt _ zc h0 n0 hn X_a2 F_value_a2 F_coder_a2 V_t rfl S_C hz) (hw _ (mg 113 rfl)) (hw _ (mg 48 rfl)) (fun s hZ => notFace_of_selects (args := #[]) (mvT hZ (hw _ (mg 50 rfl)))) (hw _ (mg 50 rfl)) (hw _ (mg 49 rfl)) (hw _ (mg 7 rfl)) (hw _ (mg 51 rfl)) (by decide) X_a2 d22_10 pd_1 rfl rfl rfl rfl (by decide) (by decide) (by decide) (by decide) ?_
  refine Own.istoreN #[.val (.ref a1), .val (.ref a2), .val (.int (2 : Int32))] d22_13 rfl ?_
  refine Own.aloadN d22_14 rfl rfl ?_
  refine Own.aloadN d22_15 rfl rfl ?_
  refine Own.getF_ (host := "") (Or.inl (hw _ (mg 114 rfl))) Via.refl F_count_a1 d22_16 ?_
  refine Own.iloadN d22_19 rfl ?_
  refine Own.iadd d22_20 ?_
  refine OAt.cast (st' := [(.int (2 : Int32)), (.ref a1)]) rfl ?_
  refine Own.callP0 a1 [(.int (2 : Int32))] [] 0 (rmEC0_2 l Z a0 hw [] a1 b kb  h0 n0 hn F_value_a1 F_coder_a1 V_b) (hw _ (mg 116 rfl)) (hw _ (mg 117 rfl)) (sel_own (hw _ (mg 119 rfl)) (hw _ (mg 118 rfl)) (hw _ (mg 117 rfl)) (by decide)) (hw _ (mg 118 rfl)) (hw _ (mg 95 rfl)) (hw _ (mg 120 rfl)) (by decide) X_a1 d22_21 pd_7 rfl rfl rfl rfl (by decide) (by decide) (by decide) (by decide) ?_
  refine Own.aloadN d22_24 rfl rfl ?_
  refine Own.aloadN d22_25 rfl rfl ?_
  refine Own.getF_ (host := "") (Or.inl (hw _ (mg 114 rfl))) Via.refl F_count_a1 d22_26 ?_
  refine Own.aloadN d22_29 rfl rfl ?_
  refine Own.callP_ a1 [Z0, (.ref a2)] [] 0 (rmPS0_2 l Z a0 hw [] a1 a2 t kt b kb zc y0 y1 h0 n0 hn X_a2 F_value_a2 F_coder_a2 V_t X_a1 F_value_a1 F_coder_a1 F_count_a1 V_b S_C hz g_a1 g_b ne_a1_b ne_a2_b ne_t_b ne_a2_a1 ne_t_a1) (allS (mg 1 rfl) all0) (hw _ (mg 121 rfl)) (hw _ (mg 122 rfl)) (sel_own (hw _ (mg 124 rfl)) (hw _ (mg 123 rfl)) (hw _ (mg 122 rfl)) (by decide)) (hw _ (mg 123 rfl)) (hw _ (mg 95 rfl)) (hw _ (mg 125 rfl)) (by decide) X_a1 d22_30 pd_13 rfl rfl rfl rfl (by decide) (by decide) (by decide) (by decide) (fun v74 h74 S74 hq74 => ?_)
  obtain ⟨rfl, K75, V75⟩ := hq74
  replace X_a1 := X_a1.keep K75
  replace F_value_a1 := F_value_a1.keep K75 (ninS ne_a1_b nin0)
  replace F_coder_a1 := F_coder_a1.keep K75 (ninS ne_a1_b nin0)
  replace F_count_a1 := F_count_a1.keep K75 (ninS ne_a1_b nin0)
  have K := K.trans K75 (allS (Or.inl (mg 1 rfl)) all0)
  refine ⟨[], all0, ?_⟩
  refine OAt.cast (st' := []) rfl ?_
  refine Own.aloadN d22_33 rfl rfl ?_
  refine Own.dup d22_34 rfl ?_
  refine Own.getF_ (host := "") (Or.inl (hw _ (mg 114 rfl))) Via.refl F_count_a1 d22_35 ?_
  refine Own.iloadN d22_38 rfl ?_
  refine Own.iadd d22_39 ?_
  refine OAt.cast (st' := [(.int (2 : Int32)), (.ref a1)]) rfl ?_
  refine Own.putF_ (host := "") (Or.inl (hw _ (mg 114 rfl))) Via.refl F_count_a1 X_a1 (Or.inl (hw _ (mg 115 rfl))) (hw _ (mg 86 rfl)) (ty := .int) (by decide) rfl rfl g_a1 (mg 0 rfl) d22_40 (fun h76 W77 => ?_)
  replace F_count_a1 := F_count_a1.same W77
  replace F_value_a1 := F_value_a1.other W77 (Or.inr (slot_ne (Or.inl (hw _ (mg 100 rfl))) (Or.inl (hw _ (mg 115 rfl))) (by decide) (t := (.array .byte)) (t' := .int) (by decide) (by decide)))
  replace F_coder_a1 := F_coder_a1.other W77 (Or.inr (slot_ne (Or.inl (hw _ (mg 102 rfl))) (Or.inl (hw _ (mg 115 rfl))) (by decide) (t := .byte) (t' := .int) (by decide) (by decide)))
  replace V75 := V75.other W77 ne_b_a1
  have K := K.wr W77 (Or.inl (mg 0 rfl))
  refine Own.aloadN d22_43 rfl rfl ?_
  refine Own.ret_ref (t := (.object "java/lang/AbstractStringBuilder")) rfl rfl rfl d22_44 (by decide) (by decide) (fun Sf hSf => ?_)
  exact ⟨rfl, K, F_value_a1, F_coder_a1, F_count_a1, V75⟩
def Q_rmSA0_2 (Z : State) (a1 : Addr) (b : Addr) (kb : ClassId) (y0 : Value) (y1 : Value) (h0 : Heap) (n0 : Nat) (v : Option Value) (h : Heap) (Sf : Addr → Prop) : Prop := v = some (.ref a1) ∧ Keep h0 h [a1, b] ∧ FAv Z h a1 (.ref b) ∧ FAc Z h a1 Z0 ∧ FAn Z h a1 (.int (2 : Int32)) ∧ Arl Z h b kb .byte [y0, y1, Z0, Z0, Z0, Z0, Z0, Z0, Z0, Z0, Z0, Z0, Z0, Z0, Z0, Z0]
theorem ef_rmSA0_2 (m : MethodId) (a1 : Addr) (a2 : Addr)  : entryFrame m #[(.ref a1), (.ref a2)] 2 = mkF m 0 #[.val (.ref a1), .val (.ref a2)] [] := by simp [entryFrame, mkF, argsToLocals, Value.category]
theorem rmSA0_2 (l : Launch) (Z : State) (a0 : Array Value) (hw : HW a0 Z) (ws : List Jvm.Cond) (a1 : Addr) (a2 : Addr) (t : Addr) (kt : ClassId) (b : Addr) (kb : ClassId) (zc : Int32) (y0 : Value) (y1 : Value) (h0 : Heap) (n0 : Nat) (hn : n0 ≤ h0.size) (X_a2 : XSt Z h0 a2) (F_value_a2 : FSv Z h0 a2 (.ref t)) (F_coder_a2 : FSc Z h0 a2 Z0) (V_t : Arl Z h0 t kt .byte [y0, y1]) (X_a1 : Exa Z h0 a1 "java/lang/StringBuilder") (F_value_a1 : FAv Z h0 a1 (.ref b)) (F_coder_a1 : FAc Z h0 a1 Z0) (F_count_a1 : FAn Z h0 a1 Z0) (V_b : Arl Z h0 b kb .byte [Z0, Z0, Z0, Z0, Z0, Z0, Z0, Z0, Z0, Z0, Z0, Z0, Z0, Z0, Z0, Z0]) (S_C : Sta Z h0 "java/lang/String" "COMPACT_STRINGS" "Z" (.int zc)) (hz : ¬ zc = 0) (g_a1 : n0 ≤ a1) (g_b : n0 ≤ b) (ne_a1_b : a1 ≠ b) (ne_a2_b : a2 ≠ b) (ne_t_b : t ≠ b) (ne_a2_a1 : a2 ≠ a1) (ne_t_a1 : t ≠ a1) :
    Met own_EL l Z (⟨"java/lang/StringBuilder", "append", "(Ljava/lang/String;)Ljava/lang/StringBuilder;"⟩ : MethodName) jdk_67_method_7_code 2 (some (.object "java/lang/StringBuilder")) ({ frames := 4, cells := 0, slots := 0, locals := 94 } : Room) ws #[(.ref a1), (.ref a2)] h0 n0 [a1, b] (Q_rmSA0_2 Z a1 b kb y0 y1 h0 n0) := by
  refine Met.of pn_21 (fun m => ef_rmSA0_2 m a1 a2) ?_
  have K := Keep.refl h0 [a1, b]
  refine Own.aloadN d21_0 rfl rfl ?_
  refine Own.aloadN d21_1 rfl rfl ?_
  refine Own.callU_ a1 [(.ref a2)] [] 0 (rmAA0_2 l Z a0 hw [] a1 a2 t kt b kb zc y0 y1 h0 n0 hn X_a2 F_value_a2 F_coder_a2 V_t X_a1 F_value_a1 F_coder_a1 F_count_a1 V_b S_C hz g_a1 g_b ne_a1_b ne_a2_b ne_t_b ne_a2_a1 ne_t_a1) (allS (mg 0 rfl) (allS (mg 1 rfl) all0)) (hw _ (mg 108 rfl)) (same_own (face_same (hw _ (mg 119 rfl)) rfl) (hw _ (mg 109 rfl)) (by decide)) (hw _ (mg 109 rfl)) (hw _ (mg 110 rfl)) (hw _ (mg 95 rfl)) (hw _ (mg 112 rfl)) (by decide) (Ins.self X_a1) d21_2 pd_16 rfl rfl rfl rfl (by decide) (by decide) (by decide) (by decide) (fun v78 h78 S78 hq78 => ?_)
  obtain ⟨rfl, K79, G1, G2, G3, V79⟩ := hq78
  have K := K.trans K79 (allS (Or.inl (mg 0 rfl)) (allS (Or.inl (mg 1 rfl)) all0))
  have F_value_a1 := G1
  have F_coder_a1 := G2
  have F_count_a1 := G3
  refine ⟨[], all0, ?_⟩
  refine OAt.cast (st' := [(.ref a1)]) rfl ?_
  refine Own.pop d21_5 rfl ?_
  refine Own.aloadN d21_6 rfl rfl ?_
  refine Own.ret_ref (t := (.object "java/lang/StringBuilder")) rfl rfl rfl d21_7 (by decide) (by decide) (fun Sf hSf => ?_)
  exact ⟨rfl, K, F_value_a1, F_coder_a1, F_count_a1, V79⟩
def Q_rmGB1_1 (Z : State) (b : Addr) (kb : ClassId) (x0 : Value) (y0 : Value) (h0 : Heap) (n0 : Nat) (v : Option Value) (h : Heap) (Sf : Addr → Prop) : Prop := v = none ∧ Keep h0 h [b] ∧ Arl Z h b kb .byte [x0, y0, Z0, Z0, Z0, Z0, Z0, Z0, Z0, Z0, Z0, Z0, Z0, Z0, Z0, Z0]
theorem ef_rmGB1_1 (m : MethodId) (a2 : Addr) (b : Addr)  : entryFrame m #[(.ref a2), (.ref b), (.int (1 : Int32)), Z0] 4 = mkF m 0 #[.val (.ref a2), .val (.ref b), .val (.int (1 : Int32)), .val Z0] [] := by simp [entryFrame, mkF, argsToLocals, Value.category]
theorem rmGB1_1 (l : Launch) (Z : State) (a0 : Array Value) (hw : HW a0 Z) (ws : List Jvm.Cond) (a2 : Addr) (t : Addr) (kt : ClassId) (b : Addr) (kb : ClassId) (zc : Int32) (x0 : Value) (y0 : Value) (h0 : Heap) (n0 : Nat) (hn : n0 ≤ h0.size) (X_a2 : XSt Z h0 a2) (F_value_a2 : FSv Z h0 a2 (.ref t)) (F_coder_a2 : FSc Z h0 a2 Z0) (V_t : Arl Z h0 t kt .byte [y0]) (V_b : Arl Z h0 b kb .byte [x0, Z0, Z0, Z0, Z0, Z0, Z0, Z0, Z0, Z0, Z0, Z0, Z0, Z0, Z0, Z0]) (S_C : Sta Z h0 "java/lang/String" "COMPACT_STRINGS" "Z" (.int zc)) (hz : ¬ zc = 0) (g_b : n0 ≤ b) (ne_a2_b : a2 ≠ b) (ne_t_b : t ≠ b) :
    Met own_EL l Z (⟨"java/lang/String", "getBytes", "([BIB)V"⟩ : MethodName) jdk_42_method_147_code 4 none ({ frames := 1, cells := 0, slots := 0, locals := 51 } : Room) ws #[(.ref a2), (.ref b), (.int (1 : Int32)), Z0] h0 n0 [b] (Q_rmGB1_1 Z b kb x0 y0 h0 n0) := by
  refine Met.of pn_26 (fun m => ef_rmGB1_1 m a2 b) ?_
  have K := Keep.refl h0 [b]
  refine Own.aloadN d26_0 rfl rfl ?_
  refine Own.callVP a2 [] [] 0 (rmCO l Z a0 hw [] a2 zc h0 n0 hn F_coder_a2 S_C hz) (hw _ (mg 52 rfl)) (hw _ (mg 53 rfl)) (fun s hZ => notFace_of_selects (args := #[]) (mvT hZ (hw _ (mg 55 rfl)))) (hw _ (mg 55 rfl)) (hw _ (mg 54 rfl)) (hw _ (mg 7 rfl)) (hw _ (mg 56 rfl)) (by decide) X_a2 d26_1 pd_0 rfl rfl rfl rfl (by decide) (by decide) (by decide) (by decide) ?_
  refine Own.iloadN d26_4 rfl ?_
  refine Own.icmp_ne 28 d26_5 (by decide) rfl (fun q => absurd (by decide) q) (fun _ => ?_)
  refine Own.aloadN d26_8 rfl rfl ?_
  refine Own.getF_ (host := "") (Or.inl (hw _ (mg 33 rfl))) Via.refl F_value_a2 d26_9 ?_
  refine Own.iconst (0 : Int32) d26_12 rfl ?_
  refine Own.aloadN d26_13 rfl rfl ?_
  refine Own.iloadN d26_14 rfl ?_
  refine Own.iloadN d26_15 rfl ?_
  refine Own.ishl d26_16 ?_
  refine OAt.cast (st' := [(.int (1 : Int32)), (.ref b), Z0, (.ref t)]) rfl ?_
  refine Own.aloadN d26_17 rfl rfl ?_
  refine Own.getF_ (host := "") (Or.inl (hw _ (mg 33 rfl))) Via.refl F_value_a2 d26_18 ?_
  refine Own.arraylength_ (1 : Int32) V_t rfl d26_21 ?_
  refine Own.arraycopy_ (i := 0) (j := 1) (n := 1) 0 (hw _ (mg 137 rfl)) (hw _ (mg 140 rfl)) (hw _ (mg 138 rfl)) (hw _ (mg 139 rfl)) V_t V_b rfl rfl rfl rfl (Nat.le_of_ble_eq_true rfl) (Nat.le_of_ble_eq_true rfl) g_b (mg 0 rfl) rfl d26_22 (by decide) rfl (by decide) (fun h80 K80 V80 => ?_)
  clear V_b
  replace V80 : Arl Z h80 b kb .byte [x0, y0, Z0, Z0, Z0, Z0, Z0, Z0, Z0, Z0, Z0, Z0, Z0, Z0, Z0, Z0] := V80
  have K := K.trans K80 (allS (Or.inl (mg 0 rfl)) all0)
  refine Own.goto_ 43 d26_25 (by decide) rfl ?_
  refine Own.ret_void rfl d26_43 (by decide) (by decide) (fun Sf hSf => ?_)
  exact ⟨rfl, K, V80⟩
def Q_rmPS1_1 (Z : State) (b : Addr) (kb : ClassId) (x0 : Value) (y0 : Value) (h0 : Heap) (n0 : Nat) (v : Option Value) (h : Heap) (Sf : Addr → Prop) : Prop := v = none ∧ Keep h0 h [b] ∧ Arl Z h b kb .byte [x0, y0, Z0, Z0, Z0, Z0, Z0, Z0, Z0, Z0, Z0, Z0, Z0, Z0, Z0, Z0]
theorem ef_rmPS1_1 (m : MethodId) (a1 : Addr) (a2 : Addr)  : entryFrame m #[(.ref a1), (.int (1 : Int32)), (.ref a2)] 3 = mkF m 0 #[.val (.ref a1), .val (.int (1 : Int32)), .val (.ref a2)] [] := by simp [entryFrame, mkF, argsToLocals, Value.category]
theorem rmPS1_1 (l : Launch) (Z : State) (a0 : Array Value) (hw : HW a0 Z) (ws : List Jvm.Cond) (a1 : Addr) (a2 : Addr) (t : Addr) (kt : ClassId) (b : Addr) (kb : ClassId) (zc : Int32) (x0 : Value) (y0 : Value) (h0 : Heap) (n0 : Nat) (hn : n0 ≤ h0.size) (X_a2 : XSt Z h0 a2) (F_value_a2 : FSv Z h0 a2 (.ref t)) (F_coder_a2 : FSc Z h0 a2 Z0) (V_t : Arl Z h0 t kt .byte [y0]) (X_a1 : Exa Z h0 a1 "java/lang/StringBuilder") (F_value_a1 : FAv Z h0 a1 (.ref b)) (F_coder_a1 : FAc Z h0 a1 Z0) (F_count_a1 : FAn Z h0 a1 (.int (1 : Int32))) (V_b : Arl Z h0 b kb .byte [x0, Z0, Z0, Z0, Z0, Z0, Z0, Z0, Z0, Z0, Z0, Z0, Z0, Z0, Z0, Z0]) (S_C : Sta Z h0 "java/lang/String" "COMPACT_STRINGS" "Z" (.int zc)) (hz : ¬ zc = 0) (g_a1 : n0 ≤ a1) (g_b : n0 ≤ b) (ne_a1_b : a1 ≠ b) (ne_a2_b : a2 ≠ b) (ne_t_b : t ≠ b) (ne_a2_a1 : a2 ≠ a1) (ne_t_a1 : t ≠ a1) :
    Met own_EL l Z (⟨"java/lang/AbstractStringBuilder", "putStringAt", "(ILjava/lang/String;)V"⟩ : MethodName) jdk_68_method_73_code 3 none ({ frames := 2, cells := 0, slots := 0, locals := 66 } : Room) ws #[(.ref a1), (.int (1 : Int32)), (.ref a2)] h0 n0 [b] (Q_rmPS1_1 Z b kb x0 y0 h0 n0) := by
  refine Met.of pn_24 (fun m => ef_rmPS1_1 m a1 a2) ?_
  have K := Keep.refl h0 [b]
  refine Own.aloadN d24_0 rfl rfl ?_
  refine Own.aloadN d24_1 rfl rfl ?_
  refine Own.callP0 a1 [(.ref a2)] [] 0 (rmIF l Z a0 hw [] a1 a2 zc h0 n0 hn X_a2 F_coder_a2 F_coder_a1 S_C hz) (hw _ (mg 126 rfl)) (hw _ (mg 127 rfl)) (sel_own (hw _ (mg 129 rfl)) (hw _ (mg 128 rfl)) (hw _ (mg 127 rfl)) (by decide)) (hw _ (mg 128 rfl)) (hw _ (mg 95 rfl)) (hw _ (mg 130 rfl)) (by decide) X_a1 d24_2 pd_18 rfl rfl rfl rfl (by decide) (by decide) (by decide) (by decide) ?_
  refine Own.aloadN d24_5 rfl rfl ?_
  refine Own.aloadN d24_6 rfl rfl ?_
  refine Own.getF_ (host := "") (Or.inl (hw _ (mg 99 rfl))) Via.refl F_value_a1 d24_7 ?_
  refine Own.iloadN d24_10 rfl ?_
  refine Own.aloadN d24_11 rfl rfl ?_
  refine Own.getF_ (host := "") (Or.inl (hw _ (mg 101 rfl))) Via.refl F_coder_a1 d24_12 ?_
  refine Own.callV_ a2 [(.ref b), (.int (1 : Int32)), Z0] [] 0 (rmGB1_1 l Z a0 hw [] a2 t kt b kb zc x0 y0 h0 n0 hn X_a2 F_value_a2 F_coder_a2 V_t V_b S_C hz g_b ne_a2_b ne_t_b) (allS (mg 0 rfl) all0) (hw _ (mg 132 rfl)) (hw _ (mg 133 rfl)) (fun s hZ => notFace_of_selects (args := #[]) (mvT hZ (hw _ (mg 135 rfl)))) (hw _ (mg 135 rfl)) (hw _ (mg 134 rfl)) (hw _ (mg 7 rfl)) (hw _ (mg 136 rfl)) (by decide) X_a2 d24_15 pd_24 rfl rfl rfl rfl (by decide) (by decide) (by decide) (by decide) (fun v81 h81 S81 hq81 => ?_)
  obtain ⟨rfl, K82, V82⟩ := hq81
  have K := K.trans K82 (allS (Or.inl (mg 0 rfl)) all0)
  refine ⟨[], all0, ?_⟩
  refine OAt.cast (st' := []) rfl ?_
  refine Own.ret_void rfl d24_18 (by decide) (by decide) (fun Sf hSf => ?_)
  exact ⟨rfl, K, V82⟩
theorem ef_rmEC1_1 (m : MethodId) (a1 : Addr)  : entryFrame m #[(.ref a1), (.int (2 : Int32))] 3 = mkF m 0 #[.val (.ref a1), .val (.int (2 : Int32)), .unset] [] := by simp [entryFrame, mkF, argsToLocals, Value.category]
theorem rmEC1_1 (l : Launch) (Z : State) (a0 : Array Value) (hw : HW a0 Z) (ws : List Jvm.Cond) (a1 : Addr) (b : Addr) (kb : ClassId) (x0 : Value) (h0 : Heap) (n0 : Nat) (hn : n0 ≤ h0.size) (F_value_a1 : FAv Z h0 a1 (.ref b)) (F_coder_a1 : FAc Z h0 a1 Z0) (V_b : Arl Z h0 b kb .byte [x0, Z0, Z0, Z0, Z0, Z0, Z0, Z0, Z0, Z0, Z0, Z0, Z0, Z0, Z0, Z0]) :
    Met own_EL l Z (⟨"java/lang/AbstractStringBuilder", "ensureCapacityInternal", "(I)V"⟩ : MethodName) jdk_68_method_9_code 3 none ({ frames := 0, cells := 0, slots := 0, locals := 0 } : Room) ws #[(.ref a1), (.int (2 : Int32))] h0 n0 [] (Pur0 h0) := by
  refine Met.of pn_23 (fun m => ef_rmEC1_1 m a1) ?_
  refine Own.aloadN d23_0 rfl rfl ?_
  refine Own.getF_ (host := "") (Or.inl (hw _ (mg 99 rfl))) Via.refl F_value_a1 d23_1 ?_
  refine Own.arraylength_ (16 : Int32) V_b rfl d23_4 ?_
  refine Own.aloadN d23_5 rfl rfl ?_
  refine Own.getF_ (host := "") (Or.inl (hw _ (mg 101 rfl))) Via.refl F_coder_a1 d23_6 ?_
  refine Own.ishr d23_9 ?_
  refine OAt.cast (st' := [(.int (16 : Int32))]) rfl ?_
  refine Own.istoreN #[.val (.ref a1), .val (.int (2 : Int32)), .val (.int (16 : Int32))] d23_10 rfl ?_
  refine Own.iloadN d23_11 rfl ?_
  refine Own.iloadN d23_12 rfl ?_
  refine Own.isub d23_13 ?_
  refine OAt.cast (st' := [(.int (-14 : Int32))]) rfl ?_
  refine Own.if_le 38 d23_14 (by decide) rfl (fun _ => ?_) (fun q => absurd q (by decide))
  refine Own.ret_void rfl d23_38 (by decide) (by decide) (fun Sf hSf => ?_)
  exact ⟨rfl, rfl⟩
def Q_rmAA1_1 (Z : State) (a1 : Addr) (b : Addr) (kb : ClassId) (x0 : Value) (y0 : Value) (h0 : Heap) (n0 : Nat) (v : Option Value) (h : Heap) (Sf : Addr → Prop) : Prop := v = some (.ref a1) ∧ Keep h0 h [a1, b] ∧ FAv Z h a1 (.ref b) ∧ FAc Z h a1 Z0 ∧ FAn Z h a1 (.int (2 : Int32)) ∧ Arl Z h b kb .byte [x0, y0, Z0, Z0, Z0, Z0, Z0, Z0, Z0, Z0, Z0, Z0, Z0, Z0, Z0, Z0]
theorem ef_rmAA1_1 (m : MethodId) (a1 : Addr) (a2 : Addr)  : entryFrame m #[(.ref a1), (.ref a2)] 3 = mkF m 0 #[.val (.ref a1), .val (.ref a2), .unset] [] := by simp [entryFrame, mkF, argsToLocals, Value.category]
theorem rmAA1_1 (l : Launch) (Z : State) (a0 : Array Value) (hw : HW a0 Z) (ws : List Jvm.Cond) (a1 : Addr) (a2 : Addr) (t : Addr) (kt : ClassId) (b : Addr) (kb : ClassId) (zc : Int32) (x0 : Value) (y0 : Value) (h0 : Heap) (n0 : Nat) (hn : n0 ≤ h0.size) (X_a2 : XSt Z h0 a2) (F_value_a2 : FSv Z h0 a2 (.ref t)) (F_coder_a2 : FSc Z h0 a2 Z0) (V_t : Arl Z h0 t kt .byte [y0]) (X_a1 : Exa Z h0 a1 "java/lang/StringBuilder") (F_value_a1 : FAv Z h0 a1 (.ref b)) (F_coder_a1 : FAc Z h0 a1 Z0) (F_count_a1 : FAn Z h0 a1 (.int (1 : Int32))) (V_b : Arl Z h0 b kb .byte [x0, Z0, Z0, Z0, Z0, Z0, Z0, Z0, Z0, Z0, Z0, Z0, Z0, Z0, Z0, Z0]) (S_C : Sta Z h0 "java/lang/String" "COMPACT_STRINGS" "Z" (.int zc)) (hz : ¬ zc = 0) (g_a1 : n0 ≤ a1) (g_b : n0 ≤ b) (ne_a1_b : a1 ≠ b) (ne_a2_b : a2 ≠ b) (ne_t_b : t ≠ b) (ne_a2_a1 : a2 ≠ a1) (ne_t_a1 : t ≠ a1) :
    Met own_EL l Z (⟨"java/lang/AbstractStringBuilder", "append", "(Ljava/lang/String;)Ljava/lang/AbstractStringBuilder;"⟩ : MethodName) jdk_68_method_22_code 3 (some (.object "java/lang/AbstractStringBuilder")) ({ frames := 3, cells := 0, slots := 0, locals := 80 } : Room) ws #[(.ref a1), (.ref a2)] h0 n0 [a1, b] (Q_rmAA1_1 Z a1 b kb x0 y0 h0 n0) := by
  refine Met.of pn_22 (fun m => ef_rmAA1_1 m a1 a2) ?_
  have ne_b_a1 := Ne.symm ne_a1_b
  have K := Keep.refl h0 [a1, b]
  refine Own.aloadN d22_0 rfl rfl ?_
  refine Own.ifnonnullYes 9 d22_1 (by decide) rfl ?_
  refine Own.aloadN d22_9 rfl rfl ?_
  refine Own.callVP a2 [] [] 0 (rm_len_1 l Z a0 hw [] a2 t kt _ zc h0 n0 hn X_a2 F_value_a2 F_coder_a2 V_t rfl S_C hz) (hw _ (mg 113 rfl)) (hw _ (mg 48 rfl)) (fun s hZ => notFace_of_selects (args := #[]) (mvT hZ (hw _ (mg 50 rfl)))) (hw _ (mg 50 rfl)) (hw _ (mg 49 rfl)) (hw _ (mg 7 rfl)) (hw _ (mg 51 rfl)) (by decide) X_a2 d22_10 pd_1 rfl rfl rfl rfl (by decide) (by decide) (by decide) (by decide) ?_
  refine Own.istoreN #[.val (.ref a1), .val (.ref a2), .val (.int (1 : Int32))] d22_13 rfl ?_
  refine Own.aloadN d22_14 rfl rfl ?_
  refine Own.aloadN d22_15 rfl rfl ?_
  refine Own.getF_ (host := "") (Or.inl (hw _ (mg 114 rfl))) Via.refl F_count_a1 d22_16 ?_
  refine Own.iloadN d22_19 rfl ?_
  refine Own.iadd d22_20 ?_
  refine OAt.cast (st' := [(.int (2 : Int32)), (.ref a1)]) rfl ?_
  refine Own.callP0 a1 [(.int (2 : Int32))] [] 0 (rmEC1_1 l Z a0 hw [] a1 b kb x0 h0 n0 hn F_value_a1 F_coder_a1 V_b) (hw _ (mg 116 rfl)) (hw _ (mg 117 rfl)) (sel_own (hw _ (mg 119 rfl)) (hw _ (mg 118 rfl)) (hw _ (mg 117 rfl)) (by decide)) (hw _ (mg 118 rfl)) (hw _ (mg 95 rfl)) (hw _ (mg 120 rfl)) (by decide) X_a1 d22_21 pd_7 rfl rfl rfl rfl (by decide) (by decide) (by decide) (by decide) ?_
  refine Own.aloadN d22_24 rfl rfl ?_
  refine Own.aloadN d22_25 rfl rfl ?_
  refine Own.getF_ (host := "") (Or.inl (hw _ (mg 114 rfl))) Via.refl F_count_a1 d22_26 ?_
  refine Own.aloadN d22_29 rfl rfl ?_
  refine Own.callP_ a1 [(.int (1 : Int32)), (.ref a2)] [] 0 (rmPS1_1 l Z a0 hw [] a1 a2 t kt b kb zc x0 y0 h0 n0 hn X_a2 F_value_a2 F_coder_a2 V_t X_a1 F_value_a1 F_coder_a1 F_count_a1 V_b S_C hz g_a1 g_b ne_a1_b ne_a2_b ne_t_b ne_a2_a1 ne_t_a1) (allS (mg 1 rfl) all0) (hw _ (mg 121 rfl)) (hw _ (mg 122 rfl)) (sel_own (hw _ (mg 124 rfl)) (hw _ (mg 123 rfl)) (hw _ (mg 122 rfl)) (by decide)) (hw _ (mg 123 rfl)) (hw _ (mg 95 rfl)) (hw _ (mg 125 rfl)) (by decide) X_a1 d22_30 pd_13 rfl rfl rfl rfl (by decide) (by decide) (by decide) (by decide) (fun v83 h83 S83 hq83 => ?_)
  obtain ⟨rfl, K84, V84⟩ := hq83
  replace X_a1 := X_a1.keep K84
  replace F_value_a1 := F_value_a1.keep K84 (ninS ne_a1_b nin0)
  replace F_coder_a1 := F_coder_a1.keep K84 (ninS ne_a1_b nin0)
  replace F_count_a1 := F_count_a1.keep K84 (ninS ne_a1_b nin0)
  have K := K.trans K84 (allS (Or.inl (mg 1 rfl)) all0)
  refine ⟨[], all0, ?_⟩
  refine OAt.cast (st' := []) rfl ?_
  refine Own.aloadN d22_33 rfl rfl ?_
  refine Own.dup d22_34 rfl ?_
  refine Own.getF_ (host := "") (Or.inl (hw _ (mg 114 rfl))) Via.refl F_count_a1 d22_35 ?_
  refine Own.iloadN d22_38 rfl ?_
  refine Own.iadd d22_39 ?_
  refine OAt.cast (st' := [(.int (2 : Int32)), (.ref a1)]) rfl ?_
  refine Own.putF_ (host := "") (Or.inl (hw _ (mg 114 rfl))) Via.refl F_count_a1 X_a1 (Or.inl (hw _ (mg 115 rfl))) (hw _ (mg 86 rfl)) (ty := .int) (by decide) rfl rfl g_a1 (mg 0 rfl) d22_40 (fun h85 W86 => ?_)
  replace F_count_a1 := F_count_a1.same W86
  replace F_value_a1 := F_value_a1.other W86 (Or.inr (slot_ne (Or.inl (hw _ (mg 100 rfl))) (Or.inl (hw _ (mg 115 rfl))) (by decide) (t := (.array .byte)) (t' := .int) (by decide) (by decide)))
  replace F_coder_a1 := F_coder_a1.other W86 (Or.inr (slot_ne (Or.inl (hw _ (mg 102 rfl))) (Or.inl (hw _ (mg 115 rfl))) (by decide) (t := .byte) (t' := .int) (by decide) (by decide)))
  replace V84 := V84.other W86 ne_b_a1
  have K := K.wr W86 (Or.inl (mg 0 rfl))
  refine Own.aloadN d22_43 rfl rfl ?_
  refine Own.ret_ref (t := (.object "java/lang/AbstractStringBuilder")) rfl rfl rfl d22_44 (by decide) (by decide) (fun Sf hSf => ?_)
  exact ⟨rfl, K, F_value_a1, F_coder_a1, F_count_a1, V84⟩
def Q_rmSA1_1 (Z : State) (a1 : Addr) (b : Addr) (kb : ClassId) (x0 : Value) (y0 : Value) (h0 : Heap) (n0 : Nat) (v : Option Value) (h : Heap) (Sf : Addr → Prop) : Prop := v = some (.ref a1) ∧ Keep h0 h [a1, b] ∧ FAv Z h a1 (.ref b) ∧ FAc Z h a1 Z0 ∧ FAn Z h a1 (.int (2 : Int32)) ∧ Arl Z h b kb .byte [x0, y0, Z0, Z0, Z0, Z0, Z0, Z0, Z0, Z0, Z0, Z0, Z0, Z0, Z0, Z0]
theorem ef_rmSA1_1 (m : MethodId) (a1 : Addr) (a2 : Addr)  : entryFrame m #[(.ref a1), (.ref a2)] 2 = mkF m 0 #[.val (.ref a1), .val (.ref a2)] [] := by simp [entryFrame, mkF, argsToLocals, Value.category]
theorem rmSA1_1 (l : Launch) (Z : State) (a0 : Array Value) (hw : HW a0 Z) (ws : List Jvm.Cond) (a1 : Addr) (a2 : Addr) (t : Addr) (kt : ClassId) (b : Addr) (kb : ClassId) (zc : Int32) (x0 : Value) (y0 : Value) (h0 : Heap) (n0 : Nat) (hn : n0 ≤ h0.size) (X_a2 : XSt Z h0 a2) (F_value_a2 : FSv Z h0 a2 (.ref t)) (F_coder_a2 : FSc Z h0 a2 Z0) (V_t : Arl Z h0 t kt .byte [y0]) (X_a1 : Exa Z h0 a1 "java/lang/StringBuilder") (F_value_a1 : FAv Z h0 a1 (.ref b)) (F_coder_a1 : FAc Z h0 a1 Z0) (F_count_a1 : FAn Z h0 a1 (.int (1 : Int32))) (V_b : Arl Z h0 b kb .byte [x0, Z0, Z0, Z0, Z0, Z0, Z0, Z0, Z0, Z0, Z0, Z0, Z0, Z0, Z0, Z0]) (S_C : Sta Z h0 "java/lang/String" "COMPACT_STRINGS" "Z" (.int zc)) (hz : ¬ zc = 0) (g_a1 : n0 ≤ a1) (g_b : n0 ≤ b) (ne_a1_b : a1 ≠ b) (ne_a2_b : a2 ≠ b) (ne_t_b : t ≠ b) (ne_a2_a1 : a2 ≠ a1) (ne_t_a1 : t ≠ a1) :
    Met own_EL l Z (⟨"java/lang/StringBuilder", "append", "(Ljava/lang/String;)Ljava/lang/StringBuilder;"⟩ : MethodName) jdk_67_method_7_code 2 (some (.object "java/lang/StringBuilder")) ({ frames := 4, cells := 0, slots := 0, locals := 94 } : Room) ws #[(.ref a1), (.ref a2)] h0 n0 [a1, b] (Q_rmSA1_1 Z a1 b kb x0 y0 h0 n0) := by
  refine Met.of pn_21 (fun m => ef_rmSA1_1 m a1 a2) ?_
  have K := Keep.refl h0 [a1, b]
  refine Own.aloadN d21_0 rfl rfl ?_
  refine Own.aloadN d21_1 rfl rfl ?_
  refine Own.callU_ a1 [(.ref a2)] [] 0 (rmAA1_1 l Z a0 hw [] a1 a2 t kt b kb zc x0 y0 h0 n0 hn X_a2 F_value_a2 F_coder_a2 V_t X_a1 F_value_a1 F_coder_a1 F_count_a1 V_b S_C hz g_a1 g_b ne_a1_b ne_a2_b ne_t_b ne_a2_a1 ne_t_a1) (allS (mg 0 rfl) (allS (mg 1 rfl) all0)) (hw _ (mg 108 rfl)) (same_own (face_same (hw _ (mg 119 rfl)) rfl) (hw _ (mg 109 rfl)) (by decide)) (hw _ (mg 109 rfl)) (hw _ (mg 110 rfl)) (hw _ (mg 95 rfl)) (hw _ (mg 112 rfl)) (by decide) (Ins.self X_a1) d21_2 pd_16 rfl rfl rfl rfl (by decide) (by decide) (by decide) (by decide) (fun v87 h87 S87 hq87 => ?_)
  obtain ⟨rfl, K88, G1, G2, G3, V88⟩ := hq87
  have K := K.trans K88 (allS (Or.inl (mg 0 rfl)) (allS (Or.inl (mg 1 rfl)) all0))
  have F_value_a1 := G1
  have F_coder_a1 := G2
  have F_count_a1 := G3
  refine ⟨[], all0, ?_⟩
  refine OAt.cast (st' := [(.ref a1)]) rfl ?_
  refine Own.pop d21_5 rfl ?_
  refine Own.aloadN d21_6 rfl rfl ?_
  refine Own.ret_ref (t := (.object "java/lang/StringBuilder")) rfl rfl rfl d21_7 (by decide) (by decide) (fun Sf hSf => ?_)
  exact ⟨rfl, K, F_value_a1, F_coder_a1, F_count_a1, V88⟩
def Q_rmGB2_1 (Z : State) (b : Addr) (kb : ClassId) (x0 : Value) (x1 : Value) (y0 : Value) (h0 : Heap) (n0 : Nat) (v : Option Value) (h : Heap) (Sf : Addr → Prop) : Prop := v = none ∧ Keep h0 h [b] ∧ Arl Z h b kb .byte [x0, x1, y0, Z0, Z0, Z0, Z0, Z0, Z0, Z0, Z0, Z0, Z0, Z0, Z0, Z0]
theorem ef_rmGB2_1 (m : MethodId) (a2 : Addr) (b : Addr)  : entryFrame m #[(.ref a2), (.ref b), (.int (2 : Int32)), Z0] 4 = mkF m 0 #[.val (.ref a2), .val (.ref b), .val (.int (2 : Int32)), .val Z0] [] := by simp [entryFrame, mkF, argsToLocals, Value.category]
theorem rmGB2_1 (l : Launch) (Z : State) (a0 : Array Value) (hw : HW a0 Z) (ws : List Jvm.Cond) (a2 : Addr) (t : Addr) (kt : ClassId) (b : Addr) (kb : ClassId) (zc : Int32) (x0 : Value) (x1 : Value) (y0 : Value) (h0 : Heap) (n0 : Nat) (hn : n0 ≤ h0.size) (X_a2 : XSt Z h0 a2) (F_value_a2 : FSv Z h0 a2 (.ref t)) (F_coder_a2 : FSc Z h0 a2 Z0) (V_t : Arl Z h0 t kt .byte [y0]) (V_b : Arl Z h0 b kb .byte [x0, x1, Z0, Z0, Z0, Z0, Z0, Z0, Z0, Z0, Z0, Z0, Z0, Z0, Z0, Z0]) (S_C : Sta Z h0 "java/lang/String" "COMPACT_STRINGS" "Z" (.int zc)) (hz : ¬ zc = 0) (g_b : n0 ≤ b) (ne_a2_b : a2 ≠ b) (ne_t_b : t ≠ b) :
    Met own_EL l Z (⟨"java/lang/String", "getBytes", "([BIB)V"⟩ : MethodName) jdk_42_method_147_code 4 none ({ frames := 1, cells := 0, slots := 0, locals := 51 } : Room) ws #[(.ref a2), (.ref b), (.int (2 : Int32)), Z0] h0 n0 [b] (Q_rmGB2_1 Z b kb x0 x1 y0 h0 n0) := by
  refine Met.of pn_26 (fun m => ef_rmGB2_1 m a2 b) ?_
  have K := Keep.refl h0 [b]
  refine Own.aloadN d26_0 rfl rfl ?_
  refine Own.callVP a2 [] [] 0 (rmCO l Z a0 hw [] a2 zc h0 n0 hn F_coder_a2 S_C hz) (hw _ (mg 52 rfl)) (hw _ (mg 53 rfl)) (fun s hZ => notFace_of_selects (args := #[]) (mvT hZ (hw _ (mg 55 rfl)))) (hw _ (mg 55 rfl)) (hw _ (mg 54 rfl)) (hw _ (mg 7 rfl)) (hw _ (mg 56 rfl)) (by decide) X_a2 d26_1 pd_0 rfl rfl rfl rfl (by decide) (by decide) (by decide) (by decide) ?_
  refine Own.iloadN d26_4 rfl ?_
  refine Own.icmp_ne 28 d26_5 (by decide) rfl (fun q => absurd (by decide) q) (fun _ => ?_)
  refine Own.aloadN d26_8 rfl rfl ?_
  refine Own.getF_ (host := "") (Or.inl (hw _ (mg 33 rfl))) Via.refl F_value_a2 d26_9 ?_
  refine Own.iconst (0 : Int32) d26_12 rfl ?_
  refine Own.aloadN d26_13 rfl rfl ?_
  refine Own.iloadN d26_14 rfl ?_
  refine Own.iloadN d26_15 rfl ?_
  refine Own.ishl d26_16 ?_
  refine OAt.cast (st' := [(.int (2 : Int32)), (.ref b), Z0, (.ref t)]) rfl ?_
  refine Own.aloadN d26_17 rfl rfl ?_
  refine Own.getF_ (host := "") (Or.inl (hw _ (mg 33 rfl))) Via.refl F_value_a2 d26_18 ?_
  refine Own.arraylength_ (1 : Int32) V_t rfl d26_21 ?_
  refine Own.arraycopy_ (i := 0) (j := 2) (n := 1) 0 (hw _ (mg 137 rfl)) (hw _ (mg 140 rfl)) (hw _ (mg 138 rfl)) (hw _ (mg 139 rfl)) V_t V_b rfl rfl rfl rfl (Nat.le_of_ble_eq_true rfl) (Nat.le_of_ble_eq_true rfl) g_b (mg 0 rfl) rfl d26_22 (by decide) rfl (by decide) (fun h89 K89 V89 => ?_)
  clear V_b
  replace V89 : Arl Z h89 b kb .byte [x0, x1, y0, Z0, Z0, Z0, Z0, Z0, Z0, Z0, Z0, Z0, Z0, Z0, Z0, Z0] := V89
  have K := K.trans K89 (allS (Or.inl (mg 0 rfl)) all0)
  refine Own.goto_ 43 d26_25 (by decide) rfl ?_
  refine Own.ret_void rfl d26_43 (by decide) (by decide) (fun Sf hSf => ?_)
  exact ⟨rfl, K, V89⟩
def Q_rmPS2_1 (Z : State) (b : Addr) (kb : ClassId) (x0 : Value) (x1 : Value) (y0 : Value) (h0 : Heap) (n0 : Nat) (v : Option Value) (h : Heap) (Sf : Addr → Prop) : Prop := v = none ∧ Keep h0 h [b] ∧ Arl Z h b kb .byte [x0, x1, y0, Z0, Z0, Z0, Z0, Z0, Z0, Z0, Z0, Z0, Z0, Z0, Z0, Z0]
theorem ef_rmPS2_1 (m : MethodId) (a1 : Addr) (a2 : Addr)  : entryFrame m #[(.ref a1), (.int (2 : Int32)), (.ref a2)] 3 = mkF m 0 #[.val (.ref a1), .val (.int (2 : Int32)), .val (.ref a2)] [] := by simp [entryFrame, mkF, argsToLocals, Value.category]
theorem rmPS2_1 (l : Launch) (Z : State) (a0 : Array Value) (hw : HW a0 Z) (ws : List Jvm.Cond) (a1 : Addr) (a2 : Addr) (t : Addr) (kt : ClassId) (b : Addr) (kb : ClassId) (zc : Int32) (x0 : Value) (x1 : Value) (y0 : Value) (h0 : Heap) (n0 : Nat) (hn : n0 ≤ h0.size) (X_a2 : XSt Z h0 a2) (F_value_a2 : FSv Z h0 a2 (.ref t)) (F_coder_a2 : FSc Z h0 a2 Z0) (V_t : Arl Z h0 t kt .byte [y0]) (X_a1 : Exa Z h0 a1 "java/lang/StringBuilder") (F_value_a1 : FAv Z h0 a1 (.ref b)) (F_coder_a1 : FAc Z h0 a1 Z0) (F_count_a1 : FAn Z h0 a1 (.int (2 : Int32))) (V_b : Arl Z h0 b kb .byte [x0, x1, Z0, Z0, Z0, Z0, Z0, Z0, Z0, Z0, Z0, Z0, Z0, Z0, Z0, Z0]) (S_C : Sta Z h0 "java/lang/String" "COMPACT_STRINGS" "Z" (.int zc)) (hz : ¬ zc = 0) (g_a1 : n0 ≤ a1) (g_b : n0 ≤ b) (ne_a1_b : a1 ≠ b) (ne_a2_b : a2 ≠ b) (ne_t_b : t ≠ b) (ne_a2_a1 : a2 ≠ a1) (ne_t_a1 : t ≠ a1) :
    Met own_EL l Z (⟨"java/lang/AbstractStringBuilder", "putStringAt", "(ILjava/lang/String;)V"⟩ : MethodName) jdk_68_method_73_code 3 none ({ frames := 2, cells := 0, slots := 0, locals := 66 } : Room) ws #[(.ref a1), (.int (2 : Int32)), (.ref a2)] h0 n0 [b] (Q_rmPS2_1 Z b kb x0 x1 y0 h0 n0) := by
  refine Met.of pn_24 (fun m => ef_rmPS2_1 m a1 a2) ?_
  have K := Keep.refl h0 [b]
  refine Own.aloadN d24_0 rfl rfl ?_
  refine Own.aloadN d24_1 rfl rfl ?_
  refine Own.callP0 a1 [(.ref a2)] [] 0 (rmIF l Z a0 hw [] a1 a2 zc h0 n0 hn X_a2 F_coder_a2 F_coder_a1 S_C hz) (hw _ (mg 126 rfl)) (hw _ (mg 127 rfl)) (sel_own (hw _ (mg 129 rfl)) (hw _ (mg 128 rfl)) (hw _ (mg 127 rfl)) (by decide)) (hw _ (mg 128 rfl)) (hw _ (mg 95 rfl)) (hw _ (mg 130 rfl)) (by decide) X_a1 d24_2 pd_18 rfl rfl rfl rfl (by decide) (by decide) (by decide) (by decide) ?_
  refine Own.aloadN d24_5 rfl rfl ?_
  refine Own.aloadN d24_6 rfl rfl ?_
  refine Own.getF_ (host := "") (Or.inl (hw _ (mg 99 rfl))) Via.refl F_value_a1 d24_7 ?_
  refine Own.iloadN d24_10 rfl ?_
  refine Own.aloadN d24_11 rfl rfl ?_
  refine Own.getF_ (host := "") (Or.inl (hw _ (mg 101 rfl))) Via.refl F_coder_a1 d24_12 ?_
  refine Own.callV_ a2 [(.ref b), (.int (2 : Int32)), Z0] [] 0 (rmGB2_1 l Z a0 hw [] a2 t kt b kb zc x0 x1 y0 h0 n0 hn X_a2 F_value_a2 F_coder_a2 V_t V_b S_C hz g_b ne_a2_b ne_t_b) (allS (mg 0 rfl) all0) (hw _ (mg 132 rfl)) (hw _ (mg 133 rfl)) (fun s hZ => notFace_of_selects (args := #[]) (mvT hZ (hw _ (mg 135 rfl)))) (hw _ (mg 135 rfl)) (hw _ (mg 134 rfl)) (hw _ (mg 7 rfl)) (hw _ (mg 136 rfl)) (by decide) X_a2 d24_15 pd_24 rfl rfl rfl rfl (by decide) (by decide) (by decide) (by decide) (fun v90 h90 S90 hq90 => ?_)
  obtain ⟨rfl, K91, V91⟩ := hq90
  have K := K.trans K91 (allS (Or.inl (mg 0 rfl)) all0)
  refine ⟨[], all0, ?_⟩
  refine OAt.cast (st' := []) rfl ?_
  refine Own.ret_void rfl d24_18 (by decide) (by decide) (fun Sf hSf => ?_)
  exact ⟨rfl, K, V91⟩
theorem ef_rmEC2_1 (m : MethodId) (a1 : Addr)  : entryFrame m #[(.ref a1), (.int (3 : Int32))] 3 = mkF m 0 #[.val (.ref a1), .val (.int (3 : Int32)), .unset] [] := by simp [entryFrame, mkF, argsToLocals, Value.category]
theorem rmEC2_1 (l : Launch) (Z : State) (a0 : Array Value) (hw : HW a0 Z) (ws : List Jvm.Cond) (a1 : Addr) (b : Addr) (kb : ClassId) (x0 : Value) (x1 : Value) (h0 : Heap) (n0 : Nat) (hn : n0 ≤ h0.size) (F_value_a1 : FAv Z h0 a1 (.ref b)) (F_coder_a1 : FAc Z h0 a1 Z0) (V_b : Arl Z h0 b kb .byte [x0, x1, Z0, Z0, Z0, Z0, Z0, Z0, Z0, Z0, Z0, Z0, Z0, Z0, Z0, Z0]) :
    Met own_EL l Z (⟨"java/lang/AbstractStringBuilder", "ensureCapacityInternal", "(I)V"⟩ : MethodName) jdk_68_method_9_code 3 none ({ frames := 0, cells := 0, slots := 0, locals := 0 } : Room) ws #[(.ref a1), (.int (3 : Int32))] h0 n0 [] (Pur0 h0) := by
  refine Met.of pn_23 (fun m => ef_rmEC2_1 m a1) ?_
  refine Own.aloadN d23_0 rfl rfl ?_
  refine Own.getF_ (host := "") (Or.inl (hw _ (mg 99 rfl))) Via.refl F_value_a1 d23_1 ?_
  refine Own.arraylength_ (16 : Int32) V_b rfl d23_4 ?_
  refine Own.aloadN d23_5 rfl rfl ?_
  refine Own.getF_ (host := "") (Or.inl (hw _ (mg 101 rfl))) Via.refl F_coder_a1 d23_6 ?_
  refine Own.ishr d23_9 ?_
  refine OAt.cast (st' := [(.int (16 : Int32))]) rfl ?_
  refine Own.istoreN #[.val (.ref a1), .val (.int (3 : Int32)), .val (.int (16 : Int32))] d23_10 rfl ?_
  refine Own.iloadN d23_11 rfl ?_
  refine Own.iloadN d23_12 rfl ?_
  refine Own.isub d23_13 ?_
  refine OAt.cast (st' := [(.int (-13 : Int32))]) rfl ?_
  refine Own.if_le 38 d23_14 (by decide) rfl (fun _ => ?_) (fun q => absurd q (by decide))
  refine Own.ret_void rfl d23_38 (by decide) (by decide) (fun Sf hSf => ?_)
  exact ⟨rfl, rfl⟩
def Q_rmAA2_1 (Z : State) (a1 : Addr) (b : Addr) (kb : ClassId) (x0 : Value) (x1 : Value) (y0 : Value) (h0 : Heap) (n0 : Nat) (v : Option Value) (h : Heap) (Sf : Addr → Prop) : Prop := v = some (.ref a1) ∧ Keep h0 h [a1, b] ∧ FAv Z h a1 (.ref b) ∧ FAc Z h a1 Z0 ∧ FAn Z h a1 (.int (3 : Int32)) ∧ Arl Z h b kb .byte [x0, x1, y0, Z0, Z0, Z0, Z0, Z0, Z0, Z0, Z0, Z0, Z0, Z0, Z0, Z0]
theorem ef_rmAA2_1 (m : MethodId) (a1 : Addr) (a2 : Addr)  : entryFrame m #[(.ref a1), (.ref a2)] 3 = mkF m 0 #[.val (.ref a1), .val (.ref a2), .unset] [] := by simp [entryFrame, mkF, argsToLocals, Value.category]
theorem rmAA2_1 (l : Launch) (Z : State) (a0 : Array Value) (hw : HW a0 Z) (ws : List Jvm.Cond) (a1 : Addr) (a2 : Addr) (t : Addr) (kt : ClassId) (b : Addr) (kb : ClassId) (zc : Int32) (x0 : Value) (x1 : Value) (y0 : Value) (h0 : Heap) (n0 : Nat) (hn : n0 ≤ h0.size) (X_a2 : XSt Z h0 a2) (F_value_a2 : FSv Z h0 a2 (.ref t)) (F_coder_a2 : FSc Z h0 a2 Z0) (V_t : Arl Z h0 t kt .byte [y0]) (X_a1 : Exa Z h0 a1 "java/lang/StringBuilder") (F_value_a1 : FAv Z h0 a1 (.ref b)) (F_coder_a1 : FAc Z h0 a1 Z0) (F_count_a1 : FAn Z h0 a1 (.int (2 : Int32))) (V_b : Arl Z h0 b kb .byte [x0, x1, Z0, Z0, Z0, Z0, Z0, Z0, Z0, Z0, Z0, Z0, Z0, Z0, Z0, Z0]) (S_C : Sta Z h0 "java/lang/String" "COMPACT_STRINGS" "Z" (.int zc)) (hz : ¬ zc = 0) (g_a1 : n0 ≤ a1) (g_b : n0 ≤ b) (ne_a1_b : a1 ≠ b) (ne_a2_b : a2 ≠ b) (ne_t_b : t ≠ b) (ne_a2_a1 : a2 ≠ a1) (ne_t_a1 : t ≠ a1) :
    Met own_EL l Z (⟨"java/lang/AbstractStringBuilder", "append", "(Ljava/lang/String;)Ljava/lang/AbstractStringBuilder;"⟩ : MethodName) jdk_68_method_22_code 3 (some (.object "java/lang/AbstractStringBuilder")) ({ frames := 3, cells := 0, slots := 0, locals := 80 } : Room) ws #[(.ref a1), (.ref a2)] h0 n0 [a1, b] (Q_rmAA2_1 Z a1 b kb x0 x1 y0 h0 n0) := by
  refine Met.of pn_22 (fun m => ef_rmAA2_1 m a1 a2) ?_
  have ne_b_a1 := Ne.symm ne_a1_b
  have K := Keep.refl h0 [a1, b]
  refine Own.aloadN d22_0 rfl rfl ?_
  refine Own.ifnonnullYes 9 d22_1 (by decide) rfl ?_
  refine Own.aloadN d22_9 rfl rfl ?_
  refine Own.callVP a2 [] [] 0 (rm_len_1 l Z a0 hw [] a2 t kt _ zc h0 n0 hn X_a2 F_value_a2 F_coder_a2 V_t rfl S_C hz) (hw _ (mg 113 rfl)) (hw _ (mg 48 rfl)) (fun s hZ => notFace_of_selects (args := #[]) (mvT hZ (hw _ (mg 50 rfl)))) (hw _ (mg 50 rfl)) (hw _ (mg 49 rfl)) (hw _ (mg 7 rfl)) (hw _ (mg 51 rfl)) (by decide) X_a2 d22_10 pd_1 rfl rfl rfl rfl (by decide) (by decide) (by decide) (by decide) ?_
  refine Own.istoreN #[.val (.ref a1), .val (.ref a2), .val (.int (1 : Int32))] d22_13 rfl ?_
  refine Own.aloadN d22_14 rfl rfl ?_
  refine Own.aloadN d22_15 rfl rfl ?_
  refine Own.getF_ (host := "") (Or.inl (hw _ (mg 114 rfl))) Via.refl F_count_a1 d22_16 ?_
  refine Own.iloadN d22_19 rfl ?_
  refine Own.iadd d22_20 ?_
  refine OAt.cast (st' := [(.int (3 : Int32)), (.ref a1)]) rfl ?_
  refine Own.callP0 a1 [(.int (3 : Int32))] [] 0 (rmEC2_1 l Z a0 hw [] a1 b kb x0 x1 h0 n0 hn F_value_a1 F_coder_a1 V_b) (hw _ (mg 116 rfl)) (hw _ (mg 117 rfl)) (sel_own (hw _ (mg 119 rfl)) (hw _ (mg 118 rfl)) (hw _ (mg 117 rfl)) (by decide)) (hw _ (mg 118 rfl)) (hw _ (mg 95 rfl)) (hw _ (mg 120 rfl)) (by decide) X_a1 d22_21 pd_7 rfl rfl rfl rfl (by decide) (by decide) (by decide) (by decide) ?_
  refine Own.aloadN d22_24 rfl rfl ?_
  refine Own.aloadN d22_25 rfl rfl ?_
  refine Own.getF_ (host := "") (Or.inl (hw _ (mg 114 rfl))) Via.refl F_count_a1 d22_26 ?_
  refine Own.aloadN d22_29 rfl rfl ?_
  refine Own.callP_ a1 [(.int (2 : Int32)), (.ref a2)] [] 0 (rmPS2_1 l Z a0 hw [] a1 a2 t kt b kb zc x0 x1 y0 h0 n0 hn X_a2 F_value_a2 F_coder_a2 V_t X_a1 F_value_a1 F_coder_a1 F_count_a1 V_b S_C hz g_a1 g_b ne_a1_b ne_a2_b ne_t_b ne_a2_a1 ne_t_a1) (allS (mg 1 rfl) all0) (hw _ (mg 121 rfl)) (hw _ (mg 122 rfl)) (sel_own (hw _ (mg 124 rfl)) (hw _ (mg 123 rfl)) (hw _ (mg 122 rfl)) (by decide)) (hw _ (mg 123 rfl)) (hw _ (mg 95 rfl)) (hw _ (mg 125 rfl)) (by decide) X_a1 d22_30 pd_13 rfl rfl rfl rfl (by decide) (by decide) (by decide) (by decide) (fun v92 h92 S92 hq92 => ?_)
  obtain ⟨rfl, K93, V93⟩ := hq92
  replace X_a1 := X_a1.keep K93
  replace F_value_a1 := F_value_a1.keep K93 (ninS ne_a1_b nin0)
  replace F_coder_a1 := F_coder_a1.keep K93 (ninS ne_a1_b nin0)
  replace F_count_a1 := F_count_a1.keep K93 (ninS ne_a1_b nin0)
  have K := K.trans K93 (allS (Or.inl (mg 1 rfl)) all0)
  refine ⟨[], all0, ?_⟩
  refine OAt.cast (st' := []) rfl ?_
  refine Own.aloadN d22_33 rfl rfl ?_
  refine Own.dup d22_34 rfl ?_
  refine Own.getF_ (host := "") (Or.inl (hw _ (mg 114 rfl))) Via.refl F_count_a1 d22_35 ?_
  refine Own.iloadN d22_38 rfl ?_
  refine Own.iadd d22_39 ?_
  refine OAt.cast (st' := [(.int (3 : Int32)), (.ref a1)]) rfl ?_
  refine Own.putF_ (host := "") (Or.inl (hw _ (mg 114 rfl))) Via.refl F_count_a1 X_a1 (Or.inl (hw _ (mg 115 rfl))) (hw _ (mg 86 rfl)) (ty := .int) (by decide) rfl rfl g_a1 (mg 0 rfl) d22_40 (fun h94 W95 => ?_)
  replace F_count_a1 := F_count_a1.same W95
  replace F_value_a1 := F_value_a1.other W95 (Or.inr (slot_ne (Or.inl (hw _ (mg 100 rfl))) (Or.inl (hw _ (mg 115 rfl))) (by decide) (t := (.array .byte)) (t' := .int) (by decide) (by decide)))
  replace F_coder_a1 := F_coder_a1.other W95 (Or.inr (slot_ne (Or.inl (hw _ (mg 102 rfl))) (Or.inl (hw _ (mg 115 rfl))) (by decide) (t := .byte) (t' := .int) (by decide) (by decide)))
  replace V93 := V93.other W95 ne_b_a1
  have K := K.wr W95 (Or.inl (mg 0 rfl))
  refine Own.aloadN d22_43 rfl rfl ?_
  refine Own.ret_ref (t := (.object "java/lang/AbstractStringBuilder")) rfl rfl rfl d22_44 (by decide) (by decide) (fun Sf hSf => ?_)
  exact ⟨rfl, K, F_value_a1, F_coder_a1, F_count_a1, V93⟩
def Q_rmSA2_1 (Z : State) (a1 : Addr) (b : Addr) (kb : ClassId) (x0 : Value) (x1 : Value) (y0 : Value) (h0 : Heap) (n0 : Nat) (v : Option Value) (h : Heap) (Sf : Addr → Prop) : Prop := v = some (.ref a1) ∧ Keep h0 h [a1, b] ∧ FAv Z h a1 (.ref b) ∧ FAc Z h a1 Z0 ∧ FAn Z h a1 (.int (3 : Int32)) ∧ Arl Z h b kb .byte [x0, x1, y0, Z0, Z0, Z0, Z0, Z0, Z0, Z0, Z0, Z0, Z0, Z0, Z0, Z0]
theorem ef_rmSA2_1 (m : MethodId) (a1 : Addr) (a2 : Addr)  : entryFrame m #[(.ref a1), (.ref a2)] 2 = mkF m 0 #[.val (.ref a1), .val (.ref a2)] [] := by simp [entryFrame, mkF, argsToLocals, Value.category]
theorem rmSA2_1 (l : Launch) (Z : State) (a0 : Array Value) (hw : HW a0 Z) (ws : List Jvm.Cond) (a1 : Addr) (a2 : Addr) (t : Addr) (kt : ClassId) (b : Addr) (kb : ClassId) (zc : Int32) (x0 : Value) (x1 : Value) (y0 : Value) (h0 : Heap) (n0 : Nat) (hn : n0 ≤ h0.size) (X_a2 : XSt Z h0 a2) (F_value_a2 : FSv Z h0 a2 (.ref t)) (F_coder_a2 : FSc Z h0 a2 Z0) (V_t : Arl Z h0 t kt .byte [y0]) (X_a1 : Exa Z h0 a1 "java/lang/StringBuilder") (F_value_a1 : FAv Z h0 a1 (.ref b)) (F_coder_a1 : FAc Z h0 a1 Z0) (F_count_a1 : FAn Z h0 a1 (.int (2 : Int32))) (V_b : Arl Z h0 b kb .byte [x0, x1, Z0, Z0, Z0, Z0, Z0, Z0, Z0, Z0, Z0, Z0, Z0, Z0, Z0, Z0]) (S_C : Sta Z h0 "java/lang/String" "COMPACT_STRINGS" "Z" (.int zc)) (hz : ¬ zc = 0) (g_a1 : n0 ≤ a1) (g_b : n0 ≤ b) (ne_a1_b : a1 ≠ b) (ne_a2_b : a2 ≠ b) (ne_t_b : t ≠ b) (ne_a2_a1 : a2 ≠ a1) (ne_t_a1 : t ≠ a1) :
    Met own_EL l Z (⟨"java/lang/StringBuilder", "append", "(Ljava/lang/String;)Ljava/lang/StringBuilder;"⟩ : MethodName) jdk_67_method_7_code 2 (some (.object "java/lang/StringBuilder")) ({ frames := 4, cells := 0, slots := 0, locals := 94 } : Room) ws #[(.ref a1), (.ref a2)] h0 n0 [a1, b] (Q_rmSA2_1 Z a1 b kb x0 x1 y0 h0 n0) := by
  refine Met.of pn_21 (fun m => ef_rmSA2_1 m a1 a2) ?_
  have K := Keep.refl h0 [a1, b]
  refine Own.aloadN d21_0 rfl rfl ?_
  refine Own.aloadN d21_1 rfl rfl ?_
  refine Own.callU_ a1 [(.ref a2)] [] 0 (rmAA2_1 l Z a0 hw [] a1 a2 t kt b kb zc x0 x1 y0 h0 n0 hn X_a2 F_value_a2 F_coder_a2 V_t X_a1 F_value_a1 F_coder_a1 F_count_a1 V_b S_C hz g_a1 g_b ne_a1_b ne_a2_b ne_t_b ne_a2_a1 ne_t_a1) (allS (mg 0 rfl) (allS (mg 1 rfl) all0)) (hw _ (mg 108 rfl)) (same_own (face_same (hw _ (mg 119 rfl)) rfl) (hw _ (mg 109 rfl)) (by decide)) (hw _ (mg 109 rfl)) (hw _ (mg 110 rfl)) (hw _ (mg 95 rfl)) (hw _ (mg 112 rfl)) (by decide) (Ins.self X_a1) d21_2 pd_16 rfl rfl rfl rfl (by decide) (by decide) (by decide) (by decide) (fun v96 h96 S96 hq96 => ?_)
  obtain ⟨rfl, K97, G1, G2, G3, V97⟩ := hq96
  have K := K.trans K97 (allS (Or.inl (mg 0 rfl)) (allS (Or.inl (mg 1 rfl)) all0))
  have F_value_a1 := G1
  have F_coder_a1 := G2
  have F_count_a1 := G3
  refine ⟨[], all0, ?_⟩
  refine OAt.cast (st' := [(.ref a1)]) rfl ?_
  refine Own.pop d21_5 rfl ?_
  refine Own.aloadN d21_6 rfl rfl ?_
  refine Own.ret_ref (t := (.object "java/lang/StringBuilder")) rfl rfl rfl d21_7 (by decide) (by decide) (fun Sf hSf => ?_)
  exact ⟨rfl, K, F_value_a1, F_coder_a1, F_count_a1, V97⟩
def Q_rmGB1_2 (Z : State) (b : Addr) (kb : ClassId) (x0 : Value) (y0 : Value) (y1 : Value) (h0 : Heap) (n0 : Nat) (v : Option Value) (h : Heap) (Sf : Addr → Prop) : Prop := v = none ∧ Keep h0 h [b] ∧ Arl Z h b kb .byte [x0, y0, y1, Z0, Z0, Z0, Z0, Z0, Z0, Z0, Z0, Z0, Z0, Z0, Z0, Z0]
theorem ef_rmGB1_2 (m : MethodId) (a2 : Addr) (b : Addr)  : entryFrame m #[(.ref a2), (.ref b), (.int (1 : Int32)), Z0] 4 = mkF m 0 #[.val (.ref a2), .val (.ref b), .val (.int (1 : Int32)), .val Z0] [] := by simp [entryFrame, mkF, argsToLocals, Value.category]
theorem rmGB1_2 (l : Launch) (Z : State) (a0 : Array Value) (hw : HW a0 Z) (ws : List Jvm.Cond) (a2 : Addr) (t : Addr) (kt : ClassId) (b : Addr) (kb : ClassId) (zc : Int32) (x0 : Value) (y0 : Value) (y1 : Value) (h0 : Heap) (n0 : Nat) (hn : n0 ≤ h0.size) (X_a2 : XSt Z h0 a2) (F_value_a2 : FSv Z h0 a2 (.ref t)) (F_coder_a2 : FSc Z h0 a2 Z0) (V_t : Arl Z h0 t kt .byte [y0, y1]) (V_b : Arl Z h0 b kb .byte [x0, Z0, Z0, Z0, Z0, Z0, Z0, Z0, Z0, Z0, Z0, Z0, Z0, Z0, Z0, Z0]) (S_C : Sta Z h0 "java/lang/String" "COMPACT_STRINGS" "Z" (.int zc)) (hz : ¬ zc = 0) (g_b : n0 ≤ b) (ne_a2_b : a2 ≠ b) (ne_t_b : t ≠ b) :
    Met own_EL l Z (⟨"java/lang/String", "getBytes", "([BIB)V"⟩ : MethodName) jdk_42_method_147_code 4 none ({ frames := 1, cells := 0, slots := 0, locals := 51 } : Room) ws #[(.ref a2), (.ref b), (.int (1 : Int32)), Z0] h0 n0 [b] (Q_rmGB1_2 Z b kb x0 y0 y1 h0 n0) := by
  refine Met.of pn_26 (fun m => ef_rmGB1_2 m a2 b) ?_
  have K := Keep.refl h0 [b]
  refine Own.aloadN d26_0 rfl rfl ?_
  refine Own.callVP a2 [] [] 0 (rmCO l Z a0 hw [] a2 zc h0 n0 hn F_coder_a2 S_C hz) (hw _ (mg 52 rfl)) (hw _ (mg 53 rfl)) (fun s hZ => notFace_of_selects (args := #[]) (mvT hZ (hw _ (mg 55 rfl)))) (hw _ (mg 55 rfl)) (hw _ (mg 54 rfl)) (hw _ (mg 7 rfl)) (hw _ (mg 56 rfl)) (by decide) X_a2 d26_1 pd_0 rfl rfl rfl rfl (by decide) (by decide) (by decide) (by decide) ?_
  refine Own.iloadN d26_4 rfl ?_
  refine Own.icmp_ne 28 d26_5 (by decide) rfl (fun q => absurd (by decide) q) (fun _ => ?_)
  refine Own.aloadN d26_8 rfl rfl ?_
  refine Own.getF_ (host := "") (Or.inl (hw _ (mg 33 rfl))) Via.refl F_value_a2 d26_9 ?_
  refine Own.iconst (0 : Int32) d26_12 rfl ?_
  refine Own.aloadN d26_13 rfl rfl ?_
  refine Own.iloadN d26_14 rfl ?_
  refine Own.iloadN d26_15 rfl ?_
  refine Own.ishl d26_16 ?_
  refine OAt.cast (st' := [(.int (1 : Int32)), (.ref b), Z0, (.ref t)]) rfl ?_
  refine Own.aloadN d26_17 rfl rfl ?_
  refine Own.getF_ (host := "") (Or.inl (hw _ (mg 33 rfl))) Via.refl F_value_a2 d26_18 ?_
  refine Own.arraylength_ (2 : Int32) V_t rfl d26_21 ?_
  refine Own.arraycopy_ (i := 0) (j := 1) (n := 2) 0 (hw _ (mg 137 rfl)) (hw _ (mg 140 rfl)) (hw _ (mg 138 rfl)) (hw _ (mg 139 rfl)) V_t V_b rfl rfl rfl rfl (Nat.le_of_ble_eq_true rfl) (Nat.le_of_ble_eq_true rfl) g_b (mg 0 rfl) rfl d26_22 (by decide) rfl (by decide) (fun h98 K98 V98 => ?_)
  clear V_b
  replace V98 : Arl Z h98 b kb .byte [x0, y0, y1, Z0, Z0, Z0, Z0, Z0, Z0, Z0, Z0, Z0, Z0, Z0, Z0, Z0] := V98
  have K := K.trans K98 (allS (Or.inl (mg 0 rfl)) all0)
  refine Own.goto_ 43 d26_25 (by decide) rfl ?_
  refine Own.ret_void rfl d26_43 (by decide) (by decide) (fun Sf hSf => ?_)
  exact ⟨rfl, K, V98⟩
def Q_rmPS1_2 (Z : State) (b : Addr) (kb : ClassId) (x0 : Value) (y0 : Value) (y1 : Value) (h0 : Heap) (n0 : Nat) (v : Option Value) (h : Heap) (Sf : Addr → Prop) : Prop := v = none ∧ Keep h0 h [b] ∧ Arl Z h b kb .byte [x0, y0, y1, Z0, Z0, Z0, Z0, Z0, Z0, Z0, Z0, Z0, Z0, Z0, Z0, Z0]
theorem ef_rmPS1_2 (m : MethodId) (a1 : Addr) (a2 : Addr)  : entryFrame m #[(.ref a1), (.int (1 : Int32)), (.ref a2)] 3 = mkF m 0 #[.val (.ref a1), .val (.int (1 : Int32)), .val (.ref a2)] [] := by simp [entryFrame, mkF, argsToLocals, Value.category]
theorem rmPS1_2 (l : Launch) (Z : State) (a0 : Array Value) (hw : HW a0 Z) (ws : List Jvm.Cond) (a1 : Addr) (a2 : Addr) (t : Addr) (kt : ClassId) (b : Addr) (kb : ClassId) (zc : Int32) (x0 : Value) (y0 : Value) (y1 : Value) (h0 : Heap) (n0 : Nat) (hn : n0 ≤ h0.size) (X_a2 : XSt Z h0 a2) (F_value_a2 : FSv Z h0 a2 (.ref t)) (F_coder_a2 : FSc Z h0 a2 Z0) (V_t : Arl Z h0 t kt .byte [y0, y1]) (X_a1 : Exa Z h0 a1 "java/lang/StringBuilder") (F_value_a1 : FAv Z h0 a1 (.ref b)) (F_coder_a1 : FAc Z h0 a1 Z0) (F_count_a1 : FAn Z h0 a1 (.int (1 : Int32))) (V_b : Arl Z h0 b kb .byte [x0, Z0, Z0, Z0, Z0, Z0, Z0, Z0, Z0, Z0, Z0, Z0, Z0, Z0, Z0, Z0]) (S_C : Sta Z h0 "java/lang/String" "COMPACT_STRINGS" "Z" (.int zc)) (hz : ¬ zc = 0) (g_a1 : n0 ≤ a1) (g_b : n0 ≤ b) (ne_a1_b : a1 ≠ b) (ne_a2_b : a2 ≠ b) (ne_t_b : t ≠ b) (ne_a2_a1 : a2 ≠ a1) (ne_t_a1 : t ≠ a1) :
    Met own_EL l Z (⟨"java/lang/AbstractStringBuilder", "putStringAt", "(ILjava/lang/String;)V"⟩ : MethodName) jdk_68_method_73_code 3 none ({ frames := 2, cells := 0, slots := 0, locals := 66 } : Room) ws #[(.ref a1), (.int (1 : Int32)), (.ref a2)] h0 n0 [b] (Q_rmPS1_2 Z b kb x0 y0 y1 h0 n0) := by
  refine Met.of pn_24 (fun m => ef_rmPS1_2 m a1 a2) ?_
  have K := Keep.refl h0 [b]
  refine Own.aloadN d24_0 rfl rfl ?_
  refine Own.aloadN d24_1 rfl rfl ?_
  refine Own.callP0 a1 [(.ref a2)] [] 0 (rmIF l Z a0 hw [] a1 a2 zc h0 n0 hn X_a2 F_coder_a2 F_coder_a1 S_C hz) (hw _ (mg 126 rfl)) (hw _ (mg 127 rfl)) (sel_own (hw _ (mg 129 rfl)) (hw _ (mg 128 rfl)) (hw _ (mg 127 rfl)) (by decide)) (hw _ (mg 128 rfl)) (hw _ (mg 95 rfl)) (hw _ (mg 130 rfl)) (by decide) X_a1 d24_2 pd_18 rfl rfl rfl rfl (by decide) (by decide) (by decide) (by decide) ?_
  refine Own.aloadN d24_5 rfl rfl ?_
  refine Own.aloadN d24_6 rfl rfl ?_
  refine Own.getF_ (host := "") (Or.inl (hw _ (mg 99 rfl))) Via.refl F_value_a1 d24_7 ?_
  refine Own.iloadN d24_10 rfl ?_
  refine Own.aloadN d24_11 rfl rfl ?_
  refine Own.getF_ (host := "") (Or.inl (hw _ (mg 101 rfl))) Via.refl F_coder_a1 d24_12 ?_
  refine Own.callV_ a2 [(.ref b), (.int (1 : Int32)), Z0] [] 0 (rmGB1_2 l Z a0 hw [] a2 t kt b kb zc x0 y0 y1 h0 n0 hn X_a2 F_value_a2 F_coder_a2 V_t V_b S_C hz g_b ne_a2_b ne_t_b) (allS (mg 0 rfl) all0) (hw _ (mg 132 rfl)) (hw _ (mg 133 rfl)) (fun s hZ => notFace_of_selects (args := #[]) (mvT hZ (hw _ (mg 135 rfl)))) (hw _ (mg 135 rfl)) (hw _ (mg 134 rfl)) (hw _ (mg 7 rfl)) (hw _ (mg 136 rfl)) (by decide) X_a2 d24_15 pd_24 rfl rfl rfl rfl (by decide) (by decide) (by decide) (by decide) (fun v99 h99 S99 hq99 => ?_)
  obtain ⟨rfl, K100, V100⟩ := hq99
  have K := K.trans K100 (allS (Or.inl (mg 0 rfl)) all0)
  refine ⟨[], all0, ?_⟩
  refine OAt.cast (st' := []) rfl ?_
  refine Own.ret_void rfl d24_18 (by decide) (by decide) (fun Sf hSf => ?_)
  exact ⟨rfl, K, V100⟩
theorem ef_rmEC1_2 (m : MethodId) (a1 : Addr)  : entryFrame m #[(.ref a1), (.int (3 : Int32))] 3 = mkF m 0 #[.val (.ref a1), .val (.int (3 : Int32)), .unset] [] := by simp [entryFrame, mkF, argsToLocals, Value.category]
theorem rmEC1_2 (l : Launch) (Z : State) (a0 : Array Value) (hw : HW a0 Z) (ws : List Jvm.Cond) (a1 : Addr) (b : Addr) (kb : ClassId) (x0 : Value) (h0 : Heap) (n0 : Nat) (hn : n0 ≤ h0.size) (F_value_a1 : FAv Z h0 a1 (.ref b)) (F_coder_a1 : FAc Z h0 a1 Z0) (V_b : Arl Z h0 b kb .byte [x0, Z0, Z0, Z0, Z0, Z0, Z0, Z0, Z0, Z0, Z0, Z0, Z0, Z0, Z0, Z0]) :
    Met own_EL l Z (⟨"java/lang/AbstractStringBuilder", "ensureCapacityInternal", "(I)V"⟩ : MethodName) jdk_68_method_9_code 3 none ({ frames := 0, cells := 0, slots := 0, locals := 0 } : Room) ws #[(.ref a1), (.int (3 : Int32))] h0 n0 [] (Pur0 h0) := by
  refine Met.of pn_23 (fun m => ef_rmEC1_2 m a1) ?_
  refine Own.aloadN d23_0 rfl rfl ?_
  refine Own.getF_ (host := "") (Or.inl (hw _ (mg 99 rfl))) Via.refl F_value_a1 d23_1 ?_
  refine Own.arraylength_ (16 : Int32) V_b rfl d23_4 ?_
  refine Own.aloadN d23_5 rfl rfl ?_
  refine Own.getF_ (host := "") (Or.inl (hw _ (mg 101 rfl))) Via.refl F_coder_a1 d23_6 ?_
  refine Own.ishr d23_9 ?_
  refine OAt.cast (st' := [(.int (16 : Int32))]) rfl ?_
  refine Own.istoreN #[.val (.ref a1), .val (.int (3 : Int32)), .val (.int (16 : Int32))] d23_10 rfl ?_
  refine Own.iloadN d23_11 rfl ?_
  refine Own.iloadN d23_12 rfl ?_
  refine Own.isub d23_13 ?_
  refine OAt.cast (st' := [(.int (-13 : Int32))]) rfl ?_
  refine Own.if_le 38 d23_14 (by decide) rfl (fun _ => ?_) (fun q => absurd q (by decide))
  refine Own.ret_void rfl d23_38 (by decide) (by decide) (fun Sf hSf => ?_)
  exact ⟨rfl, rfl⟩
def Q_rmAA1_2 (Z : State) (a1 : Addr) (b : Addr) (kb : ClassId) (x0 : Value) (y0 : Value) (y1 : Value) (h0 : Heap) (n0 : Nat) (v : Option Value) (h : Heap) (Sf : Addr → Prop) : Prop := v = some (.ref a1) ∧ Keep h0 h [a1, b] ∧ FAv Z h a1 (.ref b) ∧ FAc Z h a1 Z0 ∧ FAn Z h a1 (.int (3 : Int32)) ∧ Arl Z h b kb .byte [x0, y0, y1, Z0, Z0, Z0, Z0, Z0, Z0, Z0, Z0, Z0, Z0, Z0, Z0, Z0]
theorem ef_rmAA1_2 (m : MethodId) (a1 : Addr) (a2 : Addr)  : entryFrame m #[(.ref a1), (.ref a2)] 3 = mkF m 0 #[.val (.ref a1), .val (.ref a2), .unset] [] := by simp [entryFrame, mkF, argsToLocals, Value.category]
theorem rmAA1_2 (l : Launch) (Z : State) (a0 : Array Value) (hw : HW a0 Z) (ws : List Jvm.Cond) (a1 : Addr) (a2 : Addr) (t : Addr) (kt : ClassId) (b : Addr) (kb : ClassId) (zc : Int32) (x0 : Value) (y0 : Value) (y1 : Value) (h0 : Heap) (n0 : Nat) (hn : n0 ≤ h0.size) (X_a2 : XSt Z h0 a2) (F_value_a2 : FSv Z h0 a2 (.ref t)) (F_coder_a2 : FSc Z h0 a2 Z0) (V_t : Arl Z h0 t kt .byte [y0, y1]) (X_a1 : Exa Z h0 a1 "java/lang/StringBuilder") (F_value_a1 : FAv Z h0 a1 (.ref b)) (F_coder_a1 : FAc Z h0 a1 Z0) (F_count_a1 : FAn Z h0 a1 (.int (1 : Int32))) (V_b : Arl Z h0 b kb .byte [x0, Z0, Z0, Z0, Z0, Z0, Z0, Z0, Z0, Z0, Z0, Z0, Z0, Z0, Z0, Z0]) (S_C : Sta Z h0 "java/lang/String" "COMPACT_STRINGS" "Z" (.int zc)) (hz : ¬ zc = 0) (g_a1 : n0 ≤ a1) (g_b : n0 ≤ b) (ne_a1_b : a1 ≠ b) (ne_a2_b : a2 ≠ b) (ne_t_b : t ≠ b) (ne_a2_a1 : a2 ≠ a1) (ne_t_a1 : t ≠ a1) :
    Met own_EL l Z (⟨"java/lang/AbstractStringBuilder", "append", "(Ljava/lang/String;)Ljava/lang/AbstractStringBuilder;"⟩ : MethodName) jdk_68_method_22_code 3 (some (.object "java/lang/AbstractStringBuilder")) ({ frames := 3, cells := 0, slots := 0, locals := 80 } : Room) ws #[(.ref a1), (.ref a2)] h0 n0 [a1, b] (Q_rmAA1_2 Z a1 b kb x0 y0 y1 h0 n0) := by
  refine Met.of pn_22 (fun m => ef_rmAA1_2 m a1 a2) ?_
  have ne_b_a1 := Ne.symm ne_a1_b
  have K := Keep.refl h0 [a1, b]
  refine Own.aloadN d22_0 rfl rfl ?_
  refine Own.ifnonnullYes 9 d22_1 (by decide) rfl ?_
  refine Own.aloadN d22_9 rfl rfl ?_
  refine Own.callVP a2 [] [] 0 (rm_len_2 l Z a0 hw [] a2 t kt _ zc h0 n0 hn X_a2 F_value_a2 F_coder_a2 V_t rfl S_C hz) (hw _ (mg 113 rfl)) (hw _ (mg 48 rfl)) (fun s hZ => notFace_of_selects (args := #[]) (mvT hZ (hw _ (mg 50 rfl)))) (hw _ (mg 50 rfl)) (hw _ (mg 49 rfl)) (hw _ (mg 7 rfl)) (hw _ (mg 51 rfl)) (by decide) X_a2 d22_10 pd_1 rfl rfl rfl rfl (by decide) (by decide) (by decide) (by decide) ?_
  refine Own.istoreN #[.val (.ref a1), .val (.ref a2), .val (.int (2 : Int32))] d22_13 rfl ?_
  refine Own.aloadN d22_14 rfl rfl ?_
  refine Own.aloadN d22_15 rfl rfl ?_
  refine Own.getF_ (host := "") (Or.inl (hw _ (mg 114 rfl))) Via.refl F_count_a1 d22_16 ?_
  refine Own.iloadN d22_19 rfl ?_
  refine Own.iadd d22_20 ?_
  refine OAt.cast (st' := [(.int (3 : Int32)), (.ref a1)]) rfl ?_
  refine Own.callP0 a1 [(.int (3 : Int32))] [] 0 (rmEC1_2 l Z a0 hw [] a1 b kb x0 h0 n0 hn F_value_a1 F_coder_a1 V_b) (hw _ (mg 116 rfl)) (hw _ (mg 117 rfl)) (sel_own (hw _ (mg 119 rfl)) (hw _ (mg 118 rfl)) (hw _ (mg 117 rfl)) (by decide)) (hw _ (mg 118 rfl)) (hw _ (mg 95 rfl)) (hw _ (mg 120 rfl)) (by decide) X_a1 d22_21 pd_7 rfl rfl rfl rfl (by decide) (by decide) (by decide) (by decide) ?_
  refine Own.aloadN d22_24 rfl rfl ?_
  refine Own.aloadN d22_25 rfl rfl ?_
  refine Own.getF_ (host := "") (Or.inl (hw _ (mg 114 rfl))) Via.refl F_count_a1 d22_26 ?_
  refine Own.aloadN d22_29 rfl rfl ?_
  refine Own.callP_ a1 [(.int (1 : Int32)), (.ref a2)] [] 0 (rmPS1_2 l Z a0 hw [] a1 a2 t kt b kb zc x0 y0 y1 h0 n0 hn X_a2 F_value_a2 F_coder_a2 V_t X_a1 F_value_a1 F_coder_a1 F_count_a1 V_b S_C hz g_a1 g_b ne_a1_b ne_a2_b ne_t_b ne_a2_a1 ne_t_a1) (allS (mg 1 rfl) all0) (hw _ (mg 121 rfl)) (hw _ (mg 122 rfl)) (sel_own (hw _ (mg 124 rfl)) (hw _ (mg 123 rfl)) (hw _ (mg 122 rfl)) (by decide)) (hw _ (mg 123 rfl)) (hw _ (mg 95 rfl)) (hw _ (mg 125 rfl)) (by decide) X_a1 d22_30 pd_13 rfl rfl rfl rfl (by decide) (by decide) (by decide) (by decide) (fun v101 h101 S101 hq101 => ?_)
  obtain ⟨rfl, K102, V102⟩ := hq101
  replace X_a1 := X_a1.keep K102
  replace F_value_a1 := F_value_a1.keep K102 (ninS ne_a1_b nin0)
  replace F_coder_a1 := F_coder_a1.keep K102 (ninS ne_a1_b nin0)
  replace F_count_a1 := F_count_a1.keep K102 (ninS ne_a1_b nin0)
  have K := K.trans K102 (allS (Or.inl (mg 1 rfl)) all0)
  refine ⟨[], all0, ?_⟩
  refine OAt.cast (st' := []) rfl ?_
  refine Own.aloadN d22_33 rfl rfl ?_
  refine Own.dup d22_34 rfl ?_
  refine Own.getF_ (host := "") (Or.inl (hw _ (mg 114 rfl))) Via.refl F_count_a1 d22_35 ?_
  refine Own.iloadN d22_38 rfl ?_
  refine Own.iadd d22_39 ?_
  refine OAt.cast (st' := [(.int (3 : Int32)), (.ref a1)]) rfl ?_
  refine Own.putF_ (host := "") (Or.inl (hw _ (mg 114 rfl))) Via.refl F_count_a1 X_a1 (Or.inl (hw _ (mg 115 rfl))) (hw _ (mg 86 rfl)) (ty := .int) (by decide) rfl rfl g_a1 (mg 0 rfl) d22_40 (fun h103 W104 => ?_)
  replace F_count_a1 := F_count_a1.same W104
  replace F_value_a1 := F_value_a1.other W104 (Or.inr (slot_ne (Or.inl (hw _ (mg 100 rfl))) (Or.inl (hw _ (mg 115 rfl))) (by decide) (t := (.array .byte)) (t' := .int) (by decide) (by decide)))
  replace F_coder_a1 := F_coder_a1.other W104 (Or.inr (slot_ne (Or.inl (hw _ (mg 102 rfl))) (Or.inl (hw _ (mg 115 rfl))) (by decide) (t := .byte) (t' := .int) (by decide) (by decide)))
  replace V102 := V102.other W104 ne_b_a1
  have K := K.wr W104 (Or.inl (mg 0 rfl))
  refine Own.aloadN d22_43 rfl rfl ?_
  refine Own.ret_ref (t := (.object "java/lang/AbstractStringBuilder")) rfl rfl rfl d22_44 (by decide) (by decide) (fun Sf hSf => ?_)
  exact ⟨rfl, K, F_value_a1, F_coder_a1, F_count_a1, V102⟩
def Q_rmSA1_2 (Z : State) (a1 : Addr) (b : Addr) (kb : ClassId) (x0 : Value) (y0 : Value) (y1 : Value) (h0 : Heap) (n0 : Nat) (v : Option Value) (h : Heap) (Sf : Addr → Prop) : Prop := v = some (.ref a1) ∧ Keep h0 h [a1, b] ∧ FAv Z h a1 (.ref b) ∧ FAc Z h a1 Z0 ∧ FAn Z h a1 (.int (3 : Int32)) ∧ Arl Z h b kb .byte [x0, y0, y1, Z0, Z0, Z0, Z0, Z0, Z0, Z0, Z0, Z0, Z0, Z0, Z0, Z0]
theorem ef_rmSA1_2 (m : MethodId) (a1 : Addr) (a2 : Addr)  : entryFrame m #[(.ref a1), (.ref a2)] 2 = mkF m 0 #[.val (.ref a1), .val (.ref a2)] [] := by simp [entryFrame, mkF, argsToLocals, Value.category]
theorem rmSA1_2 (l : Launch) (Z : State) (a0 : Array Value) (hw : HW a0 Z) (ws : List Jvm.Cond) (a1 : Addr) (a2 : Addr) (t : Addr) (kt : ClassId) (b : Addr) (kb : ClassId) (zc : Int32) (x0 : Value) (y0 : Value) (y1 : Value) (h0 : Heap) (n0 : Nat) (hn : n0 ≤ h0.size) (X_a2 : XSt Z h0 a2) (F_value_a2 : FSv Z h0 a2 (.ref t)) (F_coder_a2 : FSc Z h0 a2 Z0) (V_t : Arl Z h0 t kt .byte [y0, y1]) (X_a1 : Exa Z h0 a1 "java/lang/StringBuilder") (F_value_a1 : FAv Z h0 a1 (.ref b)) (F_coder_a1 : FAc Z h0 a1 Z0) (F_count_a1 : FAn Z h0 a1 (.int (1 : Int32))) (V_b : Arl Z h0 b kb .byte [x0, Z0, Z0, Z0, Z0, Z0, Z0, Z0, Z0, Z0, Z0, Z0, Z0, Z0, Z0, Z0]) (S_C : Sta Z h0 "java/lang/String" "COMPACT_STRINGS" "Z" (.int zc)) (hz : ¬ zc = 0) (g_a1 : n0 ≤ a1) (g_b : n0 ≤ b) (ne_a1_b : a1 ≠ b) (ne_a2_b : a2 ≠ b) (ne_t_b : t ≠ b) (ne_a2_a1 : a2 ≠ a1) (ne_t_a1 : t ≠ a1) :
    Met own_EL l Z (⟨"java/lang/StringBuilder", "append", "(Ljava/lang/String;)Ljava/lang/StringBuilder;"⟩ : MethodName) jdk_67_method_7_code 2 (some (.object "java/lang/StringBuilder")) ({ frames := 4, cells := 0, slots := 0, locals := 94 } : Room) ws #[(.ref a1), (.ref a2)] h0 n0 [a1, b] (Q_rmSA1_2 Z a1 b kb x0 y0 y1 h0 n0) := by
  refine Met.of pn_21 (fun m => ef_rmSA1_2 m a1 a2) ?_
  have K := Keep.refl h0 [a1, b]
  refine Own.aloadN d21_0 rfl rfl ?_
  refine Own.aloadN d21_1 rfl rfl ?_
  refine Own.callU_ a1 [(.ref a2)] [] 0 (rmAA1_2 l Z a0 hw [] a1 a2 t kt b kb zc x0 y0 y1 h0 n0 hn X_a2 F_value_a2 F_coder_a2 V_t X_a1 F_value_a1 F_coder_a1 F_count_a1 V_b S_C hz g_a1 g_b ne_a1_b ne_a2_b ne_t_b ne_a2_a1 ne_t_a1) (allS (mg 0 rfl) (allS (mg 1 rfl) all0)) (hw _ (mg 108 rfl)) (same_own (face_same (hw _ (mg 119 rfl)) rfl) (hw _ (mg 109 rfl)) (by decide)) (hw _ (mg 109 rfl)) (hw _ (mg 110 rfl)) (hw _ (mg 95 rfl)) (hw _ (mg 112 rfl)) (by decide) (Ins.self X_a1) d21_2 pd_16 rfl rfl rfl rfl (by decide) (by decide) (by decide) (by decide) (fun v105 h105 S105 hq105 => ?_)
  obtain ⟨rfl, K106, G1, G2, G3, V106⟩ := hq105
  have K := K.trans K106 (allS (Or.inl (mg 0 rfl)) (allS (Or.inl (mg 1 rfl)) all0))
  have F_value_a1 := G1
  have F_coder_a1 := G2
  have F_count_a1 := G3
  refine ⟨[], all0, ?_⟩
  refine OAt.cast (st' := [(.ref a1)]) rfl ?_
  refine Own.pop d21_5 rfl ?_
  refine Own.aloadN d21_6 rfl rfl ?_
  refine Own.ret_ref (t := (.object "java/lang/StringBuilder")) rfl rfl rfl d21_7 (by decide) (by decide) (fun Sf hSf => ?_)
  exact ⟨rfl, K, F_value_a1, F_coder_a1, F_count_a1, V106⟩
def Q_rmGB2_2 (Z : State) (b : Addr) (kb : ClassId) (x0 : Value) (x1 : Value) (y0 : Value) (y1 : Value) (h0 : Heap) (n0 : Nat) (v : Option Value) (h : Heap) (Sf : Addr → Prop) : Prop := v = none ∧ Keep h0 h [b] ∧ Arl Z h b kb .byte [x0, x1, y0, y1, Z0, Z0, Z0, Z0, Z0, Z0, Z0, Z0, Z0, Z0, Z0, Z0]
theorem ef_rmGB2_2 (m : MethodId) (a2 : Addr) (b : Addr)  : entryFrame m #[(.ref a2), (.ref b), (.int (2 : Int32)), Z0] 4 = mkF m 0 #[.val (.ref a2), .val (.ref b), .val (.int (2 : Int32)), .val Z0] [] := by simp [entryFrame, mkF, argsToLocals, Value.category]
theorem rmGB2_2 (l : Launch) (Z : State) (a0 : Array Value) (hw : HW a0 Z) (ws : List Jvm.Cond) (a2 : Addr) (t : Addr) (kt : ClassId) (b : Addr) (kb : ClassId) (zc : Int32) (x0 : Value) (x1 : Value) (y0 : Value) (y1 : Value) (h0 : Heap) (n0 : Nat) (hn : n0 ≤ h0.size) (X_a2 : XSt Z h0 a2) (F_value_a2 : FSv Z h0 a2 (.ref t)) (F_coder_a2 : FSc Z h0 a2 Z0) (V_t : Arl Z h0 t kt .byte [y0, y1]) (V_b : Arl Z h0 b kb .byte [x0, x1, Z0, Z0, Z0, Z0, Z0, Z0, Z0, Z0, Z0, Z0, Z0, Z0, Z0, Z0]) (S_C : Sta Z h0 "java/lang/String" "COMPACT_STRINGS" "Z" (.int zc)) (hz : ¬ zc = 0) (g_b : n0 ≤ b) (ne_a2_b : a2 ≠ b) (ne_t_b : t ≠ b) :
    Met own_EL l Z (⟨"java/lang/String", "getBytes", "([BIB)V"⟩ : MethodName) jdk_42_method_147_code 4 none ({ frames := 1, cells := 0, slots := 0, locals := 51 } : Room) ws #[(.ref a2), (.ref b), (.int (2 : Int32)), Z0] h0 n0 [b] (Q_rmGB2_2 Z b kb x0 x1 y0 y1 h0 n0) := by
  refine Met.of pn_26 (fun m => ef_rmGB2_2 m a2 b) ?_
  have K := Keep.refl h0 [b]
  refine Own.aloadN d26_0 rfl rfl ?_
  refine Own.callVP a2 [] [] 0 (rmCO l Z a0 hw [] a2 zc h0 n0 hn F_coder_a2 S_C hz) (hw _ (mg 52 rfl)) (hw _ (mg 53 rfl)) (fun s hZ => notFace_of_selects (args := #[]) (mvT hZ (hw _ (mg 55 rfl)))) (hw _ (mg 55 rfl)) (hw _ (mg 54 rfl)) (hw _ (mg 7 rfl)) (hw _ (mg 56 rfl)) (by decide) X_a2 d26_1 pd_0 rfl rfl rfl rfl (by decide) (by decide) (by decide) (by decide) ?_
  refine Own.iloadN d26_4 rfl ?_
  refine Own.icmp_ne 28 d26_5 (by decide) rfl (fun q => absurd (by decide) q) (fun _ => ?_)
  refine Own.aloadN d26_8 rfl rfl ?_
  refine Own.getF_ (host := "") (Or.inl (hw _ (mg 33 rfl))) Via.refl F_value_a2 d26_9 ?_
  refine Own.iconst (0 : Int32) d26_12 rfl ?_
  refine Own.aloadN d26_13 rfl rfl ?_
  refine Own.iloadN d26_14 rfl ?_
  refine Own.iloadN d26_15 rfl ?_
  refine Own.ishl d26_16 ?_
  refine OAt.cast (st' := [(.int (2 : Int32)), (.ref b), Z0, (.ref t)]) rfl ?_
  refine Own.aloadN d26_17 rfl rfl ?_
  refine Own.getF_ (host := "") (Or.inl (hw _ (mg 33 rfl))) Via.refl F_value_a2 d26_18 ?_
  refine Own.arraylength_ (2 : Int32) V_t rfl d26_21 ?_
  refine Own.arraycopy_ (i := 0) (j := 2) (n := 2) 0 (hw _ (mg 137 rfl)) (hw _ (mg 140 rfl)) (hw _ (mg 138 rfl)) (hw _ (mg 139 rfl)) V_t V_b rfl rfl rfl rfl (Nat.le_of_ble_eq_true rfl) (Nat.le_of_ble_eq_true rfl) g_b (mg 0 rfl) rfl d26_22 (by decide) rfl (by decide) (fun h107 K107 V107 => ?_)
  clear V_b
  replace V107 : Arl Z h107 b kb .byte [x0, x1, y0, y1, Z0, Z0, Z0, Z0, Z0, Z0, Z0, Z0, Z0, Z0, Z0, Z0] := V107
  have K := K.trans K107 (allS (Or.inl (mg 0 rfl)) all0)
  refine Own.goto_ 43 d26_25 (by decide) rfl ?_
  refine Own.ret_void rfl d26_43 (by decide) (by decide) (fun Sf hSf => ?_)
  exact ⟨rfl, K, V107⟩
def Q_rmPS2_2 (Z : State) (b : Addr) (kb : ClassId) (x0 : Value) (x1 : Value) (y0 : Value) (y1 : Value) (h0 : Heap) (n0 : Nat) (v : Option Value) (h : Heap) (Sf : Addr → Prop) : Prop := v = none ∧ Keep h0 h [b] ∧ Arl Z h b kb .byte [x0, x1, y0, y1, Z0, Z0, Z0, Z0, Z0, Z0, Z0, Z0, Z0, Z0, Z0, Z0]
theorem ef_rmPS2_2 (m : MethodId) (a1 : Addr) (a2 : Addr)  : entryFrame m #[(.ref a1), (.int (2 : Int32)), (.ref a2)] 3 = mkF m 0 #[.val (.ref a1), .val (.int (2 : Int32)), .val (.ref a2)] [] := by simp [entryFrame, mkF, argsToLocals, Value.category]
theorem rmPS2_2 (l : Launch) (Z : State) (a0 : Array Value) (hw : HW a0 Z) (ws : List Jvm.Cond) (a1 : Addr) (a2 : Addr) (t : Addr) (kt : ClassId) (b : Addr) (kb : ClassId) (zc : Int32) (x0 : Value) (x1 : Value) (y0 : Value) (y1 : Value) (h0 : Heap) (n0 : Nat) (hn : n0 ≤ h0.size) (X_a2 : XSt Z h0 a2) (F_value_a2 : FSv Z h0 a2 (.ref t)) (F_coder_a2 : FSc Z h0 a2 Z0) (V_t : Arl Z h0 t kt .byte [y0, y1]) (X_a1 : Exa Z h0 a1 "java/lang/StringBuilder") (F_value_a1 : FAv Z h0 a1 (.ref b)) (F_coder_a1 : FAc Z h0 a1 Z0) (F_count_a1 : FAn Z h0 a1 (.int (2 : Int32))) (V_b : Arl Z h0 b kb .byte [x0, x1, Z0, Z0, Z0, Z0, Z0, Z0, Z0, Z0, Z0, Z0, Z0, Z0, Z0, Z0]) (S_C : Sta Z h0 "java/lang/String" "COMPACT_STRINGS" "Z" (.int zc)) (hz : ¬ zc = 0) (g_a1 : n0 ≤ a1) (g_b : n0 ≤ b) (ne_a1_b : a1 ≠ b) (ne_a2_b : a2 ≠ b) (ne_t_b : t ≠ b) (ne_a2_a1 : a2 ≠ a1) (ne_t_a1 : t ≠ a1) :
    Met own_EL l Z (⟨"java/lang/AbstractStringBuilder", "putStringAt", "(ILjava/lang/String;)V"⟩ : MethodName) jdk_68_method_73_code 3 none ({ frames := 2, cells := 0, slots := 0, locals := 66 } : Room) ws #[(.ref a1), (.int (2 : Int32)), (.ref a2)] h0 n0 [b] (Q_rmPS2_2 Z b kb x0 x1 y0 y1 h0 n0) := by
  refine Met.of pn_24 (fun m => ef_rmPS2_2 m a1 a2) ?_
  have K := Keep.refl h0 [b]
  refine Own.aloadN d24_0 rfl rfl ?_
  refine Own.aloadN d24_1 rfl rfl ?_
  refine Own.callP0 a1 [(.ref a2)] [] 0 (rmIF l Z a0 hw [] a1 a2 zc h0 n0 hn X_a2 F_coder_a2 F_coder_a1 S_C hz) (hw _ (mg 126 rfl)) (hw _ (mg 127 rfl)) (sel_own (hw _ (mg 129 rfl)) (hw _ (mg 128 rfl)) (hw _ (mg 127 rfl)) (by decide)) (hw _ (mg 128 rfl)) (hw _ (mg 95 rfl)) (hw _ (mg 130 rfl)) (by decide) X_a1 d24_2 pd_18 rfl rfl rfl rfl (by decide) (by decide) (by decide) (by decide) ?_
  refine Own.aloadN d24_5 rfl rfl ?_
  refine Own.aloadN d24_6 rfl rfl ?_
  refine Own.getF_ (host := "") (Or.inl (hw _ (mg 99 rfl))) Via.refl F_value_a1 d24_7 ?_
  refine Own.iloadN d24_10 rfl ?_
  refine Own.aloadN d24_11 rfl rfl ?_
  refine Own.getF_ (host := "") (Or.inl (hw _ (mg 101 rfl))) Via.refl F_coder_a1 d24_12 ?_
  refine Own.callV_ a2 [(.ref b), (.int (2 : Int32)), Z0] [] 0 (rmGB2_2 l Z a0 hw [] a2 t kt b kb zc x0 x1 y0 y1 h0 n0 hn X_a2 F_value_a2 F_coder_a2 V_t V_b S_C hz g_b ne_a2_b ne_t_b) (allS (mg 0 rfl) all0) (hw _ (mg 132 rfl)) (hw _ (mg 133 rfl)) (fun s hZ => notFace_of_selects (args := #[]) (mvT hZ (hw _ (mg 135 rfl)))) (hw _ (mg 135 rfl)) (hw _ (mg 134 rfl)) (hw _ (mg 7 rfl)) (hw _ (mg 136 rfl)) (by decide) X_a2 d24_15 pd_24 rfl rfl rfl rfl (by decide) (by decide) (by decide) (by decide) (fun v108 h108 S108 hq108 => ?_)
  obtain ⟨rfl, K109, V109⟩ := hq108
  have K := K.trans K109 (allS (Or.inl (mg 0 rfl)) all0)
  refine ⟨[], all0, ?_⟩
  refine OAt.cast (st' := []) rfl ?_
  refine Own.ret_void rfl d24_18 (by decide) (by decide) (fun Sf hSf => ?_)
  exact ⟨rfl, K, V109⟩
theorem ef_rmEC2_2 (m : MethodId) (a1 : Addr)  : entryFrame m #[(.ref a1), (.int (4 : Int32))] 3 = mkF m 0 #[.val (.ref a1), .val (.int (4 : Int32)), .unset] [] := by simp [entryFrame, mkF, argsToLocals, Value.category]
theorem rmEC2_2 (l : Launch) (Z : State) (a0 : Array Value) (hw : HW a0 Z) (ws : List Jvm.Cond) (a1 : Addr) (b : Addr) (kb : ClassId) (x0 : Value) (x1 : Value) (h0 : Heap) (n0 : Nat) (hn : n0 ≤ h0.size) (F_value_a1 : FAv Z h0 a1 (.ref b)) (F_coder_a1 : FAc Z h0 a1 Z0) (V_b : Arl Z h0 b kb .byte [x0, x1, Z0, Z0, Z0, Z0, Z0, Z0, Z0, Z0, Z0, Z0, Z0, Z0, Z0, Z0]) :
    Met own_EL l Z (⟨"java/lang/AbstractStringBuilder", "ensureCapacityInternal", "(I)V"⟩ : MethodName) jdk_68_method_9_code 3 none ({ frames := 0, cells := 0, slots := 0, locals := 0 } : Room) ws #[(.ref a1), (.int (4 : Int32))] h0 n0 [] (Pur0 h0) := by
  refine Met.of pn_23 (fun m => ef_rmEC2_2 m a1) ?_
  refine Own.aloadN d23_0 rfl rfl ?_
  refine Own.getF_ (host := "") (Or.inl (hw _ (mg 99 rfl))) Via.refl F_value_a1 d23_1 ?_
  refine Own.arraylength_ (16 : Int32) V_b rfl d23_4 ?_
  refine Own.aloadN d23_5 rfl rfl ?_
  refine Own.getF_ (host := "") (Or.inl (hw _ (mg 101 rfl))) Via.refl F_coder_a1 d23_6 ?_
  refine Own.ishr d23_9 ?_
  refine OAt.cast (st' := [(.int (16 : Int32))]) rfl ?_
  refine Own.istoreN #[.val (.ref a1), .val (.int (4 : Int32)), .val (.int (16 : Int32))] d23_10 rfl ?_
  refine Own.iloadN d23_11 rfl ?_
  refine Own.iloadN d23_12 rfl ?_
  refine Own.isub d23_13 ?_
  refine OAt.cast (st' := [(.int (-12 : Int32))]) rfl ?_
  refine Own.if_le 38 d23_14 (by decide) rfl (fun _ => ?_) (fun q => absurd q (by decide))
  refine Own.ret_void rfl d23_38 (by decide) (by decide) (fun Sf hSf => ?_)
  exact ⟨rfl, rfl⟩
def Q_rmAA2_2 (Z : State) (a1 : Addr) (b : Addr) (kb : ClassId) (x0 : Value) (x1 : Value) (y0 : Value) (y1 : Value) (h0 : Heap) (n0 : Nat) (v : Option Value) (h : Heap) (Sf : Addr → Prop) : Prop := v = some (.ref a1) ∧ Keep h0 h [a1, b] ∧ FAv Z h a1 (.ref b) ∧ FAc Z h a1 Z0 ∧ FAn Z h a1 (.int (4 : Int32)) ∧ Arl Z h b kb .byte [x0, x1, y0, y1, Z0, Z0, Z0, Z0, Z0, Z0, Z0, Z0, Z0, Z0, Z0, Z0]
theorem ef_rmAA2_2 (m : MethodId) (a1 : Addr) (a2 : Addr)  : entryFrame m #[(.ref a1), (.ref a2)] 3 = mkF m 0 #[.val (.ref a1), .val (.ref a2), .unset] [] := by simp [entryFrame, mkF, argsToLocals, Value.category]
theorem rmAA2_2 (l : Launch) (Z : State) (a0 : Array Value) (hw : HW a0 Z) (ws : List Jvm.Cond) (a1 : Addr) (a2 : Addr) (t : Addr) (kt : ClassId) (b : Addr) (kb : ClassId) (zc : Int32) (x0 : Value) (x1 : Value) (y0 : Value) (y1 : Value) (h0 : Heap) (n0 : Nat) (hn : n0 ≤ h0.size) (X_a2 : XSt Z h0 a2) (F_value_a2 : FSv Z h0 a2 (.ref t)) (F_coder_a2 : FSc Z h0 a2 Z0) (V_t : Arl Z h0 t kt .byte [y0, y1]) (X_a1 : Exa Z h0 a1 "java/lang/StringBuilder") (F_value_a1 : FAv Z h0 a1 (.ref b)) (F_coder_a1 : FAc Z h0 a1 Z0) (F_count_a1 : FAn Z h0 a1 (.int (2 : Int32))) (V_b : Arl Z h0 b kb .byte [x0, x1, Z0, Z0, Z0, Z0, Z0, Z0, Z0, Z0, Z0, Z0, Z0, Z0, Z0, Z0]) (S_C : Sta Z h0 "java/lang/String" "COMPACT_STRINGS" "Z" (.int zc)) (hz : ¬ zc = 0) (g_a1 : n0 ≤ a1) (g_b : n0 ≤ b) (ne_a1_b : a1 ≠ b) (ne_a2_b : a2 ≠ b) (ne_t_b : t ≠ b) (ne_a2_a1 : a2 ≠ a1) (ne_t_a1 : t ≠ a1) :
    Met own_EL l Z (⟨"java/lang/AbstractStringBuilder", "append", "(Ljava/lang/String;)Ljava/lang/AbstractStringBuilder;"⟩ : MethodName) jdk_68_method_22_code 3 (some (.object "java/lang/AbstractStringBuilder")) ({ frames := 3, cells := 0, slots := 0, locals := 80 } : Room) ws #[(.ref a1), (.ref a2)] h0 n0 [a1, b] (Q_rmAA2_2 Z a1 b kb x0 x1 y0 y1 h0 n0) := by
  refine Met.of pn_22 (fun m => ef_rmAA2_2 m a1 a2) ?_
  have ne_b_a1 := Ne.symm ne_a1_b
  have K := Keep.refl h0 [a1, b]
  refine Own.aloadN d22_0 rfl rfl ?_
  refine Own.ifnonnullYes 9 d22_1 (by decide) rfl ?_
  refine Own.aloadN d22_9 rfl rfl ?_
  refine Own.callVP a2 [] [] 0 (rm_len_2 l Z a0 hw [] a2 t kt _ zc h0 n0 hn X_a2 F_value_a2 F_coder_a2 V_t rfl S_C hz) (hw _ (mg 113 rfl)) (hw _ (mg 48 rfl)) (fun s hZ => notFace_of_selects (args := #[]) (mvT hZ (hw _ (mg 50 rfl)))) (hw _ (mg 50 rfl)) (hw _ (mg 49 rfl)) (hw _ (mg 7 rfl)) (hw _ (mg 51 rfl)) (by decide) X_a2 d22_10 pd_1 rfl rfl rfl rfl (by decide) (by decide) (by decide) (by decide) ?_
  refine Own.istoreN #[.val (.ref a1), .val (.ref a2), .val (.int (2 : Int32))] d22_13 rfl ?_
  refine Own.aloadN d22_14 rfl rfl ?_
  refine Own.aloadN d22_15 rfl rfl ?_
  refine Own.getF_ (host := "") (Or.inl (hw _ (mg 114 rfl))) Via.refl F_count_a1 d22_16 ?_
  refine Own.iloadN d22_19 rfl ?_
  refine Own.iadd d22_20 ?_
  refine OAt.cast (st' := [(.int (4 : Int32)), (.ref a1)]) rfl ?_
  refine Own.callP0 a1 [(.int (4 : Int32))] [] 0 (rmEC2_2 l Z a0 hw [] a1 b kb x0 x1 h0 n0 hn F_value_a1 F_coder_a1 V_b) (hw _ (mg 116 rfl)) (hw _ (mg 117 rfl)) (sel_own (hw _ (mg 119 rfl)) (hw _ (mg 118 rfl)) (hw _ (mg 117 rfl)) (by decide)) (hw _ (mg 118 rfl)) (hw _ (mg 95 rfl)) (hw _ (mg 120 rfl)) (by decide) X_a1 d22_21 pd_7 rfl rfl rfl rfl (by decide) (by decide) (by decide) (by decide) ?_
  refine Own.aloadN d22_24 rfl rfl ?_
  refine Own.aloadN d22_25 rfl rfl ?_
  refine Own.getF_ (host := "") (Or.inl (hw _ (mg 114 rfl))) Via.refl F_count_a1 d22_26 ?_
  refine Own.aloadN d22_29 rfl rfl ?_
  refine Own.callP_ a1 [(.int (2 : Int32)), (.ref a2)] [] 0 (rmPS2_2 l Z a0 hw [] a1 a2 t kt b kb zc x0 x1 y0 y1 h0 n0 hn X_a2 F_value_a2 F_coder_a2 V_t X_a1 F_value_a1 F_coder_a1 F_count_a1 V_b S_C hz g_a1 g_b ne_a1_b ne_a2_b ne_t_b ne_a2_a1 ne_t_a1) (allS (mg 1 rfl) all0) (hw _ (mg 121 rfl)) (hw _ (mg 122 rfl)) (sel_own (hw _ (mg 124 rfl)) (hw _ (mg 123 rfl)) (hw _ (mg 122 rfl)) (by decide)) (hw _ (mg 123 rfl)) (hw _ (mg 95 rfl)) (hw _ (mg 125 rfl)) (by decide) X_a1 d22_30 pd_13 rfl rfl rfl rfl (by decide) (by decide) (by decide) (by decide) (fun v110 h110 S110 hq110 => ?_)
  obtain ⟨rfl, K111, V111⟩ := hq110
  replace X_a1 := X_a1.keep K111
  replace F_value_a1 := F_value_a1.keep K111 (ninS ne_a1_b nin0)
  replace F_coder_a1 := F_coder_a1.keep K111 (ninS ne_a1_b nin0)
  replace F_count_a1 := F_count_a1.keep K111 (ninS ne_a1_b nin0)
  have K := K.trans K111 (allS (Or.inl (mg 1 rfl)) all0)
  refine ⟨[], all0, ?_⟩
  refine OAt.cast (st' := []) rfl ?_
  refine Own.aloadN d22_33 rfl rfl ?_
  refine Own.dup d22_34 rfl ?_
  refine Own.getF_ (host := "") (Or.inl (hw _ (mg 114 rfl))) Via.refl F_count_a1 d22_35 ?_
  refine Own.iloadN d22_38 rfl ?_
  refine Own.iadd d22_39 ?_
  refine OAt.cast (st' := [(.int (4 : Int32)), (.ref a1)]) rfl ?_
  refine Own.putF_ (host := "") (Or.inl (hw _ (mg 114 rfl))) Via.refl F_count_a1 X_a1 (Or.inl (hw _ (mg 115 rfl))) (hw _ (mg 86 rfl)) (ty := .int) (by decide) rfl rfl g_a1 (mg 0 rfl) d22_40 (fun h112 W113 => ?_)
  replace F_count_a1 := F_count_a1.same W113
  replace F_value_a1 := F_value_a1.other W113 (Or.inr (slot_ne (Or.inl (hw _ (mg 100 rfl))) (Or.inl (hw _ (mg 115 rfl))) (by decide) (t := (.array .byte)) (t' := .int) (by decide) (by decide)))
  replace F_coder_a1 := F_coder_a1.other W113 (Or.inr (slot_ne (Or.inl (hw _ (mg 102 rfl))) (Or.inl (hw _ (mg 115 rfl))) (by decide) (t := .byte) (t' := .int) (by decide) (by decide)))
  replace V111 := V111.other W113 ne_b_a1
  have K := K.wr W113 (Or.inl (mg 0 rfl))
  refine Own.aloadN d22_43 rfl rfl ?_
  refine Own.ret_ref (t := (.object "java/lang/AbstractStringBuilder")) rfl rfl rfl d22_44 (by decide) (by decide) (fun Sf hSf => ?_)
  exact ⟨rfl, K, F_value_a1, F_coder_a1, F_count_a1, V111⟩
def Q_rmSA2_2 (Z : State) (a1 : Addr) (b : Addr) (kb : ClassId) (x0 : Value) (x1 : Value) (y0 : Value) (y1 : Value) (h0 : Heap) (n0 : Nat) (v : Option Value) (h : Heap) (Sf : Addr → Prop) : Prop := v = some (.ref a1) ∧ Keep h0 h [a1, b] ∧ FAv Z h a1 (.ref b) ∧ FAc Z h a1 Z0 ∧ FAn Z h a1 (.int (4 : Int32)) ∧ Arl Z h b kb .byte [x0, x1, y0, y1, Z0, Z0, Z0, Z0, Z0, Z0, Z0, Z0, Z0, Z0, Z0, Z0]
theorem ef_rmSA2_2 (m : MethodId) (a1 : Addr) (a2 : Addr)  : entryFrame m #[(.ref a1), (.ref a2)] 2 = mkF m 0 #[.val (.ref a1), .val (.ref a2)] [] := by simp [entryFrame, mkF, argsToLocals, Value.category]
theorem rmSA2_2 (l : Launch) (Z : State) (a0 : Array Value) (hw : HW a0 Z) (ws : List Jvm.Cond) (a1 : Addr) (a2 : Addr) (t : Addr) (kt : ClassId) (b : Addr) (kb : ClassId) (zc : Int32) (x0 : Value) (x1 : Value) (y0 : Value) (y1 : Value) (h0 : Heap) (n0 : Nat) (hn : n0 ≤ h0.size) (X_a2 : XSt Z h0 a2) (F_value_a2 : FSv Z h0 a2 (.ref t)) (F_coder_a2 : FSc Z h0 a2 Z0) (V_t : Arl Z h0 t kt .byte [y0, y1]) (X_a1 : Exa Z h0 a1 "java/lang/StringBuilder") (F_value_a1 : FAv Z h0 a1 (.ref b)) (F_coder_a1 : FAc Z h0 a1 Z0) (F_count_a1 : FAn Z h0 a1 (.int (2 : Int32))) (V_b : Arl Z h0 b kb .byte [x0, x1, Z0, Z0, Z0, Z0, Z0, Z0, Z0, Z0, Z0, Z0, Z0, Z0, Z0, Z0]) (S_C : Sta Z h0 "java/lang/String" "COMPACT_STRINGS" "Z" (.int zc)) (hz : ¬ zc = 0) (g_a1 : n0 ≤ a1) (g_b : n0 ≤ b) (ne_a1_b : a1 ≠ b) (ne_a2_b : a2 ≠ b) (ne_t_b : t ≠ b) (ne_a2_a1 : a2 ≠ a1) (ne_t_a1 : t ≠ a1) :
    Met own_EL l Z (⟨"java/lang/StringBuilder", "append", "(Ljava/lang/String;)Ljava/lang/StringBuilder;"⟩ : MethodName) jdk_67_method_7_code 2 (some (.object "java/lang/StringBuilder")) ({ frames := 4, cells := 0, slots := 0, locals := 94 } : Room) ws #[(.ref a1), (.ref a2)] h0 n0 [a1, b] (Q_rmSA2_2 Z a1 b kb x0 x1 y0 y1 h0 n0) := by
  refine Met.of pn_21 (fun m => ef_rmSA2_2 m a1 a2) ?_
  have K := Keep.refl h0 [a1, b]
  refine Own.aloadN d21_0 rfl rfl ?_
  refine Own.aloadN d21_1 rfl rfl ?_
  refine Own.callU_ a1 [(.ref a2)] [] 0 (rmAA2_2 l Z a0 hw [] a1 a2 t kt b kb zc x0 x1 y0 y1 h0 n0 hn X_a2 F_value_a2 F_coder_a2 V_t X_a1 F_value_a1 F_coder_a1 F_count_a1 V_b S_C hz g_a1 g_b ne_a1_b ne_a2_b ne_t_b ne_a2_a1 ne_t_a1) (allS (mg 0 rfl) (allS (mg 1 rfl) all0)) (hw _ (mg 108 rfl)) (same_own (face_same (hw _ (mg 119 rfl)) rfl) (hw _ (mg 109 rfl)) (by decide)) (hw _ (mg 109 rfl)) (hw _ (mg 110 rfl)) (hw _ (mg 95 rfl)) (hw _ (mg 112 rfl)) (by decide) (Ins.self X_a1) d21_2 pd_16 rfl rfl rfl rfl (by decide) (by decide) (by decide) (by decide) (fun v114 h114 S114 hq114 => ?_)
  obtain ⟨rfl, K115, G1, G2, G3, V115⟩ := hq114
  have K := K.trans K115 (allS (Or.inl (mg 0 rfl)) (allS (Or.inl (mg 1 rfl)) all0))
  have F_value_a1 := G1
  have F_coder_a1 := G2
  have F_count_a1 := G3
  refine ⟨[], all0, ?_⟩
  refine OAt.cast (st' := [(.ref a1)]) rfl ?_
  refine Own.pop d21_5 rfl ?_
  refine Own.aloadN d21_6 rfl rfl ?_
  refine Own.ret_ref (t := (.object "java/lang/StringBuilder")) rfl rfl rfl d21_7 (by decide) (by decide) (fun Sf hSf => ?_)
  exact ⟨rfl, K, F_value_a1, F_coder_a1, F_count_a1, V115⟩
def Q_rmGB3_1 (Z : State) (b : Addr) (kb : ClassId) (x0 : Value) (x1 : Value) (x2 : Value) (y0 : Value) (h0 : Heap) (n0 : Nat) (v : Option Value) (h : Heap) (Sf : Addr → Prop) : Prop := v = none ∧ Keep h0 h [b] ∧ Arl Z h b kb .byte [x0, x1, x2, y0, Z0, Z0, Z0, Z0, Z0, Z0, Z0, Z0, Z0, Z0, Z0, Z0]
theorem ef_rmGB3_1 (m : MethodId) (a2 : Addr) (b : Addr)  : entryFrame m #[(.ref a2), (.ref b), (.int (3 : Int32)), Z0] 4 = mkF m 0 #[.val (.ref a2), .val (.ref b), .val (.int (3 : Int32)), .val Z0] [] := by simp [entryFrame, mkF, argsToLocals, Value.category]
theorem rmGB3_1 (l : Launch) (Z : State) (a0 : Array Value) (hw : HW a0 Z) (ws : List Jvm.Cond) (a2 : Addr) (t : Addr) (kt : ClassId) (b : Addr) (kb : ClassId) (zc : Int32) (x0 : Value) (x1 : Value) (x2 : Value) (y0 : Value) (h0 : Heap) (n0 : Nat) (hn : n0 ≤ h0.size) (X_a2 : XSt Z h0 a2) (F_value_a2 : FSv Z h0 a2 (.ref t)) (F_coder_a2 : FSc Z h0 a2 Z0) (V_t : Arl Z h0 t kt .byte [y0]) (V_b : Arl Z h0 b kb .byte [x0, x1, x2, Z0, Z0, Z0, Z0, Z0, Z0, Z0, Z0, Z0, Z0, Z0, Z0, Z0]) (S_C : Sta Z h0 "java/lang/String" "COMPACT_STRINGS" "Z" (.int zc)) (hz : ¬ zc = 0) (g_b : n0 ≤ b) (ne_a2_b : a2 ≠ b) (ne_t_b : t ≠ b) :
    Met own_EL l Z (⟨"java/lang/String", "getBytes", "([BIB)V"⟩ : MethodName) jdk_42_method_147_code 4 none ({ frames := 1, cells := 0, slots := 0, locals := 51 } : Room) ws #[(.ref a2), (.ref b), (.int (3 : Int32)), Z0] h0 n0 [b] (Q_rmGB3_1 Z b kb x0 x1 x2 y0 h0 n0) := by
  refine Met.of pn_26 (fun m => ef_rmGB3_1 m a2 b) ?_
  have K := Keep.refl h0 [b]
  refine Own.aloadN d26_0 rfl rfl ?_
  refine Own.callVP a2 [] [] 0 (rmCO l Z a0 hw [] a2 zc h0 n0 hn F_coder_a2 S_C hz) (hw _ (mg 52 rfl)) (hw _ (mg 53 rfl)) (fun s hZ => notFace_of_selects (args := #[]) (mvT hZ (hw _ (mg 55 rfl)))) (hw _ (mg 55 rfl)) (hw _ (mg 54 rfl)) (hw _ (mg 7 rfl)) (hw _ (mg 56 rfl)) (by decide) X_a2 d26_1 pd_0 rfl rfl rfl rfl (by decide) (by decide) (by decide) (by decide) ?_
  refine Own.iloadN d26_4 rfl ?_
  refine Own.icmp_ne 28 d26_5 (by decide) rfl (fun q => absurd (by decide) q) (fun _ => ?_)
  refine Own.aloadN d26_8 rfl rfl ?_
  refine Own.getF_ (host := "") (Or.inl (hw _ (mg 33 rfl))) Via.refl F_value_a2 d26_9 ?_
  refine Own.iconst (0 : Int32) d26_12 rfl ?_
  refine Own.aloadN d26_13 rfl rfl ?_
  refine Own.iloadN d26_14 rfl ?_
  refine Own.iloadN d26_15 rfl ?_
  refine Own.ishl d26_16 ?_
  refine OAt.cast (st' := [(.int (3 : Int32)), (.ref b), Z0, (.ref t)]) rfl ?_
  refine Own.aloadN d26_17 rfl rfl ?_
  refine Own.getF_ (host := "") (Or.inl (hw _ (mg 33 rfl))) Via.refl F_value_a2 d26_18 ?_
  refine Own.arraylength_ (1 : Int32) V_t rfl d26_21 ?_
  refine Own.arraycopy_ (i := 0) (j := 3) (n := 1) 0 (hw _ (mg 137 rfl)) (hw _ (mg 140 rfl)) (hw _ (mg 138 rfl)) (hw _ (mg 139 rfl)) V_t V_b rfl rfl rfl rfl (Nat.le_of_ble_eq_true rfl) (Nat.le_of_ble_eq_true rfl) g_b (mg 0 rfl) rfl d26_22 (by decide) rfl (by decide) (fun h116 K116 V116 => ?_)
  clear V_b
  replace V116 : Arl Z h116 b kb .byte [x0, x1, x2, y0, Z0, Z0, Z0, Z0, Z0, Z0, Z0, Z0, Z0, Z0, Z0, Z0] := V116
  have K := K.trans K116 (allS (Or.inl (mg 0 rfl)) all0)
  refine Own.goto_ 43 d26_25 (by decide) rfl ?_
  refine Own.ret_void rfl d26_43 (by decide) (by decide) (fun Sf hSf => ?_)
  exact ⟨rfl, K, V116⟩
def Q_rmPS3_1 (Z : State) (b : Addr) (kb : ClassId) (x0 : Value) (x1 : Value) (x2 : Value) (y0 : Value) (h0 : Heap) (n0 : Nat) (v : Option Value) (h : Heap) (Sf : Addr → Prop) : Prop := v = none ∧ Keep h0 h [b] ∧ Arl Z h b kb .byte [x0, x1, x2, y0, Z0, Z0, Z0, Z0, Z0, Z0, Z0, Z0, Z0, Z0, Z0, Z0]
theorem ef_rmPS3_1 (m : MethodId) (a1 : Addr) (a2 : Addr)  : entryFrame m #[(.ref a1), (.int (3 : Int32)), (.ref a2)] 3 = mkF m 0 #[.val (.ref a1), .val (.int (3 : Int32)), .val (.ref a2)] [] := by simp [entryFrame, mkF, argsToLocals, Value.category]
theorem rmPS3_1 (l : Launch) (Z : State) (a0 : Array Value) (hw : HW a0 Z) (ws : List Jvm.Cond) (a1 : Addr) (a2 : Addr) (t : Addr) (kt : ClassId) (b : Addr) (kb : ClassId) (zc : Int32) (x0 : Value) (x1 : Value) (x2 : Value) (y0 : Value) (h0 : Heap) (n0 : Nat) (hn : n0 ≤ h0.size) (X_a2 : XSt Z h0 a2) (F_value_a2 : FSv Z h0 a2 (.ref t)) (F_coder_a2 : FSc Z h0 a2 Z0) (V_t : Arl Z h0 t kt .byte [y0]) (X_a1 : Exa Z h0 a1 "java/lang/StringBuilder") (F_value_a1 : FAv Z h0 a1 (.ref b)) (F_coder_a1 : FAc Z h0 a1 Z0) (F_count_a1 : FAn Z h0 a1 (.int (3 : Int32))) (V_b : Arl Z h0 b kb .byte [x0, x1, x2, Z0, Z0, Z0, Z0, Z0, Z0, Z0, Z0, Z0, Z0, Z0, Z0, Z0]) (S_C : Sta Z h0 "java/lang/String" "COMPACT_STRINGS" "Z" (.int zc)) (hz : ¬ zc = 0) (g_a1 : n0 ≤ a1) (g_b : n0 ≤ b) (ne_a1_b : a1 ≠ b) (ne_a2_b : a2 ≠ b) (ne_t_b : t ≠ b) (ne_a2_a1 : a2 ≠ a1) (ne_t_a1 : t ≠ a1) :
    Met own_EL l Z (⟨"java/lang/AbstractStringBuilder", "putStringAt", "(ILjava/lang/String;)V"⟩ : MethodName) jdk_68_method_73_code 3 none ({ frames := 2, cells := 0, slots := 0, locals := 66 } : Room) ws #[(.ref a1), (.int (3 : Int32)), (.ref a2)] h0 n0 [b] (Q_rmPS3_1 Z b kb x0 x1 x2 y0 h0 n0) := by
  refine Met.of pn_24 (fun m => ef_rmPS3_1 m a1 a2) ?_
  have K := Keep.refl h0 [b]
  refine Own.aloadN d24_0 rfl rfl ?_
  refine Own.aloadN d24_1 rfl rfl ?_
  refine Own.callP0 a1 [(.ref a2)] [] 0 (rmIF l Z a0 hw [] a1 a2 zc h0 n0 hn X_a2 F_coder_a2 F_coder_a1 S_C hz) (hw _ (mg 126 rfl)) (hw _ (mg 127 rfl)) (sel_own (hw _ (mg 129 rfl)) (hw _ (mg 128 rfl)) (hw _ (mg 127 rfl)) (by decide)) (hw _ (mg 128 rfl)) (hw _ (mg 95 rfl)) (hw _ (mg 130 rfl)) (by decide) X_a1 d24_2 pd_18 rfl rfl rfl rfl (by decide) (by decide) (by decide) (by decide) ?_
  refine Own.aloadN d24_5 rfl rfl ?_
  refine Own.aloadN d24_6 rfl rfl ?_
  refine Own.getF_ (host := "") (Or.inl (hw _ (mg 99 rfl))) Via.refl F_value_a1 d24_7 ?_
  refine Own.iloadN d24_10 rfl ?_
  refine Own.aloadN d24_11 rfl rfl ?_
  refine Own.getF_ (host := "") (Or.inl (hw _ (mg 101 rfl))) Via.refl F_coder_a1 d24_12 ?_
  refine Own.callV_ a2 [(.ref b), (.int (3 : Int32)), Z0] [] 0 (rmGB3_1 l Z a0 hw [] a2 t kt b kb zc x0 x1 x2 y0 h0 n0 hn X_a2 F_value_a2 F_coder_a2 V_t V_b S_C hz g_b ne_a2_b ne_t_b) (allS (mg 0 rfl) all0) (hw _ (mg 132 rfl)) (hw _ (mg 133 rfl)) (fun s hZ => notFace_of_selects (args := #[]) (mvT hZ (hw _ (mg 135 rfl)))) (hw _ (mg 135 rfl)) (hw _ (mg 134 rfl)) (hw _ (mg 7 rfl)) (hw _ (mg 136 rfl)) (by decide) X_a2 d24_15 pd_24 rfl rfl rfl rfl (by decide) (by decide) (by decide) (by decide) (fun v117 h117 S117 hq117 => ?_)
  obtain ⟨rfl, K118, V118⟩ := hq117
  have K := K.trans K118 (allS (Or.inl (mg 0 rfl)) all0)
  refine ⟨[], all0, ?_⟩
  refine OAt.cast (st' := []) rfl ?_
  refine Own.ret_void rfl d24_18 (by decide) (by decide) (fun Sf hSf => ?_)
  exact ⟨rfl, K, V118⟩
theorem ef_rmEC3_1 (m : MethodId) (a1 : Addr)  : entryFrame m #[(.ref a1), (.int (4 : Int32))] 3 = mkF m 0 #[.val (.ref a1), .val (.int (4 : Int32)), .unset] [] := by simp [entryFrame, mkF, argsToLocals, Value.category]
theorem rmEC3_1 (l : Launch) (Z : State) (a0 : Array Value) (hw : HW a0 Z) (ws : List Jvm.Cond) (a1 : Addr) (b : Addr) (kb : ClassId) (x0 : Value) (x1 : Value) (x2 : Value) (h0 : Heap) (n0 : Nat) (hn : n0 ≤ h0.size) (F_value_a1 : FAv Z h0 a1 (.ref b)) (F_coder_a1 : FAc Z h0 a1 Z0) (V_b : Arl Z h0 b kb .byte [x0, x1, x2, Z0, Z0, Z0, Z0, Z0, Z0, Z0, Z0, Z0, Z0, Z0, Z0, Z0]) :
    Met own_EL l Z (⟨"java/lang/AbstractStringBuilder", "ensureCapacityInternal", "(I)V"⟩ : MethodName) jdk_68_method_9_code 3 none ({ frames := 0, cells := 0, slots := 0, locals := 0 } : Room) ws #[(.ref a1), (.int (4 : Int32))] h0 n0 [] (Pur0 h0) := by
  refine Met.of pn_23 (fun m => ef_rmEC3_1 m a1) ?_
  refine Own.aloadN d23_0 rfl rfl ?_
  refine Own.getF_ (host := "") (Or.inl (hw _ (mg 99 rfl))) Via.refl F_value_a1 d23_1 ?_
  refine Own.arraylength_ (16 : Int32) V_b rfl d23_4 ?_
  refine Own.aloadN d23_5 rfl rfl ?_
  refine Own.getF_ (host := "") (Or.inl (hw _ (mg 101 rfl))) Via.refl F_coder_a1 d23_6 ?_
  refine Own.ishr d23_9 ?_
  refine OAt.cast (st' := [(.int (16 : Int32))]) rfl ?_
  refine Own.istoreN #[.val (.ref a1), .val (.int (4 : Int32)), .val (.int (16 : Int32))] d23_10 rfl ?_
  refine Own.iloadN d23_11 rfl ?_
  refine Own.iloadN d23_12 rfl ?_
  refine Own.isub d23_13 ?_
  refine OAt.cast (st' := [(.int (-12 : Int32))]) rfl ?_
  refine Own.if_le 38 d23_14 (by decide) rfl (fun _ => ?_) (fun q => absurd q (by decide))
  refine Own.ret_void rfl d23_38 (by decide) (by decide) (fun Sf hSf => ?_)
  exact ⟨rfl, rfl⟩
def Q_rmAA3_1 (Z : State) (a1 : Addr) (b : Addr) (kb : ClassId) (x0 : Value) (x1 : Value) (x2 : Value) (y0 : Value) (h0 : Heap) (n0 : Nat) (v : Option Value) (h : Heap) (Sf : Addr → Prop) : Prop := v = some (.ref a1) ∧ Keep h0 h [a1, b] ∧ FAv Z h a1 (.ref b) ∧ FAc Z h a1 Z0 ∧ FAn Z h a1 (.int (4 : Int32)) ∧ Arl Z h b kb .byte [x0, x1, x2, y0, Z0, Z0, Z0, Z0, Z0, Z0, Z0, Z0, Z0, Z0, Z0, Z0]
theorem ef_rmAA3_1 (m : MethodId) (a1 : Addr) (a2 : Addr)  : entryFrame m #[(.ref a1), (.ref a2)] 3 = mkF m 0 #[.val (.ref a1), .val (.ref a2), .unset] [] := by simp [entryFrame, mkF, argsToLocals, Value.category]
theorem rmAA3_1 (l : Launch) (Z : State) (a0 : Array Value) (hw : HW a0 Z) (ws : List Jvm.Cond) (a1 : Addr) (a2 : Addr) (t : Addr) (kt : ClassId) (b : Addr) (kb : ClassId) (zc : Int32) (x0 : Value) (x1 : Value) (x2 : Value) (y0 : Value) (h0 : Heap) (n0 : Nat) (hn : n0 ≤ h0.size) (X_a2 : XSt Z h0 a2) (F_value_a2 : FSv Z h0 a2 (.ref t)) (F_coder_a2 : FSc Z h0 a2 Z0) (V_t : Arl Z h0 t kt .byte [y0]) (X_a1 : Exa Z h0 a1 "java/lang/StringBuilder") (F_value_a1 : FAv Z h0 a1 (.ref b)) (F_coder_a1 : FAc Z h0 a1 Z0) (F_count_a1 : FAn Z h0 a1 (.int (3 : Int32))) (V_b : Arl Z h0 b kb .byte [x0, x1, x2, Z0, Z0, Z0, Z0, Z0, Z0, Z0, Z0, Z0, Z0, Z0, Z0, Z0]) (S_C : Sta Z h0 "java/lang/String" "COMPACT_STRINGS" "Z" (.int zc)) (hz : ¬ zc = 0) (g_a1 : n0 ≤ a1) (g_b : n0 ≤ b) (ne_a1_b : a1 ≠ b) (ne_a2_b : a2 ≠ b) (ne_t_b : t ≠ b) (ne_a2_a1 : a2 ≠ a1) (ne_t_a1 : t ≠ a1) :
    Met own_EL l Z (⟨"java/lang/AbstractStringBuilder", "append", "(Ljava/lang/String;)Ljava/lang/AbstractStringBuilder;"⟩ : MethodName) jdk_68_method_22_code 3 (some (.object "java/lang/AbstractStringBuilder")) ({ frames := 3, cells := 0, slots := 0, locals := 80 } : Room) ws #[(.ref a1), (.ref a2)] h0 n0 [a1, b] (Q_rmAA3_1 Z a1 b kb x0 x1 x2 y0 h0 n0) := by
  refine Met.of pn_22 (fun m => ef_rmAA3_1 m a1 a2) ?_
  have ne_b_a1 := Ne.symm ne_a1_b
  have K := Keep.refl h0 [a1, b]
  refine Own.aloadN d22_0 rfl rfl ?_
  refine Own.ifnonnullYes 9 d22_1 (by decide) rfl ?_
  refine Own.aloadN d22_9 rfl rfl ?_
  refine Own.callVP a2 [] [] 0 (rm_len_1 l Z a0 hw [] a2 t kt _ zc h0 n0 hn X_a2 F_value_a2 F_coder_a2 V_t rfl S_C hz) (hw _ (mg 113 rfl)) (hw _ (mg 48 rfl)) (fun s hZ => notFace_of_selects (args := #[]) (mvT hZ (hw _ (mg 50 rfl)))) (hw _ (mg 50 rfl)) (hw _ (mg 49 rfl)) (hw _ (mg 7 rfl)) (hw _ (mg 51 rfl)) (by decide) X_a2 d22_10 pd_1 rfl rfl rfl rfl (by decide) (by decide) (by decide) (by decide) ?_
  refine Own.istoreN #[.val (.ref a1), .val (.ref a2), .val (.int (1 : Int32))] d22_13 rfl ?_
  refine Own.aloadN d22_14 rfl rfl ?_
  refine Own.aloadN d22_15 rfl rfl ?_
  refine Own.getF_ (host := "") (Or.inl (hw _ (mg 114 rfl))) Via.refl F_count_a1 d22_16 ?_
  refine Own.iloadN d22_19 rfl ?_
  refine Own.iadd d22_20 ?_
  refine OAt.cast (st' := [(.int (4 : Int32)), (.ref a1)]) rfl ?_
  refine Own.callP0 a1 [(.int (4 : Int32))] [] 0 (rmEC3_1 l Z a0 hw [] a1 b kb x0 x1 x2 h0 n0 hn F_value_a1 F_coder_a1 V_b) (hw _ (mg 116 rfl)) (hw _ (mg 117 rfl)) (sel_own (hw _ (mg 119 rfl)) (hw _ (mg 118 rfl)) (hw _ (mg 117 rfl)) (by decide)) (hw _ (mg 118 rfl)) (hw _ (mg 95 rfl)) (hw _ (mg 120 rfl)) (by decide) X_a1 d22_21 pd_7 rfl rfl rfl rfl (by decide) (by decide) (by decide) (by decide) ?_
  refine Own.aloadN d22_24 rfl rfl ?_
  refine Own.aloadN d22_25 rfl rfl ?_
  refine Own.getF_ (host := "") (Or.inl (hw _ (mg 114 rfl))) Via.refl F_count_a1 d22_26 ?_
  refine Own.aloadN d22_29 rfl rfl ?_
  refine Own.callP_ a1 [(.int (3 : Int32)), (.ref a2)] [] 0 (rmPS3_1 l Z a0 hw [] a1 a2 t kt b kb zc x0 x1 x2 y0 h0 n0 hn X_a2 F_value_a2 F_coder_a2 V_t X_a1 F_value_a1 F_coder_a1 F_count_a1 V_b S_C hz g_a1 g_b ne_a1_b ne_a2_b ne_t_b ne_a2_a1 ne_t_a1) (allS (mg 1 rfl) all0) (hw _ (mg 121 rfl)) (hw _ (mg 122 rfl)) (sel_own (hw _ (mg 124 rfl)) (hw _ (mg 123 rfl)) (hw _ (mg 122 rfl)) (by decide)) (hw _ (mg 123 rfl)) (hw _ (mg 95 rfl)) (hw _ (mg 125 rfl)) (by decide) X_a1 d22_30 pd_13 rfl rfl rfl rfl (by decide) (by decide) (by decide) (by decide) (fun v119 h119 S119 hq119 => ?_)
  obtain ⟨rfl, K120, V120⟩ := hq119
  replace X_a1 := X_a1.keep K120
  replace F_value_a1 := F_value_a1.keep K120 (ninS ne_a1_b nin0)
  replace F_coder_a1 := F_coder_a1.keep K120 (ninS ne_a1_b nin0)
  replace F_count_a1 := F_count_a1.keep K120 (ninS ne_a1_b nin0)
  have K := K.trans K120 (allS (Or.inl (mg 1 rfl)) all0)
  refine ⟨[], all0, ?_⟩
  refine OAt.cast (st' := []) rfl ?_
  refine Own.aloadN d22_33 rfl rfl ?_
  refine Own.dup d22_34 rfl ?_
  refine Own.getF_ (host := "") (Or.inl (hw _ (mg 114 rfl))) Via.refl F_count_a1 d22_35 ?_
  refine Own.iloadN d22_38 rfl ?_
  refine Own.iadd d22_39 ?_
  refine OAt.cast (st' := [(.int (4 : Int32)), (.ref a1)]) rfl ?_
  refine Own.putF_ (host := "") (Or.inl (hw _ (mg 114 rfl))) Via.refl F_count_a1 X_a1 (Or.inl (hw _ (mg 115 rfl))) (hw _ (mg 86 rfl)) (ty := .int) (by decide) rfl rfl g_a1 (mg 0 rfl) d22_40 (fun h121 W122 => ?_)
  replace F_count_a1 := F_count_a1.same W122
  replace F_value_a1 := F_value_a1.other W122 (Or.inr (slot_ne (Or.inl (hw _ (mg 100 rfl))) (Or.inl (hw _ (mg 115 rfl))) (by decide) (t := (.array .byte)) (t' := .int) (by decide) (by decide)))
  replace F_coder_a1 := F_coder_a1.other W122 (Or.inr (slot_ne (Or.inl (hw _ (mg 102 rfl))) (Or.inl (hw _ (mg 115 rfl))) (by decide) (t := .byte) (t' := .int) (by decide) (by decide)))
  replace V120 := V120.other W122 ne_b_a1
  have K := K.wr W122 (Or.inl (mg 0 rfl))
  refine Own.aloadN d22_43 rfl rfl ?_
  refine Own.ret_ref (t := (.object "java/lang/AbstractStringBuilder")) rfl rfl rfl d22_44 (by decide) (by decide) (fun Sf hSf => ?_)
  exact ⟨rfl, K, F_value_a1, F_coder_a1, F_count_a1, V120⟩
def Q_rmSA3_1 (Z : State) (a1 : Addr) (b : Addr) (kb : ClassId) (x0 : Value) (x1 : Value) (x2 : Value) (y0 : Value) (h0 : Heap) (n0 : Nat) (v : Option Value) (h : Heap) (Sf : Addr → Prop) : Prop := v = some (.ref a1) ∧ Keep h0 h [a1, b] ∧ FAv Z h a1 (.ref b) ∧ FAc Z h a1 Z0 ∧ FAn Z h a1 (.int (4 : Int32)) ∧ Arl Z h b kb .byte [x0, x1, x2, y0, Z0, Z0, Z0, Z0, Z0, Z0, Z0, Z0, Z0, Z0, Z0, Z0]
theorem ef_rmSA3_1 (m : MethodId) (a1 : Addr) (a2 : Addr)  : entryFrame m #[(.ref a1), (.ref a2)] 2 = mkF m 0 #[.val (.ref a1), .val (.ref a2)] [] := by simp [entryFrame, mkF, argsToLocals, Value.category]
theorem rmSA3_1 (l : Launch) (Z : State) (a0 : Array Value) (hw : HW a0 Z) (ws : List Jvm.Cond) (a1 : Addr) (a2 : Addr) (t : Addr) (kt : ClassId) (b : Addr) (kb : ClassId) (zc : Int32) (x0 : Value) (x1 : Value) (x2 : Value) (y0 : Value) (h0 : Heap) (n0 : Nat) (hn : n0 ≤ h0.size) (X_a2 : XSt Z h0 a2) (F_value_a2 : FSv Z h0 a2 (.ref t)) (F_coder_a2 : FSc Z h0 a2 Z0) (V_t : Arl Z h0 t kt .byte [y0]) (X_a1 : Exa Z h0 a1 "java/lang/StringBuilder") (F_value_a1 : FAv Z h0 a1 (.ref b)) (F_coder_a1 : FAc Z h0 a1 Z0) (F_count_a1 : FAn Z h0 a1 (.int (3 : Int32))) (V_b : Arl Z h0 b kb .byte [x0, x1, x2, Z0, Z0, Z0, Z0, Z0, Z0, Z0, Z0, Z0, Z0, Z0, Z0, Z0]) (S_C : Sta Z h0 "java/lang/String" "COMPACT_STRINGS" "Z" (.int zc)) (hz : ¬ zc = 0) (g_a1 : n0 ≤ a1) (g_b : n0 ≤ b) (ne_a1_b : a1 ≠ b) (ne_a2_b : a2 ≠ b) (ne_t_b : t ≠ b) (ne_a2_a1 : a2 ≠ a1) (ne_t_a1 : t ≠ a1) :
    Met own_EL l Z (⟨"java/lang/StringBuilder", "append", "(Ljava/lang/String;)Ljava/lang/StringBuilder;"⟩ : MethodName) jdk_67_method_7_code 2 (some (.object "java/lang/StringBuilder")) ({ frames := 4, cells := 0, slots := 0, locals := 94 } : Room) ws #[(.ref a1), (.ref a2)] h0 n0 [a1, b] (Q_rmSA3_1 Z a1 b kb x0 x1 x2 y0 h0 n0) := by
  refine Met.of pn_21 (fun m => ef_rmSA3_1 m a1 a2) ?_
  have K := Keep.refl h0 [a1, b]
  refine Own.aloadN d21_0 rfl rfl ?_
  refine Own.aloadN d21_1 rfl rfl ?_
  refine Own.callU_ a1 [(.ref a2)] [] 0 (rmAA3_1 l Z a0 hw [] a1 a2 t kt b kb zc x0 x1 x2 y0 h0 n0 hn X_a2 F_value_a2 F_coder_a2 V_t X_a1 F_value_a1 F_coder_a1 F_count_a1 V_b S_C hz g_a1 g_b ne_a1_b ne_a2_b ne_t_b ne_a2_a1 ne_t_a1) (allS (mg 0 rfl) (allS (mg 1 rfl) all0)) (hw _ (mg 108 rfl)) (same_own (face_same (hw _ (mg 119 rfl)) rfl) (hw _ (mg 109 rfl)) (by decide)) (hw _ (mg 109 rfl)) (hw _ (mg 110 rfl)) (hw _ (mg 95 rfl)) (hw _ (mg 112 rfl)) (by decide) (Ins.self X_a1) d21_2 pd_16 rfl rfl rfl rfl (by decide) (by decide) (by decide) (by decide) (fun v123 h123 S123 hq123 => ?_)
  obtain ⟨rfl, K124, G1, G2, G3, V124⟩ := hq123
  have K := K.trans K124 (allS (Or.inl (mg 0 rfl)) (allS (Or.inl (mg 1 rfl)) all0))
  have F_value_a1 := G1
  have F_coder_a1 := G2
  have F_count_a1 := G3
  refine ⟨[], all0, ?_⟩
  refine OAt.cast (st' := [(.ref a1)]) rfl ?_
  refine Own.pop d21_5 rfl ?_
  refine Own.aloadN d21_6 rfl rfl ?_
  refine Own.ret_ref (t := (.object "java/lang/StringBuilder")) rfl rfl rfl d21_7 (by decide) (by decide) (fun Sf hSf => ?_)
  exact ⟨rfl, K, F_value_a1, F_coder_a1, F_count_a1, V124⟩
def Q_rmGB3_2 (Z : State) (b : Addr) (kb : ClassId) (x0 : Value) (x1 : Value) (x2 : Value) (y0 : Value) (y1 : Value) (h0 : Heap) (n0 : Nat) (v : Option Value) (h : Heap) (Sf : Addr → Prop) : Prop := v = none ∧ Keep h0 h [b] ∧ Arl Z h b kb .byte [x0, x1, x2, y0, y1, Z0, Z0, Z0, Z0, Z0, Z0, Z0, Z0, Z0, Z0, Z0]
theorem ef_rmGB3_2 (m : MethodId) (a2 : Addr) (b : Addr)  : entryFrame m #[(.ref a2), (.ref b), (.int (3 : Int32)), Z0] 4 = mkF m 0 #[.val (.ref a2), .val (.ref b), .val (.int (3 : Int32)), .val Z0] [] := by simp [entryFrame, mkF, argsToLocals, Value.category]
theorem rmGB3_2 (l : Launch) (Z : State) (a0 : Array Value) (hw : HW a0 Z) (ws : List Jvm.Cond) (a2 : Addr) (t : Addr) (kt : ClassId) (b : Addr) (kb : ClassId) (zc : Int32) (x0 : Value) (x1 : Value) (x2 : Value) (y0 : Value) (y1 : Value) (h0 : Heap) (n0 : Nat) (hn : n0 ≤ h0.size) (X_a2 : XSt Z h0 a2) (F_value_a2 : FSv Z h0 a2 (.ref t)) (F_coder_a2 : FSc Z h0 a2 Z0) (V_t : Arl Z h0 t kt .byte [y0, y1]) (V_b : Arl Z h0 b kb .byte [x0, x1, x2, Z0, Z0, Z0, Z0, Z0, Z0, Z0, Z0, Z0, Z0, Z0, Z0, Z0]) (S_C : Sta Z h0 "java/lang/String" "COMPACT_STRINGS" "Z" (.int zc)) (hz : ¬ zc = 0) (g_b : n0 ≤ b) (ne_a2_b : a2 ≠ b) (ne_t_b : t ≠ b) :
    Met own_EL l Z (⟨"java/lang/String", "getBytes", "([BIB)V"⟩ : MethodName) jdk_42_method_147_code 4 none ({ frames := 1, cells := 0, slots := 0, locals := 51 } : Room) ws #[(.ref a2), (.ref b), (.int (3 : Int32)), Z0] h0 n0 [b] (Q_rmGB3_2 Z b kb x0 x1 x2 y0 y1 h0 n0) := by
  refine Met.of pn_26 (fun m => ef_rmGB3_2 m a2 b) ?_
  have K := Keep.refl h0 [b]
  refine Own.aloadN d26_0 rfl rfl ?_
  refine Own.callVP a2 [] [] 0 (rmCO l Z a0 hw [] a2 zc h0 n0 hn F_coder_a2 S_C hz) (hw _ (mg 52 rfl)) (hw _ (mg 53 rfl)) (fun s hZ => notFace_of_selects (args := #[]) (mvT hZ (hw _ (mg 55 rfl)))) (hw _ (mg 55 rfl)) (hw _ (mg 54 rfl)) (hw _ (mg 7 rfl)) (hw _ (mg 56 rfl)) (by decide) X_a2 d26_1 pd_0 rfl rfl rfl rfl (by decide) (by decide) (by decide) (by decide) ?_
  refine Own.iloadN d26_4 rfl ?_
  refine Own.icmp_ne 28 d26_5 (by decide) rfl (fun q => absurd (by decide) q) (fun _ => ?_)
  refine Own.aloadN d26_8 rfl rfl ?_
  refine Own.getF_ (host := "") (Or.inl (hw _ (mg 33 rfl))) Via.refl F_value_a2 d26_9 ?_
  refine Own.iconst (0 : Int32) d26_12 rfl ?_
  refine Own.aloadN d26_13 rfl rfl ?_
  refine Own.iloadN d26_14 rfl ?_
  refine Own.iloadN d26_15 rfl ?_
  refine Own.ishl d26_16 ?_
  refine OAt.cast (st' := [(.int (3 : Int32)), (.ref b), Z0, (.ref t)]) rfl ?_
  refine Own.aloadN d26_17 rfl rfl ?_
  refine Own.getF_ (host := "") (Or.inl (hw _ (mg 33 rfl))) Via.refl F_value_a2 d26_18 ?_
  refine Own.arraylength_ (2 : Int32) V_t rfl d26_21 ?_
  refine Own.arraycopy_ (i := 0) (j := 3) (n := 2) 0 (hw _ (mg 137 rfl)) (hw _ (mg 140 rfl)) (hw _ (mg 138 rfl)) (hw _ (mg 139 rfl)) V_t V_b rfl rfl rfl rfl (Nat.le_of_ble_eq_true rfl) (Nat.le_of_ble_eq_true rfl) g_b (mg 0 rfl) rfl d26_22 (by decide) rfl (by decide) (fun h125 K125 V125 => ?_)
  clear V_b
  replace V125 : Arl Z h125 b kb .byte [x0, x1, x2, y0, y1, Z0, Z0, Z0, Z0, Z0, Z0, Z0, Z0, Z0, Z0, Z0] := V125
  have K := K.trans K125 (allS (Or.inl (mg 0 rfl)) all0)
  refine Own.goto_ 43 d26_25 (by decide) rfl ?_
  refine Own.ret_void rfl d26_43 (by decide) (by decide) (fun Sf hSf => ?_)
  exact ⟨rfl, K, V125⟩
def Q_rmPS3_2 (Z : State) (b : Addr) (kb : ClassId) (x0 : Value) (x1 : Value) (x2 : Value) (y0 : Value) (y1 : Value) (h0 : Heap) (n0 : Nat) (v : Option Value) (h : Heap) (Sf : Addr → Prop) : Prop := v = none ∧ Keep h0 h [b] ∧ Arl Z h b kb .byte [x0, x1, x2, y0, y1, Z0, Z0, Z0, Z0, Z0, Z0, Z0, Z0, Z0, Z0, Z0]
theorem ef_rmPS3_2 (m : MethodId) (a1 : Addr) (a2 : Addr)  : entryFrame m #[(.ref a1), (.int (3 : Int32)), (.ref a2)] 3 = mkF m 0 #[.val (.ref a1), .val (.int (3 : Int32)), .val (.ref a2)] [] := by simp [entryFrame, mkF, argsToLocals, Value.category]
theorem rmPS3_2 (l : Launch) (Z : State) (a0 : Array Value) (hw : HW a0 Z) (ws : List Jvm.Cond) (a1 : Addr) (a2 : Addr) (t : Addr) (kt : ClassId) (b : Addr) (kb : ClassId) (zc : Int32) (x0 : Value) (x1 : Value) (x2 : Value) (y0 : Value) (y1 : Value) (h0 : Heap) (n0 : Nat) (hn : n0 ≤ h0.size) (X_a2 : XSt Z h0 a2) (F_value_a2 : FSv Z h0 a2 (.ref t)) (F_coder_a2 : FSc Z h0 a2 Z0) (V_t : Arl Z h0 t kt .byte [y0, y1]) (X_a1 : Exa Z h0 a1 "java/lang/StringBuilder") (F_value_a1 : FAv Z h0 a1 (.ref b)) (F_coder_a1 : FAc Z h0 a1 Z0) (F_count_a1 : FAn Z h0 a1 (.int (3 : Int32))) (V_b : Arl Z h0 b kb .byte [x0, x1, x2, Z0, Z0, Z0, Z0, Z0, Z0, Z0, Z0, Z0, Z0, Z0, Z0, Z0]) (S_C : Sta Z h0 "java/lang/String" "COMPACT_STRINGS" "Z" (.int zc)) (hz : ¬ zc = 0) (g_a1 : n0 ≤ a1) (g_b : n0 ≤ b) (ne_a1_b : a1 ≠ b) (ne_a2_b : a2 ≠ b) (ne_t_b : t ≠ b) (ne_a2_a1 : a2 ≠ a1) (ne_t_a1 : t ≠ a1) :
    Met own_EL l Z (⟨"java/lang/AbstractStringBuilder", "putStringAt", "(ILjava/lang/String;)V"⟩ : MethodName) jdk_68_method_73_code 3 none ({ frames := 2, cells := 0, slots := 0, locals := 66 } : Room) ws #[(.ref a1), (.int (3 : Int32)), (.ref a2)] h0 n0 [b] (Q_rmPS3_2 Z b kb x0 x1 x2 y0 y1 h0 n0) := by
  refine Met.of pn_24 (fun m => ef_rmPS3_2 m a1 a2) ?_
  have K := Keep.refl h0 [b]
  refine Own.aloadN d24_0 rfl rfl ?_
  refine Own.aloadN d24_1 rfl rfl ?_
  refine Own.callP0 a1 [(.ref a2)] [] 0 (rmIF l Z a0 hw [] a1 a2 zc h0 n0 hn X_a2 F_coder_a2 F_coder_a1 S_C hz) (hw _ (mg 126 rfl)) (hw _ (mg 127 rfl)) (sel_own (hw _ (mg 129 rfl)) (hw _ (mg 128 rfl)) (hw _ (mg 127 rfl)) (by decide)) (hw _ (mg 128 rfl)) (hw _ (mg 95 rfl)) (hw _ (mg 130 rfl)) (by decide) X_a1 d24_2 pd_18 rfl rfl rfl rfl (by decide) (by decide) (by decide) (by decide) ?_
  refine Own.aloadN d24_5 rfl rfl ?_
  refine Own.aloadN d24_6 rfl rfl ?_
  refine Own.getF_ (host := "") (Or.inl (hw _ (mg 99 rfl))) Via.refl F_value_a1 d24_7 ?_
  refine Own.iloadN d24_10 rfl ?_
  refine Own.aloadN d24_11 rfl rfl ?_
  refine Own.getF_ (host := "") (Or.inl (hw _ (mg 101 rfl))) Via.refl F_coder_a1 d24_12 ?_
  refine Own.callV_ a2 [(.ref b), (.int (3 : Int32)), Z0] [] 0 (rmGB3_2 l Z a0 hw [] a2 t kt b kb zc x0 x1 x2 y0 y1 h0 n0 hn X_a2 F_value_a2 F_coder_a2 V_t V_b S_C hz g_b ne_a2_b ne_t_b) (allS (mg 0 rfl) all0) (hw _ (mg 132 rfl)) (hw _ (mg 133 rfl)) (fun s hZ => notFace_of_selects (args := #[]) (mvT hZ (hw _ (mg 135 rfl)))) (hw _ (mg 135 rfl)) (hw _ (mg 134 rfl)) (hw _ (mg 7 rfl)) (hw _ (mg 136 rfl)) (by decide) X_a2 d24_15 pd_24 rfl rfl rfl rfl (by decide) (by decide) (by decide) (by decide) (fun v126 h126 S126 hq126 => ?_)
  obtain ⟨rfl, K127, V127⟩ := hq126
  have K := K.trans K127 (allS (Or.inl (mg 0 rfl)) all0)
  refine ⟨[], all0, ?_⟩
  refine OAt.cast (st' := []) rfl ?_
  refine Own.ret_void rfl d24_18 (by decide) (by decide) (fun Sf hSf => ?_)
  exact ⟨rfl, K, V127⟩
theorem ef_rmEC3_2 (m : MethodId) (a1 : Addr)  : entryFrame m #[(.ref a1), (.int (5 : Int32))] 3 = mkF m 0 #[.val (.ref a1), .val (.int (5 : Int32)), .unset] [] := by simp [entryFrame, mkF, argsToLocals, Value.category]
theorem rmEC3_2 (l : Launch) (Z : State) (a0 : Array Value) (hw : HW a0 Z) (ws : List Jvm.Cond) (a1 : Addr) (b : Addr) (kb : ClassId) (x0 : Value) (x1 : Value) (x2 : Value) (h0 : Heap) (n0 : Nat) (hn : n0 ≤ h0.size) (F_value_a1 : FAv Z h0 a1 (.ref b)) (F_coder_a1 : FAc Z h0 a1 Z0) (V_b : Arl Z h0 b kb .byte [x0, x1, x2, Z0, Z0, Z0, Z0, Z0, Z0, Z0, Z0, Z0, Z0, Z0, Z0, Z0]) :
    Met own_EL l Z (⟨"java/lang/AbstractStringBuilder", "ensureCapacityInternal", "(I)V"⟩ : MethodName) jdk_68_method_9_code 3 none ({ frames := 0, cells := 0, slots := 0, locals := 0 } : Room) ws #[(.ref a1), (.int (5 : Int32))] h0 n0 [] (Pur0 h0) := by
  refine Met.of pn_23 (fun m => ef_rmEC3_2 m a1) ?_
  refine Own.aloadN d23_0 rfl rfl ?_
  refine Own.getF_ (host := "") (Or.inl (hw _ (mg 99 rfl))) Via.refl F_value_a1 d23_1 ?_
  refine Own.arraylength_ (16 : Int32) V_b rfl d23_4 ?_
  refine Own.aloadN d23_5 rfl rfl ?_
  refine Own.getF_ (host := "") (Or.inl (hw _ (mg 101 rfl))) Via.refl F_coder_a1 d23_6 ?_
  refine Own.ishr d23_9 ?_
  refine OAt.cast (st' := [(.int (16 : Int32))]) rfl ?_
  refine Own.istoreN #[.val (.ref a1), .val (.int (5 : Int32)), .val (.int (16 : Int32))] d23_10 rfl ?_
  refine Own.iloadN d23_11 rfl ?_
  refine Own.iloadN d23_12 rfl ?_
  refine Own.isub d23_13 ?_
  refine OAt.cast (st' := [(.int (-11 : Int32))]) rfl ?_
  refine Own.if_le 38 d23_14 (by decide) rfl (fun _ => ?_) (fun q => absurd q (by decide))
  refine Own.ret_void rfl d23_38 (by decide) (by decide) (fun Sf hSf => ?_)
  exact ⟨rfl, rfl⟩
def Q_rmAA3_2 (Z : State) (a1 : Addr) (b : Addr) (kb : ClassId) (x0 : Value) (x1 : Value) (x2 : Value) (y0 : Value) (y1 : Value) (h0 : Heap) (n0 : Nat) (v : Option Value) (h : Heap) (Sf : Addr → Prop) : Prop := v = some (.ref a1) ∧ Keep h0 h [a1, b] ∧ FAv Z h a1 (.ref b) ∧ FAc Z h a1 Z0 ∧ FAn Z h a1 (.int (5 : Int32)) ∧ Arl Z h b kb .byte [x0, x1, x2, y0, y1, Z0, Z0, Z0, Z0, Z0, Z0, Z0, Z0, Z0, Z0, Z0]
theorem ef_rmAA3_2 (m : MethodId) (a1 : Addr) (a2 : Addr)  : entryFrame m #[(.ref a1), (.ref a2)] 3 = mkF m 0 #[.val (.ref a1), .val (.ref a2), .unset] [] := by simp [entryFrame, mkF, argsToLocals, Value.category]
theorem rmAA3_2 (l : Launch) (Z : State) (a0 : Array Value) (hw : HW a0 Z) (ws : List Jvm.Cond) (a1 : Addr) (a2 : Addr) (t : Addr) (kt : ClassId) (b : Addr) (kb : ClassId) (zc : Int32) (x0 : Value) (x1 : Value) (x2 : Value) (y0 : Value) (y1 : Value) (h0 : Heap) (n0 : Nat) (hn : n0 ≤ h0.size) (X_a2 : XSt Z h0 a2) (F_value_a2 : FSv Z h0 a2 (.ref t)) (F_coder_a2 : FSc Z h0 a2 Z0) (V_t : Arl Z h0 t kt .byte [y0, y1]) (X_a1 : Exa Z h0 a1 "java/lang/StringBuilder") (F_value_a1 : FAv Z h0 a1 (.ref b)) (F_coder_a1 : FAc Z h0 a1 Z0) (F_count_a1 : FAn Z h0 a1 (.int (3 : Int32))) (V_b : Arl Z h0 b kb .byte [x0, x1, x2, Z0, Z0, Z0, Z0, Z0, Z0, Z0, Z0, Z0, Z0, Z0, Z0, Z0]) (S_C : Sta Z h0 "java/lang/String" "COMPACT_STRINGS" "Z" (.int zc)) (hz : ¬ zc = 0) (g_a1 : n0 ≤ a1) (g_b : n0 ≤ b) (ne_a1_b : a1 ≠ b) (ne_a2_b : a2 ≠ b) (ne_t_b : t ≠ b) (ne_a2_a1 : a2 ≠ a1) (ne_t_a1 : t ≠ a1) :
    Met own_EL l Z (⟨"java/lang/AbstractStringBuilder", "append", "(Ljava/lang/String;)Ljava/lang/AbstractStringBuilder;"⟩ : MethodName) jdk_68_method_22_code 3 (some (.object "java/lang/AbstractStringBuilder")) ({ frames := 3, cells := 0, slots := 0, locals := 80 } : Room) ws #[(.ref a1), (.ref a2)] h0 n0 [a1, b] (Q_rmAA3_2 Z a1 b kb x0 x1 x2 y0 y1 h0 n0) := by
  refine Met.of pn_22 (fun m => ef_rmAA3_2 m a1 a2) ?_
  have ne_b_a1 := Ne.symm ne_a1_b
  have K := Keep.refl h0 [a1, b]
  refine Own.aloadN d22_0 rfl rfl ?_
  refine Own.ifnonnullYes 9 d22_1 (by decide) rfl ?_
  refine Own.aloadN d22_9 rfl rfl ?_
  refine Own.callVP a2 [] [] 0 (rm_len_2 l Z a0 hw [] a2 t kt _ zc h0 n0 hn X_a2 F_value_a2 F_coder_a2 V_t rfl S_C hz) (hw _ (mg 113 rfl)) (hw _ (mg 48 rfl)) (fun s hZ => notFace_of_selects (args := #[]) (mvT hZ (hw _ (mg 50 rfl)))) (hw _ (mg 50 rfl)) (hw _ (mg 49 rfl)) (hw _ (mg 7 rfl)) (hw _ (mg 51 rfl)) (by decide) X_a2 d22_10 pd_1 rfl rfl rfl rfl (by decide) (by decide) (by decide) (by decide) ?_
  refine Own.istoreN #[.val (.ref a1), .val (.ref a2), .val (.int (2 : Int32))] d22_13 rfl ?_
  refine Own.aloadN d22_14 rfl rfl ?_
  refine Own.aloadN d22_15 rfl rfl ?_
  refine Own.getF_ (host := "") (Or.inl (hw _ (mg 114 rfl))) Via.refl F_count_a1 d22_16 ?_
  refine Own.iloadN d22_19 rfl ?_
  refine Own.iadd d22_20 ?_
  refine OAt.cast (st' := [(.int (5 : Int32)), (.ref a1)]) rfl ?_
  refine Own.callP0 a1 [(.int (5 : Int32))] [] 0 (rmEC3_2 l Z a0 hw [] a1 b kb x0 x1 x2 h0 n0 hn F_value_a1 F_coder_a1 V_b) (hw _ (mg 116 rfl)) (hw _ (mg 117 rfl)) (sel_own (hw _ (mg 119 rfl)) (hw _ (mg 118 rfl)) (hw _ (mg 117 rfl)) (by decide)) (hw _ (mg 118 rfl)) (hw _ (mg 95 rfl)) (hw _ (mg 120 rfl)) (by decide) X_a1 d22_21 pd_7 rfl rfl rfl rfl (by decide) (by decide) (by decide) (by decide) ?_
  refine Own.aloadN d22_24 rfl rfl ?_
  refine Own.aloadN d22_25 rfl rfl ?_
  refine Own.getF_ (host := "") (Or.inl (hw _ (mg 114 rfl))) Via.refl F_count_a1 d22_26 ?_
  refine Own.aloadN d22_29 rfl rfl ?_
  refine Own.callP_ a1 [(.int (3 : Int32)), (.ref a2)] [] 0 (rmPS3_2 l Z a0 hw [] a1 a2 t kt b kb zc x0 x1 x2 y0 y1 h0 n0 hn X_a2 F_value_a2 F_coder_a2 V_t X_a1 F_value_a1 F_coder_a1 F_count_a1 V_b S_C hz g_a1 g_b ne_a1_b ne_a2_b ne_t_b ne_a2_a1 ne_t_a1) (allS (mg 1 rfl) all0) (hw _ (mg 121 rfl)) (hw _ (mg 122 rfl)) (sel_own (hw _ (mg 124 rfl)) (hw _ (mg 123 rfl)) (hw _ (mg 122 rfl)) (by decide)) (hw _ (mg 123 rfl)) (hw _ (mg 95 rfl)) (hw _ (mg 125 rfl)) (by decide) X_a1 d22_30 pd_13 rfl rfl rfl rfl (by decide) (by decide) (by decide) (by decide) (fun v128 h128 S128 hq128 => ?_)
  obtain ⟨rfl, K129, V129⟩ := hq128
  replace X_a1 := X_a1.keep K129
  replace F_value_a1 := F_value_a1.keep K129 (ninS ne_a1_b nin0)
  replace F_coder_a1 := F_coder_a1.keep K129 (ninS ne_a1_b nin0)
  replace F_count_a1 := F_count_a1.keep K129 (ninS ne_a1_b nin0)
  have K := K.trans K129 (allS (Or.inl (mg 1 rfl)) all0)
  refine ⟨[], all0, ?_⟩
  refine OAt.cast (st' := []) rfl ?_
  refine Own.aloadN d22_33 rfl rfl ?_
  refine Own.dup d22_34 rfl ?_
  refine Own.getF_ (host := "") (Or.inl (hw _ (mg 114 rfl))) Via.refl F_count_a1 d22_35 ?_
  refine Own.iloadN d22_38 rfl ?_
  refine Own.iadd d22_39 ?_
  refine OAt.cast (st' := [(.int (5 : Int32)), (.ref a1)]) rfl ?_
  refine Own.putF_ (host := "") (Or.inl (hw _ (mg 114 rfl))) Via.refl F_count_a1 X_a1 (Or.inl (hw _ (mg 115 rfl))) (hw _ (mg 86 rfl)) (ty := .int) (by decide) rfl rfl g_a1 (mg 0 rfl) d22_40 (fun h130 W131 => ?_)
  replace F_count_a1 := F_count_a1.same W131
  replace F_value_a1 := F_value_a1.other W131 (Or.inr (slot_ne (Or.inl (hw _ (mg 100 rfl))) (Or.inl (hw _ (mg 115 rfl))) (by decide) (t := (.array .byte)) (t' := .int) (by decide) (by decide)))
  replace F_coder_a1 := F_coder_a1.other W131 (Or.inr (slot_ne (Or.inl (hw _ (mg 102 rfl))) (Or.inl (hw _ (mg 115 rfl))) (by decide) (t := .byte) (t' := .int) (by decide) (by decide)))
  replace V129 := V129.other W131 ne_b_a1
  have K := K.wr W131 (Or.inl (mg 0 rfl))
  refine Own.aloadN d22_43 rfl rfl ?_
  refine Own.ret_ref (t := (.object "java/lang/AbstractStringBuilder")) rfl rfl rfl d22_44 (by decide) (by decide) (fun Sf hSf => ?_)
  exact ⟨rfl, K, F_value_a1, F_coder_a1, F_count_a1, V129⟩
def Q_rmSA3_2 (Z : State) (a1 : Addr) (b : Addr) (kb : ClassId) (x0 : Value) (x1 : Value) (x2 : Value) (y0 : Value) (y1 : Value) (h0 : Heap) (n0 : Nat) (v : Option Value) (h : Heap) (Sf : Addr → Prop) : Prop := v = some (.ref a1) ∧ Keep h0 h [a1, b] ∧ FAv Z h a1 (.ref b) ∧ FAc Z h a1 Z0 ∧ FAn Z h a1 (.int (5 : Int32)) ∧ Arl Z h b kb .byte [x0, x1, x2, y0, y1, Z0, Z0, Z0, Z0, Z0, Z0, Z0, Z0, Z0, Z0, Z0]
theorem ef_rmSA3_2 (m : MethodId) (a1 : Addr) (a2 : Addr)  : entryFrame m #[(.ref a1), (.ref a2)] 2 = mkF m 0 #[.val (.ref a1), .val (.ref a2)] [] := by simp [entryFrame, mkF, argsToLocals, Value.category]
theorem rmSA3_2 (l : Launch) (Z : State) (a0 : Array Value) (hw : HW a0 Z) (ws : List Jvm.Cond) (a1 : Addr) (a2 : Addr) (t : Addr) (kt : ClassId) (b : Addr) (kb : ClassId) (zc : Int32) (x0 : Value) (x1 : Value) (x2 : Value) (y0 : Value) (y1 : Value) (h0 : Heap) (n0 : Nat) (hn : n0 ≤ h0.size) (X_a2 : XSt Z h0 a2) (F_value_a2 : FSv Z h0 a2 (.ref t)) (F_coder_a2 : FSc Z h0 a2 Z0) (V_t : Arl Z h0 t kt .byte [y0, y1]) (X_a1 : Exa Z h0 a1 "java/lang/StringBuilder") (F_value_a1 : FAv Z h0 a1 (.ref b)) (F_coder_a1 : FAc Z h0 a1 Z0) (F_count_a1 : FAn Z h0 a1 (.int (3 : Int32))) (V_b : Arl Z h0 b kb .byte [x0, x1, x2, Z0, Z0, Z0, Z0, Z0, Z0, Z0, Z0, Z0, Z0, Z0, Z0, Z0]) (S_C : Sta Z h0 "java/lang/String" "COMPACT_STRINGS" "Z" (.int zc)) (hz : ¬ zc = 0) (g_a1 : n0 ≤ a1) (g_b : n0 ≤ b) (ne_a1_b : a1 ≠ b) (ne_a2_b : a2 ≠ b) (ne_t_b : t ≠ b) (ne_a2_a1 : a2 ≠ a1) (ne_t_a1 : t ≠ a1) :
    Met own_EL l Z (⟨"java/lang/StringBuilder", "append", "(Ljava/lang/String;)Ljava/lang/StringBuilder;"⟩ : MethodName) jdk_67_method_7_code 2 (some (.object "java/lang/StringBuilder")) ({ frames := 4, cells := 0, slots := 0, locals := 94 } : Room) ws #[(.ref a1), (.ref a2)] h0 n0 [a1, b] (Q_rmSA3_2 Z a1 b kb x0 x1 x2 y0 y1 h0 n0) := by
  refine Met.of pn_21 (fun m => ef_rmSA3_2 m a1 a2) ?_
  have K := Keep.refl h0 [a1, b]
  refine Own.aloadN d21_0 rfl rfl ?_
  refine Own.aloadN d21_1 rfl rfl ?_
  refine Own.callU_ a1 [(.ref a2)] [] 0 (rmAA3_2 l Z a0 hw [] a1 a2 t kt b kb zc x0 x1 x2 y0 y1 h0 n0 hn X_a2 F_value_a2 F_coder_a2 V_t X_a1 F_value_a1 F_coder_a1 F_count_a1 V_b S_C hz g_a1 g_b ne_a1_b ne_a2_b ne_t_b ne_a2_a1 ne_t_a1) (allS (mg 0 rfl) (allS (mg 1 rfl) all0)) (hw _ (mg 108 rfl)) (same_own (face_same (hw _ (mg 119 rfl)) rfl) (hw _ (mg 109 rfl)) (by decide)) (hw _ (mg 109 rfl)) (hw _ (mg 110 rfl)) (hw _ (mg 95 rfl)) (hw _ (mg 112 rfl)) (by decide) (Ins.self X_a1) d21_2 pd_16 rfl rfl rfl rfl (by decide) (by decide) (by decide) (by decide) (fun v132 h132 S132 hq132 => ?_)
  obtain ⟨rfl, K133, G1, G2, G3, V133⟩ := hq132
  have K := K.trans K133 (allS (Or.inl (mg 0 rfl)) (allS (Or.inl (mg 1 rfl)) all0))
  have F_value_a1 := G1
  have F_coder_a1 := G2
  have F_count_a1 := G3
  refine ⟨[], all0, ?_⟩
  refine OAt.cast (st' := [(.ref a1)]) rfl ?_
  refine Own.pop d21_5 rfl ?_
  refine Own.aloadN d21_6 rfl rfl ?_
  refine Own.ret_ref (t := (.object "java/lang/StringBuilder")) rfl rfl rfl d21_7 (by decide) (by decide) (fun Sf hSf => ?_)
  exact ⟨rfl, K, F_value_a1, F_coder_a1, F_count_a1, V133⟩
theorem d30_0 : decode jdk_68_method_64_code 0 = .ok (.aload_n 0, 1) := by decide +kernel
theorem d30_1 : decode jdk_68_method_64_code 1 = .ok (.getfield 15, 3) := by decide +kernel
theorem d30_4 : decode jdk_68_method_64_code 4 = .ok (.areturn, 1) := by decide +kernel
theorem ef_rmGV (m : MethodId) (a1 : Addr)  : entryFrame m #[(.ref a1)] 1 = mkF m 0 #[.val (.ref a1)] [] := by simp [entryFrame, mkF, argsToLocals, Value.category]
theorem pn_30 : plainFor (⟨"java/lang/AbstractStringBuilder", "getValue", "()[B"⟩ : MethodName) = true := plainFor_of_name (show plainName "java/lang/AbstractStringBuilder" = true by first | (simp [plainName, overriddenIn]; done) | decide +kernel)
theorem rmGV (l : Launch) (Z : State) (a0 : Array Value) (hw : HW a0 Z) (ws : List Jvm.Cond) (a1 : Addr) (b : Addr) (h0 : Heap) (n0 : Nat) (hn : n0 ≤ h0.size) (F_value_a1 : FAv Z h0 a1 (.ref b)) :
    Met own_EL l Z (⟨"java/lang/AbstractStringBuilder", "getValue", "()[B"⟩ : MethodName) jdk_68_method_64_code 1 (some (.array .byte)) ({ frames := 0, cells := 0, slots := 0, locals := 0 } : Room) ws #[(.ref a1)] h0 n0 [] (Pur (.ref b) h0) := by
  refine Met.of pn_30 (fun m => ef_rmGV m a1) ?_
  refine Own.aloadN d30_0 rfl rfl ?_
  refine Own.getF_ (host := "") (Or.inl (hw _ (mg 99 rfl))) Via.refl F_value_a1 d30_1 ?_
  refine Own.ret_ref (t := (.array .byte)) rfl rfl rfl d30_4 (by decide) (by decide) (fun Sf hSf => ?_)
  exact ⟨rfl, rfl⟩
theorem d33_0 : decode jdk_68_method_68_code 0 = .ok (.getstatic 18, 3) := by decide +kernel
theorem d33_3 : decode jdk_68_method_68_code 3 = .ok (.ifCond .eq 14, 3) := by decide +kernel
theorem d33_6 : decode jdk_68_method_68_code 6 = .ok (.aload_n 0, 1) := by decide +kernel
theorem d33_7 : decode jdk_68_method_68_code 7 = .ok (.getfield 22, 3) := by decide +kernel
theorem d33_10 : decode jdk_68_method_68_code 10 = .ok (.ifCond .ne 7, 3) := by decide +kernel
theorem d33_13 : decode jdk_68_method_68_code 13 = .ok (.iconst 1, 1) := by decide +kernel
theorem d33_14 : decode jdk_68_method_68_code 14 = .ok (.goto 4, 3) := by decide +kernel
theorem d33_18 : decode jdk_68_method_68_code 18 = .ok (.ireturn, 1) := by decide +kernel
theorem ef_rmBL (m : MethodId) (a1 : Addr)  : entryFrame m #[(.ref a1)] 1 = mkF m 0 #[.val (.ref a1)] [] := by simp [entryFrame, mkF, argsToLocals, Value.category]
theorem pn_33 : plainFor (⟨"java/lang/AbstractStringBuilder", "isLatin1", "()Z"⟩ : MethodName) = true := plainFor_of_name (show plainName "java/lang/AbstractStringBuilder" = true by first | (simp [plainName, overriddenIn]; done) | decide +kernel)
theorem rmBL (l : Launch) (Z : State) (a0 : Array Value) (hw : HW a0 Z) (ws : List Jvm.Cond) (a1 : Addr) (zc : Int32) (h0 : Heap) (n0 : Nat) (hn : n0 ≤ h0.size) (S_C : Sta Z h0 "java/lang/String" "COMPACT_STRINGS" "Z" (.int zc)) (hz : ¬ zc = 0) (F_coder_a1 : FAc Z h0 a1 Z0) :
    Met own_EL l Z (⟨"java/lang/AbstractStringBuilder", "isLatin1", "()Z"⟩ : MethodName) jdk_68_method_68_code 1 (some .boolean) ({ frames := 0, cells := 0, slots := 0, locals := 0 } : Room) ws #[(.ref a1)] h0 n0 [] (Pur (.int (1 : Int32)) h0) := by
  refine Met.of pn_33 (fun m => ef_rmBL m a1) ?_
  refine Own.getS_ (host := "") (Or.inl (hw _ (mg 98 rfl))) Via.refl S_C d33_0 ?_
  refine Own.if_eq 17 d33_3 (by decide) rfl (fun q => absurd q hz) (fun _ => ?_)
  refine Own.aloadN d33_6 rfl rfl ?_
  refine Own.getF_ (host := "") (Or.inl (hw _ (mg 101 rfl))) Via.refl F_coder_a1 d33_7 ?_
  refine Own.if_ne 17 d33_10 (by decide) rfl (fun q => absurd (by decide) q) (fun _ => ?_)
  refine Own.iconst (1 : Int32) d33_13 rfl ?_
  refine Own.goto_ 18 d33_14 (by decide) rfl ?_
  refine Own.ret_nar (t := .boolean) (by simp) rfl d33_18 (by decide) (by decide) (fun Sf hSf => ?_)
  exact ⟨rfl, rfl⟩
theorem d32_0 : decode jdk_68_method_6_code 0 = .ok (.aload_n 0, 1) := by decide +kernel
theorem d32_1 : decode jdk_68_method_6_code 1 = .ok (.getfield 79, 3) := by decide +kernel
theorem d32_4 : decode jdk_68_method_6_code 4 = .ok (.ireturn, 1) := by decide +kernel
theorem ef_rmL1 (m : MethodId) (a1 : Addr)  : entryFrame m #[(.ref a1)] 1 = mkF m 0 #[.val (.ref a1)] [] := by simp [entryFrame, mkF, argsToLocals, Value.category]
theorem pn_32 : plainFor (⟨"java/lang/AbstractStringBuilder", "length", "()I"⟩ : MethodName) = true := plainFor_of_name (show plainName "java/lang/AbstractStringBuilder" = true by first | (simp [plainName, overriddenIn]; done) | decide +kernel)
theorem rmL1 (l : Launch) (Z : State) (a0 : Array Value) (hw : HW a0 Z) (ws : List Jvm.Cond) (a1 : Addr) (q : Int32) (h0 : Heap) (n0 : Nat) (hn : n0 ≤ h0.size) (F_count_a1 : FAn Z h0 a1 (.int q)) :
    Met own_EL l Z (⟨"java/lang/AbstractStringBuilder", "length", "()I"⟩ : MethodName) jdk_68_method_6_code 1 (some .int) ({ frames := 0, cells := 0, slots := 0, locals := 0 } : Room) ws #[(.ref a1)] h0 n0 [] (Pur (.int q) h0) := by
  refine Met.of pn_32 (fun m => ef_rmL1 m a1) ?_
  refine Own.aloadN d32_0 rfl rfl ?_
  refine Own.getF_ (host := "") (Or.inl (hw _ (mg 114 rfl))) Via.refl F_count_a1 d32_1 ?_
  refine Own.ret_int rfl d32_4 (by decide) (by decide) (fun Sf hSf => ?_)
  exact ⟨rfl, rfl⟩
theorem d31_0 : decode jdk_67_method_93_code 0 = .ok (.aload_n 0, 1) := by decide +kernel
theorem d31_1 : decode jdk_67_method_93_code 1 = .ok (.invokespecial 343, 3) := by decide +kernel
theorem d31_4 : decode jdk_67_method_93_code 4 = .ok (.ireturn, 1) := by decide +kernel
theorem ef_rmL2 (m : MethodId) (a1 : Addr)  : entryFrame m #[(.ref a1)] 1 = mkF m 0 #[.val (.ref a1)] [] := by simp [entryFrame, mkF, argsToLocals, Value.category]
theorem pn_31 : plainFor (⟨"java/lang/StringBuilder", "length", "()I"⟩ : MethodName) = true := plainFor_of_name (show plainName "java/lang/StringBuilder" = true by first | (simp [plainName, overriddenIn]; done) | decide +kernel)
theorem rmL2 (l : Launch) (Z : State) (a0 : Array Value) (hw : HW a0 Z) (ws : List Jvm.Cond) (a1 : Addr) (q : Int32) (h0 : Heap) (n0 : Nat) (hn : n0 ≤ h0.size) (X_a1 : Exa Z h0 a1 "java/lang/StringBuilder") (F_count_a1 : FAn Z h0 a1 (.int q)) :
    Met own_EL l Z (⟨"java/lang/StringBuilder", "length", "()I"⟩ : MethodName) jdk_67_method_93_code 1 (some .int) ({ frames := 1, cells := 0, slots := 0, locals := 12 } : Room) ws #[(.ref a1)] h0 n0 [] (Pur (.int q) h0) := by
  refine Met.of pn_31 (fun m => ef_rmL2 m a1) ?_
  refine Own.aloadN d31_0 rfl rfl ?_
  refine Own.callUP a1 [] [] 0 (rmL1 l Z a0 hw [] a1 q h0 n0 hn F_count_a1) (hw _ (mg 165 rfl)) (same_own (face_same (hw _ (mg 119 rfl)) rfl) (hw _ (mg 161 rfl)) (by decide)) (hw _ (mg 161 rfl)) (hw _ (mg 110 rfl)) (hw _ (mg 95 rfl)) (hw _ (mg 166 rfl)) (by decide) (Ins.self X_a1) d31_1 pd_1 rfl rfl rfl rfl (by decide) (by decide) (by decide) (by decide) ?_
  refine Own.ret_int rfl d31_4 (by decide) (by decide) (fun Sf hSf => ?_)
  exact ⟨rfl, rfl⟩
theorem d36_0 : decode jdk_65_method_131_code 0 = .ok (.iload_n 1, 1) := by decide +kernel
theorem d36_1 : decode jdk_65_method_131_code 1 = .ok (.iload_n 0, 1) := by decide +kernel
theorem d36_2 : decode jdk_65_method_131_code 2 = .ok (.if_icmp .ge 35, 3) := by decide +kernel
theorem d36_37 : decode jdk_65_method_131_code 37 = .ok (.return_, 1) := by decide +kernel
theorem ef_rmCL2 (m : MethodId)   : entryFrame m #[Z0, (.int (2 : Int32))] 2 = mkF m 0 #[.val Z0, .val (.int (2 : Int32))] [] := by simp [entryFrame, mkF, argsToLocals, Value.category]
theorem pn_36 : plainFor (⟨"java/util/Arrays", "checkLength", "(II)V"⟩ : MethodName) = true := plainFor_of_name (show plainName "java/util/Arrays" = true by first | (simp [plainName, overriddenIn]; done) | decide +kernel)
theorem rmCL2 (l : Launch) (Z : State) (a0 : Array Value) (hw : HW a0 Z) (ws : List Jvm.Cond)  (h0 : Heap) (n0 : Nat) (hn : n0 ≤ h0.size) :
    Met own_EL l Z (⟨"java/util/Arrays", "checkLength", "(II)V"⟩ : MethodName) jdk_65_method_131_code 2 none ({ frames := 0, cells := 0, slots := 0, locals := 0 } : Room) ws #[Z0, (.int (2 : Int32))] h0 n0 [] (Pur0 h0) := by
  refine Met.of pn_36 (fun m => ef_rmCL2 m ) ?_
  refine Own.iloadN d36_0 rfl ?_
  refine Own.iloadN d36_1 rfl ?_
  refine Own.icmp_ge 37 d36_2 (by decide) rfl (fun _ => ?_) (fun q => absurd q (by decide))
  refine Own.ret_void rfl d36_37 (by decide) (by decide) (fun Sf hSf => ?_)
  exact ⟨rfl, rfl⟩
theorem d37_0 : decode jdk_29_method_69_code 0 = .ok (.iload_n 0, 1) := by decide +kernel
theorem d37_1 : decode jdk_29_method_69_code 1 = .ok (.iload_n 1, 1) := by decide +kernel
theorem d37_2 : decode jdk_29_method_69_code 2 = .ok (.if_icmp .gt 7, 3) := by decide +kernel
theorem d37_9 : decode jdk_29_method_69_code 9 = .ok (.iload_n 1, 1) := by decide +kernel
theorem d37_10 : decode jdk_29_method_69_code 10 = .ok (.ireturn, 1) := by decide +kernel
theorem ef_rmMM2 (m : MethodId)   : entryFrame m #[(.int (16 : Int32)), (.int (2 : Int32))] 2 = mkF m 0 #[.val (.int (16 : Int32)), .val (.int (2 : Int32))] [] := by simp [entryFrame, mkF, argsToLocals, Value.category]
theorem pn_37 : plainFor (⟨"java/lang/Math", "min", "(II)I"⟩ : MethodName) = true := Jvm.Free.JP.mathPlain rfl (by decide +kernel)
theorem rmMM2 (l : Launch) (Z : State) (a0 : Array Value) (hw : HW a0 Z) (ws : List Jvm.Cond)  (h0 : Heap) (n0 : Nat) (hn : n0 ≤ h0.size) :
    Met own_EL l Z (⟨"java/lang/Math", "min", "(II)I"⟩ : MethodName) jdk_29_method_69_code 2 (some .int) ({ frames := 0, cells := 0, slots := 0, locals := 0 } : Room) ws #[(.int (16 : Int32)), (.int (2 : Int32))] h0 n0 [] (Pur (.int (2 : Int32)) h0) := by
  refine Met.of pn_37 (fun m => ef_rmMM2 m ) ?_
  refine Own.iloadN d37_0 rfl ?_
  refine Own.iloadN d37_1 rfl ?_
  refine Own.icmp_gt 9 d37_2 (by decide) rfl (fun _ => ?_) (fun q => absurd (by decide) q)
  refine Own.iloadN d37_9 rfl ?_
  refine Own.ret_int rfl d37_10 (by decide) (by decide) (fun Sf hSf => ?_)
  exact ⟨rfl, rfl⟩
theorem d35_0 : decode jdk_65_method_133_code 0 = .ok (.iload_n 1, 1) := by decide +kernel
theorem d35_1 : decode jdk_65_method_133_code 1 = .ok (.iload_n 2, 1) := by decide +kernel
theorem d35_2 : decode jdk_65_method_133_code 2 = .ok (.invokestatic 343, 3) := by decide +kernel
theorem pd_10 : parseMethodDescriptor "(II)V" = some ⟨[.int, .int], none⟩ := by decide +kernel
theorem d35_5 : decode jdk_65_method_133_code 5 = .ok (.iload_n 2, 1) := by decide +kernel
theorem d35_6 : decode jdk_65_method_133_code 6 = .ok (.iload_n 1, 1) := by decide +kernel
theorem d35_7 : decode jdk_65_method_133_code 7 = .ok (.isub, 1) := by decide +kernel
theorem d35_8 : decode jdk_65_method_133_code 8 = .ok (.istore_n 3, 1) := by decide +kernel
theorem d35_9 : decode jdk_65_method_133_code 9 = .ok (.iload_n 3, 1) := by decide +kernel
theorem d35_10 : decode jdk_65_method_133_code 10 = .ok (.newarray .byte, 2) := by decide +kernel
theorem d35_12 : decode jdk_65_method_133_code 12 = .ok (.astore 4, 2) := by decide +kernel
theorem d35_14 : decode jdk_65_method_133_code 14 = .ok (.aload_n 0, 1) := by decide +kernel
theorem d35_15 : decode jdk_65_method_133_code 15 = .ok (.iload_n 1, 1) := by decide +kernel
theorem d35_16 : decode jdk_65_method_133_code 16 = .ok (.aload 4, 2) := by decide +kernel
theorem d35_18 : decode jdk_65_method_133_code 18 = .ok (.iconst 0, 1) := by decide +kernel
theorem d35_19 : decode jdk_65_method_133_code 19 = .ok (.aload_n 0, 1) := by decide +kernel
theorem d35_20 : decode jdk_65_method_133_code 20 = .ok (.arraylength, 1) := by decide +kernel
theorem d35_21 : decode jdk_65_method_133_code 21 = .ok (.iload_n 1, 1) := by decide +kernel
theorem d35_22 : decode jdk_65_method_133_code 22 = .ok (.isub, 1) := by decide +kernel
theorem d35_23 : decode jdk_65_method_133_code 23 = .ok (.iload_n 3, 1) := by decide +kernel
theorem d35_24 : decode jdk_65_method_133_code 24 = .ok (.invokestatic 304, 3) := by decide +kernel
theorem pd_9 : parseMethodDescriptor "(II)I" = some ⟨[.int, .int], some .int⟩ := by decide +kernel
theorem d35_27 : decode jdk_65_method_133_code 27 = .ok (.invokestatic 150, 3) := by decide +kernel
theorem d35_30 : decode jdk_65_method_133_code 30 = .ok (.aload 4, 2) := by decide +kernel
theorem d35_32 : decode jdk_65_method_133_code 32 = .ok (.areturn, 1) := by decide +kernel
def Q_rmRB2 (Z : State) (x0 : Value) (x1 : Value) (h0 : Heap) (n0 : Nat) (v : Option Value) (h : Heap) (Sf : Addr → Prop) : Prop := ∃ (a : Addr) (ka : ClassId), v = some (.ref a) ∧ h0.size ≤ a ∧ Keep h0 h [] ∧ Arl Z h a ka .byte [x0, x1]
theorem ef_rmRB2 (m : MethodId) (a1 : Addr)  : entryFrame m #[(.ref a1), Z0, (.int (2 : Int32))] 5 = mkF m 0 #[.val (.ref a1), .val Z0, .val (.int (2 : Int32)), .unset, .unset] [] := by simp [entryFrame, mkF, argsToLocals, Value.category]
theorem pn_35 : plainFor (⟨"java/util/Arrays", "copyOfRangeByte", "([BII)[B"⟩ : MethodName) = true := plainFor_of_name (show plainName "java/util/Arrays" = true by first | (simp [plainName, overriddenIn]; done) | decide +kernel)
theorem rmRB2 (l : Launch) (Z : State) (a0 : Array Value) (hw : HW a0 Z) (ws : List Jvm.Cond) (a1 : Addr) (ka : ClassId) (x0 : Value) (x1 : Value) (h0 : Heap) (n0 : Nat) (hn : n0 ≤ h0.size) (V_a1 : Arl Z h0 a1 ka .byte [x0, x1, Z0, Z0, Z0, Z0, Z0, Z0, Z0, Z0, Z0, Z0, Z0, Z0, Z0, Z0]) :
    Met own_EL l Z (⟨"java/util/Arrays", "copyOfRangeByte", "([BII)[B"⟩ : MethodName) jdk_65_method_133_code 5 (some (.array .byte)) ({ frames := 1, cells := 1, slots := 2, locals := 51 } : Room) ws #[(.ref a1), Z0, (.int (2 : Int32))] h0 n0 [] (Q_rmRB2 Z x0 x1 h0 n0) := by
  refine Met.of pn_35 (fun m => ef_rmRB2 m a1) ?_
  have K := Keep.refl h0 []
  refine Own.iloadN d35_0 rfl ?_
  refine Own.iloadN d35_1 rfl ?_
  refine Own.callS0 [Z0, (.int (2 : Int32))] [] 0 (rmCL2 l Z a0 hw [] h0 n0 hn) (hw _ (mg 179 rfl)) (hw _ (mg 180 rfl)) (hw _ (mg 174 rfl)) (hw _ (mg 181 rfl)) (by decide) d35_2 pd_10 rfl rfl rfl rfl (by decide) (by decide) (by decide) (by decide) ?_
  refine Own.iloadN d35_5 rfl ?_
  refine Own.iloadN d35_6 rfl ?_
  refine Own.isub d35_7 ?_
  refine OAt.cast (st' := [(.int (2 : Int32))]) rfl ?_
  refine Own.istoreN #[.val (.ref a1), .val Z0, .val (.int (2 : Int32)), .val (.int (2 : Int32)), .unset] d35_8 rfl ?_
  refine Own.iloadN d35_9 rfl ?_
  refine Own.newarray_ 2 .byte rfl (hw _ (mg 24 rfl)) d35_10 (N := 2) rfl (by decide) (by decide) (by decide) (by decide) rfl (fun h134 b134 k134 gb134 E134 V134 => ?_)
  have g_b134 : n0 ≤ b134 := by rw [gb134]; exact hn
  have hn := Nat.le_trans hn E134.1
  replace V_a1 := V_a1.ext E134
  replace V134 : Arl Z h134 b134 k134 .byte [Z0, Z0] := V134
  have sz_b134 : h0.size ≤ b134 := by rw [gb134]; exact K.1
  have K := K.ext E134
  refine Own.astore #[.val (.ref a1), .val Z0, .val (.int (2 : Int32)), .val (.int (2 : Int32)), .val (.ref b134)] d35_12 rfl rfl ?_
  refine Own.aloadN d35_14 rfl rfl ?_
  refine Own.iloadN d35_15 rfl ?_
  refine Own.aload d35_16 rfl rfl ?_
  refine Own.iconst (0 : Int32) d35_18 rfl ?_
  refine Own.aloadN d35_19 rfl rfl ?_
  refine Own.arraylength_ (16 : Int32) V_a1 rfl d35_20 ?_
  refine Own.iloadN d35_21 rfl ?_
  refine Own.isub d35_22 ?_
  refine OAt.cast (st' := [(.int (16 : Int32)), Z0, (.ref b134), Z0, (.ref a1)]) rfl ?_
  refine Own.iloadN d35_23 rfl ?_
  refine Own.callSP [(.int (16 : Int32)), (.int (2 : Int32))] [Z0, (.ref b134), Z0, (.ref a1)] 4 (rmMM2 l Z a0 hw [] h134 n0 hn) (hw _ (mg 182 rfl)) (hw _ (mg 183 rfl)) (hw _ (mg 184 rfl)) (hw _ (mg 185 rfl)) (by decide) d35_24 pd_9 rfl rfl rfl rfl (by decide) (by decide) (by decide) (by decide) ?_
  refine Own.arraycopy_ (i := 0) (j := 0) (n := 2) 0 (hw _ (mg 186 rfl)) (hw _ (mg 140 rfl)) (hw _ (mg 138 rfl)) (hw _ (mg 139 rfl)) V_a1 V134 rfl rfl rfl rfl (Nat.le_of_ble_eq_true rfl) (Nat.le_of_ble_eq_true rfl) g_b134 (mg 0 rfl) rfl d35_27 (by decide) rfl (by decide) (fun h135 K135 V135 => ?_)
  clear V134
  replace V135 : Arl Z h135 b134 k134 .byte [x0, x1] := V135
  have K := K.trans K135 (allS (Or.inr sz_b134) all0)
  refine Own.aload d35_30 rfl rfl ?_
  refine Own.ret_ref (t := (.array .byte)) rfl rfl rfl d35_32 (by decide) (by decide) (fun Sf hSf => ?_)
  exact ⟨b134, k134, rfl, sz_b134, K, V135⟩
theorem d34_0 : decode jdk_65_method_132_code 0 = .ok (.iload_n 1, 1) := by decide +kernel
theorem d34_1 : decode jdk_65_method_132_code 1 = .ok (.ifCond .ne 9, 3) := by decide +kernel
theorem d34_4 : decode jdk_65_method_132_code 4 = .ok (.iload_n 2, 1) := by decide +kernel
theorem d34_5 : decode jdk_65_method_132_code 5 = .ok (.aload_n 0, 1) := by decide +kernel
theorem d34_6 : decode jdk_65_method_132_code 6 = .ok (.arraylength, 1) := by decide +kernel
theorem d34_7 : decode jdk_65_method_132_code 7 = .ok (.if_icmp .eq 10, 3) := by decide +kernel
theorem d34_10 : decode jdk_65_method_132_code 10 = .ok (.aload_n 0, 1) := by decide +kernel
theorem d34_11 : decode jdk_65_method_132_code 11 = .ok (.iload_n 1, 1) := by decide +kernel
theorem d34_12 : decode jdk_65_method_132_code 12 = .ok (.iload_n 2, 1) := by decide +kernel
theorem d34_13 : decode jdk_65_method_132_code 13 = .ok (.invokestatic 339, 3) := by decide +kernel
theorem pd_25 : parseMethodDescriptor "([BII)[B" = some ⟨[(.array .byte), .int, .int], some (.array .byte)⟩ := by decide +kernel
theorem d34_16 : decode jdk_65_method_132_code 16 = .ok (.areturn, 1) := by decide +kernel
def Q_rmRG2 (Z : State) (x0 : Value) (x1 : Value) (h0 : Heap) (n0 : Nat) (v : Option Value) (h : Heap) (Sf : Addr → Prop) : Prop := ∃ (a : Addr) (ka : ClassId), v = some (.ref a) ∧ h0.size ≤ a ∧ Keep h0 h [] ∧ Arl Z h a ka .byte [x0, x1]
theorem ef_rmRG2 (m : MethodId) (a1 : Addr)  : entryFrame m #[(.ref a1), Z0, (.int (2 : Int32))] 3 = mkF m 0 #[.val (.ref a1), .val Z0, .val (.int (2 : Int32))] [] := by simp [entryFrame, mkF, argsToLocals, Value.category]
theorem pn_34 : plainFor (⟨"java/util/Arrays", "copyOfRange", "([BII)[B"⟩ : MethodName) = true := plainFor_of_name (show plainName "java/util/Arrays" = true by first | (simp [plainName, overriddenIn]; done) | decide +kernel)
theorem rmRG2 (l : Launch) (Z : State) (a0 : Array Value) (hw : HW a0 Z) (ws : List Jvm.Cond) (a1 : Addr) (ka : ClassId) (x0 : Value) (x1 : Value) (h0 : Heap) (n0 : Nat) (hn : n0 ≤ h0.size) (V_a1 : Arl Z h0 a1 ka .byte [x0, x1, Z0, Z0, Z0, Z0, Z0, Z0, Z0, Z0, Z0, Z0, Z0, Z0, Z0, Z0]) :
    Met own_EL l Z (⟨"java/util/Arrays", "copyOfRange", "([BII)[B"⟩ : MethodName) jdk_65_method_132_code 3 (some (.array .byte)) ({ frames := 2, cells := 1, slots := 2, locals := 67 } : Room) ws #[(.ref a1), Z0, (.int (2 : Int32))] h0 n0 [] (Q_rmRG2 Z x0 x1 h0 n0) := by
  refine Met.of pn_34 (fun m => ef_rmRG2 m a1) ?_
  have K := Keep.refl h0 []
  refine Own.iloadN d34_0 rfl ?_
  refine Own.if_ne 10 d34_1 (by decide) rfl (fun q => absurd (by decide) q) (fun _ => ?_)
  refine Own.iloadN d34_4 rfl ?_
  refine Own.aloadN d34_5 rfl rfl ?_
  refine Own.arraylength_ (16 : Int32) V_a1 rfl d34_6 ?_
  refine Own.icmp_eq 17 d34_7 (by decide) rfl (fun q => absurd q (by decide)) (fun _ => ?_)
  refine Own.aloadN d34_10 rfl rfl ?_
  refine Own.iloadN d34_11 rfl ?_
  refine Own.iloadN d34_12 rfl ?_
  refine Own.callS_ [(.ref a1), Z0, (.int (2 : Int32))] [] 0 (rmRB2 l Z a0 hw [] a1 ka x0 x1 h0 n0 hn V_a1) all0 (hw _ (mg 176 rfl)) (hw _ (mg 177 rfl)) (hw _ (mg 174 rfl)) (hw _ (mg 178 rfl)) (by decide) d34_13 pd_25 rfl rfl rfl rfl (by decide) (by decide) (by decide) (by decide) (fun v136 h136 S136 hq136 => ?_)
  obtain ⟨b137, k137, rfl, z137, K137, V137⟩ := hq136
  have sz_b137 : h0.size ≤ b137 := Nat.le_trans K.1 z137
  have K := K.trans K137 all0
  refine ⟨[], all0, ?_⟩
  refine OAt.cast (st' := [(.ref b137)]) rfl ?_
  refine Own.ret_ref (t := (.array .byte)) rfl rfl rfl d34_16 (by decide) (by decide) (fun Sf hSf => ?_)
  exact ⟨b137, k137, rfl, sz_b137, K, V137⟩
theorem d29_0 : decode jdk_42_method_150_code 0 = .ok (.aload_n 0, 1) := by decide +kernel
theorem d29_1 : decode jdk_42_method_150_code 1 = .ok (.invokespecial 1, 3) := by decide +kernel
theorem d29_4 : decode jdk_42_method_150_code 4 = .ok (.aload_n 1, 1) := by decide +kernel
theorem d29_5 : decode jdk_42_method_150_code 5 = .ok (.invokevirtual 552, 3) := by decide +kernel
theorem pd_5 : parseMethodDescriptor "()[B" = some ⟨[], some (.array .byte)⟩ := by decide +kernel
theorem d29_8 : decode jdk_42_method_150_code 8 = .ok (.astore_n 3, 1) := by decide +kernel
theorem d29_9 : decode jdk_42_method_150_code 9 = .ok (.aload_n 1, 1) := by decide +kernel
theorem d29_10 : decode jdk_42_method_150_code 10 = .ok (.invokevirtual 549, 3) := by decide +kernel
theorem d29_13 : decode jdk_42_method_150_code 13 = .ok (.istore 4, 2) := by decide +kernel
theorem d29_15 : decode jdk_42_method_150_code 15 = .ok (.aload_n 1, 1) := by decide +kernel
theorem d29_16 : decode jdk_42_method_150_code 16 = .ok (.invokevirtual 1047, 3) := by decide +kernel
theorem pd_4 : parseMethodDescriptor "()Z" = some ⟨[], some .boolean⟩ := by decide +kernel
theorem d29_19 : decode jdk_42_method_150_code 19 = .ok (.ifCond .eq 22, 3) := by decide +kernel
theorem d29_22 : decode jdk_42_method_150_code 22 = .ok (.aload_n 0, 1) := by decide +kernel
theorem d29_23 : decode jdk_42_method_150_code 23 = .ok (.iconst 0, 1) := by decide +kernel
theorem d29_24 : decode jdk_42_method_150_code 24 = .ok (.putfield 15, 3) := by decide +kernel
theorem d29_27 : decode jdk_42_method_150_code 27 = .ok (.aload_n 0, 1) := by decide +kernel
theorem d29_28 : decode jdk_42_method_150_code 28 = .ok (.aload_n 3, 1) := by decide +kernel
theorem d29_29 : decode jdk_42_method_150_code 29 = .ok (.iconst 0, 1) := by decide +kernel
theorem d29_30 : decode jdk_42_method_150_code 30 = .ok (.iload 4, 2) := by decide +kernel
theorem d29_32 : decode jdk_42_method_150_code 32 = .ok (.invokestatic 54, 3) := by decide +kernel
theorem d29_35 : decode jdk_42_method_150_code 35 = .ok (.putfield 9, 3) := by decide +kernel
theorem d29_38 : decode jdk_42_method_150_code 38 = .ok (.goto 59, 3) := by decide +kernel
theorem d29_97 : decode jdk_42_method_150_code 97 = .ok (.return_, 1) := by decide +kernel
def Q_rmIA2 (Z : State) (a1 : Addr) (x0 : Value) (x1 : Value) (h0 : Heap) (n0 : Nat) (v : Option Value) (h : Heap) (Sf : Addr → Prop) : Prop := v = none ∧ Keep h0 h [a1] ∧ ∃ (b : Addr) (kb : ClassId), h0.size ≤ b ∧ FSv Z h a1 (.ref b) ∧ FSc Z h a1 Z0 ∧ Arl Z h b kb .byte [x0, x1]
theorem ef_rmIA2 (m : MethodId) (a1 : Addr) (a2 : Addr)  : entryFrame m #[(.ref a1), (.ref a2), .null] 5 = mkF m 0 #[.val (.ref a1), .val (.ref a2), .val .null, .unset, .unset] [] := by simp [entryFrame, mkF, argsToLocals, Value.category]
theorem pn_29 : plainFor (⟨"java/lang/String", "<init>", "(Ljava/lang/AbstractStringBuilder;Ljava/lang/Void;)V"⟩ : MethodName) = true := plainFor_of_name (show plainName "java/lang/String" = true by first | (simp [plainName, overriddenIn]; done) | decide +kernel)
theorem rmIA2 (l : Launch) (Z : State) (a0 : Array Value) (hw : HW a0 Z) (ws : List Jvm.Cond) (a1 : Addr) (a2 : Addr) (b : Addr) (kb : ClassId) (zc : Int32) (x0 : Value) (x1 : Value) (h0 : Heap) (n0 : Nat) (hn : n0 ≤ h0.size) (X_a1 : XSt Z h0 a1) (g_a1 : n0 ≤ a1) (F_value_a1 : FSv Z h0 a1 .null) (F_coder_a1 : FSc Z h0 a1 Z0) (X_a2 : Exa Z h0 a2 "java/lang/StringBuilder") (F_value_a2 : FAv Z h0 a2 (.ref b)) (F_coder_a2 : FAc Z h0 a2 Z0) (F_count_a2 : FAn Z h0 a2 (.int (2 : Int32))) (V_b : Arl Z h0 b kb .byte [x0, x1, Z0, Z0, Z0, Z0, Z0, Z0, Z0, Z0, Z0, Z0, Z0, Z0, Z0, Z0]) (S_C : Sta Z h0 "java/lang/String" "COMPACT_STRINGS" "Z" (.int zc)) (hz : ¬ zc = 0) (ne_a2_a1 : a2 ≠ a1) (ne_b_a1 : b ≠ a1) :
    Met own_EL l Z (⟨"java/lang/String", "<init>", "(Ljava/lang/AbstractStringBuilder;Ljava/lang/Void;)V"⟩ : MethodName) jdk_42_method_150_code 5 none ({ frames := 3, cells := 1, slots := 2, locals := 82 } : Room) ws #[(.ref a1), (.ref a2), .null] h0 n0 [a1] (Q_rmIA2 Z a1 x0 x1 h0 n0) := by
  refine Met.of pn_29 (fun m => ef_rmIA2 m a1 a2) ?_
  have K := Keep.refl h0 [a1]
  refine Own.aloadN d29_0 rfl rfl ?_
  refine Own.initO_ (hw _ (mg 16 rfl)) (hw _ (mg 17 rfl)) (hw _ (mg 18 rfl)) d29_1 rfl (by decide) 0 rfl (by decide) ?_
  refine Own.aloadN d29_4 rfl rfl ?_
  refine Own.callVP a2 [] [] 0 (rmGV l Z a0 hw [] a2 b h0 n0 hn F_value_a2) (hw _ (mg 154 rfl)) (hw _ (mg 155 rfl)) (fun s hZ => face_same (args := #[]) (mvT hZ (hw _ (mg 119 rfl))) rfl) (hw _ (mg 157 rfl)) (hw _ (mg 156 rfl)) (hw _ (mg 95 rfl)) (hw _ (mg 158 rfl)) (by decide) X_a2 d29_5 pd_5 rfl rfl rfl rfl (by decide) (by decide) (by decide) (by decide) ?_
  refine Own.astoreN #[.val (.ref a1), .val (.ref a2), .val .null, .val (.ref b), .unset] d29_8 rfl rfl ?_
  refine Own.aloadN d29_9 rfl rfl ?_
  refine Own.callVP a2 [] [] 0 (rmL2 l Z a0 hw [] a2 (2 : Int32) h0 n0 hn X_a2 F_count_a2) (hw _ (mg 159 rfl)) (hw _ (mg 160 rfl)) (fun s hZ => face_same (args := #[]) (mvT hZ (hw _ (mg 119 rfl))) rfl) (hw _ (mg 162 rfl)) (hw _ (mg 163 rfl)) (hw _ (mg 87 rfl)) (hw _ (mg 164 rfl)) (by decide) X_a2 d29_10 pd_1 rfl rfl rfl rfl (by decide) (by decide) (by decide) (by decide) ?_
  refine Own.istore #[.val (.ref a1), .val (.ref a2), .val .null, .val (.ref b), .val (.int (2 : Int32))] d29_13 rfl ?_
  refine Own.aloadN d29_15 rfl rfl ?_
  refine Own.callVP a2 [] [] 0 (rmBL l Z a0 hw [] a2 zc h0 n0 hn S_C hz F_coder_a2) (hw _ (mg 167 rfl)) (hw _ (mg 168 rfl)) (fun s hZ => face_same (args := #[]) (mvT hZ (hw _ (mg 119 rfl))) rfl) (hw _ (mg 170 rfl)) (hw _ (mg 169 rfl)) (hw _ (mg 95 rfl)) (hw _ (mg 171 rfl)) (by decide) X_a2 d29_16 pd_4 rfl rfl rfl rfl (by decide) (by decide) (by decide) (by decide) ?_
  refine Own.if_eq 41 d29_19 (by decide) rfl (fun q => absurd q (by decide)) (fun _ => ?_)
  refine Own.aloadN d29_22 rfl rfl ?_
  refine Own.iconst (0 : Int32) d29_23 rfl ?_
  refine Own.putFN_ (hw _ (mg 31 rfl)) Via.refl F_coder_a1 X_a1 (Or.inr ⟨(hw _ (mg 32 rfl)), rfl, rfl⟩) (hw _ (mg 6 rfl)) (ty := .byte) (v' := (.int (nar .byte (0 : Int32)))) (by decide) rfl (fits_nar_byte _) g_a1 (mg 0 rfl) d29_24 (fun h138 W139 => ?_)
  replace F_coder_a1 := F_coder_a1.same W139
  have hn : n0 ≤ h138.size := by rw [W139.size]; exact hn
  replace X_a1 := X_a1.wr W139
  replace F_value_a1 := F_value_a1.other W139 (Or.inr (slot_ne (Or.inr (hw _ (mg 34 rfl))) (Or.inr (hw _ (mg 32 rfl))) (by decide) (t := (.array .byte)) (t' := .byte) (by decide) (by decide)))
  replace V_b := V_b.other W139 ne_b_a1
  rw [show nar .byte (0 : Int32) = 0 from rfl] at F_coder_a1
  have K := K.wr W139 (Or.inl (mg 0 rfl))
  refine Own.aloadN d29_27 rfl rfl ?_
  refine Own.aloadN d29_28 rfl rfl ?_
  refine Own.iconst (0 : Int32) d29_29 rfl ?_
  refine Own.iload d29_30 rfl ?_
  refine Own.callS_ [(.ref b), Z0, (.int (2 : Int32))] [(.ref a1)] 1 (rmRG2 l Z a0 hw [] b kb x0 x1 h138 n0 hn V_b) all0 (hw _ (mg 172 rfl)) (hw _ (mg 173 rfl)) (hw _ (mg 174 rfl)) (hw _ (mg 175 rfl)) (by decide) d29_32 pd_25 rfl rfl rfl rfl (by decide) (by decide) (by decide) (by decide) (fun v140 h140 S140 hq140 => ?_)
  obtain ⟨b141, k141, rfl, z141, K141, V141⟩ := hq140
  have ne_a1_b141 : a1 ≠ b141 := Nat.ne_of_lt (Nat.lt_of_lt_of_le X_a1.lt z141)
  have ne_b141_a1 := Ne.symm ne_a1_b141
  have sz_b141 : h0.size ≤ b141 := Nat.le_trans K.1 z141
  replace X_a1 := X_a1.keep K141
  replace F_value_a1 := F_value_a1.keep K141 nin0
  replace F_coder_a1 := F_coder_a1.keep K141 nin0
  have K := K.trans K141 all0
  refine ⟨[], all0, ?_⟩
  refine OAt.cast (st' := [(.ref b141), (.ref a1)]) rfl ?_
  refine Own.putF_ (host := "") (Or.inl (hw _ (mg 33 rfl))) Via.refl F_value_a1 X_a1 (Or.inr ⟨(hw _ (mg 34 rfl)), rfl, rfl⟩) (hw _ (mg 6 rfl)) (ty := (.array .byte)) (by decide) rfl rfl g_a1 (mg 0 rfl) d29_35 (fun h142 W143 => ?_)
  replace F_value_a1 := F_value_a1.same W143
  replace F_coder_a1 := F_coder_a1.other W143 (Or.inr (slot_ne (Or.inr (hw _ (mg 32 rfl))) (Or.inr (hw _ (mg 34 rfl))) (by decide) (t := .byte) (t' := (.array .byte)) (by decide) (by decide)))
  replace V141 := V141.other W143 ne_b141_a1
  have K := K.wr W143 (Or.inl (mg 0 rfl))
  refine Own.goto_ 97 d29_38 (by decide) rfl ?_
  refine Own.ret_void rfl d29_97 (by decide) (by decide) (fun Sf hSf => ?_)
  exact ⟨rfl, K, b141, k141, sz_b141, F_value_a1, F_coder_a1, V141⟩
theorem d28_0 : decode jdk_42_method_53_code 0 = .ok (.aload_n 0, 1) := by decide +kernel
theorem d28_1 : decode jdk_42_method_53_code 1 = .ok (.aload_n 1, 1) := by decide +kernel
theorem d28_2 : decode jdk_42_method_53_code 2 = .ok (.aconst_null, 1) := by decide +kernel
theorem d28_3 : decode jdk_42_method_53_code 3 = .ok (.invokespecial 489, 3) := by decide +kernel
theorem pd_14 : parseMethodDescriptor "(Ljava/lang/AbstractStringBuilder;Ljava/lang/Void;)V" = some ⟨[(.object "java/lang/AbstractStringBuilder"), (.object "java/lang/Void")], none⟩ := by decide +kernel
theorem d28_6 : decode jdk_42_method_53_code 6 = .ok (.return_, 1) := by decide +kernel
def Q_rmIS2 (Z : State) (a1 : Addr) (x0 : Value) (x1 : Value) (h0 : Heap) (n0 : Nat) (v : Option Value) (h : Heap) (Sf : Addr → Prop) : Prop := v = none ∧ Keep h0 h [a1] ∧ ∃ (b : Addr) (kb : ClassId), h0.size ≤ b ∧ FSv Z h a1 (.ref b) ∧ FSc Z h a1 Z0 ∧ Arl Z h b kb .byte [x0, x1]
theorem ef_rmIS2 (m : MethodId) (a1 : Addr) (a2 : Addr)  : entryFrame m #[(.ref a1), (.ref a2)] 2 = mkF m 0 #[.val (.ref a1), .val (.ref a2)] [] := by simp [entryFrame, mkF, argsToLocals, Value.category]
theorem pn_28 : plainFor (⟨"java/lang/String", "<init>", "(Ljava/lang/StringBuilder;)V"⟩ : MethodName) = true := plainFor_of_name (show plainName "java/lang/String" = true by first | (simp [plainName, overriddenIn]; done) | decide +kernel)
theorem rmIS2 (l : Launch) (Z : State) (a0 : Array Value) (hw : HW a0 Z) (ws : List Jvm.Cond) (a1 : Addr) (a2 : Addr) (b : Addr) (kb : ClassId) (zc : Int32) (x0 : Value) (x1 : Value) (h0 : Heap) (n0 : Nat) (hn : n0 ≤ h0.size) (X_a1 : XSt Z h0 a1) (g_a1 : n0 ≤ a1) (F_value_a1 : FSv Z h0 a1 .null) (F_coder_a1 : FSc Z h0 a1 Z0) (X_a2 : Exa Z h0 a2 "java/lang/StringBuilder") (F_value_a2 : FAv Z h0 a2 (.ref b)) (F_coder_a2 : FAc Z h0 a2 Z0) (F_count_a2 : FAn Z h0 a2 (.int (2 : Int32))) (V_b : Arl Z h0 b kb .byte [x0, x1, Z0, Z0, Z0, Z0, Z0, Z0, Z0, Z0, Z0, Z0, Z0, Z0, Z0, Z0]) (S_C : Sta Z h0 "java/lang/String" "COMPACT_STRINGS" "Z" (.int zc)) (hz : ¬ zc = 0) (ne_a2_a1 : a2 ≠ a1) (ne_b_a1 : b ≠ a1) :
    Met own_EL l Z (⟨"java/lang/String", "<init>", "(Ljava/lang/StringBuilder;)V"⟩ : MethodName) jdk_42_method_53_code 2 none ({ frames := 4, cells := 1, slots := 2, locals := 98 } : Room) ws #[(.ref a1), (.ref a2)] h0 n0 [a1] (Q_rmIS2 Z a1 x0 x1 h0 n0) := by
  refine Met.of pn_28 (fun m => ef_rmIS2 m a1 a2) ?_
  have K := Keep.refl h0 [a1]
  refine Own.aloadN d28_0 rfl rfl ?_
  refine Own.aloadN d28_1 rfl rfl ?_
  refine Own.aconstNull d28_2 ?_
  refine Own.callI_ a1 [(.ref a2), .null] [] 0 (rmIA2 l Z a0 hw [] a1 a2 b kb zc x0 x1 h0 n0 hn X_a1 g_a1 F_value_a1 F_coder_a1 X_a2 F_value_a2 F_coder_a2 F_count_a2 V_b S_C hz ne_a2_a1 ne_b_a1) (allS (mg 0 rfl) all0) (hw _ (mg 151 rfl)) (hw _ (mg 152 rfl)) (hw _ (mg 7 rfl)) (hw _ (mg 153 rfl)) rfl (by decide) d28_3 pd_14 rfl rfl rfl rfl (by decide) (by decide) (by decide) (by decide) (fun v144 h144 S144 hq144 => ?_)
  obtain ⟨rfl, K4, rest4⟩ := hq144
  have K := K.trans K4 (allS (Or.inl (mg 0 rfl)) all0)
  refine ⟨[], all0, ?_⟩
  refine OAt.cast (st' := []) rfl ?_
  refine Own.ret_void rfl d28_6 (by decide) (by decide) (fun Sf hSf => ?_)
  exact ⟨rfl, K, rest4⟩
theorem d27_0 : decode jdk_67_method_42_code 0 = .ok (.new 18, 3) := by decide +kernel
theorem d27_3 : decode jdk_67_method_42_code 3 = .ok (.dup, 1) := by decide +kernel
theorem d27_4 : decode jdk_67_method_42_code 4 = .ok (.aload_n 0, 1) := by decide +kernel
theorem d27_5 : decode jdk_67_method_42_code 5 = .ok (.invokespecial 137, 3) := by decide +kernel
theorem pd_21 : parseMethodDescriptor "(Ljava/lang/StringBuilder;)V" = some ⟨[(.object "java/lang/StringBuilder")], none⟩ := by decide +kernel
theorem d27_8 : decode jdk_67_method_42_code 8 = .ok (.areturn, 1) := by decide +kernel
def Q_rmTS2 (Z : State) (x0 : Value) (x1 : Value) (h0 : Heap) (n0 : Nat) (v : Option Value) (h : Heap) (Sf : Addr → Prop) : Prop := Keep h0 h [] ∧ ∃ (a b : Addr) (kb : ClassId), v = some (.ref a) ∧ XSt Z h a ∧ FSv Z h a (.ref b) ∧ FSc Z h a Z0 ∧ Arl Z h b kb .byte [x0, x1]
theorem ef_rmTS2 (m : MethodId) (a1 : Addr)  : entryFrame m #[(.ref a1)] 1 = mkF m 0 #[.val (.ref a1)] [] := by simp [entryFrame, mkF, argsToLocals, Value.category]
theorem pn_27 : plainFor (⟨"java/lang/StringBuilder", "toString", "()Ljava/lang/String;"⟩ : MethodName) = true := plainFor_of_name (show plainName "java/lang/StringBuilder" = true by first | (simp [plainName, overriddenIn]; done) | decide +kernel)
theorem rmTS2 (l : Launch) (Z : State) (a0 : Array Value) (hw : HW a0 Z) (ws : List Jvm.Cond) (a1 : Addr) (b : Addr) (kb : ClassId) (zc : Int32) (x0 : Value) (x1 : Value) (h0 : Heap) (n0 : Nat) (hn : n0 ≤ h0.size) (X_a1 : Exa Z h0 a1 "java/lang/StringBuilder") (F_value_a1 : FAv Z h0 a1 (.ref b)) (F_coder_a1 : FAc Z h0 a1 Z0) (F_count_a1 : FAn Z h0 a1 (.int (2 : Int32))) (V_b : Arl Z h0 b kb .byte [x0, x1, Z0, Z0, Z0, Z0, Z0, Z0, Z0, Z0, Z0, Z0, Z0, Z0, Z0, Z0]) (S_C : Sta Z h0 "java/lang/String" "COMPACT_STRINGS" "Z" (.int zc)) (hz : ¬ zc = 0) :
    Met own_EL l Z (⟨"java/lang/StringBuilder", "toString", "()Ljava/lang/String;"⟩ : MethodName) jdk_67_method_42_code 1 (some (.object "java/lang/String")) ({ frames := 5, cells := 2, slots := 6, locals := 112 } : Room) ws #[(.ref a1)] h0 n0 [] (Q_rmTS2 Z x0 x1 h0 n0) := by
  refine Met.of pn_27 (fun m => ef_rmTS2 m a1) ?_
  have K := Keep.refl h0 []
  refine Own.new_ (hw _ (mg 147 rfl)) (hw _ (mg 6 rfl)) (hw _ (mg 7 rfl)) d27_0 (by decide) (by decide) (fun h145 b145 gb145 E145 X145 D145 => ?_)
  have g_b145 : n0 ≤ b145 := by rw [gb145]; exact hn
  have ne_a1_b145 : a1 ≠ b145 := fun q => Nat.ne_of_lt X_a1.lt (q.trans gb145)
  have ne_b_b145 : b ≠ b145 := fun q => Nat.ne_of_lt V_b.lt (q.trans gb145)
  have hn := Nat.le_trans hn E145.1
  replace X_a1 := X_a1.ext E145
  replace F_value_a1 := F_value_a1.ext E145
  replace F_coder_a1 := F_coder_a1.ext E145
  replace F_count_a1 := F_count_a1.ext E145
  replace V_b := V_b.ext E145
  replace S_C := S_C.ext E145
  have X_b145 := X145
  have F_coder_b145 : FSc Z h145 b145 Z0 := D145 (Or.inr (hw _ (mg 32 rfl))) (ty := .byte) (by decide)
  have F_value_b145 : FSv Z h145 b145 .null := D145 (Or.inr (hw _ (mg 34 rfl))) (ty := (.array .byte)) (by decide)
  have sz_b145 : h0.size ≤ b145 := by rw [gb145]; exact K.1
  have K := K.ext E145
  refine Own.dup d27_3 rfl ?_
  refine Own.aloadN d27_4 rfl rfl ?_
  refine Own.callI_ b145 [(.ref a1)] [(.ref b145)] 1 (rmIS2 l Z a0 hw [] b145 a1 b kb zc x0 x1 h145 n0 hn X_b145 g_b145 F_value_b145 F_coder_b145 X_a1 F_value_a1 F_coder_a1 F_count_a1 V_b S_C hz ne_a1_b145 ne_b_b145) (allS (mg 0 rfl) all0) (hw _ (mg 148 rfl)) (hw _ (mg 149 rfl)) (hw _ (mg 7 rfl)) (hw _ (mg 150 rfl)) rfl (by decide) d27_5 pd_21 rfl rfl rfl rfl (by decide) (by decide) (by decide) (by decide) (fun v146 h146 S146 hq146 => ?_)
  obtain ⟨rfl, K147, b147, k147, z147, Fv147, Fc147, V147⟩ := hq146
  replace X_b145 := X_b145.keep K147
  have F_value_b145 := Fv147
  have F_coder_b145 := Fc147
  have K := K.trans K147 (allS (Or.inr sz_b145) all0)
  refine ⟨[], all0, ?_⟩
  refine OAt.cast (st' := [(.ref b145)]) rfl ?_
  refine Own.ret_ref (t := (.object "java/lang/String")) rfl rfl rfl d27_8 (by decide) (by decide) (fun Sf hSf => ?_)
  exact ⟨K, b145, b147, k147, rfl, X_b145, F_value_b145, F_coder_b145, V147⟩
theorem ef_rmCL3 (m : MethodId)   : entryFrame m #[Z0, (.int (3 : Int32))] 2 = mkF m 0 #[.val Z0, .val (.int (3 : Int32))] [] := by simp [entryFrame, mkF, argsToLocals, Value.category]
theorem rmCL3 (l : Launch) (Z : State) (a0 : Array Value) (hw : HW a0 Z) (ws : List Jvm.Cond)  (h0 : Heap) (n0 : Nat) (hn : n0 ≤ h0.size) :
    Met own_EL l Z (⟨"java/util/Arrays", "checkLength", "(II)V"⟩ : MethodName) jdk_65_method_131_code 2 none ({ frames := 0, cells := 0, slots := 0, locals := 0 } : Room) ws #[Z0, (.int (3 : Int32))] h0 n0 [] (Pur0 h0) := by
  refine Met.of pn_36 (fun m => ef_rmCL3 m ) ?_
  refine Own.iloadN d36_0 rfl ?_
  refine Own.iloadN d36_1 rfl ?_
  refine Own.icmp_ge 37 d36_2 (by decide) rfl (fun _ => ?_) (fun q => absurd q (by decide))
  refine Own.ret_void rfl d36_37 (by decide) (by decide) (fun Sf hSf => ?_)
  exact ⟨rfl, rfl⟩
theorem ef_rmMM3 (m : MethodId)   : entryFrame m #[(.int (16 : Int32)), (.int (3 : Int32))] 2 = mkF m 0 #[.val (.int (16 : Int32)), .val (.int (3 : Int32))] [] := by simp [entryFrame, mkF, argsToLocals, Value.category]
theorem rmMM3 (l : Launch) (Z : State) (a0 : Array Value) (hw : HW a0 Z) (ws : List Jvm.Cond)  (h0 : Heap) (n0 : Nat) (hn : n0 ≤ h0.size) :
    Met own_EL l Z (⟨"java/lang/Math", "min", "(II)I"⟩ : MethodName) jdk_29_method_69_code 2 (some .int) ({ frames := 0, cells := 0, slots := 0, locals := 0 } : Room) ws #[(.int (16 : Int32)), (.int (3 : Int32))] h0 n0 [] (Pur (.int (3 : Int32)) h0) := by
  refine Met.of pn_37 (fun m => ef_rmMM3 m ) ?_
  refine Own.iloadN d37_0 rfl ?_
  refine Own.iloadN d37_1 rfl ?_
  refine Own.icmp_gt 9 d37_2 (by decide) rfl (fun _ => ?_) (fun q => absurd (by decide) q)
  refine Own.iloadN d37_9 rfl ?_
  refine Own.ret_int rfl d37_10 (by decide) (by decide) (fun Sf hSf => ?_)
  exact ⟨rfl, rfl⟩
def Q_rmRB3 (Z : State) (x0 : Value) (x1 : Value) (x2 : Value) (h0 : Heap) (n0 : Nat) (v : Option Value) (h : Heap) (Sf : Addr → Prop) : Prop := ∃ (a : Addr) (ka : ClassId), v = some (.ref a) ∧ h0.size ≤ a ∧ Keep h0 h [] ∧ Arl Z h a ka .byte [x0, x1, x2]
theorem ef_rmRB3 (m : MethodId) (a1 : Addr)  : entryFrame m #[(.ref a1), Z0, (.int (3 : Int32))] 5 = mkF m 0 #[.val (.ref a1), .val Z0, .val (.int (3 : Int32)), .unset, .unset] [] := by simp [entryFrame, mkF, argsToLocals, Value.category]
theorem rmRB3 (l : Launch) (Z : State) (a0 : Array Value) (hw : HW a0 Z) (ws : List Jvm.Cond) (a1 : Addr) (ka : ClassId) (x0 : Value) (x1 : Value) (x2 : Value) (h0 : Heap) (n0 : Nat) (hn : n0 ≤ h0.size) (V_a1 : Arl Z h0 a1 ka .byte [x0, x1, x2, Z0, Z0, Z0, Z0, Z0, Z0, Z0, Z0, Z0, Z0, Z0, Z0, Z0]) :
    Met own_EL l Z (⟨"java/util/Arrays", "copyOfRangeByte", "([BII)[B"⟩ : MethodName) jdk_65_method_133_code 5 (some (.array .byte)) ({ frames := 1, cells := 1, slots := 3, locals := 51 } : Room) ws #[(.ref a1), Z0, (.int (3 : Int32))] h0 n0 [] (Q_rmRB3 Z x0 x1 x2 h0 n0) := by
  refine Met.of pn_35 (fun m => ef_rmRB3 m a1) ?_
  have K := Keep.refl h0 []
  refine Own.iloadN d35_0 rfl ?_
  refine Own.iloadN d35_1 rfl ?_
  refine Own.callS0 [Z0, (.int (3 : Int32))] [] 0 (rmCL3 l Z a0 hw [] h0 n0 hn) (hw _ (mg 179 rfl)) (hw _ (mg 180 rfl)) (hw _ (mg 174 rfl)) (hw _ (mg 181 rfl)) (by decide) d35_2 pd_10 rfl rfl rfl rfl (by decide) (by decide) (by decide) (by decide) ?_
  refine Own.iloadN d35_5 rfl ?_
  refine Own.iloadN d35_6 rfl ?_
  refine Own.isub d35_7 ?_
  refine OAt.cast (st' := [(.int (3 : Int32))]) rfl ?_
  refine Own.istoreN #[.val (.ref a1), .val Z0, .val (.int (3 : Int32)), .val (.int (3 : Int32)), .unset] d35_8 rfl ?_
  refine Own.iloadN d35_9 rfl ?_
  refine Own.newarray_ 3 .byte rfl (hw _ (mg 24 rfl)) d35_10 (N := 3) rfl (by decide) (by decide) (by decide) (by decide) rfl (fun h148 b148 k148 gb148 E148 V148 => ?_)
  have g_b148 : n0 ≤ b148 := by rw [gb148]; exact hn
  have hn := Nat.le_trans hn E148.1
  replace V_a1 := V_a1.ext E148
  replace V148 : Arl Z h148 b148 k148 .byte [Z0, Z0, Z0] := V148
  have sz_b148 : h0.size ≤ b148 := by rw [gb148]; exact K.1
  have K := K.ext E148
  refine Own.astore #[.val (.ref a1), .val Z0, .val (.int (3 : Int32)), .val (.int (3 : Int32)), .val (.ref b148)] d35_12 rfl rfl ?_
  refine Own.aloadN d35_14 rfl rfl ?_
  refine Own.iloadN d35_15 rfl ?_
  refine Own.aload d35_16 rfl rfl ?_
  refine Own.iconst (0 : Int32) d35_18 rfl ?_
  refine Own.aloadN d35_19 rfl rfl ?_
  refine Own.arraylength_ (16 : Int32) V_a1 rfl d35_20 ?_
  refine Own.iloadN d35_21 rfl ?_
  refine Own.isub d35_22 ?_
  refine OAt.cast (st' := [(.int (16 : Int32)), Z0, (.ref b148), Z0, (.ref a1)]) rfl ?_
  refine Own.iloadN d35_23 rfl ?_
  refine Own.callSP [(.int (16 : Int32)), (.int (3 : Int32))] [Z0, (.ref b148), Z0, (.ref a1)] 4 (rmMM3 l Z a0 hw [] h148 n0 hn) (hw _ (mg 182 rfl)) (hw _ (mg 183 rfl)) (hw _ (mg 184 rfl)) (hw _ (mg 185 rfl)) (by decide) d35_24 pd_9 rfl rfl rfl rfl (by decide) (by decide) (by decide) (by decide) ?_
  refine Own.arraycopy_ (i := 0) (j := 0) (n := 3) 0 (hw _ (mg 186 rfl)) (hw _ (mg 140 rfl)) (hw _ (mg 138 rfl)) (hw _ (mg 139 rfl)) V_a1 V148 rfl rfl rfl rfl (Nat.le_of_ble_eq_true rfl) (Nat.le_of_ble_eq_true rfl) g_b148 (mg 0 rfl) rfl d35_27 (by decide) rfl (by decide) (fun h149 K149 V149 => ?_)
  clear V148
  replace V149 : Arl Z h149 b148 k148 .byte [x0, x1, x2] := V149
  have K := K.trans K149 (allS (Or.inr sz_b148) all0)
  refine Own.aload d35_30 rfl rfl ?_
  refine Own.ret_ref (t := (.array .byte)) rfl rfl rfl d35_32 (by decide) (by decide) (fun Sf hSf => ?_)
  exact ⟨b148, k148, rfl, sz_b148, K, V149⟩
def Q_rmRG3 (Z : State) (x0 : Value) (x1 : Value) (x2 : Value) (h0 : Heap) (n0 : Nat) (v : Option Value) (h : Heap) (Sf : Addr → Prop) : Prop := ∃ (a : Addr) (ka : ClassId), v = some (.ref a) ∧ h0.size ≤ a ∧ Keep h0 h [] ∧ Arl Z h a ka .byte [x0, x1, x2]
theorem ef_rmRG3 (m : MethodId) (a1 : Addr)  : entryFrame m #[(.ref a1), Z0, (.int (3 : Int32))] 3 = mkF m 0 #[.val (.ref a1), .val Z0, .val (.int (3 : Int32))] [] := by simp [entryFrame, mkF, argsToLocals, Value.category]
theorem rmRG3 (l : Launch) (Z : State) (a0 : Array Value) (hw : HW a0 Z) (ws : List Jvm.Cond) (a1 : Addr) (ka : ClassId) (x0 : Value) (x1 : Value) (x2 : Value) (h0 : Heap) (n0 : Nat) (hn : n0 ≤ h0.size) (V_a1 : Arl Z h0 a1 ka .byte [x0, x1, x2, Z0, Z0, Z0, Z0, Z0, Z0, Z0, Z0, Z0, Z0, Z0, Z0, Z0]) :
    Met own_EL l Z (⟨"java/util/Arrays", "copyOfRange", "([BII)[B"⟩ : MethodName) jdk_65_method_132_code 3 (some (.array .byte)) ({ frames := 2, cells := 1, slots := 3, locals := 67 } : Room) ws #[(.ref a1), Z0, (.int (3 : Int32))] h0 n0 [] (Q_rmRG3 Z x0 x1 x2 h0 n0) := by
  refine Met.of pn_34 (fun m => ef_rmRG3 m a1) ?_
  have K := Keep.refl h0 []
  refine Own.iloadN d34_0 rfl ?_
  refine Own.if_ne 10 d34_1 (by decide) rfl (fun q => absurd (by decide) q) (fun _ => ?_)
  refine Own.iloadN d34_4 rfl ?_
  refine Own.aloadN d34_5 rfl rfl ?_
  refine Own.arraylength_ (16 : Int32) V_a1 rfl d34_6 ?_
  refine Own.icmp_eq 17 d34_7 (by decide) rfl (fun q => absurd q (by decide)) (fun _ => ?_)
  refine Own.aloadN d34_10 rfl rfl ?_
  refine Own.iloadN d34_11 rfl ?_
  refine Own.iloadN d34_12 rfl ?_
  refine Own.callS_ [(.ref a1), Z0, (.int (3 : Int32))] [] 0 (rmRB3 l Z a0 hw [] a1 ka x0 x1 x2 h0 n0 hn V_a1) all0 (hw _ (mg 176 rfl)) (hw _ (mg 177 rfl)) (hw _ (mg 174 rfl)) (hw _ (mg 178 rfl)) (by decide) d34_13 pd_25 rfl rfl rfl rfl (by decide) (by decide) (by decide) (by decide) (fun v150 h150 S150 hq150 => ?_)
  obtain ⟨b151, k151, rfl, z151, K151, V151⟩ := hq150
  have sz_b151 : h0.size ≤ b151 := Nat.le_trans K.1 z151
  have K := K.trans K151 all0
  refine ⟨[], all0, ?_⟩
  refine OAt.cast (st' := [(.ref b151)]) rfl ?_
  refine Own.ret_ref (t := (.array .byte)) rfl rfl rfl d34_16 (by decide) (by decide) (fun Sf hSf => ?_)
  exact ⟨b151, k151, rfl, sz_b151, K, V151⟩
def Q_rmIA3 (Z : State) (a1 : Addr) (x0 : Value) (x1 : Value) (x2 : Value) (h0 : Heap) (n0 : Nat) (v : Option Value) (h : Heap) (Sf : Addr → Prop) : Prop := v = none ∧ Keep h0 h [a1] ∧ ∃ (b : Addr) (kb : ClassId), h0.size ≤ b ∧ FSv Z h a1 (.ref b) ∧ FSc Z h a1 Z0 ∧ Arl Z h b kb .byte [x0, x1, x2]
theorem ef_rmIA3 (m : MethodId) (a1 : Addr) (a2 : Addr)  : entryFrame m #[(.ref a1), (.ref a2), .null] 5 = mkF m 0 #[.val (.ref a1), .val (.ref a2), .val .null, .unset, .unset] [] := by simp [entryFrame, mkF, argsToLocals, Value.category]
theorem rmIA3 (l : Launch) (Z : State) (a0 : Array Value) (hw : HW a0 Z) (ws : List Jvm.Cond) (a1 : Addr) (a2 : Addr) (b : Addr) (kb : ClassId) (zc : Int32) (x0 : Value) (x1 : Value) (x2 : Value) (h0 : Heap) (n0 : Nat) (hn : n0 ≤ h0.size) (X_a1 : XSt Z h0 a1) (g_a1 : n0 ≤ a1) (F_value_a1 : FSv Z h0 a1 .null) (F_coder_a1 : FSc Z h0 a1 Z0) (X_a2 : Exa Z h0 a2 "java/lang/StringBuilder") (F_value_a2 : FAv Z h0 a2 (.ref b)) (F_coder_a2 : FAc Z h0 a2 Z0) (F_count_a2 : FAn Z h0 a2 (.int (3 : Int32))) (V_b : Arl Z h0 b kb .byte [x0, x1, x2, Z0, Z0, Z0, Z0, Z0, Z0, Z0, Z0, Z0, Z0, Z0, Z0, Z0]) (S_C : Sta Z h0 "java/lang/String" "COMPACT_STRINGS" "Z" (.int zc)) (hz : ¬ zc = 0) (ne_a2_a1 : a2 ≠ a1) (ne_b_a1 : b ≠ a1) :
    Met own_EL l Z (⟨"java/lang/String", "<init>", "(Ljava/lang/AbstractStringBuilder;Ljava/lang/Void;)V"⟩ : MethodName) jdk_42_method_150_code 5 none ({ frames := 3, cells := 1, slots := 3, locals := 82 } : Room) ws #[(.ref a1), (.ref a2), .null] h0 n0 [a1] (Q_rmIA3 Z a1 x0 x1 x2 h0 n0) := by
  refine Met.of pn_29 (fun m => ef_rmIA3 m a1 a2) ?_
  have K := Keep.refl h0 [a1]
  refine Own.aloadN d29_0 rfl rfl ?_
  refine Own.initO_ (hw _ (mg 16 rfl)) (hw _ (mg 17 rfl)) (hw _ (mg 18 rfl)) d29_1 rfl (by decide) 0 rfl (by decide) ?_
  refine Own.aloadN d29_4 rfl rfl ?_
  refine Own.callVP a2 [] [] 0 (rmGV l Z a0 hw [] a2 b h0 n0 hn F_value_a2) (hw _ (mg 154 rfl)) (hw _ (mg 155 rfl)) (fun s hZ => face_same (args := #[]) (mvT hZ (hw _ (mg 119 rfl))) rfl) (hw _ (mg 157 rfl)) (hw _ (mg 156 rfl)) (hw _ (mg 95 rfl)) (hw _ (mg 158 rfl)) (by decide) X_a2 d29_5 pd_5 rfl rfl rfl rfl (by decide) (by decide) (by decide) (by decide) ?_
  refine Own.astoreN #[.val (.ref a1), .val (.ref a2), .val .null, .val (.ref b), .unset] d29_8 rfl rfl ?_
  refine Own.aloadN d29_9 rfl rfl ?_
  refine Own.callVP a2 [] [] 0 (rmL2 l Z a0 hw [] a2 (3 : Int32) h0 n0 hn X_a2 F_count_a2) (hw _ (mg 159 rfl)) (hw _ (mg 160 rfl)) (fun s hZ => face_same (args := #[]) (mvT hZ (hw _ (mg 119 rfl))) rfl) (hw _ (mg 162 rfl)) (hw _ (mg 163 rfl)) (hw _ (mg 87 rfl)) (hw _ (mg 164 rfl)) (by decide) X_a2 d29_10 pd_1 rfl rfl rfl rfl (by decide) (by decide) (by decide) (by decide) ?_
  refine Own.istore #[.val (.ref a1), .val (.ref a2), .val .null, .val (.ref b), .val (.int (3 : Int32))] d29_13 rfl ?_
  refine Own.aloadN d29_15 rfl rfl ?_
  refine Own.callVP a2 [] [] 0 (rmBL l Z a0 hw [] a2 zc h0 n0 hn S_C hz F_coder_a2) (hw _ (mg 167 rfl)) (hw _ (mg 168 rfl)) (fun s hZ => face_same (args := #[]) (mvT hZ (hw _ (mg 119 rfl))) rfl) (hw _ (mg 170 rfl)) (hw _ (mg 169 rfl)) (hw _ (mg 95 rfl)) (hw _ (mg 171 rfl)) (by decide) X_a2 d29_16 pd_4 rfl rfl rfl rfl (by decide) (by decide) (by decide) (by decide) ?_
  refine Own.if_eq 41 d29_19 (by decide) rfl (fun q => absurd q (by decide)) (fun _ => ?_)
  refine Own.aloadN d29_22 rfl rfl ?_
  refine Own.iconst (0 : Int32) d29_23 rfl ?_
  refine Own.putFN_ (hw _ (mg 31 rfl)) Via.refl F_coder_a1 X_a1 (Or.inr ⟨(hw _ (mg 32 rfl)), rfl, rfl⟩) (hw _ (mg 6 rfl)) (ty := .byte) (v' := (.int (nar .byte (0 : Int32)))) (by decide) rfl (fits_nar_byte _) g_a1 (mg 0 rfl) d29_24 (fun h152 W153 => ?_)
  replace F_coder_a1 := F_coder_a1.same W153
  have hn : n0 ≤ h152.size := by rw [W153.size]; exact hn
  replace X_a1 := X_a1.wr W153
  replace F_value_a1 := F_value_a1.other W153 (Or.inr (slot_ne (Or.inr (hw _ (mg 34 rfl))) (Or.inr (hw _ (mg 32 rfl))) (by decide) (t := (.array .byte)) (t' := .byte) (by decide) (by decide)))
  replace V_b := V_b.other W153 ne_b_a1
  rw [show nar .byte (0 : Int32) = 0 from rfl] at F_coder_a1
  have K := K.wr W153 (Or.inl (mg 0 rfl))
  refine Own.aloadN d29_27 rfl rfl ?_
  refine Own.aloadN d29_28 rfl rfl ?_
  refine Own.iconst (0 : Int32) d29_29 rfl ?_
  refine Own.iload d29_30 rfl ?_
  refine Own.callS_ [(.ref b), Z0, (.int (3 : Int32))] [(.ref a1)] 1 (rmRG3 l Z a0 hw [] b kb x0 x1 x2 h152 n0 hn V_b) all0 (hw _ (mg 172 rfl)) (hw _ (mg 173 rfl)) (hw _ (mg 174 rfl)) (hw _ (mg 175 rfl)) (by decide) d29_32 pd_25 rfl rfl rfl rfl (by decide) (by decide) (by decide) (by decide) (fun v154 h154 S154 hq154 => ?_)
  obtain ⟨b155, k155, rfl, z155, K155, V155⟩ := hq154
  have ne_a1_b155 : a1 ≠ b155 := Nat.ne_of_lt (Nat.lt_of_lt_of_le X_a1.lt z155)
  have ne_b155_a1 := Ne.symm ne_a1_b155
  have sz_b155 : h0.size ≤ b155 := Nat.le_trans K.1 z155
  replace X_a1 := X_a1.keep K155
  replace F_value_a1 := F_value_a1.keep K155 nin0
  replace F_coder_a1 := F_coder_a1.keep K155 nin0
  have K := K.trans K155 all0
  refine ⟨[], all0, ?_⟩
  refine OAt.cast (st' := [(.ref b155), (.ref a1)]) rfl ?_
  refine Own.putF_ (host := "") (Or.inl (hw _ (mg 33 rfl))) Via.refl F_value_a1 X_a1 (Or.inr ⟨(hw _ (mg 34 rfl)), rfl, rfl⟩) (hw _ (mg 6 rfl)) (ty := (.array .byte)) (by decide) rfl rfl g_a1 (mg 0 rfl) d29_35 (fun h156 W157 => ?_)
  replace F_value_a1 := F_value_a1.same W157
  replace F_coder_a1 := F_coder_a1.other W157 (Or.inr (slot_ne (Or.inr (hw _ (mg 32 rfl))) (Or.inr (hw _ (mg 34 rfl))) (by decide) (t := .byte) (t' := (.array .byte)) (by decide) (by decide)))
  replace V155 := V155.other W157 ne_b155_a1
  have K := K.wr W157 (Or.inl (mg 0 rfl))
  refine Own.goto_ 97 d29_38 (by decide) rfl ?_
  refine Own.ret_void rfl d29_97 (by decide) (by decide) (fun Sf hSf => ?_)
  exact ⟨rfl, K, b155, k155, sz_b155, F_value_a1, F_coder_a1, V155⟩
def Q_rmIS3 (Z : State) (a1 : Addr) (x0 : Value) (x1 : Value) (x2 : Value) (h0 : Heap) (n0 : Nat) (v : Option Value) (h : Heap) (Sf : Addr → Prop) : Prop := v = none ∧ Keep h0 h [a1] ∧ ∃ (b : Addr) (kb : ClassId), h0.size ≤ b ∧ FSv Z h a1 (.ref b) ∧ FSc Z h a1 Z0 ∧ Arl Z h b kb .byte [x0, x1, x2]
theorem ef_rmIS3 (m : MethodId) (a1 : Addr) (a2 : Addr)  : entryFrame m #[(.ref a1), (.ref a2)] 2 = mkF m 0 #[.val (.ref a1), .val (.ref a2)] [] := by simp [entryFrame, mkF, argsToLocals, Value.category]
theorem rmIS3 (l : Launch) (Z : State) (a0 : Array Value) (hw : HW a0 Z) (ws : List Jvm.Cond) (a1 : Addr) (a2 : Addr) (b : Addr) (kb : ClassId) (zc : Int32) (x0 : Value) (x1 : Value) (x2 : Value) (h0 : Heap) (n0 : Nat) (hn : n0 ≤ h0.size) (X_a1 : XSt Z h0 a1) (g_a1 : n0 ≤ a1) (F_value_a1 : FSv Z h0 a1 .null) (F_coder_a1 : FSc Z h0 a1 Z0) (X_a2 : Exa Z h0 a2 "java/lang/StringBuilder") (F_value_a2 : FAv Z h0 a2 (.ref b)) (F_coder_a2 : FAc Z h0 a2 Z0) (F_count_a2 : FAn Z h0 a2 (.int (3 : Int32))) (V_b : Arl Z h0 b kb .byte [x0, x1, x2, Z0, Z0, Z0, Z0, Z0, Z0, Z0, Z0, Z0, Z0, Z0, Z0, Z0]) (S_C : Sta Z h0 "java/lang/String" "COMPACT_STRINGS" "Z" (.int zc)) (hz : ¬ zc = 0) (ne_a2_a1 : a2 ≠ a1) (ne_b_a1 : b ≠ a1) :
    Met own_EL l Z (⟨"java/lang/String", "<init>", "(Ljava/lang/StringBuilder;)V"⟩ : MethodName) jdk_42_method_53_code 2 none ({ frames := 4, cells := 1, slots := 3, locals := 98 } : Room) ws #[(.ref a1), (.ref a2)] h0 n0 [a1] (Q_rmIS3 Z a1 x0 x1 x2 h0 n0) := by
  refine Met.of pn_28 (fun m => ef_rmIS3 m a1 a2) ?_
  have K := Keep.refl h0 [a1]
  refine Own.aloadN d28_0 rfl rfl ?_
  refine Own.aloadN d28_1 rfl rfl ?_
  refine Own.aconstNull d28_2 ?_
  refine Own.callI_ a1 [(.ref a2), .null] [] 0 (rmIA3 l Z a0 hw [] a1 a2 b kb zc x0 x1 x2 h0 n0 hn X_a1 g_a1 F_value_a1 F_coder_a1 X_a2 F_value_a2 F_coder_a2 F_count_a2 V_b S_C hz ne_a2_a1 ne_b_a1) (allS (mg 0 rfl) all0) (hw _ (mg 151 rfl)) (hw _ (mg 152 rfl)) (hw _ (mg 7 rfl)) (hw _ (mg 153 rfl)) rfl (by decide) d28_3 pd_14 rfl rfl rfl rfl (by decide) (by decide) (by decide) (by decide) (fun v158 h158 S158 hq158 => ?_)
  obtain ⟨rfl, K4, rest4⟩ := hq158
  have K := K.trans K4 (allS (Or.inl (mg 0 rfl)) all0)
  refine ⟨[], all0, ?_⟩
  refine OAt.cast (st' := []) rfl ?_
  refine Own.ret_void rfl d28_6 (by decide) (by decide) (fun Sf hSf => ?_)
  exact ⟨rfl, K, rest4⟩
def Q_rmTS3 (Z : State) (x0 : Value) (x1 : Value) (x2 : Value) (h0 : Heap) (n0 : Nat) (v : Option Value) (h : Heap) (Sf : Addr → Prop) : Prop := Keep h0 h [] ∧ ∃ (a b : Addr) (kb : ClassId), v = some (.ref a) ∧ XSt Z h a ∧ FSv Z h a (.ref b) ∧ FSc Z h a Z0 ∧ Arl Z h b kb .byte [x0, x1, x2]
theorem ef_rmTS3 (m : MethodId) (a1 : Addr)  : entryFrame m #[(.ref a1)] 1 = mkF m 0 #[.val (.ref a1)] [] := by simp [entryFrame, mkF, argsToLocals, Value.category]
theorem rmTS3 (l : Launch) (Z : State) (a0 : Array Value) (hw : HW a0 Z) (ws : List Jvm.Cond) (a1 : Addr) (b : Addr) (kb : ClassId) (zc : Int32) (x0 : Value) (x1 : Value) (x2 : Value) (h0 : Heap) (n0 : Nat) (hn : n0 ≤ h0.size) (X_a1 : Exa Z h0 a1 "java/lang/StringBuilder") (F_value_a1 : FAv Z h0 a1 (.ref b)) (F_coder_a1 : FAc Z h0 a1 Z0) (F_count_a1 : FAn Z h0 a1 (.int (3 : Int32))) (V_b : Arl Z h0 b kb .byte [x0, x1, x2, Z0, Z0, Z0, Z0, Z0, Z0, Z0, Z0, Z0, Z0, Z0, Z0, Z0]) (S_C : Sta Z h0 "java/lang/String" "COMPACT_STRINGS" "Z" (.int zc)) (hz : ¬ zc = 0) :
    Met own_EL l Z (⟨"java/lang/StringBuilder", "toString", "()Ljava/lang/String;"⟩ : MethodName) jdk_67_method_42_code 1 (some (.object "java/lang/String")) ({ frames := 5, cells := 2, slots := 7, locals := 112 } : Room) ws #[(.ref a1)] h0 n0 [] (Q_rmTS3 Z x0 x1 x2 h0 n0) := by
  refine Met.of pn_27 (fun m => ef_rmTS3 m a1) ?_
  have K := Keep.refl h0 []
  refine Own.new_ (hw _ (mg 147 rfl)) (hw _ (mg 6 rfl)) (hw _ (mg 7 rfl)) d27_0 (by decide) (by decide) (fun h159 b159 gb159 E159 X159 D159 => ?_)
  have g_b159 : n0 ≤ b159 := by rw [gb159]; exact hn
  have ne_a1_b159 : a1 ≠ b159 := fun q => Nat.ne_of_lt X_a1.lt (q.trans gb159)
  have ne_b_b159 : b ≠ b159 := fun q => Nat.ne_of_lt V_b.lt (q.trans gb159)
  have hn := Nat.le_trans hn E159.1
  replace X_a1 := X_a1.ext E159
  replace F_value_a1 := F_value_a1.ext E159
  replace F_coder_a1 := F_coder_a1.ext E159
  replace F_count_a1 := F_count_a1.ext E159
  replace V_b := V_b.ext E159
  replace S_C := S_C.ext E159
  have X_b159 := X159
  have F_coder_b159 : FSc Z h159 b159 Z0 := D159 (Or.inr (hw _ (mg 32 rfl))) (ty := .byte) (by decide)
  have F_value_b159 : FSv Z h159 b159 .null := D159 (Or.inr (hw _ (mg 34 rfl))) (ty := (.array .byte)) (by decide)
  have sz_b159 : h0.size ≤ b159 := by rw [gb159]; exact K.1
  have K := K.ext E159
  refine Own.dup d27_3 rfl ?_
  refine Own.aloadN d27_4 rfl rfl ?_
  refine Own.callI_ b159 [(.ref a1)] [(.ref b159)] 1 (rmIS3 l Z a0 hw [] b159 a1 b kb zc x0 x1 x2 h159 n0 hn X_b159 g_b159 F_value_b159 F_coder_b159 X_a1 F_value_a1 F_coder_a1 F_count_a1 V_b S_C hz ne_a1_b159 ne_b_b159) (allS (mg 0 rfl) all0) (hw _ (mg 148 rfl)) (hw _ (mg 149 rfl)) (hw _ (mg 7 rfl)) (hw _ (mg 150 rfl)) rfl (by decide) d27_5 pd_21 rfl rfl rfl rfl (by decide) (by decide) (by decide) (by decide) (fun v160 h160 S160 hq160 => ?_)
  obtain ⟨rfl, K161, b161, k161, z161, Fv161, Fc161, V161⟩ := hq160
  replace X_b159 := X_b159.keep K161
  have F_value_b159 := Fv161
  have F_coder_b159 := Fc161
  have K := K.trans K161 (allS (Or.inr sz_b159) all0)
  refine ⟨[], all0, ?_⟩
  refine OAt.cast (st' := [(.ref b159)]) rfl ?_
  refine Own.ret_ref (t := (.object "java/lang/String")) rfl rfl rfl d27_8 (by decide) (by decide) (fun Sf hSf => ?_)
  exact ⟨K, b159, b161, k161, rfl, X_b159, F_value_b159, F_coder_b159, V161⟩
theorem ef_rmCL4 (m : MethodId)   : entryFrame m #[Z0, (.int (4 : Int32))] 2 = mkF m 0 #[.val Z0, .val (.int (4 : Int32))] [] := by simp [entryFrame, mkF, argsToLocals, Value.category]
theorem rmCL4 (l : Launch) (Z : State) (a0 : Array Value) (hw : HW a0 Z) (ws : List Jvm.Cond)  (h0 : Heap) (n0 : Nat) (hn : n0 ≤ h0.size) :
    Met own_EL l Z (⟨"java/util/Arrays", "checkLength", "(II)V"⟩ : MethodName) jdk_65_method_131_code 2 none ({ frames := 0, cells := 0, slots := 0, locals := 0 } : Room) ws #[Z0, (.int (4 : Int32))] h0 n0 [] (Pur0 h0) := by
  refine Met.of pn_36 (fun m => ef_rmCL4 m ) ?_
  refine Own.iloadN d36_0 rfl ?_
  refine Own.iloadN d36_1 rfl ?_
  refine Own.icmp_ge 37 d36_2 (by decide) rfl (fun _ => ?_) (fun q => absurd q (by decide))
  refine Own.ret_void rfl d36_37 (by decide) (by decide) (fun Sf hSf => ?_)
  exact ⟨rfl, rfl⟩
theorem ef_rmMM4 (m : MethodId)   : entryFrame m #[(.int (16 : Int32)), (.int (4 : Int32))] 2 = mkF m 0 #[.val (.int (16 : Int32)), .val (.int (4 : Int32))] [] := by simp [entryFrame, mkF, argsToLocals, Value.category]
theorem rmMM4 (l : Launch) (Z : State) (a0 : Array Value) (hw : HW a0 Z) (ws : List Jvm.Cond)  (h0 : Heap) (n0 : Nat) (hn : n0 ≤ h0.size) :
    Met own_EL l Z (⟨"java/lang/Math", "min", "(II)I"⟩ : MethodName) jdk_29_method_69_code 2 (some .int) ({ frames := 0, cells := 0, slots := 0, locals := 0 } : Room) ws #[(.int (16 : Int32)), (.int (4 : Int32))] h0 n0 [] (Pur (.int (4 : Int32)) h0) := by
  refine Met.of pn_37 (fun m => ef_rmMM4 m ) ?_
  refine Own.iloadN d37_0 rfl ?_
  refine Own.iloadN d37_1 rfl ?_
  refine Own.icmp_gt 9 d37_2 (by decide) rfl (fun _ => ?_) (fun q => absurd (by decide) q)
  refine Own.iloadN d37_9 rfl ?_
  refine Own.ret_int rfl d37_10 (by decide) (by decide) (fun Sf hSf => ?_)
  exact ⟨rfl, rfl⟩
def Q_rmRB4 (Z : State) (x0 : Value) (x1 : Value) (x2 : Value) (x3 : Value) (h0 : Heap) (n0 : Nat) (v : Option Value) (h : Heap) (Sf : Addr → Prop) : Prop := ∃ (a : Addr) (ka : ClassId), v = some (.ref a) ∧ h0.size ≤ a ∧ Keep h0 h [] ∧ Arl Z h a ka .byte [x0, x1, x2, x3]
theorem ef_rmRB4 (m : MethodId) (a1 : Addr)  : entryFrame m #[(.ref a1), Z0, (.int (4 : Int32))] 5 = mkF m 0 #[.val (.ref a1), .val Z0, .val (.int (4 : Int32)), .unset, .unset] [] := by simp [entryFrame, mkF, argsToLocals, Value.category]
theorem rmRB4 (l : Launch) (Z : State) (a0 : Array Value) (hw : HW a0 Z) (ws : List Jvm.Cond) (a1 : Addr) (ka : ClassId) (x0 : Value) (x1 : Value) (x2 : Value) (x3 : Value) (h0 : Heap) (n0 : Nat) (hn : n0 ≤ h0.size) (V_a1 : Arl Z h0 a1 ka .byte [x0, x1, x2, x3, Z0, Z0, Z0, Z0, Z0, Z0, Z0, Z0, Z0, Z0, Z0, Z0]) :
    Met own_EL l Z (⟨"java/util/Arrays", "copyOfRangeByte", "([BII)[B"⟩ : MethodName) jdk_65_method_133_code 5 (some (.array .byte)) ({ frames := 1, cells := 1, slots := 4, locals := 51 } : Room) ws #[(.ref a1), Z0, (.int (4 : Int32))] h0 n0 [] (Q_rmRB4 Z x0 x1 x2 x3 h0 n0) := by
  refine Met.of pn_35 (fun m => ef_rmRB4 m a1) ?_
  have K := Keep.refl h0 []
  refine Own.iloadN d35_0 rfl ?_
  refine Own.iloadN d35_1 rfl ?_
  refine Own.callS0 [Z0, (.int (4 : Int32))] [] 0 (rmCL4 l Z a0 hw [] h0 n0 hn) (hw _ (mg 179 rfl)) (hw _ (mg 180 rfl)) (hw _ (mg 174 rfl)) (hw _ (mg 181 rfl)) (by decide) d35_2 pd_10 rfl rfl rfl rfl (by decide) (by decide) (by decide) (by decide) ?_
  refine Own.iloadN d35_5 rfl ?_
  refine Own.iloadN d35_6 rfl ?_
  refine Own.isub d35_7 ?_
  refine OAt.cast (st' := [(.int (4 : Int32))]) rfl ?_
  refine Own.istoreN #[.val (.ref a1), .val Z0, .val (.int (4 : Int32)), .val (.int (4 : Int32)), .unset] d35_8 rfl ?_
  refine Own.iloadN d35_9 rfl ?_
  refine Own.newarray_ 4 .byte rfl (hw _ (mg 24 rfl)) d35_10 (N := 4) rfl (by decide) (by decide) (by decide) (by decide) rfl (fun h162 b162 k162 gb162 E162 V162 => ?_)
  have g_b162 : n0 ≤ b162 := by rw [gb162]; exact hn
  have hn := Nat.le_trans hn E162.1
  replace V_a1 := V_a1.ext E162
  replace V162 : Arl Z h162 b162 k162 .byte [Z0, Z0, Z0, Z0] := V162
  have sz_b162 : h0.size ≤ b162 := by rw [gb162]; exact K.1
  have K := K.ext E162
  refine Own.astore #[.val (.ref a1), .val Z0, .val (.int (4 : Int32)), .val (.int (4 : Int32)), .val (.ref b162)] d35_12 rfl rfl ?_
  refine Own.aloadN d35_14 rfl rfl ?_
  refine Own.iloadN d35_15 rfl ?_
  refine Own.aload d35_16 rfl rfl ?_
  refine Own.iconst (0 : Int32) d35_18 rfl ?_
  refine Own.aloadN d35_19 rfl rfl ?_
  refine Own.arraylength_ (16 : Int32) V_a1 rfl d35_20 ?_
  refine Own.iloadN d35_21 rfl ?_
  refine Own.isub d35_22 ?_
  refine OAt.cast (st' := [(.int (16 : Int32)), Z0, (.ref b162), Z0, (.ref a1)]) rfl ?_
  refine Own.iloadN d35_23 rfl ?_
  refine Own.callSP [(.int (16 : Int32)), (.int (4 : Int32))] [Z0, (.ref b162), Z0, (.ref a1)] 4 (rmMM4 l Z a0 hw [] h162 n0 hn) (hw _ (mg 182 rfl)) (hw _ (mg 183 rfl)) (hw _ (mg 184 rfl)) (hw _ (mg 185 rfl)) (by decide) d35_24 pd_9 rfl rfl rfl rfl (by decide) (by decide) (by decide) (by decide) ?_
  refine Own.arraycopy_ (i := 0) (j := 0) (n := 4) 0 (hw _ (mg 186 rfl)) (hw _ (mg 140 rfl)) (hw _ (mg 138 rfl)) (hw _ (mg 139 rfl)) V_a1 V162 rfl rfl rfl rfl (Nat.le_of_ble_eq_true rfl) (Nat.le_of_ble_eq_true rfl) g_b162 (mg 0 rfl) rfl d35_27 (by decide) rfl (by decide) (fun h163 K163 V163 => ?_)
  clear V162
  replace V163 : Arl Z h163 b162 k162 .byte [x0, x1, x2, x3] := V163
  have K := K.trans K163 (allS (Or.inr sz_b162) all0)
  refine Own.aload d35_30 rfl rfl ?_
  refine Own.ret_ref (t := (.array .byte)) rfl rfl rfl d35_32 (by decide) (by decide) (fun Sf hSf => ?_)
  exact ⟨b162, k162, rfl, sz_b162, K, V163⟩
def Q_rmRG4 (Z : State) (x0 : Value) (x1 : Value) (x2 : Value) (x3 : Value) (h0 : Heap) (n0 : Nat) (v : Option Value) (h : Heap) (Sf : Addr → Prop) : Prop := ∃ (a : Addr) (ka : ClassId), v = some (.ref a) ∧ h0.size ≤ a ∧ Keep h0 h [] ∧ Arl Z h a ka .byte [x0, x1, x2, x3]
theorem ef_rmRG4 (m : MethodId) (a1 : Addr)  : entryFrame m #[(.ref a1), Z0, (.int (4 : Int32))] 3 = mkF m 0 #[.val (.ref a1), .val Z0, .val (.int (4 : Int32))] [] := by simp [entryFrame, mkF, argsToLocals, Value.category]
theorem rmRG4 (l : Launch) (Z : State) (a0 : Array Value) (hw : HW a0 Z) (ws : List Jvm.Cond) (a1 : Addr) (ka : ClassId) (x0 : Value) (x1 : Value) (x2 : Value) (x3 : Value) (h0 : Heap) (n0 : Nat) (hn : n0 ≤ h0.size) (V_a1 : Arl Z h0 a1 ka .byte [x0, x1, x2, x3, Z0, Z0, Z0, Z0, Z0, Z0, Z0, Z0, Z0, Z0, Z0, Z0]) :
    Met own_EL l Z (⟨"java/util/Arrays", "copyOfRange", "([BII)[B"⟩ : MethodName) jdk_65_method_132_code 3 (some (.array .byte)) ({ frames := 2, cells := 1, slots := 4, locals := 67 } : Room) ws #[(.ref a1), Z0, (.int (4 : Int32))] h0 n0 [] (Q_rmRG4 Z x0 x1 x2 x3 h0 n0) := by
  refine Met.of pn_34 (fun m => ef_rmRG4 m a1) ?_
  have K := Keep.refl h0 []
  refine Own.iloadN d34_0 rfl ?_
  refine Own.if_ne 10 d34_1 (by decide) rfl (fun q => absurd (by decide) q) (fun _ => ?_)
  refine Own.iloadN d34_4 rfl ?_
  refine Own.aloadN d34_5 rfl rfl ?_
  refine Own.arraylength_ (16 : Int32) V_a1 rfl d34_6 ?_
  refine Own.icmp_eq 17 d34_7 (by decide) rfl (fun q => absurd q (by decide)) (fun _ => ?_)
  refine Own.aloadN d34_10 rfl rfl ?_
  refine Own.iloadN d34_11 rfl ?_
  refine Own.iloadN d34_12 rfl ?_
  refine Own.callS_ [(.ref a1), Z0, (.int (4 : Int32))] [] 0 (rmRB4 l Z a0 hw [] a1 ka x0 x1 x2 x3 h0 n0 hn V_a1) all0 (hw _ (mg 176 rfl)) (hw _ (mg 177 rfl)) (hw _ (mg 174 rfl)) (hw _ (mg 178 rfl)) (by decide) d34_13 pd_25 rfl rfl rfl rfl (by decide) (by decide) (by decide) (by decide) (fun v164 h164 S164 hq164 => ?_)
  obtain ⟨b165, k165, rfl, z165, K165, V165⟩ := hq164
  have sz_b165 : h0.size ≤ b165 := Nat.le_trans K.1 z165
  have K := K.trans K165 all0
  refine ⟨[], all0, ?_⟩
  refine OAt.cast (st' := [(.ref b165)]) rfl ?_
  refine Own.ret_ref (t := (.array .byte)) rfl rfl rfl d34_16 (by decide) (by decide) (fun Sf hSf => ?_)
  exact ⟨b165, k165, rfl, sz_b165, K, V165⟩
def Q_rmIA4 (Z : State) (a1 : Addr) (x0 : Value) (x1 : Value) (x2 : Value) (x3 : Value) (h0 : Heap) (n0 : Nat) (v : Option Value) (h : Heap) (Sf : Addr → Prop) : Prop := v = none ∧ Keep h0 h [a1] ∧ ∃ (b : Addr) (kb : ClassId), h0.size ≤ b ∧ FSv Z h a1 (.ref b) ∧ FSc Z h a1 Z0 ∧ Arl Z h b kb .byte [x0, x1, x2, x3]
theorem ef_rmIA4 (m : MethodId) (a1 : Addr) (a2 : Addr)  : entryFrame m #[(.ref a1), (.ref a2), .null] 5 = mkF m 0 #[.val (.ref a1), .val (.ref a2), .val .null, .unset, .unset] [] := by simp [entryFrame, mkF, argsToLocals, Value.category]
theorem rmIA4 (l : Launch) (Z : State) (a0 : Array Value) (hw : HW a0 Z) (ws : List Jvm.Cond) (a1 : Addr) (a2 : Addr) (b : Addr) (kb : ClassId) (zc : Int32) (x0 : Value) (x1 : Value) (x2 : Value) (x3 : Value) (h0 : Heap) (n0 : Nat) (hn : n0 ≤ h0.size) (X_a1 : XSt Z h0 a1) (g_a1 : n0 ≤ a1) (F_value_a1 : FSv Z h0 a1 .null) (F_coder_a1 : FSc Z h0 a1 Z0) (X_a2 : Exa Z h0 a2 "java/lang/StringBuilder") (F_value_a2 : FAv Z h0 a2 (.ref b)) (F_coder_a2 : FAc Z h0 a2 Z0) (F_count_a2 : FAn Z h0 a2 (.int (4 : Int32))) (V_b : Arl Z h0 b kb .byte [x0, x1, x2, x3, Z0, Z0, Z0, Z0, Z0, Z0, Z0, Z0, Z0, Z0, Z0, Z0]) (S_C : Sta Z h0 "java/lang/String" "COMPACT_STRINGS" "Z" (.int zc)) (hz : ¬ zc = 0) (ne_a2_a1 : a2 ≠ a1) (ne_b_a1 : b ≠ a1) :
    Met own_EL l Z (⟨"java/lang/String", "<init>", "(Ljava/lang/AbstractStringBuilder;Ljava/lang/Void;)V"⟩ : MethodName) jdk_42_method_150_code 5 none ({ frames := 3, cells := 1, slots := 4, locals := 82 } : Room) ws #[(.ref a1), (.ref a2), .null] h0 n0 [a1] (Q_rmIA4 Z a1 x0 x1 x2 x3 h0 n0) := by
  refine Met.of pn_29 (fun m => ef_rmIA4 m a1 a2) ?_
  have K := Keep.refl h0 [a1]
  refine Own.aloadN d29_0 rfl rfl ?_
  refine Own.initO_ (hw _ (mg 16 rfl)) (hw _ (mg 17 rfl)) (hw _ (mg 18 rfl)) d29_1 rfl (by decide) 0 rfl (by decide) ?_
  refine Own.aloadN d29_4 rfl rfl ?_
  refine Own.callVP a2 [] [] 0 (rmGV l Z a0 hw [] a2 b h0 n0 hn F_value_a2) (hw _ (mg 154 rfl)) (hw _ (mg 155 rfl)) (fun s hZ => face_same (args := #[]) (mvT hZ (hw _ (mg 119 rfl))) rfl) (hw _ (mg 157 rfl)) (hw _ (mg 156 rfl)) (hw _ (mg 95 rfl)) (hw _ (mg 158 rfl)) (by decide) X_a2 d29_5 pd_5 rfl rfl rfl rfl (by decide) (by decide) (by decide) (by decide) ?_
  refine Own.astoreN #[.val (.ref a1), .val (.ref a2), .val .null, .val (.ref b), .unset] d29_8 rfl rfl ?_
  refine Own.aloadN d29_9 rfl rfl ?_
  refine Own.callVP a2 [] [] 0 (rmL2 l Z a0 hw [] a2 (4 : Int32) h0 n0 hn X_a2 F_count_a2) (hw _ (mg 159 rfl)) (hw _ (mg 160 rfl)) (fun s hZ => face_same (args := #[]) (mvT hZ (hw _ (mg 119 rfl))) rfl) (hw _ (mg 162 rfl)) (hw _ (mg 163 rfl)) (hw _ (mg 87 rfl)) (hw _ (mg 164 rfl)) (by decide) X_a2 d29_10 pd_1 rfl rfl rfl rfl (by decide) (by decide) (by decide) (by decide) ?_
  refine Own.istore #[.val (.ref a1), .val (.ref a2), .val .null, .val (.ref b), .val (.int (4 : Int32))] d29_13 rfl ?_
  refine Own.aloadN d29_15 rfl rfl ?_
  refine Own.callVP a2 [] [] 0 (rmBL l Z a0 hw [] a2 zc h0 n0 hn S_C hz F_coder_a2) (hw _ (mg 167 rfl)) (hw _ (mg 168 rfl)) (fun s hZ => face_same (args := #[]) (mvT hZ (hw _ (mg 119 rfl))) rfl) (hw _ (mg 170 rfl)) (hw _ (mg 169 rfl)) (hw _ (mg 95 rfl)) (hw _ (mg 171 rfl)) (by decide) X_a2 d29_16 pd_4 rfl rfl rfl rfl (by decide) (by decide) (by decide) (by decide) ?_
  refine Own.if_eq 41 d29_19 (by decide) rfl (fun q => absurd q (by decide)) (fun _ => ?_)
  refine Own.aloadN d29_22 rfl rfl ?_
  refine Own.iconst (0 : Int32) d29_23 rfl ?_
  refine Own.putFN_ (hw _ (mg 31 rfl)) Via.refl F_coder_a1 X_a1 (Or.inr ⟨(hw _ (mg 32 rfl)), rfl, rfl⟩) (hw _ (mg 6 rfl)) (ty := .byte) (v' := (.int (nar .byte (0 : Int32)))) (by decide) rfl (fits_nar_byte _) g_a1 (mg 0 rfl) d29_24 (fun h166 W167 => ?_)
  replace F_coder_a1 := F_coder_a1.same W167
  have hn : n0 ≤ h166.size := by rw [W167.size]; exact hn
  replace X_a1 := X_a1.wr W167
  replace F_value_a1 := F_value_a1.other W167 (Or.inr (slot_ne (Or.inr (hw _ (mg 34 rfl))) (Or.inr (hw _ (mg 32 rfl))) (by decide) (t := (.array .byte)) (t' := .byte) (by decide) (by decide)))
  replace V_b := V_b.other W167 ne_b_a1
  rw [show nar .byte (0 : Int32) = 0 from rfl] at F_coder_a1
  have K := K.wr W167 (Or.inl (mg 0 rfl))
  refine Own.aloadN d29_27 rfl rfl ?_
  refine Own.aloadN d29_28 rfl rfl ?_
  refine Own.iconst (0 : Int32) d29_29 rfl ?_
  refine Own.iload d29_30 rfl ?_
  refine Own.callS_ [(.ref b), Z0, (.int (4 : Int32))] [(.ref a1)] 1 (rmRG4 l Z a0 hw [] b kb x0 x1 x2 x3 h166 n0 hn V_b) all0 (hw _ (mg 172 rfl)) (hw _ (mg 173 rfl)) (hw _ (mg 174 rfl)) (hw _ (mg 175 rfl)) (by decide) d29_32 pd_25 rfl rfl rfl rfl (by decide) (by decide) (by decide) (by decide) (fun v168 h168 S168 hq168 => ?_)
  obtain ⟨b169, k169, rfl, z169, K169, V169⟩ := hq168
  have ne_a1_b169 : a1 ≠ b169 := Nat.ne_of_lt (Nat.lt_of_lt_of_le X_a1.lt z169)
  have ne_b169_a1 := Ne.symm ne_a1_b169
  have sz_b169 : h0.size ≤ b169 := Nat.le_trans K.1 z169
  replace X_a1 := X_a1.keep K169
  replace F_value_a1 := F_value_a1.keep K169 nin0
  replace F_coder_a1 := F_coder_a1.keep K169 nin0
  have K := K.trans K169 all0
  refine ⟨[], all0, ?_⟩
  refine OAt.cast (st' := [(.ref b169), (.ref a1)]) rfl ?_
  refine Own.putF_ (host := "") (Or.inl (hw _ (mg 33 rfl))) Via.refl F_value_a1 X_a1 (Or.inr ⟨(hw _ (mg 34 rfl)), rfl, rfl⟩) (hw _ (mg 6 rfl)) (ty := (.array .byte)) (by decide) rfl rfl g_a1 (mg 0 rfl) d29_35 (fun h170 W171 => ?_)
  replace F_value_a1 := F_value_a1.same W171
  replace F_coder_a1 := F_coder_a1.other W171 (Or.inr (slot_ne (Or.inr (hw _ (mg 32 rfl))) (Or.inr (hw _ (mg 34 rfl))) (by decide) (t := .byte) (t' := (.array .byte)) (by decide) (by decide)))
  replace V169 := V169.other W171 ne_b169_a1
  have K := K.wr W171 (Or.inl (mg 0 rfl))
  refine Own.goto_ 97 d29_38 (by decide) rfl ?_
  refine Own.ret_void rfl d29_97 (by decide) (by decide) (fun Sf hSf => ?_)
  exact ⟨rfl, K, b169, k169, sz_b169, F_value_a1, F_coder_a1, V169⟩
def Q_rmIS4 (Z : State) (a1 : Addr) (x0 : Value) (x1 : Value) (x2 : Value) (x3 : Value) (h0 : Heap) (n0 : Nat) (v : Option Value) (h : Heap) (Sf : Addr → Prop) : Prop := v = none ∧ Keep h0 h [a1] ∧ ∃ (b : Addr) (kb : ClassId), h0.size ≤ b ∧ FSv Z h a1 (.ref b) ∧ FSc Z h a1 Z0 ∧ Arl Z h b kb .byte [x0, x1, x2, x3]
theorem ef_rmIS4 (m : MethodId) (a1 : Addr) (a2 : Addr)  : entryFrame m #[(.ref a1), (.ref a2)] 2 = mkF m 0 #[.val (.ref a1), .val (.ref a2)] [] := by simp [entryFrame, mkF, argsToLocals, Value.category]
theorem rmIS4 (l : Launch) (Z : State) (a0 : Array Value) (hw : HW a0 Z) (ws : List Jvm.Cond) (a1 : Addr) (a2 : Addr) (b : Addr) (kb : ClassId) (zc : Int32) (x0 : Value) (x1 : Value) (x2 : Value) (x3 : Value) (h0 : Heap) (n0 : Nat) (hn : n0 ≤ h0.size) (X_a1 : XSt Z h0 a1) (g_a1 : n0 ≤ a1) (F_value_a1 : FSv Z h0 a1 .null) (F_coder_a1 : FSc Z h0 a1 Z0) (X_a2 : Exa Z h0 a2 "java/lang/StringBuilder") (F_value_a2 : FAv Z h0 a2 (.ref b)) (F_coder_a2 : FAc Z h0 a2 Z0) (F_count_a2 : FAn Z h0 a2 (.int (4 : Int32))) (V_b : Arl Z h0 b kb .byte [x0, x1, x2, x3, Z0, Z0, Z0, Z0, Z0, Z0, Z0, Z0, Z0, Z0, Z0, Z0]) (S_C : Sta Z h0 "java/lang/String" "COMPACT_STRINGS" "Z" (.int zc)) (hz : ¬ zc = 0) (ne_a2_a1 : a2 ≠ a1) (ne_b_a1 : b ≠ a1) :
    Met own_EL l Z (⟨"java/lang/String", "<init>", "(Ljava/lang/StringBuilder;)V"⟩ : MethodName) jdk_42_method_53_code 2 none ({ frames := 4, cells := 1, slots := 4, locals := 98 } : Room) ws #[(.ref a1), (.ref a2)] h0 n0 [a1] (Q_rmIS4 Z a1 x0 x1 x2 x3 h0 n0) := by
  refine Met.of pn_28 (fun m => ef_rmIS4 m a1 a2) ?_
  have K := Keep.refl h0 [a1]
  refine Own.aloadN d28_0 rfl rfl ?_
  refine Own.aloadN d28_1 rfl rfl ?_
  refine Own.aconstNull d28_2 ?_
  refine Own.callI_ a1 [(.ref a2), .null] [] 0 (rmIA4 l Z a0 hw [] a1 a2 b kb zc x0 x1 x2 x3 h0 n0 hn X_a1 g_a1 F_value_a1 F_coder_a1 X_a2 F_value_a2 F_coder_a2 F_count_a2 V_b S_C hz ne_a2_a1 ne_b_a1) (allS (mg 0 rfl) all0) (hw _ (mg 151 rfl)) (hw _ (mg 152 rfl)) (hw _ (mg 7 rfl)) (hw _ (mg 153 rfl)) rfl (by decide) d28_3 pd_14 rfl rfl rfl rfl (by decide) (by decide) (by decide) (by decide) (fun v172 h172 S172 hq172 => ?_)
  obtain ⟨rfl, K4, rest4⟩ := hq172
  have K := K.trans K4 (allS (Or.inl (mg 0 rfl)) all0)
  refine ⟨[], all0, ?_⟩
  refine OAt.cast (st' := []) rfl ?_
  refine Own.ret_void rfl d28_6 (by decide) (by decide) (fun Sf hSf => ?_)
  exact ⟨rfl, K, rest4⟩
def Q_rmTS4 (Z : State) (x0 : Value) (x1 : Value) (x2 : Value) (x3 : Value) (h0 : Heap) (n0 : Nat) (v : Option Value) (h : Heap) (Sf : Addr → Prop) : Prop := Keep h0 h [] ∧ ∃ (a b : Addr) (kb : ClassId), v = some (.ref a) ∧ XSt Z h a ∧ FSv Z h a (.ref b) ∧ FSc Z h a Z0 ∧ Arl Z h b kb .byte [x0, x1, x2, x3]
theorem ef_rmTS4 (m : MethodId) (a1 : Addr)  : entryFrame m #[(.ref a1)] 1 = mkF m 0 #[.val (.ref a1)] [] := by simp [entryFrame, mkF, argsToLocals, Value.category]
theorem rmTS4 (l : Launch) (Z : State) (a0 : Array Value) (hw : HW a0 Z) (ws : List Jvm.Cond) (a1 : Addr) (b : Addr) (kb : ClassId) (zc : Int32) (x0 : Value) (x1 : Value) (x2 : Value) (x3 : Value) (h0 : Heap) (n0 : Nat) (hn : n0 ≤ h0.size) (X_a1 : Exa Z h0 a1 "java/lang/StringBuilder") (F_value_a1 : FAv Z h0 a1 (.ref b)) (F_coder_a1 : FAc Z h0 a1 Z0) (F_count_a1 : FAn Z h0 a1 (.int (4 : Int32))) (V_b : Arl Z h0 b kb .byte [x0, x1, x2, x3, Z0, Z0, Z0, Z0, Z0, Z0, Z0, Z0, Z0, Z0, Z0, Z0]) (S_C : Sta Z h0 "java/lang/String" "COMPACT_STRINGS" "Z" (.int zc)) (hz : ¬ zc = 0) :
    Met own_EL l Z (⟨"java/lang/StringBuilder", "toString", "()Ljava/lang/String;"⟩ : MethodName) jdk_67_method_42_code 1 (some (.object "java/lang/String")) ({ frames := 5, cells := 2, slots := 8, locals := 112 } : Room) ws #[(.ref a1)] h0 n0 [] (Q_rmTS4 Z x0 x1 x2 x3 h0 n0) := by
  refine Met.of pn_27 (fun m => ef_rmTS4 m a1) ?_
  have K := Keep.refl h0 []
  refine Own.new_ (hw _ (mg 147 rfl)) (hw _ (mg 6 rfl)) (hw _ (mg 7 rfl)) d27_0 (by decide) (by decide) (fun h173 b173 gb173 E173 X173 D173 => ?_)
  have g_b173 : n0 ≤ b173 := by rw [gb173]; exact hn
  have ne_a1_b173 : a1 ≠ b173 := fun q => Nat.ne_of_lt X_a1.lt (q.trans gb173)
  have ne_b_b173 : b ≠ b173 := fun q => Nat.ne_of_lt V_b.lt (q.trans gb173)
  have hn := Nat.le_trans hn E173.1
  replace X_a1 := X_a1.ext E173
  replace F_value_a1 := F_value_a1.ext E173
  replace F_coder_a1 := F_coder_a1.ext E173
  replace F_count_a1 := F_count_a1.ext E173
  replace V_b := V_b.ext E173
  replace S_C := S_C.ext E173
  have X_b173 := X173
  have F_coder_b173 : FSc Z h173 b173 Z0 := D173 (Or.inr (hw _ (mg 32 rfl))) (ty := .byte) (by decide)
  have F_value_b173 : FSv Z h173 b173 .null := D173 (Or.inr (hw _ (mg 34 rfl))) (ty := (.array .byte)) (by decide)
  have sz_b173 : h0.size ≤ b173 := by rw [gb173]; exact K.1
  have K := K.ext E173
  refine Own.dup d27_3 rfl ?_
  refine Own.aloadN d27_4 rfl rfl ?_
  refine Own.callI_ b173 [(.ref a1)] [(.ref b173)] 1 (rmIS4 l Z a0 hw [] b173 a1 b kb zc x0 x1 x2 x3 h173 n0 hn X_b173 g_b173 F_value_b173 F_coder_b173 X_a1 F_value_a1 F_coder_a1 F_count_a1 V_b S_C hz ne_a1_b173 ne_b_b173) (allS (mg 0 rfl) all0) (hw _ (mg 148 rfl)) (hw _ (mg 149 rfl)) (hw _ (mg 7 rfl)) (hw _ (mg 150 rfl)) rfl (by decide) d27_5 pd_21 rfl rfl rfl rfl (by decide) (by decide) (by decide) (by decide) (fun v174 h174 S174 hq174 => ?_)
  obtain ⟨rfl, K175, b175, k175, z175, Fv175, Fc175, V175⟩ := hq174
  replace X_b173 := X_b173.keep K175
  have F_value_b173 := Fv175
  have F_coder_b173 := Fc175
  have K := K.trans K175 (allS (Or.inr sz_b173) all0)
  refine ⟨[], all0, ?_⟩
  refine OAt.cast (st' := [(.ref b173)]) rfl ?_
  refine Own.ret_ref (t := (.object "java/lang/String")) rfl rfl rfl d27_8 (by decide) (by decide) (fun Sf hSf => ?_)
  exact ⟨K, b173, b175, k175, rfl, X_b173, F_value_b173, F_coder_b173, V175⟩
theorem ef_rmCL5 (m : MethodId)   : entryFrame m #[Z0, (.int (5 : Int32))] 2 = mkF m 0 #[.val Z0, .val (.int (5 : Int32))] [] := by simp [entryFrame, mkF, argsToLocals, Value.category]
theorem rmCL5 (l : Launch) (Z : State) (a0 : Array Value) (hw : HW a0 Z) (ws : List Jvm.Cond)  (h0 : Heap) (n0 : Nat) (hn : n0 ≤ h0.size) :
    Met own_EL l Z (⟨"java/util/Arrays", "checkLength", "(II)V"⟩ : MethodName) jdk_65_method_131_code 2 none ({ frames := 0, cells := 0, slots := 0, locals := 0 } : Room) ws #[Z0, (.int (5 : Int32))] h0 n0 [] (Pur0 h0) := by
  refine Met.of pn_36 (fun m => ef_rmCL5 m ) ?_
  refine Own.iloadN d36_0 rfl ?_
  refine Own.iloadN d36_1 rfl ?_
  refine Own.icmp_ge 37 d36_2 (by decide) rfl (fun _ => ?_) (fun q => absurd q (by decide))
  refine Own.ret_void rfl d36_37 (by decide) (by decide) (fun Sf hSf => ?_)
  exact ⟨rfl, rfl⟩
theorem ef_rmMM5 (m : MethodId)   : entryFrame m #[(.int (16 : Int32)), (.int (5 : Int32))] 2 = mkF m 0 #[.val (.int (16 : Int32)), .val (.int (5 : Int32))] [] := by simp [entryFrame, mkF, argsToLocals, Value.category]
theorem rmMM5 (l : Launch) (Z : State) (a0 : Array Value) (hw : HW a0 Z) (ws : List Jvm.Cond)  (h0 : Heap) (n0 : Nat) (hn : n0 ≤ h0.size) :
    Met own_EL l Z (⟨"java/lang/Math", "min", "(II)I"⟩ : MethodName) jdk_29_method_69_code 2 (some .int) ({ frames := 0, cells := 0, slots := 0, locals := 0 } : Room) ws #[(.int (16 : Int32)), (.int (5 : Int32))] h0 n0 [] (Pur (.int (5 : Int32)) h0) := by
  refine Met.of pn_37 (fun m => ef_rmMM5 m ) ?_
  refine Own.iloadN d37_0 rfl ?_
  refine Own.iloadN d37_1 rfl ?_
  refine Own.icmp_gt 9 d37_2 (by decide) rfl (fun _ => ?_) (fun q => absurd (by decide) q)
  refine Own.iloadN d37_9 rfl ?_
  refine Own.ret_int rfl d37_10 (by decide) (by decide) (fun Sf hSf => ?_)
  exact ⟨rfl, rfl⟩
def Q_rmRB5 (Z : State) (x0 : Value) (x1 : Value) (x2 : Value) (x3 : Value) (x4 : Value) (h0 : Heap) (n0 : Nat) (v : Option Value) (h : Heap) (Sf : Addr → Prop) : Prop := ∃ (a : Addr) (ka : ClassId), v = some (.ref a) ∧ h0.size ≤ a ∧ Keep h0 h [] ∧ Arl Z h a ka .byte [x0, x1, x2, x3, x4]
theorem ef_rmRB5 (m : MethodId) (a1 : Addr)  : entryFrame m #[(.ref a1), Z0, (.int (5 : Int32))] 5 = mkF m 0 #[.val (.ref a1), .val Z0, .val (.int (5 : Int32)), .unset, .unset] [] := by simp [entryFrame, mkF, argsToLocals, Value.category]
theorem rmRB5 (l : Launch) (Z : State) (a0 : Array Value) (hw : HW a0 Z) (ws : List Jvm.Cond) (a1 : Addr) (ka : ClassId) (x0 : Value) (x1 : Value) (x2 : Value) (x3 : Value) (x4 : Value) (h0 : Heap) (n0 : Nat) (hn : n0 ≤ h0.size) (V_a1 : Arl Z h0 a1 ka .byte [x0, x1, x2, x3, x4, Z0, Z0, Z0, Z0, Z0, Z0, Z0, Z0, Z0, Z0, Z0]) :
    Met own_EL l Z (⟨"java/util/Arrays", "copyOfRangeByte", "([BII)[B"⟩ : MethodName) jdk_65_method_133_code 5 (some (.array .byte)) ({ frames := 1, cells := 1, slots := 5, locals := 51 } : Room) ws #[(.ref a1), Z0, (.int (5 : Int32))] h0 n0 [] (Q_rmRB5 Z x0 x1 x2 x3 x4 h0 n0) := by
  refine Met.of pn_35 (fun m => ef_rmRB5 m a1) ?_
  have K := Keep.refl h0 []
  refine Own.iloadN d35_0 rfl ?_
  refine Own.iloadN d35_1 rfl ?_
  refine Own.callS0 [Z0, (.int (5 : Int32))] [] 0 (rmCL5 l Z a0 hw [] h0 n0 hn) (hw _ (mg 179 rfl)) (hw _ (mg 180 rfl)) (hw _ (mg 174 rfl)) (hw _ (mg 181 rfl)) (by decide) d35_2 pd_10 rfl rfl rfl rfl (by decide) (by decide) (by decide) (by decide) ?_
  refine Own.iloadN d35_5 rfl ?_
  refine Own.iloadN d35_6 rfl ?_
  refine Own.isub d35_7 ?_
  refine OAt.cast (st' := [(.int (5 : Int32))]) rfl ?_
  refine Own.istoreN #[.val (.ref a1), .val Z0, .val (.int (5 : Int32)), .val (.int (5 : Int32)), .unset] d35_8 rfl ?_
  refine Own.iloadN d35_9 rfl ?_
  refine Own.newarray_ 5 .byte rfl (hw _ (mg 24 rfl)) d35_10 (N := 5) rfl (by decide) (by decide) (by decide) (by decide) rfl (fun h176 b176 k176 gb176 E176 V176 => ?_)
  have g_b176 : n0 ≤ b176 := by rw [gb176]; exact hn
  have hn := Nat.le_trans hn E176.1
  replace V_a1 := V_a1.ext E176
  replace V176 : Arl Z h176 b176 k176 .byte [Z0, Z0, Z0, Z0, Z0] := V176
  have sz_b176 : h0.size ≤ b176 := by rw [gb176]; exact K.1
  have K := K.ext E176
  refine Own.astore #[.val (.ref a1), .val Z0, .val (.int (5 : Int32)), .val (.int (5 : Int32)), .val (.ref b176)] d35_12 rfl rfl ?_
  refine Own.aloadN d35_14 rfl rfl ?_
  refine Own.iloadN d35_15 rfl ?_
  refine Own.aload d35_16 rfl rfl ?_
  refine Own.iconst (0 : Int32) d35_18 rfl ?_
  refine Own.aloadN d35_19 rfl rfl ?_
  refine Own.arraylength_ (16 : Int32) V_a1 rfl d35_20 ?_
  refine Own.iloadN d35_21 rfl ?_
  refine Own.isub d35_22 ?_
  refine OAt.cast (st' := [(.int (16 : Int32)), Z0, (.ref b176), Z0, (.ref a1)]) rfl ?_
  refine Own.iloadN d35_23 rfl ?_
  refine Own.callSP [(.int (16 : Int32)), (.int (5 : Int32))] [Z0, (.ref b176), Z0, (.ref a1)] 4 (rmMM5 l Z a0 hw [] h176 n0 hn) (hw _ (mg 182 rfl)) (hw _ (mg 183 rfl)) (hw _ (mg 184 rfl)) (hw _ (mg 185 rfl)) (by decide) d35_24 pd_9 rfl rfl rfl rfl (by decide) (by decide) (by decide) (by decide) ?_
  refine Own.arraycopy_ (i := 0) (j := 0) (n := 5) 0 (hw _ (mg 186 rfl)) (hw _ (mg 140 rfl)) (hw _ (mg 138 rfl)) (hw _ (mg 139 rfl)) V_a1 V176 rfl rfl rfl rfl (Nat.le_of_ble_eq_true rfl) (Nat.le_of_ble_eq_true rfl) g_b176 (mg 0 rfl) rfl d35_27 (by decide) rfl (by decide) (fun h177 K177 V177 => ?_)
  clear V176
  replace V177 : Arl Z h177 b176 k176 .byte [x0, x1, x2, x3, x4] := V177
  have K := K.trans K177 (allS (Or.inr sz_b176) all0)
  refine Own.aload d35_30 rfl rfl ?_
  refine Own.ret_ref (t := (.array .byte)) rfl rfl rfl d35_32 (by decide) (by decide) (fun Sf hSf => ?_)
  exact ⟨b176, k176, rfl, sz_b176, K, V177⟩
def Q_rmRG5 (Z : State) (x0 : Value) (x1 : Value) (x2 : Value) (x3 : Value) (x4 : Value) (h0 : Heap) (n0 : Nat) (v : Option Value) (h : Heap) (Sf : Addr → Prop) : Prop := ∃ (a : Addr) (ka : ClassId), v = some (.ref a) ∧ h0.size ≤ a ∧ Keep h0 h [] ∧ Arl Z h a ka .byte [x0, x1, x2, x3, x4]
theorem ef_rmRG5 (m : MethodId) (a1 : Addr)  : entryFrame m #[(.ref a1), Z0, (.int (5 : Int32))] 3 = mkF m 0 #[.val (.ref a1), .val Z0, .val (.int (5 : Int32))] [] := by simp [entryFrame, mkF, argsToLocals, Value.category]
theorem rmRG5 (l : Launch) (Z : State) (a0 : Array Value) (hw : HW a0 Z) (ws : List Jvm.Cond) (a1 : Addr) (ka : ClassId) (x0 : Value) (x1 : Value) (x2 : Value) (x3 : Value) (x4 : Value) (h0 : Heap) (n0 : Nat) (hn : n0 ≤ h0.size) (V_a1 : Arl Z h0 a1 ka .byte [x0, x1, x2, x3, x4, Z0, Z0, Z0, Z0, Z0, Z0, Z0, Z0, Z0, Z0, Z0]) :
    Met own_EL l Z (⟨"java/util/Arrays", "copyOfRange", "([BII)[B"⟩ : MethodName) jdk_65_method_132_code 3 (some (.array .byte)) ({ frames := 2, cells := 1, slots := 5, locals := 67 } : Room) ws #[(.ref a1), Z0, (.int (5 : Int32))] h0 n0 [] (Q_rmRG5 Z x0 x1 x2 x3 x4 h0 n0) := by
  refine Met.of pn_34 (fun m => ef_rmRG5 m a1) ?_
  have K := Keep.refl h0 []
  refine Own.iloadN d34_0 rfl ?_
  refine Own.if_ne 10 d34_1 (by decide) rfl (fun q => absurd (by decide) q) (fun _ => ?_)
  refine Own.iloadN d34_4 rfl ?_
  refine Own.aloadN d34_5 rfl rfl ?_
  refine Own.arraylength_ (16 : Int32) V_a1 rfl d34_6 ?_
  refine Own.icmp_eq 17 d34_7 (by decide) rfl (fun q => absurd q (by decide)) (fun _ => ?_)
  refine Own.aloadN d34_10 rfl rfl ?_
  refine Own.iloadN d34_11 rfl ?_
  refine Own.iloadN d34_12 rfl ?_
  refine Own.callS_ [(.ref a1), Z0, (.int (5 : Int32))] [] 0 (rmRB5 l Z a0 hw [] a1 ka x0 x1 x2 x3 x4 h0 n0 hn V_a1) all0 (hw _ (mg 176 rfl)) (hw _ (mg 177 rfl)) (hw _ (mg 174 rfl)) (hw _ (mg 178 rfl)) (by decide) d34_13 pd_25 rfl rfl rfl rfl (by decide) (by decide) (by decide) (by decide) (fun v178 h178 S178 hq178 => ?_)
  obtain ⟨b179, k179, rfl, z179, K179, V179⟩ := hq178
  have sz_b179 : h0.size ≤ b179 := Nat.le_trans K.1 z179
  have K := K.trans K179 all0
  refine ⟨[], all0, ?_⟩
  refine OAt.cast (st' := [(.ref b179)]) rfl ?_
  refine Own.ret_ref (t := (.array .byte)) rfl rfl rfl d34_16 (by decide) (by decide) (fun Sf hSf => ?_)
  exact ⟨b179, k179, rfl, sz_b179, K, V179⟩
def Q_rmIA5 (Z : State) (a1 : Addr) (x0 : Value) (x1 : Value) (x2 : Value) (x3 : Value) (x4 : Value) (h0 : Heap) (n0 : Nat) (v : Option Value) (h : Heap) (Sf : Addr → Prop) : Prop := v = none ∧ Keep h0 h [a1] ∧ ∃ (b : Addr) (kb : ClassId), h0.size ≤ b ∧ FSv Z h a1 (.ref b) ∧ FSc Z h a1 Z0 ∧ Arl Z h b kb .byte [x0, x1, x2, x3, x4]
theorem ef_rmIA5 (m : MethodId) (a1 : Addr) (a2 : Addr)  : entryFrame m #[(.ref a1), (.ref a2), .null] 5 = mkF m 0 #[.val (.ref a1), .val (.ref a2), .val .null, .unset, .unset] [] := by simp [entryFrame, mkF, argsToLocals, Value.category]
theorem rmIA5 (l : Launch) (Z : State) (a0 : Array Value) (hw : HW a0 Z) (ws : List Jvm.Cond) (a1 : Addr) (a2 : Addr) (b : Addr) (kb : ClassId) (zc : Int32) (x0 : Value) (x1 : Value) (x2 : Value) (x3 : Value) (x4 : Value) (h0 : Heap) (n0 : Nat) (hn : n0 ≤ h0.size) (X_a1 : XSt Z h0 a1) (g_a1 : n0 ≤ a1) (F_value_a1 : FSv Z h0 a1 .null) (F_coder_a1 : FSc Z h0 a1 Z0) (X_a2 : Exa Z h0 a2 "java/lang/StringBuilder") (F_value_a2 : FAv Z h0 a2 (.ref b)) (F_coder_a2 : FAc Z h0 a2 Z0) (F_count_a2 : FAn Z h0 a2 (.int (5 : Int32))) (V_b : Arl Z h0 b kb .byte [x0, x1, x2, x3, x4, Z0, Z0, Z0, Z0, Z0, Z0, Z0, Z0, Z0, Z0, Z0]) (S_C : Sta Z h0 "java/lang/String" "COMPACT_STRINGS" "Z" (.int zc)) (hz : ¬ zc = 0) (ne_a2_a1 : a2 ≠ a1) (ne_b_a1 : b ≠ a1) :
    Met own_EL l Z (⟨"java/lang/String", "<init>", "(Ljava/lang/AbstractStringBuilder;Ljava/lang/Void;)V"⟩ : MethodName) jdk_42_method_150_code 5 none ({ frames := 3, cells := 1, slots := 5, locals := 82 } : Room) ws #[(.ref a1), (.ref a2), .null] h0 n0 [a1] (Q_rmIA5 Z a1 x0 x1 x2 x3 x4 h0 n0) := by
  refine Met.of pn_29 (fun m => ef_rmIA5 m a1 a2) ?_
  have K := Keep.refl h0 [a1]
  refine Own.aloadN d29_0 rfl rfl ?_
  refine Own.initO_ (hw _ (mg 16 rfl)) (hw _ (mg 17 rfl)) (hw _ (mg 18 rfl)) d29_1 rfl (by decide) 0 rfl (by decide) ?_
  refine Own.aloadN d29_4 rfl rfl ?_
  refine Own.callVP a2 [] [] 0 (rmGV l Z a0 hw [] a2 b h0 n0 hn F_value_a2) (hw _ (mg 154 rfl)) (hw _ (mg 155 rfl)) (fun s hZ => face_same (args := #[]) (mvT hZ (hw _ (mg 119 rfl))) rfl) (hw _ (mg 157 rfl)) (hw _ (mg 156 rfl)) (hw _ (mg 95 rfl)) (hw _ (mg 158 rfl)) (by decide) X_a2 d29_5 pd_5 rfl rfl rfl rfl (by decide) (by decide) (by decide) (by decide) ?_
  refine Own.astoreN #[.val (.ref a1), .val (.ref a2), .val .null, .val (.ref b), .unset] d29_8 rfl rfl ?_
  refine Own.aloadN d29_9 rfl rfl ?_
  refine Own.callVP a2 [] [] 0 (rmL2 l Z a0 hw [] a2 (5 : Int32) h0 n0 hn X_a2 F_count_a2) (hw _ (mg 159 rfl)) (hw _ (mg 160 rfl)) (fun s hZ => face_same (args := #[]) (mvT hZ (hw _ (mg 119 rfl))) rfl) (hw _ (mg 162 rfl)) (hw _ (mg 163 rfl)) (hw _ (mg 87 rfl)) (hw _ (mg 164 rfl)) (by decide) X_a2 d29_10 pd_1 rfl rfl rfl rfl (by decide) (by decide) (by decide) (by decide) ?_
  refine Own.istore #[.val (.ref a1), .val (.ref a2), .val .null, .val (.ref b), .val (.int (5 : Int32))] d29_13 rfl ?_
  refine Own.aloadN d29_15 rfl rfl ?_
  refine Own.callVP a2 [] [] 0 (rmBL l Z a0 hw [] a2 zc h0 n0 hn S_C hz F_coder_a2) (hw _ (mg 167 rfl)) (hw _ (mg 168 rfl)) (fun s hZ => face_same (args := #[]) (mvT hZ (hw _ (mg 119 rfl))) rfl) (hw _ (mg 170 rfl)) (hw _ (mg 169 rfl)) (hw _ (mg 95 rfl)) (hw _ (mg 171 rfl)) (by decide) X_a2 d29_16 pd_4 rfl rfl rfl rfl (by decide) (by decide) (by decide) (by decide) ?_
  refine Own.if_eq 41 d29_19 (by decide) rfl (fun q => absurd q (by decide)) (fun _ => ?_)
  refine Own.aloadN d29_22 rfl rfl ?_
  refine Own.iconst (0 : Int32) d29_23 rfl ?_
  refine Own.putFN_ (hw _ (mg 31 rfl)) Via.refl F_coder_a1 X_a1 (Or.inr ⟨(hw _ (mg 32 rfl)), rfl, rfl⟩) (hw _ (mg 6 rfl)) (ty := .byte) (v' := (.int (nar .byte (0 : Int32)))) (by decide) rfl (fits_nar_byte _) g_a1 (mg 0 rfl) d29_24 (fun h180 W181 => ?_)
  replace F_coder_a1 := F_coder_a1.same W181
  have hn : n0 ≤ h180.size := by rw [W181.size]; exact hn
  replace X_a1 := X_a1.wr W181
  replace F_value_a1 := F_value_a1.other W181 (Or.inr (slot_ne (Or.inr (hw _ (mg 34 rfl))) (Or.inr (hw _ (mg 32 rfl))) (by decide) (t := (.array .byte)) (t' := .byte) (by decide) (by decide)))
  replace V_b := V_b.other W181 ne_b_a1
  rw [show nar .byte (0 : Int32) = 0 from rfl] at F_coder_a1
  have K := K.wr W181 (Or.inl (mg 0 rfl))
  refine Own.aloadN d29_27 rfl rfl ?_
  refine Own.aloadN d29_28 rfl rfl ?_
  refine Own.iconst (0 : Int32) d29_29 rfl ?_
  refine Own.iload d29_30 rfl ?_
  refine Own.callS_ [(.ref b), Z0, (.int (5 : Int32))] [(.ref a1)] 1 (rmRG5 l Z a0 hw [] b kb x0 x1 x2 x3 x4 h180 n0 hn V_b) all0 (hw _ (mg 172 rfl)) (hw _ (mg 173 rfl)) (hw _ (mg 174 rfl)) (hw _ (mg 175 rfl)) (by decide) d29_32 pd_25 rfl rfl rfl rfl (by decide) (by decide) (by decide) (by decide) (fun v182 h182 S182 hq182 => ?_)
  obtain ⟨b183, k183, rfl, z183, K183, V183⟩ := hq182
  have ne_a1_b183 : a1 ≠ b183 := Nat.ne_of_lt (Nat.lt_of_lt_of_le X_a1.lt z183)
  have ne_b183_a1 := Ne.symm ne_a1_b183
  have sz_b183 : h0.size ≤ b183 := Nat.le_trans K.1 z183
  replace X_a1 := X_a1.keep K183
  replace F_value_a1 := F_value_a1.keep K183 nin0
  replace F_coder_a1 := F_coder_a1.keep K183 nin0
  have K := K.trans K183 all0
  refine ⟨[], all0, ?_⟩
  refine OAt.cast (st' := [(.ref b183), (.ref a1)]) rfl ?_
  refine Own.putF_ (host := "") (Or.inl (hw _ (mg 33 rfl))) Via.refl F_value_a1 X_a1 (Or.inr ⟨(hw _ (mg 34 rfl)), rfl, rfl⟩) (hw _ (mg 6 rfl)) (ty := (.array .byte)) (by decide) rfl rfl g_a1 (mg 0 rfl) d29_35 (fun h184 W185 => ?_)
  replace F_value_a1 := F_value_a1.same W185
  replace F_coder_a1 := F_coder_a1.other W185 (Or.inr (slot_ne (Or.inr (hw _ (mg 32 rfl))) (Or.inr (hw _ (mg 34 rfl))) (by decide) (t := .byte) (t' := (.array .byte)) (by decide) (by decide)))
  replace V183 := V183.other W185 ne_b183_a1
  have K := K.wr W185 (Or.inl (mg 0 rfl))
  refine Own.goto_ 97 d29_38 (by decide) rfl ?_
  refine Own.ret_void rfl d29_97 (by decide) (by decide) (fun Sf hSf => ?_)
  exact ⟨rfl, K, b183, k183, sz_b183, F_value_a1, F_coder_a1, V183⟩
def Q_rmIS5 (Z : State) (a1 : Addr) (x0 : Value) (x1 : Value) (x2 : Value) (x3 : Value) (x4 : Value) (h0 : Heap) (n0 : Nat) (v : Option Value) (h : Heap) (Sf : Addr → Prop) : Prop := v = none ∧ Keep h0 h [a1] ∧ ∃ (b : Addr) (kb : ClassId), h0.size ≤ b ∧ FSv Z h a1 (.ref b) ∧ FSc Z h a1 Z0 ∧ Arl Z h b kb .byte [x0, x1, x2, x3, x4]
theorem ef_rmIS5 (m : MethodId) (a1 : Addr) (a2 : Addr)  : entryFrame m #[(.ref a1), (.ref a2)] 2 = mkF m 0 #[.val (.ref a1), .val (.ref a2)] [] := by simp [entryFrame, mkF, argsToLocals, Value.category]
theorem rmIS5 (l : Launch) (Z : State) (a0 : Array Value) (hw : HW a0 Z) (ws : List Jvm.Cond) (a1 : Addr) (a2 : Addr) (b : Addr) (kb : ClassId) (zc : Int32) (x0 : Value) (x1 : Value) (x2 : Value) (x3 : Value) (x4 : Value) (h0 : Heap) (n0 : Nat) (hn : n0 ≤ h0.size) (X_a1 : XSt Z h0 a1) (g_a1 : n0 ≤ a1) (F_value_a1 : FSv Z h0 a1 .null) (F_coder_a1 : FSc Z h0 a1 Z0) (X_a2 : Exa Z h0 a2 "java/lang/StringBuilder") (F_value_a2 : FAv Z h0 a2 (.ref b)) (F_coder_a2 : FAc Z h0 a2 Z0) (F_count_a2 : FAn Z h0 a2 (.int (5 : Int32))) (V_b : Arl Z h0 b kb .byte [x0, x1, x2, x3, x4, Z0, Z0, Z0, Z0, Z0, Z0, Z0, Z0, Z0, Z0, Z0]) (S_C : Sta Z h0 "java/lang/String" "COMPACT_STRINGS" "Z" (.int zc)) (hz : ¬ zc = 0) (ne_a2_a1 : a2 ≠ a1) (ne_b_a1 : b ≠ a1) :
    Met own_EL l Z (⟨"java/lang/String", "<init>", "(Ljava/lang/StringBuilder;)V"⟩ : MethodName) jdk_42_method_53_code 2 none ({ frames := 4, cells := 1, slots := 5, locals := 98 } : Room) ws #[(.ref a1), (.ref a2)] h0 n0 [a1] (Q_rmIS5 Z a1 x0 x1 x2 x3 x4 h0 n0) := by
  refine Met.of pn_28 (fun m => ef_rmIS5 m a1 a2) ?_
  have K := Keep.refl h0 [a1]
  refine Own.aloadN d28_0 rfl rfl ?_
  refine Own.aloadN d28_1 rfl rfl ?_
  refine Own.aconstNull d28_2 ?_
  refine Own.callI_ a1 [(.ref a2), .null] [] 0 (rmIA5 l Z a0 hw [] a1 a2 b kb zc x0 x1 x2 x3 x4 h0 n0 hn X_a1 g_a1 F_value_a1 F_coder_a1 X_a2 F_value_a2 F_coder_a2 F_count_a2 V_b S_C hz ne_a2_a1 ne_b_a1) (allS (mg 0 rfl) all0) (hw _ (mg 151 rfl)) (hw _ (mg 152 rfl)) (hw _ (mg 7 rfl)) (hw _ (mg 153 rfl)) rfl (by decide) d28_3 pd_14 rfl rfl rfl rfl (by decide) (by decide) (by decide) (by decide) (fun v186 h186 S186 hq186 => ?_)
  obtain ⟨rfl, K4, rest4⟩ := hq186
  have K := K.trans K4 (allS (Or.inl (mg 0 rfl)) all0)
  refine ⟨[], all0, ?_⟩
  refine OAt.cast (st' := []) rfl ?_
  refine Own.ret_void rfl d28_6 (by decide) (by decide) (fun Sf hSf => ?_)
  exact ⟨rfl, K, rest4⟩
def Q_rmTS5 (Z : State) (x0 : Value) (x1 : Value) (x2 : Value) (x3 : Value) (x4 : Value) (h0 : Heap) (n0 : Nat) (v : Option Value) (h : Heap) (Sf : Addr → Prop) : Prop := Keep h0 h [] ∧ ∃ (a b : Addr) (kb : ClassId), v = some (.ref a) ∧ XSt Z h a ∧ FSv Z h a (.ref b) ∧ FSc Z h a Z0 ∧ Arl Z h b kb .byte [x0, x1, x2, x3, x4]
theorem ef_rmTS5 (m : MethodId) (a1 : Addr)  : entryFrame m #[(.ref a1)] 1 = mkF m 0 #[.val (.ref a1)] [] := by simp [entryFrame, mkF, argsToLocals, Value.category]
theorem rmTS5 (l : Launch) (Z : State) (a0 : Array Value) (hw : HW a0 Z) (ws : List Jvm.Cond) (a1 : Addr) (b : Addr) (kb : ClassId) (zc : Int32) (x0 : Value) (x1 : Value) (x2 : Value) (x3 : Value) (x4 : Value) (h0 : Heap) (n0 : Nat) (hn : n0 ≤ h0.size) (X_a1 : Exa Z h0 a1 "java/lang/StringBuilder") (F_value_a1 : FAv Z h0 a1 (.ref b)) (F_coder_a1 : FAc Z h0 a1 Z0) (F_count_a1 : FAn Z h0 a1 (.int (5 : Int32))) (V_b : Arl Z h0 b kb .byte [x0, x1, x2, x3, x4, Z0, Z0, Z0, Z0, Z0, Z0, Z0, Z0, Z0, Z0, Z0]) (S_C : Sta Z h0 "java/lang/String" "COMPACT_STRINGS" "Z" (.int zc)) (hz : ¬ zc = 0) :
    Met own_EL l Z (⟨"java/lang/StringBuilder", "toString", "()Ljava/lang/String;"⟩ : MethodName) jdk_67_method_42_code 1 (some (.object "java/lang/String")) ({ frames := 5, cells := 2, slots := 9, locals := 112 } : Room) ws #[(.ref a1)] h0 n0 [] (Q_rmTS5 Z x0 x1 x2 x3 x4 h0 n0) := by
  refine Met.of pn_27 (fun m => ef_rmTS5 m a1) ?_
  have K := Keep.refl h0 []
  refine Own.new_ (hw _ (mg 147 rfl)) (hw _ (mg 6 rfl)) (hw _ (mg 7 rfl)) d27_0 (by decide) (by decide) (fun h187 b187 gb187 E187 X187 D187 => ?_)
  have g_b187 : n0 ≤ b187 := by rw [gb187]; exact hn
  have ne_a1_b187 : a1 ≠ b187 := fun q => Nat.ne_of_lt X_a1.lt (q.trans gb187)
  have ne_b_b187 : b ≠ b187 := fun q => Nat.ne_of_lt V_b.lt (q.trans gb187)
  have hn := Nat.le_trans hn E187.1
  replace X_a1 := X_a1.ext E187
  replace F_value_a1 := F_value_a1.ext E187
  replace F_coder_a1 := F_coder_a1.ext E187
  replace F_count_a1 := F_count_a1.ext E187
  replace V_b := V_b.ext E187
  replace S_C := S_C.ext E187
  have X_b187 := X187
  have F_coder_b187 : FSc Z h187 b187 Z0 := D187 (Or.inr (hw _ (mg 32 rfl))) (ty := .byte) (by decide)
  have F_value_b187 : FSv Z h187 b187 .null := D187 (Or.inr (hw _ (mg 34 rfl))) (ty := (.array .byte)) (by decide)
  have sz_b187 : h0.size ≤ b187 := by rw [gb187]; exact K.1
  have K := K.ext E187
  refine Own.dup d27_3 rfl ?_
  refine Own.aloadN d27_4 rfl rfl ?_
  refine Own.callI_ b187 [(.ref a1)] [(.ref b187)] 1 (rmIS5 l Z a0 hw [] b187 a1 b kb zc x0 x1 x2 x3 x4 h187 n0 hn X_b187 g_b187 F_value_b187 F_coder_b187 X_a1 F_value_a1 F_coder_a1 F_count_a1 V_b S_C hz ne_a1_b187 ne_b_b187) (allS (mg 0 rfl) all0) (hw _ (mg 148 rfl)) (hw _ (mg 149 rfl)) (hw _ (mg 7 rfl)) (hw _ (mg 150 rfl)) rfl (by decide) d27_5 pd_21 rfl rfl rfl rfl (by decide) (by decide) (by decide) (by decide) (fun v188 h188 S188 hq188 => ?_)
  obtain ⟨rfl, K189, b189, k189, z189, Fv189, Fc189, V189⟩ := hq188
  replace X_b187 := X_b187.keep K189
  have F_value_b187 := Fv189
  have F_coder_b187 := Fc189
  have K := K.trans K189 (allS (Or.inr sz_b187) all0)
  refine ⟨[], all0, ?_⟩
  refine OAt.cast (st' := [(.ref b187)]) rfl ?_
  refine Own.ret_ref (t := (.object "java/lang/String")) rfl rfl rfl d27_8 (by decide) (by decide) (fun Sf hSf => ?_)
  exact ⟨K, b187, b189, k189, rfl, X_b187, F_value_b187, F_coder_b187, V189⟩
theorem d8_0 : decode prog_1_method_7_code 0 = .ok (.aload_n 1, 1) := by decide +kernel
theorem d8_1 : decode prog_1_method_7_code 1 = .ok (.invokevirtual 85, 3) := by decide +kernel
theorem d8_4 : decode prog_1_method_7_code 4 = .ok (.ifCond .eq 7, 3) := by decide +kernel
theorem d8_7 : decode prog_1_method_7_code 7 = .ok (.aload_n 0, 1) := by decide +kernel
theorem d8_8 : decode prog_1_method_7_code 8 = .ok (.goto 26, 3) := by decide +kernel
theorem d8_34 : decode prog_1_method_7_code 34 = .ok (.areturn, 1) := by decide +kernel
def Q_rmSL0_0 (Z : State)  (h0 : Heap) (n0 : Nat) (v : Option Value) (h : Heap) (Sf : Addr → Prop) : Prop := Keep h0 h [] ∧ ∃ (a b : Addr) (kb : ClassId), v = some (.ref a) ∧ XSt Z h a ∧ FSv Z h a (.ref b) ∧ FSc Z h a Z0 ∧ Arl Z h b kb .byte []
theorem ef_rmSL0_0 (m : MethodId) (a1 : Addr) (a2 : Addr)  : entryFrame m #[(.ref a1), (.ref a2)] 2 = mkF m 0 #[.val (.ref a1), .val (.ref a2)] [] := by simp [entryFrame, mkF, argsToLocals, Value.category]
theorem pn_8 : plainFor (⟨"com/example/hits_by_heading/hitsbyheading/document/Document", "sectionLocation", "(Ljava/lang/String;Ljava/lang/String;)Ljava/lang/String;"⟩ : MethodName) = true := plainFor_of_name (show plainName "com/example/hits_by_heading/hitsbyheading/document/Document" = true by first | (simp [plainName, overriddenIn]; done) | decide +kernel)
theorem rmSL0_0 (l : Launch) (Z : State) (a0 : Array Value) (hw : HW a0 Z) (ws : List Jvm.Cond) (a1 : Addr) (t1 : Addr) (k1 : ClassId) (a2 : Addr) (t2 : Addr) (k2 : ClassId) (zc : Int32) (h0 : Heap) (n0 : Nat) (hn : n0 ≤ h0.size) (X_a1 : XSt Z h0 a1) (F_value_a1 : FSv Z h0 a1 (.ref t1)) (F_coder_a1 : FSc Z h0 a1 Z0) (V_t1 : Arl Z h0 t1 k1 .byte []) (X_a2 : XSt Z h0 a2) (F_value_a2 : FSv Z h0 a2 (.ref t2)) (F_coder_a2 : FSc Z h0 a2 Z0) (V_t2 : Arl Z h0 t2 k2 .byte []) (S_C : Sta Z h0 "java/lang/String" "COMPACT_STRINGS" "Z" (.int zc)) (hz : ¬ zc = 0) :
    Met own_EL l Z (⟨"com/example/hits_by_heading/hitsbyheading/document/Document", "sectionLocation", "(Ljava/lang/String;Ljava/lang/String;)Ljava/lang/String;"⟩ : MethodName) prog_1_method_7_code 2 (some (.object "java/lang/String")) ({ frames := 1, cells := 12, slots := 80, locals := 12 } : Room) ws #[(.ref a1), (.ref a2)] h0 n0 [] (Q_rmSL0_0 Z  h0 n0) := by
  refine Met.of pn_8 (fun m => ef_rmSL0_0 m a1 a2) ?_
  have K := Keep.refl h0 []
  refine Own.aloadN d8_0 rfl rfl ?_
  refine Own.callVP a2 [] [] 0 (rm_empty_0 l Z a0 hw [] a2 t2 k2 _ zc h0 n0 hn X_a2 F_value_a2 F_coder_a2 V_t2 rfl S_C hz) (hw _ (mg 42 rfl)) (hw _ (mg 43 rfl)) (fun s hZ => notFace_of_selects (args := #[]) (mvT hZ (hw _ (mg 45 rfl)))) (hw _ (mg 45 rfl)) (hw _ (mg 44 rfl)) (hw _ (mg 7 rfl)) (hw _ (mg 46 rfl)) (by decide) X_a2 d8_1 pd_4 rfl rfl rfl rfl (by decide) (by decide) (by decide) (by decide) ?_
  refine Own.if_eq 11 d8_4 (by decide) rfl (fun q => absurd q (by decide)) (fun _ => ?_)
  refine Own.aloadN d8_7 rfl rfl ?_
  refine Own.goto_ 34 d8_8 (by decide) rfl ?_
  refine Own.ret_ref (t := (.object "java/lang/String")) rfl rfl rfl d8_34 (by decide) (by decide) (fun Sf hSf => ?_)
  exact ⟨K, a1, t1, k1, rfl, X_a1, F_value_a1, F_coder_a1, V_t1⟩
theorem d8_11 : decode prog_1_method_7_code 11 = .ok (.new 51, 3) := by decide +kernel
theorem d8_14 : decode prog_1_method_7_code 14 = .ok (.dup, 1) := by decide +kernel
theorem d8_15 : decode prog_1_method_7_code 15 = .ok (.invokespecial 53, 3) := by decide +kernel
theorem pd_3 : parseMethodDescriptor "()V" = some ⟨[], none⟩ := by decide +kernel
theorem d8_18 : decode prog_1_method_7_code 18 = .ok (.aload_n 0, 1) := by decide +kernel
theorem d8_19 : decode prog_1_method_7_code 19 = .ok (.invokevirtual 56, 3) := by decide +kernel
theorem pd_17 : parseMethodDescriptor "(Ljava/lang/String;)Ljava/lang/StringBuilder;" = some ⟨[(.object "java/lang/String")], some (.object "java/lang/StringBuilder")⟩ := by decide +kernel
theorem d8_22 : decode prog_1_method_7_code 22 = .ok (.ldc 89, 2) := by decide +kernel
theorem d8_24 : decode prog_1_method_7_code 24 = .ok (.invokevirtual 56, 3) := by decide +kernel
theorem d8_27 : decode prog_1_method_7_code 27 = .ok (.aload_n 1, 1) := by decide +kernel
theorem d8_28 : decode prog_1_method_7_code 28 = .ok (.invokevirtual 56, 3) := by decide +kernel
theorem d8_31 : decode prog_1_method_7_code 31 = .ok (.invokevirtual 65, 3) := by decide +kernel
theorem pd_2 : parseMethodDescriptor "()Ljava/lang/String;" = some ⟨[], some (.object "java/lang/String")⟩ := by decide +kernel
def Q_rmSL0_1 (Z : State) (y0 : Value) (h0 : Heap) (n0 : Nat) (v : Option Value) (h : Heap) (Sf : Addr → Prop) : Prop := Keep h0 h [] ∧ ∃ (a b : Addr) (kb : ClassId), v = some (.ref a) ∧ XSt Z h a ∧ FSv Z h a (.ref b) ∧ FSc Z h a Z0 ∧ Arl Z h b kb .byte [(.int (35 : Int32)), y0]
theorem ef_rmSL0_1 (m : MethodId) (a1 : Addr) (a2 : Addr)  : entryFrame m #[(.ref a1), (.ref a2)] 2 = mkF m 0 #[.val (.ref a1), .val (.ref a2)] [] := by simp [entryFrame, mkF, argsToLocals, Value.category]
theorem rmSL0_1 (l : Launch) (Z : State) (a0 : Array Value) (hw : HW a0 Z) (ws : List Jvm.Cond) (a1 : Addr) (t1 : Addr) (k1 : ClassId) (a2 : Addr) (t2 : Addr) (k2 : ClassId) (zc : Int32) (y0 : Value) (h0 : Heap) (n0 : Nat) (hn : n0 ≤ h0.size) (X_a1 : XSt Z h0 a1) (F_value_a1 : FSv Z h0 a1 (.ref t1)) (F_coder_a1 : FSc Z h0 a1 Z0) (V_t1 : Arl Z h0 t1 k1 .byte []) (X_a2 : XSt Z h0 a2) (F_value_a2 : FSv Z h0 a2 (.ref t2)) (F_coder_a2 : FSc Z h0 a2 Z0) (V_t2 : Arl Z h0 t2 k2 .byte [y0]) (S_C : Sta Z h0 "java/lang/String" "COMPACT_STRINGS" "Z" (.int zc)) (hz : ¬ zc = 0) :
    Met own_EL l Z (⟨"com/example/hits_by_heading/hitsbyheading/document/Document", "sectionLocation", "(Ljava/lang/String;Ljava/lang/String;)Ljava/lang/String;"⟩ : MethodName) prog_1_method_7_code 2 (some (.object "java/lang/String")) ({ frames := 6, cells := 12, slots := 80, locals := 124 } : Room) ws #[(.ref a1), (.ref a2)] h0 n0 [] (Q_rmSL0_1 Z y0 h0 n0) := by
  refine Met.of pn_8 (fun m => ef_rmSL0_1 m a1 a2) ?_
  have K := Keep.refl h0 []
  refine Own.aloadN d8_0 rfl rfl ?_
  refine Own.callVP a2 [] [] 0 (rm_empty_1 l Z a0 hw [] a2 t2 k2 _ zc h0 n0 hn X_a2 F_value_a2 F_coder_a2 V_t2 rfl S_C hz) (hw _ (mg 42 rfl)) (hw _ (mg 43 rfl)) (fun s hZ => notFace_of_selects (args := #[]) (mvT hZ (hw _ (mg 45 rfl)))) (hw _ (mg 45 rfl)) (hw _ (mg 44 rfl)) (hw _ (mg 7 rfl)) (hw _ (mg 46 rfl)) (by decide) X_a2 d8_1 pd_4 rfl rfl rfl rfl (by decide) (by decide) (by decide) (by decide) ?_
  refine Own.if_eq 11 d8_4 (by decide) rfl (fun _ => ?_) (fun q => absurd (by decide) q)
  refine Own.new_ (hw _ (mg 85 rfl)) (hw _ (mg 86 rfl)) (hw _ (mg 87 rfl)) d8_11 (by decide) (by decide) (fun h190 b190 gb190 E190 X190 D190 => ?_)
  have g_b190 : n0 ≤ b190 := by rw [gb190]; exact hn
  have ne_a1_b190 : a1 ≠ b190 := fun q => Nat.ne_of_lt X_a1.lt (q.trans gb190)
  have ne_t1_b190 : t1 ≠ b190 := fun q => Nat.ne_of_lt V_t1.lt (q.trans gb190)
  have ne_a2_b190 : a2 ≠ b190 := fun q => Nat.ne_of_lt X_a2.lt (q.trans gb190)
  have ne_t2_b190 : t2 ≠ b190 := fun q => Nat.ne_of_lt V_t2.lt (q.trans gb190)
  have hn := Nat.le_trans hn E190.1
  replace X_a1 := X_a1.ext E190
  replace F_value_a1 := F_value_a1.ext E190
  replace F_coder_a1 := F_coder_a1.ext E190
  replace V_t1 := V_t1.ext E190
  replace X_a2 := X_a2.ext E190
  replace F_value_a2 := F_value_a2.ext E190
  replace F_coder_a2 := F_coder_a2.ext E190
  replace V_t2 := V_t2.ext E190
  replace S_C := S_C.ext E190
  have X_b190 := X190
  have F_value_b190 : FAv Z h190 b190 .null := D190 (Or.inl (hw _ (mg 100 rfl))) (ty := (.array .byte)) (by decide)
  have F_coder_b190 : FAc Z h190 b190 Z0 := D190 (Or.inl (hw _ (mg 102 rfl))) (ty := .byte) (by decide)
  have F_count_b190 : FAn Z h190 b190 Z0 := D190 (Or.inl (hw _ (mg 115 rfl))) (ty := .int) (by decide)
  have sz_b190 : h0.size ≤ b190 := by rw [gb190]; exact K.1
  have K := K.ext E190
  refine Own.dup d8_14 rfl ?_
  refine Own.callI_ b190 [] [(.ref b190)] 1 (rmSBI l Z a0 hw [] b190 zc h190 n0 hn X_b190 g_b190 F_value_b190 F_coder_b190 F_count_b190 S_C hz) (allS (mg 0 rfl) all0) (hw _ (mg 88 rfl)) (hw _ (mg 89 rfl)) (hw _ (mg 87 rfl)) (hw _ (mg 90 rfl)) rfl (by decide) d8_15 pd_3 rfl rfl rfl rfl (by decide) (by decide) (by decide) (by decide) (fun v191 h191 S191 hq191 => ?_)
  obtain ⟨rfl, K192, u192, ku192, z192, G1, G2, G3, V192, Y192⟩ := hq191
  have g_u192 : n0 ≤ u192 := Nat.le_trans hn z192
  have ne_a1_u192 : a1 ≠ u192 := Nat.ne_of_lt (Nat.lt_of_lt_of_le X_a1.lt z192)
  have ne_t1_u192 : t1 ≠ u192 := Nat.ne_of_lt (Nat.lt_of_lt_of_le V_t1.lt z192)
  have ne_a2_u192 : a2 ≠ u192 := Nat.ne_of_lt (Nat.lt_of_lt_of_le X_a2.lt z192)
  have ne_t2_u192 : t2 ≠ u192 := Nat.ne_of_lt (Nat.lt_of_lt_of_le V_t2.lt z192)
  have ne_b190_u192 : b190 ≠ u192 := Nat.ne_of_lt (Nat.lt_of_lt_of_le X_b190.lt z192)
  have sz_u192 : h0.size ≤ u192 := Nat.le_trans K.1 z192
  have hn := Nat.le_trans hn K192.1
  replace S_C := sta_keep S_C K192 (nsS X_b190.nostat ns0)
  replace X_a1 := X_a1.keep K192
  replace F_value_a1 := F_value_a1.keep K192 (ninS ne_a1_b190 nin0)
  replace F_coder_a1 := F_coder_a1.keep K192 (ninS ne_a1_b190 nin0)
  replace V_t1 := V_t1.keep K192 (ninS ne_t1_b190 nin0)
  replace X_a2 := X_a2.keep K192
  replace F_value_a2 := F_value_a2.keep K192 (ninS ne_a2_b190 nin0)
  replace F_coder_a2 := F_coder_a2.keep K192 (ninS ne_a2_b190 nin0)
  replace V_t2 := V_t2.keep K192 (ninS ne_t2_b190 nin0)
  replace X_b190 := X_b190.keep K192
  have K := K.trans K192 (allS (Or.inr sz_b190) all0)
  have F_value_b190 := G1
  have F_coder_b190 := G2
  have F_count_b190 := G3
  refine ⟨[u192], (allS Y192 all0), ?_⟩
  refine OAt.cast (st' := [(.ref b190)]) rfl ?_
  refine Own.aloadN d8_18 rfl rfl ?_
  refine Own.callV_ b190 [(.ref a1)] [] 0 (rmSA0_0 l Z a0 hw [] b190 a1 t1 k1 u192 ku192 zc  h191 n0 hn X_a1 F_value_a1 F_coder_a1 V_t1 X_b190 F_value_b190 F_coder_b190 F_count_b190 V192 S_C hz g_b190 g_u192 ne_b190_u192 ne_a1_u192 ne_t1_u192 ne_a1_b190 ne_t1_b190) (allS (mg 1 rfl) (allS (mg 0 rfl) all0)) (hw _ (mg 103 rfl)) (hw _ (mg 104 rfl)) (fun s hZ => notFace_of_selects (args := #[]) (mvT hZ (hw _ (mg 106 rfl)))) (hw _ (mg 106 rfl)) (hw _ (mg 105 rfl)) (hw _ (mg 87 rfl)) (hw _ (mg 107 rfl)) (by decide) X_b190 d8_19 pd_17 rfl rfl rfl rfl (by decide) (by decide) (by decide) (by decide) (fun v193 h193 S193 hq193 => ?_)
  obtain ⟨rfl, K194, G1, G2, G3, V194⟩ := hq193
  have hn := Nat.le_trans hn K194.1
  replace S_C := sta_keep S_C K194 (nsS X_b190.nostat (nsS V192.nostat ns0))
  replace X_a2 := X_a2.keep K194
  replace F_value_a2 := F_value_a2.keep K194 (ninS ne_a2_b190 (ninS ne_a2_u192 nin0))
  replace F_coder_a2 := F_coder_a2.keep K194 (ninS ne_a2_b190 (ninS ne_a2_u192 nin0))
  replace V_t2 := V_t2.keep K194 (ninS ne_t2_b190 (ninS ne_t2_u192 nin0))
  replace X_b190 := X_b190.keep K194
  have K := K.trans K194 (allS (Or.inr sz_b190) (allS (Or.inr sz_u192) all0))
  have F_value_b190 := G1
  have F_coder_b190 := G2
  have F_count_b190 := G3
  refine ⟨[], all0, ?_⟩
  refine OAt.cast (st' := [(.ref b190)]) rfl ?_
  refine Own.ldcC_ (vs := [(.int (35 : Int32))]) (z := (1 : Int32)) 4 (hw _ (mg 141 rfl)) (own_wS hw) (mg 0 rfl) (own_EW hw) ⟨by decide, by decide⟩ rfl d8_22 (by decide) (by decide) (by decide) (by decide) (fun h195 b195 t195 kt195 E195 X_b195 F_coder_b195 F_value_b195 V_t195 hne195 => ?_)
  have hn := Nat.le_trans hn E195.1
  replace X_a2 := X_a2.ext E195
  replace F_value_a2 := F_value_a2.ext E195
  replace F_coder_a2 := F_coder_a2.ext E195
  replace V_t2 := V_t2.ext E195
  replace S_C := S_C.ext E195
  replace X_b190 := X_b190.ext E195
  replace F_value_b190 := F_value_b190.ext E195
  replace F_coder_b190 := F_coder_b190.ext E195
  replace F_count_b190 := F_count_b190.ext E195
  replace V194 := V194.ext E195
  have ne_u192_b195 := (hne195 u192 (mg 0 rfl)).1
  have ne_u192_t195 := (hne195 u192 (mg 0 rfl)).2
  have ne_b195_u192 := Ne.symm ne_u192_b195
  have ne_t195_u192 := Ne.symm ne_u192_t195
  have ne_b190_b195 := (hne195 b190 (mg 1 rfl)).1
  have ne_b190_t195 := (hne195 b190 (mg 1 rfl)).2
  have ne_b195_b190 := Ne.symm ne_b190_b195
  have ne_t195_b190 := Ne.symm ne_b190_t195
  have K := K.ext E195
  refine Own.callV_ b190 [(.ref b195)] [] 0 (rmSA0_1 l Z a0 hw [] b190 b195 t195 kt195 u192 ku192 zc (.int (35 : Int32)) h195 n0 hn X_b195 F_value_b195 F_coder_b195 V_t195 X_b190 F_value_b190 F_coder_b190 F_count_b190 V194 S_C hz g_b190 g_u192 ne_b190_u192 ne_b195_u192 ne_t195_u192 ne_b195_b190 ne_t195_b190) (allS (mg 1 rfl) (allS (mg 0 rfl) all0)) (hw _ (mg 103 rfl)) (hw _ (mg 104 rfl)) (fun s hZ => notFace_of_selects (args := #[]) (mvT hZ (hw _ (mg 106 rfl)))) (hw _ (mg 106 rfl)) (hw _ (mg 105 rfl)) (hw _ (mg 87 rfl)) (hw _ (mg 107 rfl)) (by decide) X_b190 d8_24 pd_17 rfl rfl rfl rfl (by decide) (by decide) (by decide) (by decide) (fun v196 h196 S196 hq196 => ?_)
  obtain ⟨rfl, K197, G1, G2, G3, V197⟩ := hq196
  have hn := Nat.le_trans hn K197.1
  replace S_C := sta_keep S_C K197 (nsS X_b190.nostat (nsS V194.nostat ns0))
  replace X_a2 := X_a2.keep K197
  replace F_value_a2 := F_value_a2.keep K197 (ninS ne_a2_b190 (ninS ne_a2_u192 nin0))
  replace F_coder_a2 := F_coder_a2.keep K197 (ninS ne_a2_b190 (ninS ne_a2_u192 nin0))
  replace V_t2 := V_t2.keep K197 (ninS ne_t2_b190 (ninS ne_t2_u192 nin0))
  replace X_b190 := X_b190.keep K197
  have K := K.trans K197 (allS (Or.inr sz_b190) (allS (Or.inr sz_u192) all0))
  have F_value_b190 := G1
  have F_coder_b190 := G2
  have F_count_b190 := G3
  refine ⟨[], all0, ?_⟩
  refine OAt.cast (st' := [(.ref b190)]) rfl ?_
  refine Own.aloadN d8_27 rfl rfl ?_
  refine Own.callV_ b190 [(.ref a2)] [] 0 (rmSA1_1 l Z a0 hw [] b190 a2 t2 k2 u192 ku192 zc (.int (35 : Int32)) y0 h196 n0 hn X_a2 F_value_a2 F_coder_a2 V_t2 X_b190 F_value_b190 F_coder_b190 F_count_b190 V197 S_C hz g_b190 g_u192 ne_b190_u192 ne_a2_u192 ne_t2_u192 ne_a2_b190 ne_t2_b190) (allS (mg 1 rfl) (allS (mg 0 rfl) all0)) (hw _ (mg 103 rfl)) (hw _ (mg 104 rfl)) (fun s hZ => notFace_of_selects (args := #[]) (mvT hZ (hw _ (mg 106 rfl)))) (hw _ (mg 106 rfl)) (hw _ (mg 105 rfl)) (hw _ (mg 87 rfl)) (hw _ (mg 107 rfl)) (by decide) X_b190 d8_28 pd_17 rfl rfl rfl rfl (by decide) (by decide) (by decide) (by decide) (fun v198 h198 S198 hq198 => ?_)
  obtain ⟨rfl, K199, G1, G2, G3, V199⟩ := hq198
  have hn := Nat.le_trans hn K199.1
  replace S_C := sta_keep S_C K199 (nsS X_b190.nostat (nsS V197.nostat ns0))
  replace X_b190 := X_b190.keep K199
  have K := K.trans K199 (allS (Or.inr sz_b190) (allS (Or.inr sz_u192) all0))
  have F_value_b190 := G1
  have F_coder_b190 := G2
  have F_count_b190 := G3
  refine ⟨[], all0, ?_⟩
  refine OAt.cast (st' := [(.ref b190)]) rfl ?_
  refine Own.callV_ b190 [] [] 0 (rmTS2 l Z a0 hw [] b190 u192 ku192 zc (.int (35 : Int32)) y0 h198 n0 hn X_b190 F_value_b190 F_coder_b190 F_count_b190 V199 S_C hz) all0 (hw _ (mg 142 rfl)) (hw _ (mg 143 rfl)) (fun s hZ => notFace_of_selects (args := #[]) (mvT hZ (hw _ (mg 145 rfl)))) (hw _ (mg 145 rfl)) (hw _ (mg 144 rfl)) (hw _ (mg 87 rfl)) (hw _ (mg 146 rfl)) (by decide) X_b190 d8_31 pd_2 rfl rfl rfl rfl (by decide) (by decide) (by decide) (by decide) (fun v200 h200 S200 hq200 => ?_)
  obtain ⟨K201, s201, t201, kt201, rfl, X_s201, F_value_s201, F_coder_s201, V_t201⟩ := hq200
  have K := K.trans K201 all0
  refine ⟨[], all0, ?_⟩
  refine OAt.cast (st' := [(.ref s201)]) rfl ?_
  refine Own.ret_ref (t := (.object "java/lang/String")) rfl rfl rfl d8_34 (by decide) (by decide) (fun Sf hSf => ?_)
  exact ⟨K, s201, t201, kt201, rfl, X_s201, F_value_s201, F_coder_s201, V_t201⟩
def Q_rmSL0_2 (Z : State) (y0 : Value) (y1 : Value) (h0 : Heap) (n0 : Nat) (v : Option Value) (h : Heap) (Sf : Addr → Prop) : Prop := Keep h0 h [] ∧ ∃ (a b : Addr) (kb : ClassId), v = some (.ref a) ∧ XSt Z h a ∧ FSv Z h a (.ref b) ∧ FSc Z h a Z0 ∧ Arl Z h b kb .byte [(.int (35 : Int32)), y0, y1]
theorem ef_rmSL0_2 (m : MethodId) (a1 : Addr) (a2 : Addr)  : entryFrame m #[(.ref a1), (.ref a2)] 2 = mkF m 0 #[.val (.ref a1), .val (.ref a2)] [] := by simp [entryFrame, mkF, argsToLocals, Value.category]
theorem rmSL0_2 (l : Launch) (Z : State) (a0 : Array Value) (hw : HW a0 Z) (ws : List Jvm.Cond) (a1 : Addr) (t1 : Addr) (k1 : ClassId) (a2 : Addr) (t2 : Addr) (k2 : ClassId) (zc : Int32) (y0 : Value) (y1 : Value) (h0 : Heap) (n0 : Nat) (hn : n0 ≤ h0.size) (X_a1 : XSt Z h0 a1) (F_value_a1 : FSv Z h0 a1 (.ref t1)) (F_coder_a1 : FSc Z h0 a1 Z0) (V_t1 : Arl Z h0 t1 k1 .byte []) (X_a2 : XSt Z h0 a2) (F_value_a2 : FSv Z h0 a2 (.ref t2)) (F_coder_a2 : FSc Z h0 a2 Z0) (V_t2 : Arl Z h0 t2 k2 .byte [y0, y1]) (S_C : Sta Z h0 "java/lang/String" "COMPACT_STRINGS" "Z" (.int zc)) (hz : ¬ zc = 0) :
    Met own_EL l Z (⟨"com/example/hits_by_heading/hitsbyheading/document/Document", "sectionLocation", "(Ljava/lang/String;Ljava/lang/String;)Ljava/lang/String;"⟩ : MethodName) prog_1_method_7_code 2 (some (.object "java/lang/String")) ({ frames := 6, cells := 12, slots := 80, locals := 124 } : Room) ws #[(.ref a1), (.ref a2)] h0 n0 [] (Q_rmSL0_2 Z y0 y1 h0 n0) := by
  refine Met.of pn_8 (fun m => ef_rmSL0_2 m a1 a2) ?_
  have K := Keep.refl h0 []
  refine Own.aloadN d8_0 rfl rfl ?_
  refine Own.callVP a2 [] [] 0 (rm_empty_2 l Z a0 hw [] a2 t2 k2 _ zc h0 n0 hn X_a2 F_value_a2 F_coder_a2 V_t2 rfl S_C hz) (hw _ (mg 42 rfl)) (hw _ (mg 43 rfl)) (fun s hZ => notFace_of_selects (args := #[]) (mvT hZ (hw _ (mg 45 rfl)))) (hw _ (mg 45 rfl)) (hw _ (mg 44 rfl)) (hw _ (mg 7 rfl)) (hw _ (mg 46 rfl)) (by decide) X_a2 d8_1 pd_4 rfl rfl rfl rfl (by decide) (by decide) (by decide) (by decide) ?_
  refine Own.if_eq 11 d8_4 (by decide) rfl (fun _ => ?_) (fun q => absurd (by decide) q)
  refine Own.new_ (hw _ (mg 85 rfl)) (hw _ (mg 86 rfl)) (hw _ (mg 87 rfl)) d8_11 (by decide) (by decide) (fun h202 b202 gb202 E202 X202 D202 => ?_)
  have g_b202 : n0 ≤ b202 := by rw [gb202]; exact hn
  have ne_a1_b202 : a1 ≠ b202 := fun q => Nat.ne_of_lt X_a1.lt (q.trans gb202)
  have ne_t1_b202 : t1 ≠ b202 := fun q => Nat.ne_of_lt V_t1.lt (q.trans gb202)
  have ne_a2_b202 : a2 ≠ b202 := fun q => Nat.ne_of_lt X_a2.lt (q.trans gb202)
  have ne_t2_b202 : t2 ≠ b202 := fun q => Nat.ne_of_lt V_t2.lt (q.trans gb202)
  have hn := Nat.le_trans hn E202.1
  replace X_a1 := X_a1.ext E202
  replace F_value_a1 := F_value_a1.ext E202
  replace F_coder_a1 := F_coder_a1.ext E202
  replace V_t1 := V_t1.ext E202
  replace X_a2 := X_a2.ext E202
  replace F_value_a2 := F_value_a2.ext E202
  replace F_coder_a2 := F_coder_a2.ext E202
  replace V_t2 := V_t2.ext E202
  replace S_C := S_C.ext E202
  have X_b202 := X202
  have F_value_b202 : FAv Z h202 b202 .null := D202 (Or.inl (hw _ (mg 100 rfl))) (ty := (.array .byte)) (by decide)
  have F_coder_b202 : FAc Z h202 b202 Z0 := D202 (Or.inl (hw _ (mg 102 rfl))) (ty := .byte) (by decide)
  have F_count_b202 : FAn Z h202 b202 Z0 := D202 (Or.inl (hw _ (mg 115 rfl))) (ty := .int) (by decide)
  have sz_b202 : h0.size ≤ b202 := by rw [gb202]; exact K.1
  have K := K.ext E202
  refine Own.dup d8_14 rfl ?_
  refine Own.callI_ b202 [] [(.ref b202)] 1 (rmSBI l Z a0 hw [] b202 zc h202 n0 hn X_b202 g_b202 F_value_b202 F_coder_b202 F_count_b202 S_C hz) (allS (mg 0 rfl) all0) (hw _ (mg 88 rfl)) (hw _ (mg 89 rfl)) (hw _ (mg 87 rfl)) (hw _ (mg 90 rfl)) rfl (by decide) d8_15 pd_3 rfl rfl rfl rfl (by decide) (by decide) (by decide) (by decide) (fun v203 h203 S203 hq203 => ?_)
  obtain ⟨rfl, K204, u204, ku204, z204, G1, G2, G3, V204, Y204⟩ := hq203
  have g_u204 : n0 ≤ u204 := Nat.le_trans hn z204
  have ne_a1_u204 : a1 ≠ u204 := Nat.ne_of_lt (Nat.lt_of_lt_of_le X_a1.lt z204)
  have ne_t1_u204 : t1 ≠ u204 := Nat.ne_of_lt (Nat.lt_of_lt_of_le V_t1.lt z204)
  have ne_a2_u204 : a2 ≠ u204 := Nat.ne_of_lt (Nat.lt_of_lt_of_le X_a2.lt z204)
  have ne_t2_u204 : t2 ≠ u204 := Nat.ne_of_lt (Nat.lt_of_lt_of_le V_t2.lt z204)
  have ne_b202_u204 : b202 ≠ u204 := Nat.ne_of_lt (Nat.lt_of_lt_of_le X_b202.lt z204)
  have sz_u204 : h0.size ≤ u204 := Nat.le_trans K.1 z204
  have hn := Nat.le_trans hn K204.1
  replace S_C := sta_keep S_C K204 (nsS X_b202.nostat ns0)
  replace X_a1 := X_a1.keep K204
  replace F_value_a1 := F_value_a1.keep K204 (ninS ne_a1_b202 nin0)
  replace F_coder_a1 := F_coder_a1.keep K204 (ninS ne_a1_b202 nin0)
  replace V_t1 := V_t1.keep K204 (ninS ne_t1_b202 nin0)
  replace X_a2 := X_a2.keep K204
  replace F_value_a2 := F_value_a2.keep K204 (ninS ne_a2_b202 nin0)
  replace F_coder_a2 := F_coder_a2.keep K204 (ninS ne_a2_b202 nin0)
  replace V_t2 := V_t2.keep K204 (ninS ne_t2_b202 nin0)
  replace X_b202 := X_b202.keep K204
  have K := K.trans K204 (allS (Or.inr sz_b202) all0)
  have F_value_b202 := G1
  have F_coder_b202 := G2
  have F_count_b202 := G3
  refine ⟨[u204], (allS Y204 all0), ?_⟩
  refine OAt.cast (st' := [(.ref b202)]) rfl ?_
  refine Own.aloadN d8_18 rfl rfl ?_
  refine Own.callV_ b202 [(.ref a1)] [] 0 (rmSA0_0 l Z a0 hw [] b202 a1 t1 k1 u204 ku204 zc  h203 n0 hn X_a1 F_value_a1 F_coder_a1 V_t1 X_b202 F_value_b202 F_coder_b202 F_count_b202 V204 S_C hz g_b202 g_u204 ne_b202_u204 ne_a1_u204 ne_t1_u204 ne_a1_b202 ne_t1_b202) (allS (mg 1 rfl) (allS (mg 0 rfl) all0)) (hw _ (mg 103 rfl)) (hw _ (mg 104 rfl)) (fun s hZ => notFace_of_selects (args := #[]) (mvT hZ (hw _ (mg 106 rfl)))) (hw _ (mg 106 rfl)) (hw _ (mg 105 rfl)) (hw _ (mg 87 rfl)) (hw _ (mg 107 rfl)) (by decide) X_b202 d8_19 pd_17 rfl rfl rfl rfl (by decide) (by decide) (by decide) (by decide) (fun v205 h205 S205 hq205 => ?_)
  obtain ⟨rfl, K206, G1, G2, G3, V206⟩ := hq205
  have hn := Nat.le_trans hn K206.1
  replace S_C := sta_keep S_C K206 (nsS X_b202.nostat (nsS V204.nostat ns0))
  replace X_a2 := X_a2.keep K206
  replace F_value_a2 := F_value_a2.keep K206 (ninS ne_a2_b202 (ninS ne_a2_u204 nin0))
  replace F_coder_a2 := F_coder_a2.keep K206 (ninS ne_a2_b202 (ninS ne_a2_u204 nin0))
  replace V_t2 := V_t2.keep K206 (ninS ne_t2_b202 (ninS ne_t2_u204 nin0))
  replace X_b202 := X_b202.keep K206
  have K := K.trans K206 (allS (Or.inr sz_b202) (allS (Or.inr sz_u204) all0))
  have F_value_b202 := G1
  have F_coder_b202 := G2
  have F_count_b202 := G3
  refine ⟨[], all0, ?_⟩
  refine OAt.cast (st' := [(.ref b202)]) rfl ?_
  refine Own.ldcC_ (vs := [(.int (35 : Int32))]) (z := (1 : Int32)) 4 (hw _ (mg 141 rfl)) (own_wS hw) (mg 0 rfl) (own_EW hw) ⟨by decide, by decide⟩ rfl d8_22 (by decide) (by decide) (by decide) (by decide) (fun h207 b207 t207 kt207 E207 X_b207 F_coder_b207 F_value_b207 V_t207 hne207 => ?_)
  have hn := Nat.le_trans hn E207.1
  replace X_a2 := X_a2.ext E207
  replace F_value_a2 := F_value_a2.ext E207
  replace F_coder_a2 := F_coder_a2.ext E207
  replace V_t2 := V_t2.ext E207
  replace S_C := S_C.ext E207
  replace X_b202 := X_b202.ext E207
  replace F_value_b202 := F_value_b202.ext E207
  replace F_coder_b202 := F_coder_b202.ext E207
  replace F_count_b202 := F_count_b202.ext E207
  replace V206 := V206.ext E207
  have ne_u204_b207 := (hne207 u204 (mg 0 rfl)).1
  have ne_u204_t207 := (hne207 u204 (mg 0 rfl)).2
  have ne_b207_u204 := Ne.symm ne_u204_b207
  have ne_t207_u204 := Ne.symm ne_u204_t207
  have ne_b202_b207 := (hne207 b202 (mg 1 rfl)).1
  have ne_b202_t207 := (hne207 b202 (mg 1 rfl)).2
  have ne_b207_b202 := Ne.symm ne_b202_b207
  have ne_t207_b202 := Ne.symm ne_b202_t207
  have K := K.ext E207
  refine Own.callV_ b202 [(.ref b207)] [] 0 (rmSA0_1 l Z a0 hw [] b202 b207 t207 kt207 u204 ku204 zc (.int (35 : Int32)) h207 n0 hn X_b207 F_value_b207 F_coder_b207 V_t207 X_b202 F_value_b202 F_coder_b202 F_count_b202 V206 S_C hz g_b202 g_u204 ne_b202_u204 ne_b207_u204 ne_t207_u204 ne_b207_b202 ne_t207_b202) (allS (mg 1 rfl) (allS (mg 0 rfl) all0)) (hw _ (mg 103 rfl)) (hw _ (mg 104 rfl)) (fun s hZ => notFace_of_selects (args := #[]) (mvT hZ (hw _ (mg 106 rfl)))) (hw _ (mg 106 rfl)) (hw _ (mg 105 rfl)) (hw _ (mg 87 rfl)) (hw _ (mg 107 rfl)) (by decide) X_b202 d8_24 pd_17 rfl rfl rfl rfl (by decide) (by decide) (by decide) (by decide) (fun v208 h208 S208 hq208 => ?_)
  obtain ⟨rfl, K209, G1, G2, G3, V209⟩ := hq208
  have hn := Nat.le_trans hn K209.1
  replace S_C := sta_keep S_C K209 (nsS X_b202.nostat (nsS V206.nostat ns0))
  replace X_a2 := X_a2.keep K209
  replace F_value_a2 := F_value_a2.keep K209 (ninS ne_a2_b202 (ninS ne_a2_u204 nin0))
  replace F_coder_a2 := F_coder_a2.keep K209 (ninS ne_a2_b202 (ninS ne_a2_u204 nin0))
  replace V_t2 := V_t2.keep K209 (ninS ne_t2_b202 (ninS ne_t2_u204 nin0))
  replace X_b202 := X_b202.keep K209
  have K := K.trans K209 (allS (Or.inr sz_b202) (allS (Or.inr sz_u204) all0))
  have F_value_b202 := G1
  have F_coder_b202 := G2
  have F_count_b202 := G3
  refine ⟨[], all0, ?_⟩
  refine OAt.cast (st' := [(.ref b202)]) rfl ?_
  refine Own.aloadN d8_27 rfl rfl ?_
  refine Own.callV_ b202 [(.ref a2)] [] 0 (rmSA1_2 l Z a0 hw [] b202 a2 t2 k2 u204 ku204 zc (.int (35 : Int32)) y0 y1 h208 n0 hn X_a2 F_value_a2 F_coder_a2 V_t2 X_b202 F_value_b202 F_coder_b202 F_count_b202 V209 S_C hz g_b202 g_u204 ne_b202_u204 ne_a2_u204 ne_t2_u204 ne_a2_b202 ne_t2_b202) (allS (mg 1 rfl) (allS (mg 0 rfl) all0)) (hw _ (mg 103 rfl)) (hw _ (mg 104 rfl)) (fun s hZ => notFace_of_selects (args := #[]) (mvT hZ (hw _ (mg 106 rfl)))) (hw _ (mg 106 rfl)) (hw _ (mg 105 rfl)) (hw _ (mg 87 rfl)) (hw _ (mg 107 rfl)) (by decide) X_b202 d8_28 pd_17 rfl rfl rfl rfl (by decide) (by decide) (by decide) (by decide) (fun v210 h210 S210 hq210 => ?_)
  obtain ⟨rfl, K211, G1, G2, G3, V211⟩ := hq210
  have hn := Nat.le_trans hn K211.1
  replace S_C := sta_keep S_C K211 (nsS X_b202.nostat (nsS V209.nostat ns0))
  replace X_b202 := X_b202.keep K211
  have K := K.trans K211 (allS (Or.inr sz_b202) (allS (Or.inr sz_u204) all0))
  have F_value_b202 := G1
  have F_coder_b202 := G2
  have F_count_b202 := G3
  refine ⟨[], all0, ?_⟩
  refine OAt.cast (st' := [(.ref b202)]) rfl ?_
  refine Own.callV_ b202 [] [] 0 (rmTS3 l Z a0 hw [] b202 u204 ku204 zc (.int (35 : Int32)) y0 y1 h210 n0 hn X_b202 F_value_b202 F_coder_b202 F_count_b202 V211 S_C hz) all0 (hw _ (mg 142 rfl)) (hw _ (mg 143 rfl)) (fun s hZ => notFace_of_selects (args := #[]) (mvT hZ (hw _ (mg 145 rfl)))) (hw _ (mg 145 rfl)) (hw _ (mg 144 rfl)) (hw _ (mg 87 rfl)) (hw _ (mg 146 rfl)) (by decide) X_b202 d8_31 pd_2 rfl rfl rfl rfl (by decide) (by decide) (by decide) (by decide) (fun v212 h212 S212 hq212 => ?_)
  obtain ⟨K213, s213, t213, kt213, rfl, X_s213, F_value_s213, F_coder_s213, V_t213⟩ := hq212
  have K := K.trans K213 all0
  refine ⟨[], all0, ?_⟩
  refine OAt.cast (st' := [(.ref s213)]) rfl ?_
  refine Own.ret_ref (t := (.object "java/lang/String")) rfl rfl rfl d8_34 (by decide) (by decide) (fun Sf hSf => ?_)
  exact ⟨K, s213, t213, kt213, rfl, X_s213, F_value_s213, F_coder_s213, V_t213⟩
def Q_rmSL1_0 (Z : State) (x0 : Value) (h0 : Heap) (n0 : Nat) (v : Option Value) (h : Heap) (Sf : Addr → Prop) : Prop := Keep h0 h [] ∧ ∃ (a b : Addr) (kb : ClassId), v = some (.ref a) ∧ XSt Z h a ∧ FSv Z h a (.ref b) ∧ FSc Z h a Z0 ∧ Arl Z h b kb .byte [x0]
theorem ef_rmSL1_0 (m : MethodId) (a1 : Addr) (a2 : Addr)  : entryFrame m #[(.ref a1), (.ref a2)] 2 = mkF m 0 #[.val (.ref a1), .val (.ref a2)] [] := by simp [entryFrame, mkF, argsToLocals, Value.category]
theorem rmSL1_0 (l : Launch) (Z : State) (a0 : Array Value) (hw : HW a0 Z) (ws : List Jvm.Cond) (a1 : Addr) (t1 : Addr) (k1 : ClassId) (a2 : Addr) (t2 : Addr) (k2 : ClassId) (zc : Int32) (x0 : Value) (h0 : Heap) (n0 : Nat) (hn : n0 ≤ h0.size) (X_a1 : XSt Z h0 a1) (F_value_a1 : FSv Z h0 a1 (.ref t1)) (F_coder_a1 : FSc Z h0 a1 Z0) (V_t1 : Arl Z h0 t1 k1 .byte [x0]) (X_a2 : XSt Z h0 a2) (F_value_a2 : FSv Z h0 a2 (.ref t2)) (F_coder_a2 : FSc Z h0 a2 Z0) (V_t2 : Arl Z h0 t2 k2 .byte []) (S_C : Sta Z h0 "java/lang/String" "COMPACT_STRINGS" "Z" (.int zc)) (hz : ¬ zc = 0) :
    Met own_EL l Z (⟨"com/example/hits_by_heading/hitsbyheading/document/Document", "sectionLocation", "(Ljava/lang/String;Ljava/lang/String;)Ljava/lang/String;"⟩ : MethodName) prog_1_method_7_code 2 (some (.object "java/lang/String")) ({ frames := 1, cells := 12, slots := 80, locals := 12 } : Room) ws #[(.ref a1), (.ref a2)] h0 n0 [] (Q_rmSL1_0 Z x0 h0 n0) := by
  refine Met.of pn_8 (fun m => ef_rmSL1_0 m a1 a2) ?_
  have K := Keep.refl h0 []
  refine Own.aloadN d8_0 rfl rfl ?_
  refine Own.callVP a2 [] [] 0 (rm_empty_0 l Z a0 hw [] a2 t2 k2 _ zc h0 n0 hn X_a2 F_value_a2 F_coder_a2 V_t2 rfl S_C hz) (hw _ (mg 42 rfl)) (hw _ (mg 43 rfl)) (fun s hZ => notFace_of_selects (args := #[]) (mvT hZ (hw _ (mg 45 rfl)))) (hw _ (mg 45 rfl)) (hw _ (mg 44 rfl)) (hw _ (mg 7 rfl)) (hw _ (mg 46 rfl)) (by decide) X_a2 d8_1 pd_4 rfl rfl rfl rfl (by decide) (by decide) (by decide) (by decide) ?_
  refine Own.if_eq 11 d8_4 (by decide) rfl (fun q => absurd q (by decide)) (fun _ => ?_)
  refine Own.aloadN d8_7 rfl rfl ?_
  refine Own.goto_ 34 d8_8 (by decide) rfl ?_
  refine Own.ret_ref (t := (.object "java/lang/String")) rfl rfl rfl d8_34 (by decide) (by decide) (fun Sf hSf => ?_)
  exact ⟨K, a1, t1, k1, rfl, X_a1, F_value_a1, F_coder_a1, V_t1⟩
def Q_rmSL1_1 (Z : State) (x0 : Value) (y0 : Value) (h0 : Heap) (n0 : Nat) (v : Option Value) (h : Heap) (Sf : Addr → Prop) : Prop := Keep h0 h [] ∧ ∃ (a b : Addr) (kb : ClassId), v = some (.ref a) ∧ XSt Z h a ∧ FSv Z h a (.ref b) ∧ FSc Z h a Z0 ∧ Arl Z h b kb .byte [x0, (.int (35 : Int32)), y0]
theorem ef_rmSL1_1 (m : MethodId) (a1 : Addr) (a2 : Addr)  : entryFrame m #[(.ref a1), (.ref a2)] 2 = mkF m 0 #[.val (.ref a1), .val (.ref a2)] [] := by simp [entryFrame, mkF, argsToLocals, Value.category]
theorem rmSL1_1 (l : Launch) (Z : State) (a0 : Array Value) (hw : HW a0 Z) (ws : List Jvm.Cond) (a1 : Addr) (t1 : Addr) (k1 : ClassId) (a2 : Addr) (t2 : Addr) (k2 : ClassId) (zc : Int32) (x0 : Value) (y0 : Value) (h0 : Heap) (n0 : Nat) (hn : n0 ≤ h0.size) (X_a1 : XSt Z h0 a1) (F_value_a1 : FSv Z h0 a1 (.ref t1)) (F_coder_a1 : FSc Z h0 a1 Z0) (V_t1 : Arl Z h0 t1 k1 .byte [x0]) (X_a2 : XSt Z h0 a2) (F_value_a2 : FSv Z h0 a2 (.ref t2)) (F_coder_a2 : FSc Z h0 a2 Z0) (V_t2 : Arl Z h0 t2 k2 .byte [y0]) (S_C : Sta Z h0 "java/lang/String" "COMPACT_STRINGS" "Z" (.int zc)) (hz : ¬ zc = 0) :
    Met own_EL l Z (⟨"com/example/hits_by_heading/hitsbyheading/document/Document", "sectionLocation", "(Ljava/lang/String;Ljava/lang/String;)Ljava/lang/String;"⟩ : MethodName) prog_1_method_7_code 2 (some (.object "java/lang/String")) ({ frames := 6, cells := 12, slots := 80, locals := 124 } : Room) ws #[(.ref a1), (.ref a2)] h0 n0 [] (Q_rmSL1_1 Z x0 y0 h0 n0) := by
  refine Met.of pn_8 (fun m => ef_rmSL1_1 m a1 a2) ?_
  have K := Keep.refl h0 []
  refine Own.aloadN d8_0 rfl rfl ?_
  refine Own.callVP a2 [] [] 0 (rm_empty_1 l Z a0 hw [] a2 t2 k2 _ zc h0 n0 hn X_a2 F_value_a2 F_coder_a2 V_t2 rfl S_C hz) (hw _ (mg 42 rfl)) (hw _ (mg 43 rfl)) (fun s hZ => notFace_of_selects (args := #[]) (mvT hZ (hw _ (mg 45 rfl)))) (hw _ (mg 45 rfl)) (hw _ (mg 44 rfl)) (hw _ (mg 7 rfl)) (hw _ (mg 46 rfl)) (by decide) X_a2 d8_1 pd_4 rfl rfl rfl rfl (by decide) (by decide) (by decide) (by decide) ?_
  refine Own.if_eq 11 d8_4 (by decide) rfl (fun _ => ?_) (fun q => absurd (by decide) q)
  refine Own.new_ (hw _ (mg 85 rfl)) (hw _ (mg 86 rfl)) (hw _ (mg 87 rfl)) d8_11 (by decide) (by decide) (fun h214 b214 gb214 E214 X214 D214 => ?_)
  have g_b214 : n0 ≤ b214 := by rw [gb214]; exact hn
  have ne_a1_b214 : a1 ≠ b214 := fun q => Nat.ne_of_lt X_a1.lt (q.trans gb214)
  have ne_t1_b214 : t1 ≠ b214 := fun q => Nat.ne_of_lt V_t1.lt (q.trans gb214)
  have ne_a2_b214 : a2 ≠ b214 := fun q => Nat.ne_of_lt X_a2.lt (q.trans gb214)
  have ne_t2_b214 : t2 ≠ b214 := fun q => Nat.ne_of_lt V_t2.lt (q.trans gb214)
  have hn := Nat.le_trans hn E214.1
  replace X_a1 := X_a1.ext E214
  replace F_value_a1 := F_value_a1.ext E214
  replace F_coder_a1 := F_coder_a1.ext E214
  replace V_t1 := V_t1.ext E214
  replace X_a2 := X_a2.ext E214
  replace F_value_a2 := F_value_a2.ext E214
  replace F_coder_a2 := F_coder_a2.ext E214
  replace V_t2 := V_t2.ext E214
  replace S_C := S_C.ext E214
  have X_b214 := X214
  have F_value_b214 : FAv Z h214 b214 .null := D214 (Or.inl (hw _ (mg 100 rfl))) (ty := (.array .byte)) (by decide)
  have F_coder_b214 : FAc Z h214 b214 Z0 := D214 (Or.inl (hw _ (mg 102 rfl))) (ty := .byte) (by decide)
  have F_count_b214 : FAn Z h214 b214 Z0 := D214 (Or.inl (hw _ (mg 115 rfl))) (ty := .int) (by decide)
  have sz_b214 : h0.size ≤ b214 := by rw [gb214]; exact K.1
  have K := K.ext E214
  refine Own.dup d8_14 rfl ?_
  refine Own.callI_ b214 [] [(.ref b214)] 1 (rmSBI l Z a0 hw [] b214 zc h214 n0 hn X_b214 g_b214 F_value_b214 F_coder_b214 F_count_b214 S_C hz) (allS (mg 0 rfl) all0) (hw _ (mg 88 rfl)) (hw _ (mg 89 rfl)) (hw _ (mg 87 rfl)) (hw _ (mg 90 rfl)) rfl (by decide) d8_15 pd_3 rfl rfl rfl rfl (by decide) (by decide) (by decide) (by decide) (fun v215 h215 S215 hq215 => ?_)
  obtain ⟨rfl, K216, u216, ku216, z216, G1, G2, G3, V216, Y216⟩ := hq215
  have g_u216 : n0 ≤ u216 := Nat.le_trans hn z216
  have ne_a1_u216 : a1 ≠ u216 := Nat.ne_of_lt (Nat.lt_of_lt_of_le X_a1.lt z216)
  have ne_t1_u216 : t1 ≠ u216 := Nat.ne_of_lt (Nat.lt_of_lt_of_le V_t1.lt z216)
  have ne_a2_u216 : a2 ≠ u216 := Nat.ne_of_lt (Nat.lt_of_lt_of_le X_a2.lt z216)
  have ne_t2_u216 : t2 ≠ u216 := Nat.ne_of_lt (Nat.lt_of_lt_of_le V_t2.lt z216)
  have ne_b214_u216 : b214 ≠ u216 := Nat.ne_of_lt (Nat.lt_of_lt_of_le X_b214.lt z216)
  have sz_u216 : h0.size ≤ u216 := Nat.le_trans K.1 z216
  have hn := Nat.le_trans hn K216.1
  replace S_C := sta_keep S_C K216 (nsS X_b214.nostat ns0)
  replace X_a1 := X_a1.keep K216
  replace F_value_a1 := F_value_a1.keep K216 (ninS ne_a1_b214 nin0)
  replace F_coder_a1 := F_coder_a1.keep K216 (ninS ne_a1_b214 nin0)
  replace V_t1 := V_t1.keep K216 (ninS ne_t1_b214 nin0)
  replace X_a2 := X_a2.keep K216
  replace F_value_a2 := F_value_a2.keep K216 (ninS ne_a2_b214 nin0)
  replace F_coder_a2 := F_coder_a2.keep K216 (ninS ne_a2_b214 nin0)
  replace V_t2 := V_t2.keep K216 (ninS ne_t2_b214 nin0)
  replace X_b214 := X_b214.keep K216
  have K := K.trans K216 (allS (Or.inr sz_b214) all0)
  have F_value_b214 := G1
  have F_coder_b214 := G2
  have F_count_b214 := G3
  refine ⟨[u216], (allS Y216 all0), ?_⟩
  refine OAt.cast (st' := [(.ref b214)]) rfl ?_
  refine Own.aloadN d8_18 rfl rfl ?_
  refine Own.callV_ b214 [(.ref a1)] [] 0 (rmSA0_1 l Z a0 hw [] b214 a1 t1 k1 u216 ku216 zc x0 h215 n0 hn X_a1 F_value_a1 F_coder_a1 V_t1 X_b214 F_value_b214 F_coder_b214 F_count_b214 V216 S_C hz g_b214 g_u216 ne_b214_u216 ne_a1_u216 ne_t1_u216 ne_a1_b214 ne_t1_b214) (allS (mg 1 rfl) (allS (mg 0 rfl) all0)) (hw _ (mg 103 rfl)) (hw _ (mg 104 rfl)) (fun s hZ => notFace_of_selects (args := #[]) (mvT hZ (hw _ (mg 106 rfl)))) (hw _ (mg 106 rfl)) (hw _ (mg 105 rfl)) (hw _ (mg 87 rfl)) (hw _ (mg 107 rfl)) (by decide) X_b214 d8_19 pd_17 rfl rfl rfl rfl (by decide) (by decide) (by decide) (by decide) (fun v217 h217 S217 hq217 => ?_)
  obtain ⟨rfl, K218, G1, G2, G3, V218⟩ := hq217
  have hn := Nat.le_trans hn K218.1
  replace S_C := sta_keep S_C K218 (nsS X_b214.nostat (nsS V216.nostat ns0))
  replace X_a2 := X_a2.keep K218
  replace F_value_a2 := F_value_a2.keep K218 (ninS ne_a2_b214 (ninS ne_a2_u216 nin0))
  replace F_coder_a2 := F_coder_a2.keep K218 (ninS ne_a2_b214 (ninS ne_a2_u216 nin0))
  replace V_t2 := V_t2.keep K218 (ninS ne_t2_b214 (ninS ne_t2_u216 nin0))
  replace X_b214 := X_b214.keep K218
  have K := K.trans K218 (allS (Or.inr sz_b214) (allS (Or.inr sz_u216) all0))
  have F_value_b214 := G1
  have F_coder_b214 := G2
  have F_count_b214 := G3
  refine ⟨[], all0, ?_⟩
  refine OAt.cast (st' := [(.ref b214)]) rfl ?_
  refine Own.ldcC_ (vs := [(.int (35 : Int32))]) (z := (1 : Int32)) 4 (hw _ (mg 141 rfl)) (own_wS hw) (mg 0 rfl) (own_EW hw) ⟨by decide, by decide⟩ rfl d8_22 (by decide) (by decide) (by decide) (by decide) (fun h219 b219 t219 kt219 E219 X_b219 F_coder_b219 F_value_b219 V_t219 hne219 => ?_)
  have hn := Nat.le_trans hn E219.1
  replace X_a2 := X_a2.ext E219
  replace F_value_a2 := F_value_a2.ext E219
  replace F_coder_a2 := F_coder_a2.ext E219
  replace V_t2 := V_t2.ext E219
  replace S_C := S_C.ext E219
  replace X_b214 := X_b214.ext E219
  replace F_value_b214 := F_value_b214.ext E219
  replace F_coder_b214 := F_coder_b214.ext E219
  replace F_count_b214 := F_count_b214.ext E219
  replace V218 := V218.ext E219
  have ne_u216_b219 := (hne219 u216 (mg 0 rfl)).1
  have ne_u216_t219 := (hne219 u216 (mg 0 rfl)).2
  have ne_b219_u216 := Ne.symm ne_u216_b219
  have ne_t219_u216 := Ne.symm ne_u216_t219
  have ne_b214_b219 := (hne219 b214 (mg 1 rfl)).1
  have ne_b214_t219 := (hne219 b214 (mg 1 rfl)).2
  have ne_b219_b214 := Ne.symm ne_b214_b219
  have ne_t219_b214 := Ne.symm ne_b214_t219
  have K := K.ext E219
  refine Own.callV_ b214 [(.ref b219)] [] 0 (rmSA1_1 l Z a0 hw [] b214 b219 t219 kt219 u216 ku216 zc x0 (.int (35 : Int32)) h219 n0 hn X_b219 F_value_b219 F_coder_b219 V_t219 X_b214 F_value_b214 F_coder_b214 F_count_b214 V218 S_C hz g_b214 g_u216 ne_b214_u216 ne_b219_u216 ne_t219_u216 ne_b219_b214 ne_t219_b214) (allS (mg 1 rfl) (allS (mg 0 rfl) all0)) (hw _ (mg 103 rfl)) (hw _ (mg 104 rfl)) (fun s hZ => notFace_of_selects (args := #[]) (mvT hZ (hw _ (mg 106 rfl)))) (hw _ (mg 106 rfl)) (hw _ (mg 105 rfl)) (hw _ (mg 87 rfl)) (hw _ (mg 107 rfl)) (by decide) X_b214 d8_24 pd_17 rfl rfl rfl rfl (by decide) (by decide) (by decide) (by decide) (fun v220 h220 S220 hq220 => ?_)
  obtain ⟨rfl, K221, G1, G2, G3, V221⟩ := hq220
  have hn := Nat.le_trans hn K221.1
  replace S_C := sta_keep S_C K221 (nsS X_b214.nostat (nsS V218.nostat ns0))
  replace X_a2 := X_a2.keep K221
  replace F_value_a2 := F_value_a2.keep K221 (ninS ne_a2_b214 (ninS ne_a2_u216 nin0))
  replace F_coder_a2 := F_coder_a2.keep K221 (ninS ne_a2_b214 (ninS ne_a2_u216 nin0))
  replace V_t2 := V_t2.keep K221 (ninS ne_t2_b214 (ninS ne_t2_u216 nin0))
  replace X_b214 := X_b214.keep K221
  have K := K.trans K221 (allS (Or.inr sz_b214) (allS (Or.inr sz_u216) all0))
  have F_value_b214 := G1
  have F_coder_b214 := G2
  have F_count_b214 := G3
  refine ⟨[], all0, ?_⟩
  refine OAt.cast (st' := [(.ref b214)]) rfl ?_
  refine Own.aloadN d8_27 rfl rfl ?_
  refine Own.callV_ b214 [(.ref a2)] [] 0 (rmSA2_1 l Z a0 hw [] b214 a2 t2 k2 u216 ku216 zc x0 (.int (35 : Int32)) y0 h220 n0 hn X_a2 F_value_a2 F_coder_a2 V_t2 X_b214 F_value_b214 F_coder_b214 F_count_b214 V221 S_C hz g_b214 g_u216 ne_b214_u216 ne_a2_u216 ne_t2_u216 ne_a2_b214 ne_t2_b214) (allS (mg 1 rfl) (allS (mg 0 rfl) all0)) (hw _ (mg 103 rfl)) (hw _ (mg 104 rfl)) (fun s hZ => notFace_of_selects (args := #[]) (mvT hZ (hw _ (mg 106 rfl)))) (hw _ (mg 106 rfl)) (hw _ (mg 105 rfl)) (hw _ (mg 87 rfl)) (hw _ (mg 107 rfl)) (by decide) X_b214 d8_28 pd_17 rfl rfl rfl rfl (by decide) (by decide) (by decide) (by decide) (fun v222 h222 S222 hq222 => ?_)
  obtain ⟨rfl, K223, G1, G2, G3, V223⟩ := hq222
  have hn := Nat.le_trans hn K223.1
  replace S_C := sta_keep S_C K223 (nsS X_b214.nostat (nsS V221.nostat ns0))
  replace X_b214 := X_b214.keep K223
  have K := K.trans K223 (allS (Or.inr sz_b214) (allS (Or.inr sz_u216) all0))
  have F_value_b214 := G1
  have F_coder_b214 := G2
  have F_count_b214 := G3
  refine ⟨[], all0, ?_⟩
  refine OAt.cast (st' := [(.ref b214)]) rfl ?_
  refine Own.callV_ b214 [] [] 0 (rmTS3 l Z a0 hw [] b214 u216 ku216 zc x0 (.int (35 : Int32)) y0 h222 n0 hn X_b214 F_value_b214 F_coder_b214 F_count_b214 V223 S_C hz) all0 (hw _ (mg 142 rfl)) (hw _ (mg 143 rfl)) (fun s hZ => notFace_of_selects (args := #[]) (mvT hZ (hw _ (mg 145 rfl)))) (hw _ (mg 145 rfl)) (hw _ (mg 144 rfl)) (hw _ (mg 87 rfl)) (hw _ (mg 146 rfl)) (by decide) X_b214 d8_31 pd_2 rfl rfl rfl rfl (by decide) (by decide) (by decide) (by decide) (fun v224 h224 S224 hq224 => ?_)
  obtain ⟨K225, s225, t225, kt225, rfl, X_s225, F_value_s225, F_coder_s225, V_t225⟩ := hq224
  have K := K.trans K225 all0
  refine ⟨[], all0, ?_⟩
  refine OAt.cast (st' := [(.ref s225)]) rfl ?_
  refine Own.ret_ref (t := (.object "java/lang/String")) rfl rfl rfl d8_34 (by decide) (by decide) (fun Sf hSf => ?_)
  exact ⟨K, s225, t225, kt225, rfl, X_s225, F_value_s225, F_coder_s225, V_t225⟩
def Q_rmSL1_2 (Z : State) (x0 : Value) (y0 : Value) (y1 : Value) (h0 : Heap) (n0 : Nat) (v : Option Value) (h : Heap) (Sf : Addr → Prop) : Prop := Keep h0 h [] ∧ ∃ (a b : Addr) (kb : ClassId), v = some (.ref a) ∧ XSt Z h a ∧ FSv Z h a (.ref b) ∧ FSc Z h a Z0 ∧ Arl Z h b kb .byte [x0, (.int (35 : Int32)), y0, y1]
theorem ef_rmSL1_2 (m : MethodId) (a1 : Addr) (a2 : Addr)  : entryFrame m #[(.ref a1), (.ref a2)] 2 = mkF m 0 #[.val (.ref a1), .val (.ref a2)] [] := by simp [entryFrame, mkF, argsToLocals, Value.category]
theorem rmSL1_2 (l : Launch) (Z : State) (a0 : Array Value) (hw : HW a0 Z) (ws : List Jvm.Cond) (a1 : Addr) (t1 : Addr) (k1 : ClassId) (a2 : Addr) (t2 : Addr) (k2 : ClassId) (zc : Int32) (x0 : Value) (y0 : Value) (y1 : Value) (h0 : Heap) (n0 : Nat) (hn : n0 ≤ h0.size) (X_a1 : XSt Z h0 a1) (F_value_a1 : FSv Z h0 a1 (.ref t1)) (F_coder_a1 : FSc Z h0 a1 Z0) (V_t1 : Arl Z h0 t1 k1 .byte [x0]) (X_a2 : XSt Z h0 a2) (F_value_a2 : FSv Z h0 a2 (.ref t2)) (F_coder_a2 : FSc Z h0 a2 Z0) (V_t2 : Arl Z h0 t2 k2 .byte [y0, y1]) (S_C : Sta Z h0 "java/lang/String" "COMPACT_STRINGS" "Z" (.int zc)) (hz : ¬ zc = 0) :
    Met own_EL l Z (⟨"com/example/hits_by_heading/hitsbyheading/document/Document", "sectionLocation", "(Ljava/lang/String;Ljava/lang/String;)Ljava/lang/String;"⟩ : MethodName) prog_1_method_7_code 2 (some (.object "java/lang/String")) ({ frames := 6, cells := 12, slots := 80, locals := 124 } : Room) ws #[(.ref a1), (.ref a2)] h0 n0 [] (Q_rmSL1_2 Z x0 y0 y1 h0 n0) := by
  refine Met.of pn_8 (fun m => ef_rmSL1_2 m a1 a2) ?_
  have K := Keep.refl h0 []
  refine Own.aloadN d8_0 rfl rfl ?_
  refine Own.callVP a2 [] [] 0 (rm_empty_2 l Z a0 hw [] a2 t2 k2 _ zc h0 n0 hn X_a2 F_value_a2 F_coder_a2 V_t2 rfl S_C hz) (hw _ (mg 42 rfl)) (hw _ (mg 43 rfl)) (fun s hZ => notFace_of_selects (args := #[]) (mvT hZ (hw _ (mg 45 rfl)))) (hw _ (mg 45 rfl)) (hw _ (mg 44 rfl)) (hw _ (mg 7 rfl)) (hw _ (mg 46 rfl)) (by decide) X_a2 d8_1 pd_4 rfl rfl rfl rfl (by decide) (by decide) (by decide) (by decide) ?_
  refine Own.if_eq 11 d8_4 (by decide) rfl (fun _ => ?_) (fun q => absurd (by decide) q)
  refine Own.new_ (hw _ (mg 85 rfl)) (hw _ (mg 86 rfl)) (hw _ (mg 87 rfl)) d8_11 (by decide) (by decide) (fun h226 b226 gb226 E226 X226 D226 => ?_)
  have g_b226 : n0 ≤ b226 := by rw [gb226]; exact hn
  have ne_a1_b226 : a1 ≠ b226 := fun q => Nat.ne_of_lt X_a1.lt (q.trans gb226)
  have ne_t1_b226 : t1 ≠ b226 := fun q => Nat.ne_of_lt V_t1.lt (q.trans gb226)
  have ne_a2_b226 : a2 ≠ b226 := fun q => Nat.ne_of_lt X_a2.lt (q.trans gb226)
  have ne_t2_b226 : t2 ≠ b226 := fun q => Nat.ne_of_lt V_t2.lt (q.trans gb226)
  have hn := Nat.le_trans hn E226.1
  replace X_a1 := X_a1.ext E226
  replace F_value_a1 := F_value_a1.ext E226
  replace F_coder_a1 := F_coder_a1.ext E226
  replace V_t1 := V_t1.ext E226
  replace X_a2 := X_a2.ext E226
  replace F_value_a2 := F_value_a2.ext E226
  replace F_coder_a2 := F_coder_a2.ext E226
  replace V_t2 := V_t2.ext E226
  replace S_C := S_C.ext E226
  have X_b226 := X226
  have F_value_b226 : FAv Z h226 b226 .null := D226 (Or.inl (hw _ (mg 100 rfl))) (ty := (.array .byte)) (by decide)
  have F_coder_b226 : FAc Z h226 b226 Z0 := D226 (Or.inl (hw _ (mg 102 rfl))) (ty := .byte) (by decide)
  have F_count_b226 : FAn Z h226 b226 Z0 := D226 (Or.inl (hw _ (mg 115 rfl))) (ty := .int) (by decide)
  have sz_b226 : h0.size ≤ b226 := by rw [gb226]; exact K.1
  have K := K.ext E226
  refine Own.dup d8_14 rfl ?_
  refine Own.callI_ b226 [] [(.ref b226)] 1 (rmSBI l Z a0 hw [] b226 zc h226 n0 hn X_b226 g_b226 F_value_b226 F_coder_b226 F_count_b226 S_C hz) (allS (mg 0 rfl) all0) (hw _ (mg 88 rfl)) (hw _ (mg 89 rfl)) (hw _ (mg 87 rfl)) (hw _ (mg 90 rfl)) rfl (by decide) d8_15 pd_3 rfl rfl rfl rfl (by decide) (by decide) (by decide) (by decide) (fun v227 h227 S227 hq227 => ?_)
  obtain ⟨rfl, K228, u228, ku228, z228, G1, G2, G3, V228, Y228⟩ := hq227
  have g_u228 : n0 ≤ u228 := Nat.le_trans hn z228
  have ne_a1_u228 : a1 ≠ u228 := Nat.ne_of_lt (Nat.lt_of_lt_of_le X_a1.lt z228)
  have ne_t1_u228 : t1 ≠ u228 := Nat.ne_of_lt (Nat.lt_of_lt_of_le V_t1.lt z228)
  have ne_a2_u228 : a2 ≠ u228 := Nat.ne_of_lt (Nat.lt_of_lt_of_le X_a2.lt z228)
  have ne_t2_u228 : t2 ≠ u228 := Nat.ne_of_lt (Nat.lt_of_lt_of_le V_t2.lt z228)
  have ne_b226_u228 : b226 ≠ u228 := Nat.ne_of_lt (Nat.lt_of_lt_of_le X_b226.lt z228)
  have sz_u228 : h0.size ≤ u228 := Nat.le_trans K.1 z228
  have hn := Nat.le_trans hn K228.1
  replace S_C := sta_keep S_C K228 (nsS X_b226.nostat ns0)
  replace X_a1 := X_a1.keep K228
  replace F_value_a1 := F_value_a1.keep K228 (ninS ne_a1_b226 nin0)
  replace F_coder_a1 := F_coder_a1.keep K228 (ninS ne_a1_b226 nin0)
  replace V_t1 := V_t1.keep K228 (ninS ne_t1_b226 nin0)
  replace X_a2 := X_a2.keep K228
  replace F_value_a2 := F_value_a2.keep K228 (ninS ne_a2_b226 nin0)
  replace F_coder_a2 := F_coder_a2.keep K228 (ninS ne_a2_b226 nin0)
  replace V_t2 := V_t2.keep K228 (ninS ne_t2_b226 nin0)
  replace X_b226 := X_b226.keep K228
  have K := K.trans K228 (allS (Or.inr sz_b226) all0)
  have F_value_b226 := G1
  have F_coder_b226 := G2
  have F_count_b226 := G3
  refine ⟨[u228], (allS Y228 all0), ?_⟩
  refine OAt.cast (st' := [(.ref b226)]) rfl ?_
  refine Own.aloadN d8_18 rfl rfl ?_
  refine Own.callV_ b226 [(.ref a1)] [] 0 (rmSA0_1 l Z a0 hw [] b226 a1 t1 k1 u228 ku228 zc x0 h227 n0 hn X_a1 F_value_a1 F_coder_a1 V_t1 X_b226 F_value_b226 F_coder_b226 F_count_b226 V228 S_C hz g_b226 g_u228 ne_b226_u228 ne_a1_u228 ne_t1_u228 ne_a1_b226 ne_t1_b226) (allS (mg 1 rfl) (allS (mg 0 rfl) all0)) (hw _ (mg 103 rfl)) (hw _ (mg 104 rfl)) (fun s hZ => notFace_of_selects (args := #[]) (mvT hZ (hw _ (mg 106 rfl)))) (hw _ (mg 106 rfl)) (hw _ (mg 105 rfl)) (hw _ (mg 87 rfl)) (hw _ (mg 107 rfl)) (by decide) X_b226 d8_19 pd_17 rfl rfl rfl rfl (by decide) (by decide) (by decide) (by decide) (fun v229 h229 S229 hq229 => ?_)
  obtain ⟨rfl, K230, G1, G2, G3, V230⟩ := hq229
  have hn := Nat.le_trans hn K230.1
  replace S_C := sta_keep S_C K230 (nsS X_b226.nostat (nsS V228.nostat ns0))
  replace X_a2 := X_a2.keep K230
  replace F_value_a2 := F_value_a2.keep K230 (ninS ne_a2_b226 (ninS ne_a2_u228 nin0))
  replace F_coder_a2 := F_coder_a2.keep K230 (ninS ne_a2_b226 (ninS ne_a2_u228 nin0))
  replace V_t2 := V_t2.keep K230 (ninS ne_t2_b226 (ninS ne_t2_u228 nin0))
  replace X_b226 := X_b226.keep K230
  have K := K.trans K230 (allS (Or.inr sz_b226) (allS (Or.inr sz_u228) all0))
  have F_value_b226 := G1
  have F_coder_b226 := G2
  have F_count_b226 := G3
  refine ⟨[], all0, ?_⟩
  refine OAt.cast (st' := [(.ref b226)]) rfl ?_
  refine Own.ldcC_ (vs := [(.int (35 : Int32))]) (z := (1 : Int32)) 4 (hw _ (mg 141 rfl)) (own_wS hw) (mg 0 rfl) (own_EW hw) ⟨by decide, by decide⟩ rfl d8_22 (by decide) (by decide) (by decide) (by decide) (fun h231 b231 t231 kt231 E231 X_b231 F_coder_b231 F_value_b231 V_t231 hne231 => ?_)
  have hn := Nat.le_trans hn E231.1
  replace X_a2 := X_a2.ext E231
  replace F_value_a2 := F_value_a2.ext E231
  replace F_coder_a2 := F_coder_a2.ext E231
  replace V_t2 := V_t2.ext E231
  replace S_C := S_C.ext E231
  replace X_b226 := X_b226.ext E231
  replace F_value_b226 := F_value_b226.ext E231
  replace F_coder_b226 := F_coder_b226.ext E231
  replace F_count_b226 := F_count_b226.ext E231
  replace V230 := V230.ext E231
  have ne_u228_b231 := (hne231 u228 (mg 0 rfl)).1
  have ne_u228_t231 := (hne231 u228 (mg 0 rfl)).2
  have ne_b231_u228 := Ne.symm ne_u228_b231
  have ne_t231_u228 := Ne.symm ne_u228_t231
  have ne_b226_b231 := (hne231 b226 (mg 1 rfl)).1
  have ne_b226_t231 := (hne231 b226 (mg 1 rfl)).2
  have ne_b231_b226 := Ne.symm ne_b226_b231
  have ne_t231_b226 := Ne.symm ne_b226_t231
  have K := K.ext E231
  refine Own.callV_ b226 [(.ref b231)] [] 0 (rmSA1_1 l Z a0 hw [] b226 b231 t231 kt231 u228 ku228 zc x0 (.int (35 : Int32)) h231 n0 hn X_b231 F_value_b231 F_coder_b231 V_t231 X_b226 F_value_b226 F_coder_b226 F_count_b226 V230 S_C hz g_b226 g_u228 ne_b226_u228 ne_b231_u228 ne_t231_u228 ne_b231_b226 ne_t231_b226) (allS (mg 1 rfl) (allS (mg 0 rfl) all0)) (hw _ (mg 103 rfl)) (hw _ (mg 104 rfl)) (fun s hZ => notFace_of_selects (args := #[]) (mvT hZ (hw _ (mg 106 rfl)))) (hw _ (mg 106 rfl)) (hw _ (mg 105 rfl)) (hw _ (mg 87 rfl)) (hw _ (mg 107 rfl)) (by decide) X_b226 d8_24 pd_17 rfl rfl rfl rfl (by decide) (by decide) (by decide) (by decide) (fun v232 h232 S232 hq232 => ?_)
  obtain ⟨rfl, K233, G1, G2, G3, V233⟩ := hq232
  have hn := Nat.le_trans hn K233.1
  replace S_C := sta_keep S_C K233 (nsS X_b226.nostat (nsS V230.nostat ns0))
  replace X_a2 := X_a2.keep K233
  replace F_value_a2 := F_value_a2.keep K233 (ninS ne_a2_b226 (ninS ne_a2_u228 nin0))
  replace F_coder_a2 := F_coder_a2.keep K233 (ninS ne_a2_b226 (ninS ne_a2_u228 nin0))
  replace V_t2 := V_t2.keep K233 (ninS ne_t2_b226 (ninS ne_t2_u228 nin0))
  replace X_b226 := X_b226.keep K233
  have K := K.trans K233 (allS (Or.inr sz_b226) (allS (Or.inr sz_u228) all0))
  have F_value_b226 := G1
  have F_coder_b226 := G2
  have F_count_b226 := G3
  refine ⟨[], all0, ?_⟩
  refine OAt.cast (st' := [(.ref b226)]) rfl ?_
  refine Own.aloadN d8_27 rfl rfl ?_
  refine Own.callV_ b226 [(.ref a2)] [] 0 (rmSA2_2 l Z a0 hw [] b226 a2 t2 k2 u228 ku228 zc x0 (.int (35 : Int32)) y0 y1 h232 n0 hn X_a2 F_value_a2 F_coder_a2 V_t2 X_b226 F_value_b226 F_coder_b226 F_count_b226 V233 S_C hz g_b226 g_u228 ne_b226_u228 ne_a2_u228 ne_t2_u228 ne_a2_b226 ne_t2_b226) (allS (mg 1 rfl) (allS (mg 0 rfl) all0)) (hw _ (mg 103 rfl)) (hw _ (mg 104 rfl)) (fun s hZ => notFace_of_selects (args := #[]) (mvT hZ (hw _ (mg 106 rfl)))) (hw _ (mg 106 rfl)) (hw _ (mg 105 rfl)) (hw _ (mg 87 rfl)) (hw _ (mg 107 rfl)) (by decide) X_b226 d8_28 pd_17 rfl rfl rfl rfl (by decide) (by decide) (by decide) (by decide) (fun v234 h234 S234 hq234 => ?_)
  obtain ⟨rfl, K235, G1, G2, G3, V235⟩ := hq234
  have hn := Nat.le_trans hn K235.1
  replace S_C := sta_keep S_C K235 (nsS X_b226.nostat (nsS V233.nostat ns0))
  replace X_b226 := X_b226.keep K235
  have K := K.trans K235 (allS (Or.inr sz_b226) (allS (Or.inr sz_u228) all0))
  have F_value_b226 := G1
  have F_coder_b226 := G2
  have F_count_b226 := G3
  refine ⟨[], all0, ?_⟩
  refine OAt.cast (st' := [(.ref b226)]) rfl ?_
  refine Own.callV_ b226 [] [] 0 (rmTS4 l Z a0 hw [] b226 u228 ku228 zc x0 (.int (35 : Int32)) y0 y1 h234 n0 hn X_b226 F_value_b226 F_coder_b226 F_count_b226 V235 S_C hz) all0 (hw _ (mg 142 rfl)) (hw _ (mg 143 rfl)) (fun s hZ => notFace_of_selects (args := #[]) (mvT hZ (hw _ (mg 145 rfl)))) (hw _ (mg 145 rfl)) (hw _ (mg 144 rfl)) (hw _ (mg 87 rfl)) (hw _ (mg 146 rfl)) (by decide) X_b226 d8_31 pd_2 rfl rfl rfl rfl (by decide) (by decide) (by decide) (by decide) (fun v236 h236 S236 hq236 => ?_)
  obtain ⟨K237, s237, t237, kt237, rfl, X_s237, F_value_s237, F_coder_s237, V_t237⟩ := hq236
  have K := K.trans K237 all0
  refine ⟨[], all0, ?_⟩
  refine OAt.cast (st' := [(.ref s237)]) rfl ?_
  refine Own.ret_ref (t := (.object "java/lang/String")) rfl rfl rfl d8_34 (by decide) (by decide) (fun Sf hSf => ?_)
  exact ⟨K, s237, t237, kt237, rfl, X_s237, F_value_s237, F_coder_s237, V_t237⟩
def Q_rmSL2_0 (Z : State) (x0 : Value) (x1 : Value) (h0 : Heap) (n0 : Nat) (v : Option Value) (h : Heap) (Sf : Addr → Prop) : Prop := Keep h0 h [] ∧ ∃ (a b : Addr) (kb : ClassId), v = some (.ref a) ∧ XSt Z h a ∧ FSv Z h a (.ref b) ∧ FSc Z h a Z0 ∧ Arl Z h b kb .byte [x0, x1]
theorem ef_rmSL2_0 (m : MethodId) (a1 : Addr) (a2 : Addr)  : entryFrame m #[(.ref a1), (.ref a2)] 2 = mkF m 0 #[.val (.ref a1), .val (.ref a2)] [] := by simp [entryFrame, mkF, argsToLocals, Value.category]
theorem rmSL2_0 (l : Launch) (Z : State) (a0 : Array Value) (hw : HW a0 Z) (ws : List Jvm.Cond) (a1 : Addr) (t1 : Addr) (k1 : ClassId) (a2 : Addr) (t2 : Addr) (k2 : ClassId) (zc : Int32) (x0 : Value) (x1 : Value) (h0 : Heap) (n0 : Nat) (hn : n0 ≤ h0.size) (X_a1 : XSt Z h0 a1) (F_value_a1 : FSv Z h0 a1 (.ref t1)) (F_coder_a1 : FSc Z h0 a1 Z0) (V_t1 : Arl Z h0 t1 k1 .byte [x0, x1]) (X_a2 : XSt Z h0 a2) (F_value_a2 : FSv Z h0 a2 (.ref t2)) (F_coder_a2 : FSc Z h0 a2 Z0) (V_t2 : Arl Z h0 t2 k2 .byte []) (S_C : Sta Z h0 "java/lang/String" "COMPACT_STRINGS" "Z" (.int zc)) (hz : ¬ zc = 0) :
    Met own_EL l Z (⟨"com/example/hits_by_heading/hitsbyheading/document/Document", "sectionLocation", "(Ljava/lang/String;Ljava/lang/String;)Ljava/lang/String;"⟩ : MethodName) prog_1_method_7_code 2 (some (.object "java/lang/String")) ({ frames := 1, cells := 12, slots := 80, locals := 12 } : Room) ws #[(.ref a1), (.ref a2)] h0 n0 [] (Q_rmSL2_0 Z x0 x1 h0 n0) := by
  refine Met.of pn_8 (fun m => ef_rmSL2_0 m a1 a2) ?_
  have K := Keep.refl h0 []
  refine Own.aloadN d8_0 rfl rfl ?_
  refine Own.callVP a2 [] [] 0 (rm_empty_0 l Z a0 hw [] a2 t2 k2 _ zc h0 n0 hn X_a2 F_value_a2 F_coder_a2 V_t2 rfl S_C hz) (hw _ (mg 42 rfl)) (hw _ (mg 43 rfl)) (fun s hZ => notFace_of_selects (args := #[]) (mvT hZ (hw _ (mg 45 rfl)))) (hw _ (mg 45 rfl)) (hw _ (mg 44 rfl)) (hw _ (mg 7 rfl)) (hw _ (mg 46 rfl)) (by decide) X_a2 d8_1 pd_4 rfl rfl rfl rfl (by decide) (by decide) (by decide) (by decide) ?_
  refine Own.if_eq 11 d8_4 (by decide) rfl (fun q => absurd q (by decide)) (fun _ => ?_)
  refine Own.aloadN d8_7 rfl rfl ?_
  refine Own.goto_ 34 d8_8 (by decide) rfl ?_
  refine Own.ret_ref (t := (.object "java/lang/String")) rfl rfl rfl d8_34 (by decide) (by decide) (fun Sf hSf => ?_)
  exact ⟨K, a1, t1, k1, rfl, X_a1, F_value_a1, F_coder_a1, V_t1⟩
def Q_rmSL2_1 (Z : State) (x0 : Value) (x1 : Value) (y0 : Value) (h0 : Heap) (n0 : Nat) (v : Option Value) (h : Heap) (Sf : Addr → Prop) : Prop := Keep h0 h [] ∧ ∃ (a b : Addr) (kb : ClassId), v = some (.ref a) ∧ XSt Z h a ∧ FSv Z h a (.ref b) ∧ FSc Z h a Z0 ∧ Arl Z h b kb .byte [x0, x1, (.int (35 : Int32)), y0]
theorem ef_rmSL2_1 (m : MethodId) (a1 : Addr) (a2 : Addr)  : entryFrame m #[(.ref a1), (.ref a2)] 2 = mkF m 0 #[.val (.ref a1), .val (.ref a2)] [] := by simp [entryFrame, mkF, argsToLocals, Value.category]
theorem rmSL2_1 (l : Launch) (Z : State) (a0 : Array Value) (hw : HW a0 Z) (ws : List Jvm.Cond) (a1 : Addr) (t1 : Addr) (k1 : ClassId) (a2 : Addr) (t2 : Addr) (k2 : ClassId) (zc : Int32) (x0 : Value) (x1 : Value) (y0 : Value) (h0 : Heap) (n0 : Nat) (hn : n0 ≤ h0.size) (X_a1 : XSt Z h0 a1) (F_value_a1 : FSv Z h0 a1 (.ref t1)) (F_coder_a1 : FSc Z h0 a1 Z0) (V_t1 : Arl Z h0 t1 k1 .byte [x0, x1]) (X_a2 : XSt Z h0 a2) (F_value_a2 : FSv Z h0 a2 (.ref t2)) (F_coder_a2 : FSc Z h0 a2 Z0) (V_t2 : Arl Z h0 t2 k2 .byte [y0]) (S_C : Sta Z h0 "java/lang/String" "COMPACT_STRINGS" "Z" (.int zc)) (hz : ¬ zc = 0) :
    Met own_EL l Z (⟨"com/example/hits_by_heading/hitsbyheading/document/Document", "sectionLocation", "(Ljava/lang/String;Ljava/lang/String;)Ljava/lang/String;"⟩ : MethodName) prog_1_method_7_code 2 (some (.object "java/lang/String")) ({ frames := 6, cells := 12, slots := 80, locals := 124 } : Room) ws #[(.ref a1), (.ref a2)] h0 n0 [] (Q_rmSL2_1 Z x0 x1 y0 h0 n0) := by
  refine Met.of pn_8 (fun m => ef_rmSL2_1 m a1 a2) ?_
  have K := Keep.refl h0 []
  refine Own.aloadN d8_0 rfl rfl ?_
  refine Own.callVP a2 [] [] 0 (rm_empty_1 l Z a0 hw [] a2 t2 k2 _ zc h0 n0 hn X_a2 F_value_a2 F_coder_a2 V_t2 rfl S_C hz) (hw _ (mg 42 rfl)) (hw _ (mg 43 rfl)) (fun s hZ => notFace_of_selects (args := #[]) (mvT hZ (hw _ (mg 45 rfl)))) (hw _ (mg 45 rfl)) (hw _ (mg 44 rfl)) (hw _ (mg 7 rfl)) (hw _ (mg 46 rfl)) (by decide) X_a2 d8_1 pd_4 rfl rfl rfl rfl (by decide) (by decide) (by decide) (by decide) ?_
  refine Own.if_eq 11 d8_4 (by decide) rfl (fun _ => ?_) (fun q => absurd (by decide) q)
  refine Own.new_ (hw _ (mg 85 rfl)) (hw _ (mg 86 rfl)) (hw _ (mg 87 rfl)) d8_11 (by decide) (by decide) (fun h238 b238 gb238 E238 X238 D238 => ?_)
  have g_b238 : n0 ≤ b238 := by rw [gb238]; exact hn
  have ne_a1_b238 : a1 ≠ b238 := fun q => Nat.ne_of_lt X_a1.lt (q.trans gb238)
  have ne_t1_b238 : t1 ≠ b238 := fun q => Nat.ne_of_lt V_t1.lt (q.trans gb238)
  have ne_a2_b238 : a2 ≠ b238 := fun q => Nat.ne_of_lt X_a2.lt (q.trans gb238)
  have ne_t2_b238 : t2 ≠ b238 := fun q => Nat.ne_of_lt V_t2.lt (q.trans gb238)
  have hn := Nat.le_trans hn E238.1
  replace X_a1 := X_a1.ext E238
  replace F_value_a1 := F_value_a1.ext E238
  replace F_coder_a1 := F_coder_a1.ext E238
  replace V_t1 := V_t1.ext E238
  replace X_a2 := X_a2.ext E238
  replace F_value_a2 := F_value_a2.ext E238
  replace F_coder_a2 := F_coder_a2.ext E238
  replace V_t2 := V_t2.ext E238
  replace S_C := S_C.ext E238
  have X_b238 := X238
  have F_value_b238 : FAv Z h238 b238 .null := D238 (Or.inl (hw _ (mg 100 rfl))) (ty := (.array .byte)) (by decide)
  have F_coder_b238 : FAc Z h238 b238 Z0 := D238 (Or.inl (hw _ (mg 102 rfl))) (ty := .byte) (by decide)
  have F_count_b238 : FAn Z h238 b238 Z0 := D238 (Or.inl (hw _ (mg 115 rfl))) (ty := .int) (by decide)
  have sz_b238 : h0.size ≤ b238 := by rw [gb238]; exact K.1
  have K := K.ext E238
  refine Own.dup d8_14 rfl ?_
  refine Own.callI_ b238 [] [(.ref b238)] 1 (rmSBI l Z a0 hw [] b238 zc h238 n0 hn X_b238 g_b238 F_value_b238 F_coder_b238 F_count_b238 S_C hz) (allS (mg 0 rfl) all0) (hw _ (mg 88 rfl)) (hw _ (mg 89 rfl)) (hw _ (mg 87 rfl)) (hw _ (mg 90 rfl)) rfl (by decide) d8_15 pd_3 rfl rfl rfl rfl (by decide) (by decide) (by decide) (by decide) (fun v239 h239 S239 hq239 => ?_)
  obtain ⟨rfl, K240, u240, ku240, z240, G1, G2, G3, V240, Y240⟩ := hq239
  have g_u240 : n0 ≤ u240 := Nat.le_trans hn z240
  have ne_a1_u240 : a1 ≠ u240 := Nat.ne_of_lt (Nat.lt_of_lt_of_le X_a1.lt z240)
  have ne_t1_u240 : t1 ≠ u240 := Nat.ne_of_lt (Nat.lt_of_lt_of_le V_t1.lt z240)
  have ne_a2_u240 : a2 ≠ u240 := Nat.ne_of_lt (Nat.lt_of_lt_of_le X_a2.lt z240)
  have ne_t2_u240 : t2 ≠ u240 := Nat.ne_of_lt (Nat.lt_of_lt_of_le V_t2.lt z240)
  have ne_b238_u240 : b238 ≠ u240 := Nat.ne_of_lt (Nat.lt_of_lt_of_le X_b238.lt z240)
  have sz_u240 : h0.size ≤ u240 := Nat.le_trans K.1 z240
  have hn := Nat.le_trans hn K240.1
  replace S_C := sta_keep S_C K240 (nsS X_b238.nostat ns0)
  replace X_a1 := X_a1.keep K240
  replace F_value_a1 := F_value_a1.keep K240 (ninS ne_a1_b238 nin0)
  replace F_coder_a1 := F_coder_a1.keep K240 (ninS ne_a1_b238 nin0)
  replace V_t1 := V_t1.keep K240 (ninS ne_t1_b238 nin0)
  replace X_a2 := X_a2.keep K240
  replace F_value_a2 := F_value_a2.keep K240 (ninS ne_a2_b238 nin0)
  replace F_coder_a2 := F_coder_a2.keep K240 (ninS ne_a2_b238 nin0)
  replace V_t2 := V_t2.keep K240 (ninS ne_t2_b238 nin0)
  replace X_b238 := X_b238.keep K240
  have K := K.trans K240 (allS (Or.inr sz_b238) all0)
  have F_value_b238 := G1
  have F_coder_b238 := G2
  have F_count_b238 := G3
  refine ⟨[u240], (allS Y240 all0), ?_⟩
  refine OAt.cast (st' := [(.ref b238)]) rfl ?_
  refine Own.aloadN d8_18 rfl rfl ?_
  refine Own.callV_ b238 [(.ref a1)] [] 0 (rmSA0_2 l Z a0 hw [] b238 a1 t1 k1 u240 ku240 zc x0 x1 h239 n0 hn X_a1 F_value_a1 F_coder_a1 V_t1 X_b238 F_value_b238 F_coder_b238 F_count_b238 V240 S_C hz g_b238 g_u240 ne_b238_u240 ne_a1_u240 ne_t1_u240 ne_a1_b238 ne_t1_b238) (allS (mg 1 rfl) (allS (mg 0 rfl) all0)) (hw _ (mg 103 rfl)) (hw _ (mg 104 rfl)) (fun s hZ => notFace_of_selects (args := #[]) (mvT hZ (hw _ (mg 106 rfl)))) (hw _ (mg 106 rfl)) (hw _ (mg 105 rfl)) (hw _ (mg 87 rfl)) (hw _ (mg 107 rfl)) (by decide) X_b238 d8_19 pd_17 rfl rfl rfl rfl (by decide) (by decide) (by decide) (by decide) (fun v241 h241 S241 hq241 => ?_)
  obtain ⟨rfl, K242, G1, G2, G3, V242⟩ := hq241
  have hn := Nat.le_trans hn K242.1
  replace S_C := sta_keep S_C K242 (nsS X_b238.nostat (nsS V240.nostat ns0))
  replace X_a2 := X_a2.keep K242
  replace F_value_a2 := F_value_a2.keep K242 (ninS ne_a2_b238 (ninS ne_a2_u240 nin0))
  replace F_coder_a2 := F_coder_a2.keep K242 (ninS ne_a2_b238 (ninS ne_a2_u240 nin0))
  replace V_t2 := V_t2.keep K242 (ninS ne_t2_b238 (ninS ne_t2_u240 nin0))
  replace X_b238 := X_b238.keep K242
  have K := K.trans K242 (allS (Or.inr sz_b238) (allS (Or.inr sz_u240) all0))
  have F_value_b238 := G1
  have F_coder_b238 := G2
  have F_count_b238 := G3
  refine ⟨[], all0, ?_⟩
  refine OAt.cast (st' := [(.ref b238)]) rfl ?_
  refine Own.ldcC_ (vs := [(.int (35 : Int32))]) (z := (1 : Int32)) 4 (hw _ (mg 141 rfl)) (own_wS hw) (mg 0 rfl) (own_EW hw) ⟨by decide, by decide⟩ rfl d8_22 (by decide) (by decide) (by decide) (by decide) (fun h243 b243 t243 kt243 E243 X_b243 F_coder_b243 F_value_b243 V_t243 hne243 => ?_)
  have hn := Nat.le_trans hn E243.1
  replace X_a2 := X_a2.ext E243
  replace F_value_a2 := F_value_a2.ext E243
  replace F_coder_a2 := F_coder_a2.ext E243
  replace V_t2 := V_t2.ext E243
  replace S_C := S_C.ext E243
  replace X_b238 := X_b238.ext E243
  replace F_value_b238 := F_value_b238.ext E243
  replace F_coder_b238 := F_coder_b238.ext E243
  replace F_count_b238 := F_count_b238.ext E243
  replace V242 := V242.ext E243
  have ne_u240_b243 := (hne243 u240 (mg 0 rfl)).1
  have ne_u240_t243 := (hne243 u240 (mg 0 rfl)).2
  have ne_b243_u240 := Ne.symm ne_u240_b243
  have ne_t243_u240 := Ne.symm ne_u240_t243
  have ne_b238_b243 := (hne243 b238 (mg 1 rfl)).1
  have ne_b238_t243 := (hne243 b238 (mg 1 rfl)).2
  have ne_b243_b238 := Ne.symm ne_b238_b243
  have ne_t243_b238 := Ne.symm ne_b238_t243
  have K := K.ext E243
  refine Own.callV_ b238 [(.ref b243)] [] 0 (rmSA2_1 l Z a0 hw [] b238 b243 t243 kt243 u240 ku240 zc x0 x1 (.int (35 : Int32)) h243 n0 hn X_b243 F_value_b243 F_coder_b243 V_t243 X_b238 F_value_b238 F_coder_b238 F_count_b238 V242 S_C hz g_b238 g_u240 ne_b238_u240 ne_b243_u240 ne_t243_u240 ne_b243_b238 ne_t243_b238) (allS (mg 1 rfl) (allS (mg 0 rfl) all0)) (hw _ (mg 103 rfl)) (hw _ (mg 104 rfl)) (fun s hZ => notFace_of_selects (args := #[]) (mvT hZ (hw _ (mg 106 rfl)))) (hw _ (mg 106 rfl)) (hw _ (mg 105 rfl)) (hw _ (mg 87 rfl)) (hw _ (mg 107 rfl)) (by decide) X_b238 d8_24 pd_17 rfl rfl rfl rfl (by decide) (by decide) (by decide) (by decide) (fun v244 h244 S244 hq244 => ?_)
  obtain ⟨rfl, K245, G1, G2, G3, V245⟩ := hq244
  have hn := Nat.le_trans hn K245.1
  replace S_C := sta_keep S_C K245 (nsS X_b238.nostat (nsS V242.nostat ns0))
  replace X_a2 := X_a2.keep K245
  replace F_value_a2 := F_value_a2.keep K245 (ninS ne_a2_b238 (ninS ne_a2_u240 nin0))
  replace F_coder_a2 := F_coder_a2.keep K245 (ninS ne_a2_b238 (ninS ne_a2_u240 nin0))
  replace V_t2 := V_t2.keep K245 (ninS ne_t2_b238 (ninS ne_t2_u240 nin0))
  replace X_b238 := X_b238.keep K245
  have K := K.trans K245 (allS (Or.inr sz_b238) (allS (Or.inr sz_u240) all0))
  have F_value_b238 := G1
  have F_coder_b238 := G2
  have F_count_b238 := G3
  refine ⟨[], all0, ?_⟩
  refine OAt.cast (st' := [(.ref b238)]) rfl ?_
  refine Own.aloadN d8_27 rfl rfl ?_
  refine Own.callV_ b238 [(.ref a2)] [] 0 (rmSA3_1 l Z a0 hw [] b238 a2 t2 k2 u240 ku240 zc x0 x1 (.int (35 : Int32)) y0 h244 n0 hn X_a2 F_value_a2 F_coder_a2 V_t2 X_b238 F_value_b238 F_coder_b238 F_count_b238 V245 S_C hz g_b238 g_u240 ne_b238_u240 ne_a2_u240 ne_t2_u240 ne_a2_b238 ne_t2_b238) (allS (mg 1 rfl) (allS (mg 0 rfl) all0)) (hw _ (mg 103 rfl)) (hw _ (mg 104 rfl)) (fun s hZ => notFace_of_selects (args := #[]) (mvT hZ (hw _ (mg 106 rfl)))) (hw _ (mg 106 rfl)) (hw _ (mg 105 rfl)) (hw _ (mg 87 rfl)) (hw _ (mg 107 rfl)) (by decide) X_b238 d8_28 pd_17 rfl rfl rfl rfl (by decide) (by decide) (by decide) (by decide) (fun v246 h246 S246 hq246 => ?_)
  obtain ⟨rfl, K247, G1, G2, G3, V247⟩ := hq246
  have hn := Nat.le_trans hn K247.1
  replace S_C := sta_keep S_C K247 (nsS X_b238.nostat (nsS V245.nostat ns0))
  replace X_b238 := X_b238.keep K247
  have K := K.trans K247 (allS (Or.inr sz_b238) (allS (Or.inr sz_u240) all0))
  have F_value_b238 := G1
  have F_coder_b238 := G2
  have F_count_b238 := G3
  refine ⟨[], all0, ?_⟩
  refine OAt.cast (st' := [(.ref b238)]) rfl ?_
  refine Own.callV_ b238 [] [] 0 (rmTS4 l Z a0 hw [] b238 u240 ku240 zc x0 x1 (.int (35 : Int32)) y0 h246 n0 hn X_b238 F_value_b238 F_coder_b238 F_count_b238 V247 S_C hz) all0 (hw _ (mg 142 rfl)) (hw _ (mg 143 rfl)) (fun s hZ => notFace_of_selects (args := #[]) (mvT hZ (hw _ (mg 145 rfl)))) (hw _ (mg 145 rfl)) (hw _ (mg 144 rfl)) (hw _ (mg 87 rfl)) (hw _ (mg 146 rfl)) (by decide) X_b238 d8_31 pd_2 rfl rfl rfl rfl (by decide) (by decide) (by decide) (by decide) (fun v248 h248 S248 hq248 => ?_)
  obtain ⟨K249, s249, t249, kt249, rfl, X_s249, F_value_s249, F_coder_s249, V_t249⟩ := hq248
  have K := K.trans K249 all0
  refine ⟨[], all0, ?_⟩
  refine OAt.cast (st' := [(.ref s249)]) rfl ?_
  refine Own.ret_ref (t := (.object "java/lang/String")) rfl rfl rfl d8_34 (by decide) (by decide) (fun Sf hSf => ?_)
  exact ⟨K, s249, t249, kt249, rfl, X_s249, F_value_s249, F_coder_s249, V_t249⟩
def Q_rmSL2_2 (Z : State) (x0 : Value) (x1 : Value) (y0 : Value) (y1 : Value) (h0 : Heap) (n0 : Nat) (v : Option Value) (h : Heap) (Sf : Addr → Prop) : Prop := Keep h0 h [] ∧ ∃ (a b : Addr) (kb : ClassId), v = some (.ref a) ∧ XSt Z h a ∧ FSv Z h a (.ref b) ∧ FSc Z h a Z0 ∧ Arl Z h b kb .byte [x0, x1, (.int (35 : Int32)), y0, y1]
theorem ef_rmSL2_2 (m : MethodId) (a1 : Addr) (a2 : Addr)  : entryFrame m #[(.ref a1), (.ref a2)] 2 = mkF m 0 #[.val (.ref a1), .val (.ref a2)] [] := by simp [entryFrame, mkF, argsToLocals, Value.category]
theorem rmSL2_2 (l : Launch) (Z : State) (a0 : Array Value) (hw : HW a0 Z) (ws : List Jvm.Cond) (a1 : Addr) (t1 : Addr) (k1 : ClassId) (a2 : Addr) (t2 : Addr) (k2 : ClassId) (zc : Int32) (x0 : Value) (x1 : Value) (y0 : Value) (y1 : Value) (h0 : Heap) (n0 : Nat) (hn : n0 ≤ h0.size) (X_a1 : XSt Z h0 a1) (F_value_a1 : FSv Z h0 a1 (.ref t1)) (F_coder_a1 : FSc Z h0 a1 Z0) (V_t1 : Arl Z h0 t1 k1 .byte [x0, x1]) (X_a2 : XSt Z h0 a2) (F_value_a2 : FSv Z h0 a2 (.ref t2)) (F_coder_a2 : FSc Z h0 a2 Z0) (V_t2 : Arl Z h0 t2 k2 .byte [y0, y1]) (S_C : Sta Z h0 "java/lang/String" "COMPACT_STRINGS" "Z" (.int zc)) (hz : ¬ zc = 0) :
    Met own_EL l Z (⟨"com/example/hits_by_heading/hitsbyheading/document/Document", "sectionLocation", "(Ljava/lang/String;Ljava/lang/String;)Ljava/lang/String;"⟩ : MethodName) prog_1_method_7_code 2 (some (.object "java/lang/String")) ({ frames := 6, cells := 12, slots := 80, locals := 124 } : Room) ws #[(.ref a1), (.ref a2)] h0 n0 [] (Q_rmSL2_2 Z x0 x1 y0 y1 h0 n0) := by
  refine Met.of pn_8 (fun m => ef_rmSL2_2 m a1 a2) ?_
  have K := Keep.refl h0 []
  refine Own.aloadN d8_0 rfl rfl ?_
  refine Own.callVP a2 [] [] 0 (rm_empty_2 l Z a0 hw [] a2 t2 k2 _ zc h0 n0 hn X_a2 F_value_a2 F_coder_a2 V_t2 rfl S_C hz) (hw _ (mg 42 rfl)) (hw _ (mg 43 rfl)) (fun s hZ => notFace_of_selects (args := #[]) (mvT hZ (hw _ (mg 45 rfl)))) (hw _ (mg 45 rfl)) (hw _ (mg 44 rfl)) (hw _ (mg 7 rfl)) (hw _ (mg 46 rfl)) (by decide) X_a2 d8_1 pd_4 rfl rfl rfl rfl (by decide) (by decide) (by decide) (by decide) ?_
  refine Own.if_eq 11 d8_4 (by decide) rfl (fun _ => ?_) (fun q => absurd (by decide) q)
  refine Own.new_ (hw _ (mg 85 rfl)) (hw _ (mg 86 rfl)) (hw _ (mg 87 rfl)) d8_11 (by decide) (by decide) (fun h250 b250 gb250 E250 X250 D250 => ?_)
  have g_b250 : n0 ≤ b250 := by rw [gb250]; exact hn
  have ne_a1_b250 : a1 ≠ b250 := fun q => Nat.ne_of_lt X_a1.lt (q.trans gb250)
  have ne_t1_b250 : t1 ≠ b250 := fun q => Nat.ne_of_lt V_t1.lt (q.trans gb250)
  have ne_a2_b250 : a2 ≠ b250 := fun q => Nat.ne_of_lt X_a2.lt (q.trans gb250)
  have ne_t2_b250 : t2 ≠ b250 := fun q => Nat.ne_of_lt V_t2.lt (q.trans gb250)
  have hn := Nat.le_trans hn E250.1
  replace X_a1 := X_a1.ext E250
  replace F_value_a1 := F_value_a1.ext E250
  replace F_coder_a1 := F_coder_a1.ext E250
  replace V_t1 := V_t1.ext E250
  replace X_a2 := X_a2.ext E250
  replace F_value_a2 := F_value_a2.ext E250
  replace F_coder_a2 := F_coder_a2.ext E250
  replace V_t2 := V_t2.ext E250
  replace S_C := S_C.ext E250
  have X_b250 := X250
  have F_value_b250 : FAv Z h250 b250 .null := D250 (Or.inl (hw _ (mg 100 rfl))) (ty := (.array .byte)) (by decide)
  have F_coder_b250 : FAc Z h250 b250 Z0 := D250 (Or.inl (hw _ (mg 102 rfl))) (ty := .byte) (by decide)
  have F_count_b250 : FAn Z h250 b250 Z0 := D250 (Or.inl (hw _ (mg 115 rfl))) (ty := .int) (by decide)
  have sz_b250 : h0.size ≤ b250 := by rw [gb250]; exact K.1
  have K := K.ext E250
  refine Own.dup d8_14 rfl ?_
  refine Own.callI_ b250 [] [(.ref b250)] 1 (rmSBI l Z a0 hw [] b250 zc h250 n0 hn X_b250 g_b250 F_value_b250 F_coder_b250 F_count_b250 S_C hz) (allS (mg 0 rfl) all0) (hw _ (mg 88 rfl)) (hw _ (mg 89 rfl)) (hw _ (mg 87 rfl)) (hw _ (mg 90 rfl)) rfl (by decide) d8_15 pd_3 rfl rfl rfl rfl (by decide) (by decide) (by decide) (by decide) (fun v251 h251 S251 hq251 => ?_)
  obtain ⟨rfl, K252, u252, ku252, z252, G1, G2, G3, V252, Y252⟩ := hq251
  have g_u252 : n0 ≤ u252 := Nat.le_trans hn z252
  have ne_a1_u252 : a1 ≠ u252 := Nat.ne_of_lt (Nat.lt_of_lt_of_le X_a1.lt z252)
  have ne_t1_u252 : t1 ≠ u252 := Nat.ne_of_lt (Nat.lt_of_lt_of_le V_t1.lt z252)
  have ne_a2_u252 : a2 ≠ u252 := Nat.ne_of_lt (Nat.lt_of_lt_of_le X_a2.lt z252)
  have ne_t2_u252 : t2 ≠ u252 := Nat.ne_of_lt (Nat.lt_of_lt_of_le V_t2.lt z252)
  have ne_b250_u252 : b250 ≠ u252 := Nat.ne_of_lt (Nat.lt_of_lt_of_le X_b250.lt z252)
  have sz_u252 : h0.size ≤ u252 := Nat.le_trans K.1 z252
  have hn := Nat.le_trans hn K252.1
  replace S_C := sta_keep S_C K252 (nsS X_b250.nostat ns0)
  replace X_a1 := X_a1.keep K252
  replace F_value_a1 := F_value_a1.keep K252 (ninS ne_a1_b250 nin0)
  replace F_coder_a1 := F_coder_a1.keep K252 (ninS ne_a1_b250 nin0)
  replace V_t1 := V_t1.keep K252 (ninS ne_t1_b250 nin0)
  replace X_a2 := X_a2.keep K252
  replace F_value_a2 := F_value_a2.keep K252 (ninS ne_a2_b250 nin0)
  replace F_coder_a2 := F_coder_a2.keep K252 (ninS ne_a2_b250 nin0)
  replace V_t2 := V_t2.keep K252 (ninS ne_t2_b250 nin0)
  replace X_b250 := X_b250.keep K252
  have K := K.trans K252 (allS (Or.inr sz_b250) all0)
  have F_value_b250 := G1
  have F_coder_b250 := G2
  have F_count_b250 := G3
  refine ⟨[u252], (allS Y252 all0), ?_⟩
  refine OAt.cast (st' := [(.ref b250)]) rfl ?_
  refine Own.aloadN d8_18 rfl rfl ?_
  refine Own.callV_ b250 [(.ref a1)] [] 0 (rmSA0_2 l Z a0 hw [] b250 a1 t1 k1 u252 ku252 zc x0 x1 h251 n0 hn X_a1 F_value_a1 F_coder_a1 V_t1 X_b250 F_value_b250 F_coder_b250 F_count_b250 V252 S_C hz g_b250 g_u252 ne_b250_u252 ne_a1_u252 ne_t1_u252 ne_a1_b250 ne_t1_b250) (allS (mg 1 rfl) (allS (mg 0 rfl) all0)) (hw _ (mg 103 rfl)) (hw _ (mg 104 rfl)) (fun s hZ => notFace_of_selects (args := #[]) (mvT hZ (hw _ (mg 106 rfl)))) (hw _ (mg 106 rfl)) (hw _ (mg 105 rfl)) (hw _ (mg 87 rfl)) (hw _ (mg 107 rfl)) (by decide) X_b250 d8_19 pd_17 rfl rfl rfl rfl (by decide) (by decide) (by decide) (by decide) (fun v253 h253 S253 hq253 => ?_)
  obtain ⟨rfl, K254, G1, G2, G3, V254⟩ := hq253
  have hn := Nat.le_trans hn K254.1
  replace S_C := sta_keep S_C K254 (nsS X_b250.nostat (nsS V252.nostat ns0))
  replace X_a2 := X_a2.keep K254
  replace F_value_a2 := F_value_a2.keep K254 (ninS ne_a2_b250 (ninS ne_a2_u252 nin0))
  replace F_coder_a2 := F_coder_a2.keep K254 (ninS ne_a2_b250 (ninS ne_a2_u252 nin0))
  replace V_t2 := V_t2.keep K254 (ninS ne_t2_b250 (ninS ne_t2_u252 nin0))
  replace X_b250 := X_b250.keep K254
  have K := K.trans K254 (allS (Or.inr sz_b250) (allS (Or.inr sz_u252) all0))
  have F_value_b250 := G1
  have F_coder_b250 := G2
  have F_count_b250 := G3
  refine ⟨[], all0, ?_⟩
  refine OAt.cast (st' := [(.ref b250)]) rfl ?_
  refine Own.ldcC_ (vs := [(.int (35 : Int32))]) (z := (1 : Int32)) 4 (hw _ (mg 141 rfl)) (own_wS hw) (mg 0 rfl) (own_EW hw) ⟨by decide, by decide⟩ rfl d8_22 (by decide) (by decide) (by decide) (by decide) (fun h255 b255 t255 kt255 E255 X_b255 F_coder_b255 F_value_b255 V_t255 hne255 => ?_)
  have hn := Nat.le_trans hn E255.1
  replace X_a2 := X_a2.ext E255
  replace F_value_a2 := F_value_a2.ext E255
  replace F_coder_a2 := F_coder_a2.ext E255
  replace V_t2 := V_t2.ext E255
  replace S_C := S_C.ext E255
  replace X_b250 := X_b250.ext E255
  replace F_value_b250 := F_value_b250.ext E255
  replace F_coder_b250 := F_coder_b250.ext E255
  replace F_count_b250 := F_count_b250.ext E255
  replace V254 := V254.ext E255
  have ne_u252_b255 := (hne255 u252 (mg 0 rfl)).1
  have ne_u252_t255 := (hne255 u252 (mg 0 rfl)).2
  have ne_b255_u252 := Ne.symm ne_u252_b255
  have ne_t255_u252 := Ne.symm ne_u252_t255
  have ne_b250_b255 := (hne255 b250 (mg 1 rfl)).1
  have ne_b250_t255 := (hne255 b250 (mg 1 rfl)).2
  have ne_b255_b250 := Ne.symm ne_b250_b255
  have ne_t255_b250 := Ne.symm ne_b250_t255
  have K := K.ext E255
  refine Own.callV_ b250 [(.ref b255)] [] 0 (rmSA2_1 l Z a0 hw [] b250 b255 t255 kt255 u252 ku252 zc x0 x1 (.int (35 : Int32)) h255 n0 hn X_b255 F_value_b255 F_coder_b255 V_t255 X_b250 F_value_b250 F_coder_b250 F_count_b250 V254 S_C hz g_b250 g_u252 ne_b250_u252 ne_b255_u252 ne_t255_u252 ne_b255_b250 ne_t255_b250) (allS (mg 1 rfl) (allS (mg 0 rfl) all0)) (hw _ (mg 103 rfl)) (hw _ (mg 104 rfl)) (fun s hZ => notFace_of_selects (args := #[]) (mvT hZ (hw _ (mg 106 rfl)))) (hw _ (mg 106 rfl)) (hw _ (mg 105 rfl)) (hw _ (mg 87 rfl)) (hw _ (mg 107 rfl)) (by decide) X_b250 d8_24 pd_17 rfl rfl rfl rfl (by decide) (by decide) (by decide) (by decide) (fun v256 h256 S256 hq256 => ?_)
  obtain ⟨rfl, K257, G1, G2, G3, V257⟩ := hq256
  have hn := Nat.le_trans hn K257.1
  replace S_C := sta_keep S_C K257 (nsS X_b250.nostat (nsS V254.nostat ns0))
  replace X_a2 := X_a2.keep K257
  replace F_value_a2 := F_value_a2.keep K257 (ninS ne_a2_b250 (ninS ne_a2_u252 nin0))
  replace F_coder_a2 := F_coder_a2.keep K257 (ninS ne_a2_b250 (ninS ne_a2_u252 nin0))
  replace V_t2 := V_t2.keep K257 (ninS ne_t2_b250 (ninS ne_t2_u252 nin0))
  replace X_b250 := X_b250.keep K257
  have K := K.trans K257 (allS (Or.inr sz_b250) (allS (Or.inr sz_u252) all0))
  have F_value_b250 := G1
  have F_coder_b250 := G2
  have F_count_b250 := G3
  refine ⟨[], all0, ?_⟩
  refine OAt.cast (st' := [(.ref b250)]) rfl ?_
  refine Own.aloadN d8_27 rfl rfl ?_
  refine Own.callV_ b250 [(.ref a2)] [] 0 (rmSA3_2 l Z a0 hw [] b250 a2 t2 k2 u252 ku252 zc x0 x1 (.int (35 : Int32)) y0 y1 h256 n0 hn X_a2 F_value_a2 F_coder_a2 V_t2 X_b250 F_value_b250 F_coder_b250 F_count_b250 V257 S_C hz g_b250 g_u252 ne_b250_u252 ne_a2_u252 ne_t2_u252 ne_a2_b250 ne_t2_b250) (allS (mg 1 rfl) (allS (mg 0 rfl) all0)) (hw _ (mg 103 rfl)) (hw _ (mg 104 rfl)) (fun s hZ => notFace_of_selects (args := #[]) (mvT hZ (hw _ (mg 106 rfl)))) (hw _ (mg 106 rfl)) (hw _ (mg 105 rfl)) (hw _ (mg 87 rfl)) (hw _ (mg 107 rfl)) (by decide) X_b250 d8_28 pd_17 rfl rfl rfl rfl (by decide) (by decide) (by decide) (by decide) (fun v258 h258 S258 hq258 => ?_)
  obtain ⟨rfl, K259, G1, G2, G3, V259⟩ := hq258
  have hn := Nat.le_trans hn K259.1
  replace S_C := sta_keep S_C K259 (nsS X_b250.nostat (nsS V257.nostat ns0))
  replace X_b250 := X_b250.keep K259
  have K := K.trans K259 (allS (Or.inr sz_b250) (allS (Or.inr sz_u252) all0))
  have F_value_b250 := G1
  have F_coder_b250 := G2
  have F_count_b250 := G3
  refine ⟨[], all0, ?_⟩
  refine OAt.cast (st' := [(.ref b250)]) rfl ?_
  refine Own.callV_ b250 [] [] 0 (rmTS5 l Z a0 hw [] b250 u252 ku252 zc x0 x1 (.int (35 : Int32)) y0 y1 h258 n0 hn X_b250 F_value_b250 F_coder_b250 F_count_b250 V259 S_C hz) all0 (hw _ (mg 142 rfl)) (hw _ (mg 143 rfl)) (fun s hZ => notFace_of_selects (args := #[]) (mvT hZ (hw _ (mg 145 rfl)))) (hw _ (mg 145 rfl)) (hw _ (mg 144 rfl)) (hw _ (mg 87 rfl)) (hw _ (mg 146 rfl)) (by decide) X_b250 d8_31 pd_2 rfl rfl rfl rfl (by decide) (by decide) (by decide) (by decide) (fun v260 h260 S260 hq260 => ?_)
  obtain ⟨K261, s261, t261, kt261, rfl, X_s261, F_value_s261, F_coder_s261, V_t261⟩ := hq260
  have K := K.trans K261 all0
  refine ⟨[], all0, ?_⟩
  refine OAt.cast (st' := [(.ref s261)]) rfl ?_
  refine Own.ret_ref (t := (.object "java/lang/String")) rfl rfl rfl d8_34 (by decide) (by decide) (fun Sf hSf => ?_)
  exact ⟨K, s261, t261, kt261, rfl, X_s261, F_value_s261, F_coder_s261, V_t261⟩
theorem d12_0 : decode method_4_code 0 = .ok (.iload_n 1, 1) := by decide +kernel
theorem d12_1 : decode method_4_code 1 = .ok (.iload_n 2, 1) := by decide +kernel
theorem d12_2 : decode method_4_code 2 = .ok (.if_icmp .lt 5, 3) := by decide +kernel
theorem d12_5 : decode method_4_code 5 = .ok (.iconst 1, 1) := by decide +kernel
theorem d12_6 : decode method_4_code 6 = .ok (.ireturn, 1) := by decide +kernel
theorem ef_rmOK0_0_0 (m : MethodId) (a1 : Addr) (d0 : Int32) (d1 : Int32) (e0 : Int32) (e1 : Int32)  : entryFrame m #[(.ref a1), Z0, Z0, Z0, (.int d0), (.int d1), (.int e0), (.int e1)] 8 = mkF m 0 #[.val (.ref a1), .val Z0, .val Z0, .val Z0, .val (.int d0), .val (.int d1), .val (.int e0), .val (.int e1)] [] := by simp [entryFrame, mkF, argsToLocals, Value.category]
theorem pn_12 : plainFor (⟨"com/example/hits_by_heading/hitsbyheading/document/DocumentSectionLocationPinLaw", "ok", "(Ljava/lang/String;IIICCCC)Z"⟩ : MethodName) = true := plainFor_of_name (show plainName "com/example/hits_by_heading/hitsbyheading/document/DocumentSectionLocationPinLaw" = true by first | (simp [plainName, overriddenIn]; done) | decide +kernel)
theorem rmOK0_0_0 (l : Launch) (Z : State) (a0 : Array Value) (hw : HW a0 Z) (ws : List Jvm.Cond) (a1 : Addr) (d0 : Int32) (d1 : Int32) (e0 : Int32) (e1 : Int32) (h0 : Heap) (n0 : Nat) (hn : n0 ≤ h0.size) :
    Met own_EL l Z (⟨"com/example/hits_by_heading/hitsbyheading/document/DocumentSectionLocationPinLaw", "ok", "(Ljava/lang/String;IIICCCC)Z"⟩ : MethodName) method_4_code 8 (some .boolean) ({ frames := 0, cells := 0, slots := 0, locals := 0 } : Room) ws #[(.ref a1), Z0, Z0, Z0, (.int d0), (.int d1), (.int e0), (.int e1)] h0 n0 [] (Pur (.int (1 : Int32)) h0) := by
  refine Met.of pn_12 (fun m => ef_rmOK0_0_0 m a1 d0 d1 e0 e1) ?_
  refine Own.iloadN d12_0 rfl ?_
  refine Own.iloadN d12_1 rfl ?_
  refine Own.icmp_lt 7 d12_2 (by decide) rfl (fun q => absurd q (by decide)) (fun _ => ?_)
  refine Own.iconst (1 : Int32) d12_5 rfl ?_
  refine Own.ret_nar (t := .boolean) (by simp) rfl d12_6 (by decide) (by decide) (fun Sf hSf => ?_)
  exact ⟨rfl, rfl⟩
theorem ef_rmOK1_0_0 (m : MethodId) (a1 : Addr) (d0 : Int32) (d1 : Int32) (e0 : Int32) (e1 : Int32)  : entryFrame m #[(.ref a1), (.int (1 : Int32)), Z0, Z0, (.int d0), (.int d1), (.int e0), (.int e1)] 8 = mkF m 0 #[.val (.ref a1), .val (.int (1 : Int32)), .val Z0, .val Z0, .val (.int d0), .val (.int d1), .val (.int e0), .val (.int e1)] [] := by simp [entryFrame, mkF, argsToLocals, Value.category]
theorem rmOK1_0_0 (l : Launch) (Z : State) (a0 : Array Value) (hw : HW a0 Z) (ws : List Jvm.Cond) (a1 : Addr) (d0 : Int32) (d1 : Int32) (e0 : Int32) (e1 : Int32) (h0 : Heap) (n0 : Nat) (hn : n0 ≤ h0.size) :
    Met own_EL l Z (⟨"com/example/hits_by_heading/hitsbyheading/document/DocumentSectionLocationPinLaw", "ok", "(Ljava/lang/String;IIICCCC)Z"⟩ : MethodName) method_4_code 8 (some .boolean) ({ frames := 0, cells := 0, slots := 0, locals := 0 } : Room) ws #[(.ref a1), (.int (1 : Int32)), Z0, Z0, (.int d0), (.int d1), (.int e0), (.int e1)] h0 n0 [] (Pur (.int (1 : Int32)) h0) := by
  refine Met.of pn_12 (fun m => ef_rmOK1_0_0 m a1 d0 d1 e0 e1) ?_
  refine Own.iloadN d12_0 rfl ?_
  refine Own.iloadN d12_1 rfl ?_
  refine Own.icmp_lt 7 d12_2 (by decide) rfl (fun q => absurd q (by decide)) (fun _ => ?_)
  refine Own.iconst (1 : Int32) d12_5 rfl ?_
  refine Own.ret_nar (t := .boolean) (by simp) rfl d12_6 (by decide) (by decide) (fun Sf hSf => ?_)
  exact ⟨rfl, rfl⟩
theorem ef_rmOK2_0_0 (m : MethodId) (a1 : Addr) (d0 : Int32) (d1 : Int32) (e0 : Int32) (e1 : Int32)  : entryFrame m #[(.ref a1), (.int (2 : Int32)), Z0, Z0, (.int d0), (.int d1), (.int e0), (.int e1)] 8 = mkF m 0 #[.val (.ref a1), .val (.int (2 : Int32)), .val Z0, .val Z0, .val (.int d0), .val (.int d1), .val (.int e0), .val (.int e1)] [] := by simp [entryFrame, mkF, argsToLocals, Value.category]
theorem rmOK2_0_0 (l : Launch) (Z : State) (a0 : Array Value) (hw : HW a0 Z) (ws : List Jvm.Cond) (a1 : Addr) (d0 : Int32) (d1 : Int32) (e0 : Int32) (e1 : Int32) (h0 : Heap) (n0 : Nat) (hn : n0 ≤ h0.size) :
    Met own_EL l Z (⟨"com/example/hits_by_heading/hitsbyheading/document/DocumentSectionLocationPinLaw", "ok", "(Ljava/lang/String;IIICCCC)Z"⟩ : MethodName) method_4_code 8 (some .boolean) ({ frames := 0, cells := 0, slots := 0, locals := 0 } : Room) ws #[(.ref a1), (.int (2 : Int32)), Z0, Z0, (.int d0), (.int d1), (.int e0), (.int e1)] h0 n0 [] (Pur (.int (1 : Int32)) h0) := by
  refine Met.of pn_12 (fun m => ef_rmOK2_0_0 m a1 d0 d1 e0 e1) ?_
  refine Own.iloadN d12_0 rfl ?_
  refine Own.iloadN d12_1 rfl ?_
  refine Own.icmp_lt 7 d12_2 (by decide) rfl (fun q => absurd q (by decide)) (fun _ => ?_)
  refine Own.iconst (1 : Int32) d12_5 rfl ?_
  refine Own.ret_nar (t := .boolean) (by simp) rfl d12_6 (by decide) (by decide) (fun Sf hSf => ?_)
  exact ⟨rfl, rfl⟩
theorem ef_rmOK3_0_0 (m : MethodId) (a1 : Addr) (d0 : Int32) (d1 : Int32) (e0 : Int32) (e1 : Int32)  : entryFrame m #[(.ref a1), (.int (3 : Int32)), Z0, Z0, (.int d0), (.int d1), (.int e0), (.int e1)] 8 = mkF m 0 #[.val (.ref a1), .val (.int (3 : Int32)), .val Z0, .val Z0, .val (.int d0), .val (.int d1), .val (.int e0), .val (.int e1)] [] := by simp [entryFrame, mkF, argsToLocals, Value.category]
theorem rmOK3_0_0 (l : Launch) (Z : State) (a0 : Array Value) (hw : HW a0 Z) (ws : List Jvm.Cond) (a1 : Addr) (d0 : Int32) (d1 : Int32) (e0 : Int32) (e1 : Int32) (h0 : Heap) (n0 : Nat) (hn : n0 ≤ h0.size) :
    Met own_EL l Z (⟨"com/example/hits_by_heading/hitsbyheading/document/DocumentSectionLocationPinLaw", "ok", "(Ljava/lang/String;IIICCCC)Z"⟩ : MethodName) method_4_code 8 (some .boolean) ({ frames := 0, cells := 0, slots := 0, locals := 0 } : Room) ws #[(.ref a1), (.int (3 : Int32)), Z0, Z0, (.int d0), (.int d1), (.int e0), (.int e1)] h0 n0 [] (Pur (.int (1 : Int32)) h0) := by
  refine Met.of pn_12 (fun m => ef_rmOK3_0_0 m a1 d0 d1 e0 e1) ?_
  refine Own.iloadN d12_0 rfl ?_
  refine Own.iloadN d12_1 rfl ?_
  refine Own.icmp_lt 7 d12_2 (by decide) rfl (fun q => absurd q (by decide)) (fun _ => ?_)
  refine Own.iconst (1 : Int32) d12_5 rfl ?_
  refine Own.ret_nar (t := .boolean) (by simp) rfl d12_6 (by decide) (by decide) (fun Sf hSf => ?_)
  exact ⟨rfl, rfl⟩
theorem ef_rmOK4_0_0 (m : MethodId) (a1 : Addr) (d0 : Int32) (d1 : Int32) (e0 : Int32) (e1 : Int32)  : entryFrame m #[(.ref a1), (.int (4 : Int32)), Z0, Z0, (.int d0), (.int d1), (.int e0), (.int e1)] 8 = mkF m 0 #[.val (.ref a1), .val (.int (4 : Int32)), .val Z0, .val Z0, .val (.int d0), .val (.int d1), .val (.int e0), .val (.int e1)] [] := by simp [entryFrame, mkF, argsToLocals, Value.category]
theorem rmOK4_0_0 (l : Launch) (Z : State) (a0 : Array Value) (hw : HW a0 Z) (ws : List Jvm.Cond) (a1 : Addr) (d0 : Int32) (d1 : Int32) (e0 : Int32) (e1 : Int32) (h0 : Heap) (n0 : Nat) (hn : n0 ≤ h0.size) :
    Met own_EL l Z (⟨"com/example/hits_by_heading/hitsbyheading/document/DocumentSectionLocationPinLaw", "ok", "(Ljava/lang/String;IIICCCC)Z"⟩ : MethodName) method_4_code 8 (some .boolean) ({ frames := 0, cells := 0, slots := 0, locals := 0 } : Room) ws #[(.ref a1), (.int (4 : Int32)), Z0, Z0, (.int d0), (.int d1), (.int e0), (.int e1)] h0 n0 [] (Pur (.int (1 : Int32)) h0) := by
  refine Met.of pn_12 (fun m => ef_rmOK4_0_0 m a1 d0 d1 e0 e1) ?_
  refine Own.iloadN d12_0 rfl ?_
  refine Own.iloadN d12_1 rfl ?_
  refine Own.icmp_lt 7 d12_2 (by decide) rfl (fun q => absurd q (by decide)) (fun _ => ?_)
  refine Own.iconst (1 : Int32) d12_5 rfl ?_
  refine Own.ret_nar (t := .boolean) (by simp) rfl d12_6 (by decide) (by decide) (fun Sf hSf => ?_)
  exact ⟨rfl, rfl⟩
theorem d17_0 : decode jdk_41_method_11_code 0 = .ok (.iload_n 0, 1) := by decide +kernel
theorem d17_1 : decode jdk_41_method_11_code 1 = .ok (.ifCond .lt 8, 3) := by decide +kernel
theorem d17_4 : decode jdk_41_method_11_code 4 = .ok (.iload_n 0, 1) := by decide +kernel
theorem d17_5 : decode jdk_41_method_11_code 5 = .ok (.iload_n 1, 1) := by decide +kernel
theorem d17_6 : decode jdk_41_method_11_code 6 = .ok (.if_icmp .lt 10, 3) := by decide +kernel
theorem d17_16 : decode jdk_41_method_11_code 16 = .ok (.iload_n 0, 1) := by decide +kernel
theorem d17_17 : decode jdk_41_method_11_code 17 = .ok (.ireturn, 1) := by decide +kernel
theorem ef_rmPIc_0_2 (m : MethodId) (vf : Value) (hr_2 : (vf).isRef = true) : entryFrame m #[Z0, (.int (2 : Int32)), vf] 3 = mkF m 0 #[.val Z0, .val (.int (2 : Int32)), .val vf] [] := by rcases ref_cases hr_2 with rfl | ⟨z2, rfl⟩ <;> first | (simp [entryFrame, mkF, argsToLocals, Value.category]; done) | rfl
theorem pn_17 : plainFor (⟨"jdk/internal/util/Preconditions", "checkIndex", "(IILjava/util/function/BiFunction;)I"⟩ : MethodName) = true := plainFor_of_name (show plainName "jdk/internal/util/Preconditions" = true by first | (simp [plainName, overriddenIn]; done) | decide +kernel)
theorem rmPIc_0_2 (l : Launch) (Z : State) (a0 : Array Value) (hw : HW a0 Z) (ws : List Jvm.Cond) (vf : Value) (h0 : Heap) (n0 : Nat) (hn : n0 ≤ h0.size) (hvf : vf.isRef = true) :
    Met own_EL l Z (⟨"jdk/internal/util/Preconditions", "checkIndex", "(IILjava/util/function/BiFunction;)I"⟩ : MethodName) jdk_41_method_11_code 3 (some .int) ({ frames := 0, cells := 0, slots := 0, locals := 0 } : Room) ws #[Z0, (.int (2 : Int32)), vf] h0 n0 [] (Pur Z0 h0) := by
  refine Met.of pn_17 (fun m => ef_rmPIc_0_2 m vf hvf) ?_
  refine Own.iloadN d17_0 rfl ?_
  refine Own.if_lt 9 d17_1 (by decide) rfl (fun q => absurd q (by decide)) (fun _ => ?_)
  refine Own.iloadN d17_4 rfl ?_
  refine Own.iloadN d17_5 rfl ?_
  refine Own.icmp_lt 16 d17_6 (by decide) rfl (fun _ => ?_) (fun q => absurd (by decide) q)
  refine Own.iloadN d17_16 rfl ?_
  refine Own.ret_int rfl d17_17 (by decide) (by decide) (fun Sf hSf => ?_)
  exact ⟨rfl, rfl⟩
theorem d16_0 : decode jdk_42_method_155_code 0 = .ok (.iload_n 0, 1) := by decide +kernel
theorem d16_1 : decode jdk_42_method_155_code 1 = .ok (.iload_n 1, 1) := by decide +kernel
theorem d16_2 : decode jdk_42_method_155_code 2 = .ok (.getstatic 1053, 3) := by decide +kernel
theorem d16_5 : decode jdk_42_method_155_code 5 = .ok (.invokestatic 1059, 3) := by decide +kernel
theorem pd_12 : parseMethodDescriptor "(IILjava/util/function/BiFunction;)I" = some ⟨[.int, .int, (.object "java/util/function/BiFunction")], some .int⟩ := by decide +kernel
theorem d16_8 : decode jdk_42_method_155_code 8 = .ok (.pop, 1) := by decide +kernel
theorem d16_9 : decode jdk_42_method_155_code 9 = .ok (.return_, 1) := by decide +kernel
theorem ef_rmSIc_0_2 (m : MethodId)   : entryFrame m #[Z0, (.int (2 : Int32))] 2 = mkF m 0 #[.val Z0, .val (.int (2 : Int32))] [] := by simp [entryFrame, mkF, argsToLocals, Value.category]
theorem pn_16 : plainFor (⟨"java/lang/String", "checkIndex", "(II)V"⟩ : MethodName) = true := plainFor_of_name (show plainName "java/lang/String" = true by first | (simp [plainName, overriddenIn]; done) | decide +kernel)
theorem rmSIc_0_2 (l : Launch) (Z : State) (a0 : Array Value) (hw : HW a0 Z) (ws : List Jvm.Cond) (vf : Value) (h0 : Heap) (n0 : Nat) (hn : n0 ≤ h0.size) (S_F : Sta Z h0 "jdk/internal/util/Preconditions" "SIOOBE_FORMATTER" "Ljava/util/function/BiFunction;" vf) (hvf : vf.isRef = true) :
    Met own_EL l Z (⟨"java/lang/String", "checkIndex", "(II)V"⟩ : MethodName) jdk_42_method_155_code 2 none ({ frames := 1, cells := 0, slots := 0, locals := 14 } : Room) ws #[Z0, (.int (2 : Int32))] h0 n0 [] (Pur0 h0) := by
  refine Met.of pn_16 (fun m => ef_rmSIc_0_2 m ) ?_
  refine Own.iloadN d16_0 rfl ?_
  refine Own.iloadN d16_1 rfl ?_
  refine Own.getS_ (host := "") (Or.inl (hw _ (mg 77 rfl))) Via.refl S_F d16_2 ?_
  refine Own.callSP [Z0, (.int (2 : Int32)), vf] [] 0 (rmPIc_0_2 l Z a0 hw [] vf h0 n0 hn hvf) (hw _ (mg 79 rfl)) (hw _ (mg 80 rfl)) (hw _ (mg 78 rfl)) (hw _ (mg 81 rfl)) (by decide) d16_5 pd_12 rfl rfl rfl rfl (by decide) (by decide) (by decide) (by decide) ?_
  refine Own.pop d16_8 rfl ?_
  refine Own.ret_void rfl d16_9 (by decide) (by decide) (fun Sf hSf => ?_)
  exact ⟨rfl, rfl⟩
theorem d15_0 : decode jdk_43_method_2_code 0 = .ok (.iload_n 1, 1) := by decide +kernel
theorem d15_1 : decode jdk_43_method_2_code 1 = .ok (.aload_n 0, 1) := by decide +kernel
theorem d15_2 : decode jdk_43_method_2_code 2 = .ok (.arraylength, 1) := by decide +kernel
theorem d15_3 : decode jdk_43_method_2_code 3 = .ok (.invokestatic 9, 3) := by decide +kernel
theorem d15_6 : decode jdk_43_method_2_code 6 = .ok (.aload_n 0, 1) := by decide +kernel
theorem d15_7 : decode jdk_43_method_2_code 7 = .ok (.iload_n 1, 1) := by decide +kernel
theorem d15_8 : decode jdk_43_method_2_code 8 = .ok (.baload, 1) := by decide +kernel
theorem d15_9 : decode jdk_43_method_2_code 9 = .ok (.sipush 255, 3) := by decide +kernel
theorem d15_12 : decode jdk_43_method_2_code 12 = .ok (.iand, 1) := by decide +kernel
theorem d15_13 : decode jdk_43_method_2_code 13 = .ok (.i2c, 1) := by decide +kernel
theorem d15_14 : decode jdk_43_method_2_code 14 = .ok (.ireturn, 1) := by decide +kernel
theorem ef_rmLC0_2 (m : MethodId) (a1 : Addr)  : entryFrame m #[(.ref a1), Z0] 2 = mkF m 0 #[.val (.ref a1), .val Z0] [] := by simp [entryFrame, mkF, argsToLocals, Value.category]
theorem pn_15 : plainFor (⟨"java/lang/StringLatin1", "charAt", "([BI)C"⟩ : MethodName) = true := plainFor_of_name (show plainName "java/lang/StringLatin1" = true by first | (simp [plainName, overriddenIn]; done) | decide +kernel)
theorem rmLC0_2 (l : Launch) (Z : State) (a0 : Array Value) (hw : HW a0 Z) (ws : List Jvm.Cond) (a1 : Addr) (ka : ClassId) (vs : List Value) (x : Int32) (vf : Value) (h0 : Heap) (n0 : Nat) (hn : n0 ≤ h0.size) (V_a1 : Arl Z h0 a1 ka .byte vs) (hl : vs.length = 2) (hx : vs[0]? = some (.int x)) (S_F : Sta Z h0 "jdk/internal/util/Preconditions" "SIOOBE_FORMATTER" "Ljava/util/function/BiFunction;" vf) (hvf : vf.isRef = true) :
    Met own_EL l Z (⟨"java/lang/StringLatin1", "charAt", "([BI)C"⟩ : MethodName) jdk_43_method_2_code 2 (some .char) ({ frames := 2, cells := 0, slots := 0, locals := 27 } : Room) ws #[(.ref a1), Z0] h0 n0 [] (Pur (.int (own_lc x)) h0) := by
  refine Met.of pn_15 (fun m => ef_rmLC0_2 m a1) ?_
  refine Own.iloadN d15_0 rfl ?_
  refine Own.aloadN d15_1 rfl rfl ?_
  refine Own.arraylength_ (2 : Int32) V_a1 (by rw [hl]; rfl) d15_2 ?_
  refine Own.callS0 [Z0, (.int (2 : Int32))] [] 0 (rmSIc_0_2 l Z a0 hw [] vf h0 n0 hn S_F hvf) (hw _ (mg 74 rfl)) (hw _ (mg 75 rfl)) (hw _ (mg 7 rfl)) (hw _ (mg 76 rfl)) (by decide) d15_3 pd_10 rfl rfl rfl rfl (by decide) (by decide) (by decide) (by decide) ?_
  refine Own.aloadN d15_6 rfl rfl ?_
  refine Own.iloadN d15_7 rfl ?_
  refine Own.baload_ V_a1 (i := 0) rfl (v := (.int x)) hx d15_8 ?_
  refine Own.sipush (255 : Int32) d15_9 rfl ?_
  refine Own.iand d15_12 ?_
  refine Own.i2c d15_13 ?_
  refine Own.ret_nar (t := .char) (by simp) rfl d15_14 (by decide) (by decide) (fun Sf hSf => ?_)
  exact ⟨rfl, rfl⟩
theorem d13_0 : decode jdk_42_method_56_code 0 = .ok (.aload_n 0, 1) := by decide +kernel
theorem d13_1 : decode jdk_42_method_56_code 1 = .ok (.invokevirtual 492, 3) := by decide +kernel
theorem d13_4 : decode jdk_42_method_56_code 4 = .ok (.ifCond .eq 12, 3) := by decide +kernel
theorem d13_7 : decode jdk_42_method_56_code 7 = .ok (.aload_n 0, 1) := by decide +kernel
theorem d13_8 : decode jdk_42_method_56_code 8 = .ok (.getfield 9, 3) := by decide +kernel
theorem d13_11 : decode jdk_42_method_56_code 11 = .ok (.iload_n 1, 1) := by decide +kernel
theorem d13_12 : decode jdk_42_method_56_code 12 = .ok (.invokestatic 495, 3) := by decide +kernel
theorem pd_23 : parseMethodDescriptor "([BI)C" = some ⟨[(.array .byte), .int], some .char⟩ := by decide +kernel
theorem d13_15 : decode jdk_42_method_56_code 15 = .ok (.ireturn, 1) := by decide +kernel
theorem ef_rmCA0_2 (m : MethodId) (a1 : Addr)  : entryFrame m #[(.ref a1), Z0] 2 = mkF m 0 #[.val (.ref a1), .val Z0] [] := by simp [entryFrame, mkF, argsToLocals, Value.category]
theorem pn_13 : plainFor (⟨"java/lang/String", "charAt", "(I)C"⟩ : MethodName) = true := plainFor_of_name (show plainName "java/lang/String" = true by first | (simp [plainName, overriddenIn]; done) | decide +kernel)
theorem rmCA0_2 (l : Launch) (Z : State) (a0 : Array Value) (hw : HW a0 Z) (ws : List Jvm.Cond) (a1 : Addr) (b : Addr) (kb : ClassId) (vs : List Value) (x : Int32) (zc : Int32) (vf : Value) (h0 : Heap) (n0 : Nat) (hn : n0 ≤ h0.size) (X_a1 : XSt Z h0 a1) (F_value_a1 : FSv Z h0 a1 (.ref b)) (F_coder_a1 : FSc Z h0 a1 Z0) (V_b : Arl Z h0 b kb .byte vs) (hl : vs.length = 2) (hx : vs[0]? = some (.int (nar .byte (x.toInt8.toInt32)))) (S_C : Sta Z h0 "java/lang/String" "COMPACT_STRINGS" "Z" (.int zc)) (S_F : Sta Z h0 "jdk/internal/util/Preconditions" "SIOOBE_FORMATTER" "Ljava/util/function/BiFunction;" vf) (hz : ¬ zc = 0) (hvf : vf.isRef = true) (hr : 0 ≤ x.toInt ∧ x.toInt < 65536) (hlat : ¬ (255 : Int32) < x) :
    Met own_EL l Z (⟨"java/lang/String", "charAt", "(I)C"⟩ : MethodName) jdk_42_method_56_code 2 (some .char) ({ frames := 3, cells := 0, slots := 0, locals := 40 } : Room) ws #[(.ref a1), Z0] h0 n0 [] (Pur (.int x) h0) := by
  refine Met.of pn_13 (fun m => ef_rmCA0_2 m a1) ?_
  refine Own.aloadN d13_0 rfl rfl ?_
  refine Own.callVP a1 [] [] 0 (rm_lat_2 l Z a0 hw [] a1 b kb vs zc h0 n0 hn X_a1 F_value_a1 F_coder_a1 V_b hl S_C hz) (hw _ (mg 65 rfl)) (hw _ (mg 66 rfl)) (fun s hZ => notFace_of_selects (args := #[]) (mvT hZ (hw _ (mg 68 rfl)))) (hw _ (mg 68 rfl)) (hw _ (mg 67 rfl)) (hw _ (mg 7 rfl)) (hw _ (mg 69 rfl)) (by decide) X_a1 d13_1 pd_4 rfl rfl rfl rfl (by decide) (by decide) (by decide) (by decide) ?_
  refine Own.if_eq 16 d13_4 (by decide) rfl (fun q => absurd q (by decide)) (fun _ => ?_)
  refine Own.aloadN d13_7 rfl rfl ?_
  refine Own.getF_ (host := "") (Or.inl (hw _ (mg 33 rfl))) Via.refl F_value_a1 d13_8 ?_
  refine Own.iloadN d13_11 rfl ?_
  refine Own.callSP [(.ref b), Z0] [] 0 (rmLC0_2 l Z a0 hw [] b kb vs _ vf h0 n0 hn V_b hl hx S_F hvf) (hw _ (mg 70 rfl)) (hw _ (mg 71 rfl)) (hw _ (mg 72 rfl)) (hw _ (mg 73 rfl)) (by decide) d13_12 pd_23 rfl rfl rfl rfl (by decide) (by decide) (by decide) (by decide) ?_
  refine Own.ret_nar (t := .char) (by simp) rfl d13_15 (by decide) (by decide) (fun Sf hSf => ?_)
  exact ⟨congrArg (fun z => some (Value.int z)) (by rw [own_lcv hr.1 hlat, own_ncv hr.1 hr.2]), rfl⟩
theorem d18_0 : decode method_5_code 0 = .ok (.iload_n 0, 1) := by decide +kernel
theorem d18_1 : decode method_5_code 1 = .ok (.iload_n 1, 1) := by decide +kernel
theorem d18_2 : decode method_5_code 2 = .ok (.if_icmp .ge 13, 3) := by decide +kernel
theorem d18_15 : decode method_5_code 15 = .ok (.iload_n 0, 1) := by decide +kernel
theorem d18_16 : decode method_5_code 16 = .ok (.iload_n 1, 1) := by decide +kernel
theorem d18_17 : decode method_5_code 17 = .ok (.if_icmp .ne 6, 3) := by decide +kernel
theorem d18_20 : decode method_5_code 20 = .ok (.bipush 35, 2) := by decide +kernel
theorem d18_22 : decode method_5_code 22 = .ok (.ireturn, 1) := by decide +kernel
theorem ef_rmEX0_0 (m : MethodId) (d0 : Int32) (d1 : Int32) (e0 : Int32) (e1 : Int32)  : entryFrame m #[Z0, Z0, (.int d0), (.int d1), (.int e0), (.int e1)] 7 = mkF m 0 #[.val Z0, .val Z0, .val (.int d0), .val (.int d1), .val (.int e0), .val (.int e1), .unset] [] := by simp [entryFrame, mkF, argsToLocals, Value.category]
theorem pn_18 : plainFor (⟨"com/example/hits_by_heading/hitsbyheading/document/DocumentSectionLocationPinLaw", "expected", "(IICCCC)C"⟩ : MethodName) = true := plainFor_of_name (show plainName "com/example/hits_by_heading/hitsbyheading/document/DocumentSectionLocationPinLaw" = true by first | (simp [plainName, overriddenIn]; done) | decide +kernel)
theorem rmEX0_0 (l : Launch) (Z : State) (a0 : Array Value) (hw : HW a0 Z) (ws : List Jvm.Cond) (d0 : Int32) (d1 : Int32) (e0 : Int32) (e1 : Int32) (h0 : Heap) (n0 : Nat) (hn : n0 ≤ h0.size) :
    Met own_EL l Z (⟨"com/example/hits_by_heading/hitsbyheading/document/DocumentSectionLocationPinLaw", "expected", "(IICCCC)C"⟩ : MethodName) method_5_code 7 (some .char) ({ frames := 0, cells := 0, slots := 0, locals := 0 } : Room) ws #[Z0, Z0, (.int d0), (.int d1), (.int e0), (.int e1)] h0 n0 [] (Pur (.int (nar .char (35 : Int32))) h0) := by
  refine Met.of pn_18 (fun m => ef_rmEX0_0 m d0 d1 e0 e1) ?_
  refine Own.iloadN d18_0 rfl ?_
  refine Own.iloadN d18_1 rfl ?_
  refine Own.icmp_ge 15 d18_2 (by decide) rfl (fun _ => ?_) (fun q => absurd q (by decide))
  refine Own.iloadN d18_15 rfl ?_
  refine Own.iloadN d18_16 rfl ?_
  refine Own.icmp_ne 23 d18_17 (by decide) rfl (fun q => absurd (by decide) q) (fun _ => ?_)
  refine Own.bipush (35 : Int32) d18_20 rfl ?_
  refine Own.ret_nar (t := .char) (by simp) rfl d18_22 (by decide) (by decide) (fun Sf hSf => ?_)
  exact ⟨rfl, rfl⟩
theorem d12_7 : decode method_4_code 7 = .ok (.aload_n 0, 1) := by decide +kernel
theorem d12_8 : decode method_4_code 8 = .ok (.iload_n 1, 1) := by decide +kernel
theorem d12_9 : decode method_4_code 9 = .ok (.invokevirtual 33, 3) := by decide +kernel
theorem pd_6 : parseMethodDescriptor "(I)C" = some ⟨[.int], some .char⟩ := by decide +kernel
theorem d12_12 : decode method_4_code 12 = .ok (.iload_n 1, 1) := by decide +kernel
theorem d12_13 : decode method_4_code 13 = .ok (.iload_n 3, 1) := by decide +kernel
theorem d12_14 : decode method_4_code 14 = .ok (.iload 4, 2) := by decide +kernel
theorem d12_16 : decode method_4_code 16 = .ok (.iload 5, 2) := by decide +kernel
theorem d12_18 : decode method_4_code 18 = .ok (.iload 6, 2) := by decide +kernel
theorem d12_20 : decode method_4_code 20 = .ok (.iload 7, 2) := by decide +kernel
theorem d12_22 : decode method_4_code 22 = .ok (.invokestatic 37, 3) := by decide +kernel
theorem pd_11 : parseMethodDescriptor "(IICCCC)C" = some ⟨[.int, .int, .char, .char, .char, .char], some .char⟩ := by decide +kernel
theorem d12_25 : decode method_4_code 25 = .ok (.if_icmp .ne 7, 3) := by decide +kernel
theorem d12_28 : decode method_4_code 28 = .ok (.iconst 1, 1) := by decide +kernel
theorem d12_29 : decode method_4_code 29 = .ok (.goto 4, 3) := by decide +kernel
theorem d12_33 : decode method_4_code 33 = .ok (.ireturn, 1) := by decide +kernel
theorem ef_rmOK0_2_0 (m : MethodId) (a1 : Addr) (d0 : Int32) (d1 : Int32) (e0 : Int32) (e1 : Int32)  : entryFrame m #[(.ref a1), Z0, (.int (2 : Int32)), Z0, (.int d0), (.int d1), (.int e0), (.int e1)] 8 = mkF m 0 #[.val (.ref a1), .val Z0, .val (.int (2 : Int32)), .val Z0, .val (.int d0), .val (.int d1), .val (.int e0), .val (.int e1)] [] := by simp [entryFrame, mkF, argsToLocals, Value.category]
theorem rmOK0_2_0 (l : Launch) (Z : State) (a0 : Array Value) (hw : HW a0 Z) (ws : List Jvm.Cond) (a1 : Addr) (d0 : Int32) (d1 : Int32) (e0 : Int32) (e1 : Int32) (b : Addr) (kb : ClassId) (vs : List Value) (zc : Int32) (vf : Value) (h0 : Heap) (n0 : Nat) (hn : n0 ≤ h0.size) (X_a1 : XSt Z h0 a1) (F_value_a1 : FSv Z h0 a1 (.ref b)) (F_coder_a1 : FSc Z h0 a1 Z0) (V_b : Arl Z h0 b kb .byte vs) (hl : vs.length = 2) (hx : vs[0]? = some (.int (nar .byte ((35 : Int32).toInt8.toInt32)))) (S_C : Sta Z h0 "java/lang/String" "COMPACT_STRINGS" "Z" (.int zc)) (S_F : Sta Z h0 "jdk/internal/util/Preconditions" "SIOOBE_FORMATTER" "Ljava/util/function/BiFunction;" vf) (hz : ¬ zc = 0) (hvf : vf.isRef = true) :
    Met own_EL l Z (⟨"com/example/hits_by_heading/hitsbyheading/document/DocumentSectionLocationPinLaw", "ok", "(Ljava/lang/String;IIICCCC)Z"⟩ : MethodName) method_4_code 8 (some .boolean) ({ frames := 4, cells := 0, slots := 0, locals := 53 } : Room) ws #[(.ref a1), Z0, (.int (2 : Int32)), Z0, (.int d0), (.int d1), (.int e0), (.int e1)] h0 n0 [] (Pur (.int (1 : Int32)) h0) := by
  refine Met.of pn_12 (fun m => ef_rmOK0_2_0 m a1 d0 d1 e0 e1) ?_
  refine Own.iloadN d12_0 rfl ?_
  refine Own.iloadN d12_1 rfl ?_
  refine Own.icmp_lt 7 d12_2 (by decide) rfl (fun _ => ?_) (fun q => absurd (by decide) q)
  refine Own.aloadN d12_7 rfl rfl ?_
  refine Own.iloadN d12_8 rfl ?_
  refine Own.callVP a1 [Z0] [] 0 (rmCA0_2 l Z a0 hw [] a1 b kb vs (35 : Int32) zc vf h0 n0 hn X_a1 F_value_a1 F_coder_a1 V_b hl hx S_C S_F hz hvf own_r35 own_l35) (hw _ (mg 60 rfl)) (hw _ (mg 61 rfl)) (fun s hZ => notFace_of_selects (args := #[]) (mvT hZ (hw _ (mg 63 rfl)))) (hw _ (mg 63 rfl)) (hw _ (mg 62 rfl)) (hw _ (mg 7 rfl)) (hw _ (mg 64 rfl)) (by decide) X_a1 d12_9 pd_6 rfl rfl rfl rfl (by decide) (by decide) (by decide) (by decide) ?_
  refine Own.iloadN d12_12 rfl ?_
  refine Own.iloadN d12_13 rfl ?_
  refine Own.iload d12_14 rfl ?_
  refine Own.iload d12_16 rfl ?_
  refine Own.iload d12_18 rfl ?_
  refine Own.iload d12_20 rfl ?_
  refine Own.callSP [Z0, Z0, (.int d0), (.int d1), (.int e0), (.int e1)] [(.int (35 : Int32))] 1 (rmEX0_0 l Z a0 hw [] d0 d1 e0 e1 h0 n0 hn) (hw _ (mg 82 rfl)) (hw _ (mg 83 rfl)) (hw _ (mg 3 rfl)) (hw _ (mg 84 rfl)) (by decide) d12_22 pd_11 rfl rfl rfl rfl (by decide) (by decide) (by decide) (by decide) ?_
  refine Own.icmp_ne 32 d12_25 (by decide) rfl (fun q => absurd own_c35 q) (fun _ => ?_)
  refine Own.iconst (1 : Int32) d12_28 rfl ?_
  refine Own.goto_ 33 d12_29 (by decide) rfl ?_
  refine Own.ret_nar (t := .boolean) (by simp) rfl d12_33 (by decide) (by decide) (fun Sf hSf => ?_)
  exact ⟨rfl, rfl⟩
theorem ef_rmPIc_1_2 (m : MethodId) (vf : Value) (hr_2 : (vf).isRef = true) : entryFrame m #[(.int (1 : Int32)), (.int (2 : Int32)), vf] 3 = mkF m 0 #[.val (.int (1 : Int32)), .val (.int (2 : Int32)), .val vf] [] := by rcases ref_cases hr_2 with rfl | ⟨z2, rfl⟩ <;> first | (simp [entryFrame, mkF, argsToLocals, Value.category]; done) | rfl
theorem rmPIc_1_2 (l : Launch) (Z : State) (a0 : Array Value) (hw : HW a0 Z) (ws : List Jvm.Cond) (vf : Value) (h0 : Heap) (n0 : Nat) (hn : n0 ≤ h0.size) (hvf : vf.isRef = true) :
    Met own_EL l Z (⟨"jdk/internal/util/Preconditions", "checkIndex", "(IILjava/util/function/BiFunction;)I"⟩ : MethodName) jdk_41_method_11_code 3 (some .int) ({ frames := 0, cells := 0, slots := 0, locals := 0 } : Room) ws #[(.int (1 : Int32)), (.int (2 : Int32)), vf] h0 n0 [] (Pur (.int (1 : Int32)) h0) := by
  refine Met.of pn_17 (fun m => ef_rmPIc_1_2 m vf hvf) ?_
  refine Own.iloadN d17_0 rfl ?_
  refine Own.if_lt 9 d17_1 (by decide) rfl (fun q => absurd q (by decide)) (fun _ => ?_)
  refine Own.iloadN d17_4 rfl ?_
  refine Own.iloadN d17_5 rfl ?_
  refine Own.icmp_lt 16 d17_6 (by decide) rfl (fun _ => ?_) (fun q => absurd (by decide) q)
  refine Own.iloadN d17_16 rfl ?_
  refine Own.ret_int rfl d17_17 (by decide) (by decide) (fun Sf hSf => ?_)
  exact ⟨rfl, rfl⟩
theorem ef_rmSIc_1_2 (m : MethodId)   : entryFrame m #[(.int (1 : Int32)), (.int (2 : Int32))] 2 = mkF m 0 #[.val (.int (1 : Int32)), .val (.int (2 : Int32))] [] := by simp [entryFrame, mkF, argsToLocals, Value.category]
theorem rmSIc_1_2 (l : Launch) (Z : State) (a0 : Array Value) (hw : HW a0 Z) (ws : List Jvm.Cond) (vf : Value) (h0 : Heap) (n0 : Nat) (hn : n0 ≤ h0.size) (S_F : Sta Z h0 "jdk/internal/util/Preconditions" "SIOOBE_FORMATTER" "Ljava/util/function/BiFunction;" vf) (hvf : vf.isRef = true) :
    Met own_EL l Z (⟨"java/lang/String", "checkIndex", "(II)V"⟩ : MethodName) jdk_42_method_155_code 2 none ({ frames := 1, cells := 0, slots := 0, locals := 14 } : Room) ws #[(.int (1 : Int32)), (.int (2 : Int32))] h0 n0 [] (Pur0 h0) := by
  refine Met.of pn_16 (fun m => ef_rmSIc_1_2 m ) ?_
  refine Own.iloadN d16_0 rfl ?_
  refine Own.iloadN d16_1 rfl ?_
  refine Own.getS_ (host := "") (Or.inl (hw _ (mg 77 rfl))) Via.refl S_F d16_2 ?_
  refine Own.callSP [(.int (1 : Int32)), (.int (2 : Int32)), vf] [] 0 (rmPIc_1_2 l Z a0 hw [] vf h0 n0 hn hvf) (hw _ (mg 79 rfl)) (hw _ (mg 80 rfl)) (hw _ (mg 78 rfl)) (hw _ (mg 81 rfl)) (by decide) d16_5 pd_12 rfl rfl rfl rfl (by decide) (by decide) (by decide) (by decide) ?_
  refine Own.pop d16_8 rfl ?_
  refine Own.ret_void rfl d16_9 (by decide) (by decide) (fun Sf hSf => ?_)
  exact ⟨rfl, rfl⟩
theorem ef_rmLC1_2 (m : MethodId) (a1 : Addr)  : entryFrame m #[(.ref a1), (.int (1 : Int32))] 2 = mkF m 0 #[.val (.ref a1), .val (.int (1 : Int32))] [] := by simp [entryFrame, mkF, argsToLocals, Value.category]
theorem rmLC1_2 (l : Launch) (Z : State) (a0 : Array Value) (hw : HW a0 Z) (ws : List Jvm.Cond) (a1 : Addr) (ka : ClassId) (vs : List Value) (x : Int32) (vf : Value) (h0 : Heap) (n0 : Nat) (hn : n0 ≤ h0.size) (V_a1 : Arl Z h0 a1 ka .byte vs) (hl : vs.length = 2) (hx : vs[1]? = some (.int x)) (S_F : Sta Z h0 "jdk/internal/util/Preconditions" "SIOOBE_FORMATTER" "Ljava/util/function/BiFunction;" vf) (hvf : vf.isRef = true) :
    Met own_EL l Z (⟨"java/lang/StringLatin1", "charAt", "([BI)C"⟩ : MethodName) jdk_43_method_2_code 2 (some .char) ({ frames := 2, cells := 0, slots := 0, locals := 27 } : Room) ws #[(.ref a1), (.int (1 : Int32))] h0 n0 [] (Pur (.int (own_lc x)) h0) := by
  refine Met.of pn_15 (fun m => ef_rmLC1_2 m a1) ?_
  refine Own.iloadN d15_0 rfl ?_
  refine Own.aloadN d15_1 rfl rfl ?_
  refine Own.arraylength_ (2 : Int32) V_a1 (by rw [hl]; rfl) d15_2 ?_
  refine Own.callS0 [(.int (1 : Int32)), (.int (2 : Int32))] [] 0 (rmSIc_1_2 l Z a0 hw [] vf h0 n0 hn S_F hvf) (hw _ (mg 74 rfl)) (hw _ (mg 75 rfl)) (hw _ (mg 7 rfl)) (hw _ (mg 76 rfl)) (by decide) d15_3 pd_10 rfl rfl rfl rfl (by decide) (by decide) (by decide) (by decide) ?_
  refine Own.aloadN d15_6 rfl rfl ?_
  refine Own.iloadN d15_7 rfl ?_
  refine Own.baload_ V_a1 (i := 1) rfl (v := (.int x)) hx d15_8 ?_
  refine Own.sipush (255 : Int32) d15_9 rfl ?_
  refine Own.iand d15_12 ?_
  refine Own.i2c d15_13 ?_
  refine Own.ret_nar (t := .char) (by simp) rfl d15_14 (by decide) (by decide) (fun Sf hSf => ?_)
  exact ⟨rfl, rfl⟩
theorem ef_rmCA1_2 (m : MethodId) (a1 : Addr)  : entryFrame m #[(.ref a1), (.int (1 : Int32))] 2 = mkF m 0 #[.val (.ref a1), .val (.int (1 : Int32))] [] := by simp [entryFrame, mkF, argsToLocals, Value.category]
theorem rmCA1_2 (l : Launch) (Z : State) (a0 : Array Value) (hw : HW a0 Z) (ws : List Jvm.Cond) (a1 : Addr) (b : Addr) (kb : ClassId) (vs : List Value) (x : Int32) (zc : Int32) (vf : Value) (h0 : Heap) (n0 : Nat) (hn : n0 ≤ h0.size) (X_a1 : XSt Z h0 a1) (F_value_a1 : FSv Z h0 a1 (.ref b)) (F_coder_a1 : FSc Z h0 a1 Z0) (V_b : Arl Z h0 b kb .byte vs) (hl : vs.length = 2) (hx : vs[1]? = some (.int (nar .byte (x.toInt8.toInt32)))) (S_C : Sta Z h0 "java/lang/String" "COMPACT_STRINGS" "Z" (.int zc)) (S_F : Sta Z h0 "jdk/internal/util/Preconditions" "SIOOBE_FORMATTER" "Ljava/util/function/BiFunction;" vf) (hz : ¬ zc = 0) (hvf : vf.isRef = true) (hr : 0 ≤ x.toInt ∧ x.toInt < 65536) (hlat : ¬ (255 : Int32) < x) :
    Met own_EL l Z (⟨"java/lang/String", "charAt", "(I)C"⟩ : MethodName) jdk_42_method_56_code 2 (some .char) ({ frames := 3, cells := 0, slots := 0, locals := 40 } : Room) ws #[(.ref a1), (.int (1 : Int32))] h0 n0 [] (Pur (.int x) h0) := by
  refine Met.of pn_13 (fun m => ef_rmCA1_2 m a1) ?_
  refine Own.aloadN d13_0 rfl rfl ?_
  refine Own.callVP a1 [] [] 0 (rm_lat_2 l Z a0 hw [] a1 b kb vs zc h0 n0 hn X_a1 F_value_a1 F_coder_a1 V_b hl S_C hz) (hw _ (mg 65 rfl)) (hw _ (mg 66 rfl)) (fun s hZ => notFace_of_selects (args := #[]) (mvT hZ (hw _ (mg 68 rfl)))) (hw _ (mg 68 rfl)) (hw _ (mg 67 rfl)) (hw _ (mg 7 rfl)) (hw _ (mg 69 rfl)) (by decide) X_a1 d13_1 pd_4 rfl rfl rfl rfl (by decide) (by decide) (by decide) (by decide) ?_
  refine Own.if_eq 16 d13_4 (by decide) rfl (fun q => absurd q (by decide)) (fun _ => ?_)
  refine Own.aloadN d13_7 rfl rfl ?_
  refine Own.getF_ (host := "") (Or.inl (hw _ (mg 33 rfl))) Via.refl F_value_a1 d13_8 ?_
  refine Own.iloadN d13_11 rfl ?_
  refine Own.callSP [(.ref b), (.int (1 : Int32))] [] 0 (rmLC1_2 l Z a0 hw [] b kb vs _ vf h0 n0 hn V_b hl hx S_F hvf) (hw _ (mg 70 rfl)) (hw _ (mg 71 rfl)) (hw _ (mg 72 rfl)) (hw _ (mg 73 rfl)) (by decide) d13_12 pd_23 rfl rfl rfl rfl (by decide) (by decide) (by decide) (by decide) ?_
  refine Own.ret_nar (t := .char) (by simp) rfl d13_15 (by decide) (by decide) (fun Sf hSf => ?_)
  exact ⟨congrArg (fun z => some (Value.int z)) (by rw [own_lcv hr.1 hlat, own_ncv hr.1 hr.2]), rfl⟩
theorem d18_23 : decode method_5_code 23 = .ok (.iload_n 0, 1) := by decide +kernel
theorem d18_24 : decode method_5_code 24 = .ok (.iload_n 1, 1) := by decide +kernel
theorem d18_25 : decode method_5_code 25 = .ok (.isub, 1) := by decide +kernel
theorem d18_26 : decode method_5_code 26 = .ok (.iconst 1, 1) := by decide +kernel
theorem d18_27 : decode method_5_code 27 = .ok (.isub, 1) := by decide +kernel
theorem d18_28 : decode method_5_code 28 = .ok (.istore 6, 2) := by decide +kernel
theorem d18_30 : decode method_5_code 30 = .ok (.iload 6, 2) := by decide +kernel
theorem d18_32 : decode method_5_code 32 = .ok (.ifCond .ne 8, 3) := by decide +kernel
theorem d18_35 : decode method_5_code 35 = .ok (.iload 4, 2) := by decide +kernel
theorem d18_37 : decode method_5_code 37 = .ok (.goto 5, 3) := by decide +kernel
theorem d18_42 : decode method_5_code 42 = .ok (.ireturn, 1) := by decide +kernel
theorem ef_rmEX1_0 (m : MethodId) (d0 : Int32) (d1 : Int32) (e0 : Int32) (e1 : Int32)  : entryFrame m #[(.int (1 : Int32)), Z0, (.int d0), (.int d1), (.int e0), (.int e1)] 7 = mkF m 0 #[.val (.int (1 : Int32)), .val Z0, .val (.int d0), .val (.int d1), .val (.int e0), .val (.int e1), .unset] [] := by simp [entryFrame, mkF, argsToLocals, Value.category]
theorem rmEX1_0 (l : Launch) (Z : State) (a0 : Array Value) (hw : HW a0 Z) (ws : List Jvm.Cond) (d0 : Int32) (d1 : Int32) (e0 : Int32) (e1 : Int32) (h0 : Heap) (n0 : Nat) (hn : n0 ≤ h0.size) :
    Met own_EL l Z (⟨"com/example/hits_by_heading/hitsbyheading/document/DocumentSectionLocationPinLaw", "expected", "(IICCCC)C"⟩ : MethodName) method_5_code 7 (some .char) ({ frames := 0, cells := 0, slots := 0, locals := 0 } : Room) ws #[(.int (1 : Int32)), Z0, (.int d0), (.int d1), (.int e0), (.int e1)] h0 n0 [] (Pur (.int (nar .char e0)) h0) := by
  refine Met.of pn_18 (fun m => ef_rmEX1_0 m d0 d1 e0 e1) ?_
  refine Own.iloadN d18_0 rfl ?_
  refine Own.iloadN d18_1 rfl ?_
  refine Own.icmp_ge 15 d18_2 (by decide) rfl (fun _ => ?_) (fun q => absurd q (by decide))
  refine Own.iloadN d18_15 rfl ?_
  refine Own.iloadN d18_16 rfl ?_
  refine Own.icmp_ne 23 d18_17 (by decide) rfl (fun _ => ?_) (fun q => absurd q (by decide))
  refine Own.iloadN d18_23 rfl ?_
  refine Own.iloadN d18_24 rfl ?_
  refine Own.isub d18_25 ?_
  refine OAt.cast (st' := [(.int (1 : Int32))]) rfl ?_
  refine Own.iconst (1 : Int32) d18_26 rfl ?_
  refine Own.isub d18_27 ?_
  refine OAt.cast (st' := [Z0]) rfl ?_
  refine Own.istore #[.val (.int (1 : Int32)), .val Z0, .val (.int d0), .val (.int d1), .val (.int e0), .val (.int e1), .val Z0] d18_28 rfl ?_
  refine Own.iload d18_30 rfl ?_
  refine Own.if_ne 40 d18_32 (by decide) rfl (fun q => absurd (by decide) q) (fun _ => ?_)
  refine Own.iload d18_35 rfl ?_
  refine Own.goto_ 42 d18_37 (by decide) rfl ?_
  refine Own.ret_nar (t := .char) (by simp) rfl d18_42 (by decide) (by decide) (fun Sf hSf => ?_)
  exact ⟨rfl, rfl⟩
theorem ef_rmOK1_2_0 (m : MethodId) (a1 : Addr) (d0 : Int32) (d1 : Int32) (e0 : Int32) (e1 : Int32)  : entryFrame m #[(.ref a1), (.int (1 : Int32)), (.int (2 : Int32)), Z0, (.int d0), (.int d1), (.int e0), (.int e1)] 8 = mkF m 0 #[.val (.ref a1), .val (.int (1 : Int32)), .val (.int (2 : Int32)), .val Z0, .val (.int d0), .val (.int d1), .val (.int e0), .val (.int e1)] [] := by simp [entryFrame, mkF, argsToLocals, Value.category]
theorem rmOK1_2_0 (l : Launch) (Z : State) (a0 : Array Value) (hw : HW a0 Z) (ws : List Jvm.Cond) (a1 : Addr) (d0 : Int32) (d1 : Int32) (e0 : Int32) (e1 : Int32) (b : Addr) (kb : ClassId) (vs : List Value) (zc : Int32) (vf : Value) (h0 : Heap) (n0 : Nat) (hn : n0 ≤ h0.size) (X_a1 : XSt Z h0 a1) (F_value_a1 : FSv Z h0 a1 (.ref b)) (F_coder_a1 : FSc Z h0 a1 Z0) (V_b : Arl Z h0 b kb .byte vs) (hl : vs.length = 2) (hx : vs[1]? = some (.int (nar .byte ((nar .char e0).toInt8.toInt32)))) (S_C : Sta Z h0 "java/lang/String" "COMPACT_STRINGS" "Z" (.int zc)) (S_F : Sta Z h0 "jdk/internal/util/Preconditions" "SIOOBE_FORMATTER" "Ljava/util/function/BiFunction;" vf) (hz : ¬ zc = 0) (hvf : vf.isRef = true) (hlat : ¬ (255 : Int32) < (nar .char e0)) :
    Met own_EL l Z (⟨"com/example/hits_by_heading/hitsbyheading/document/DocumentSectionLocationPinLaw", "ok", "(Ljava/lang/String;IIICCCC)Z"⟩ : MethodName) method_4_code 8 (some .boolean) ({ frames := 4, cells := 0, slots := 0, locals := 53 } : Room) ws #[(.ref a1), (.int (1 : Int32)), (.int (2 : Int32)), Z0, (.int d0), (.int d1), (.int e0), (.int e1)] h0 n0 [] (Pur (.int (1 : Int32)) h0) := by
  refine Met.of pn_12 (fun m => ef_rmOK1_2_0 m a1 d0 d1 e0 e1) ?_
  refine Own.iloadN d12_0 rfl ?_
  refine Own.iloadN d12_1 rfl ?_
  refine Own.icmp_lt 7 d12_2 (by decide) rfl (fun _ => ?_) (fun q => absurd (by decide) q)
  refine Own.aloadN d12_7 rfl rfl ?_
  refine Own.iloadN d12_8 rfl ?_
  refine Own.callVP a1 [(.int (1 : Int32))] [] 0 (rmCA1_2 l Z a0 hw [] a1 b kb vs (nar .char e0) zc vf h0 n0 hn X_a1 F_value_a1 F_coder_a1 V_b hl hx S_C S_F hz hvf (own_rng _) hlat) (hw _ (mg 60 rfl)) (hw _ (mg 61 rfl)) (fun s hZ => notFace_of_selects (args := #[]) (mvT hZ (hw _ (mg 63 rfl)))) (hw _ (mg 63 rfl)) (hw _ (mg 62 rfl)) (hw _ (mg 7 rfl)) (hw _ (mg 64 rfl)) (by decide) X_a1 d12_9 pd_6 rfl rfl rfl rfl (by decide) (by decide) (by decide) (by decide) ?_
  refine Own.iloadN d12_12 rfl ?_
  refine Own.iloadN d12_13 rfl ?_
  refine Own.iload d12_14 rfl ?_
  refine Own.iload d12_16 rfl ?_
  refine Own.iload d12_18 rfl ?_
  refine Own.iload d12_20 rfl ?_
  refine Own.callSP [(.int (1 : Int32)), Z0, (.int d0), (.int d1), (.int e0), (.int e1)] [(.int (nar .char e0))] 1 (rmEX1_0 l Z a0 hw [] d0 d1 e0 e1 h0 n0 hn) (hw _ (mg 82 rfl)) (hw _ (mg 83 rfl)) (hw _ (mg 3 rfl)) (hw _ (mg 84 rfl)) (by decide) d12_22 pd_11 rfl rfl rfl rfl (by decide) (by decide) (by decide) (by decide) ?_
  refine Own.icmp_ne 32 d12_25 (by decide) rfl (fun q => absurd rfl q) (fun _ => ?_)
  refine Own.iconst (1 : Int32) d12_28 rfl ?_
  refine Own.goto_ 33 d12_29 (by decide) rfl ?_
  refine Own.ret_nar (t := .boolean) (by simp) rfl d12_33 (by decide) (by decide) (fun Sf hSf => ?_)
  exact ⟨rfl, rfl⟩
theorem ef_rmOK2_2_0 (m : MethodId) (a1 : Addr) (d0 : Int32) (d1 : Int32) (e0 : Int32) (e1 : Int32)  : entryFrame m #[(.ref a1), (.int (2 : Int32)), (.int (2 : Int32)), Z0, (.int d0), (.int d1), (.int e0), (.int e1)] 8 = mkF m 0 #[.val (.ref a1), .val (.int (2 : Int32)), .val (.int (2 : Int32)), .val Z0, .val (.int d0), .val (.int d1), .val (.int e0), .val (.int e1)] [] := by simp [entryFrame, mkF, argsToLocals, Value.category]
theorem rmOK2_2_0 (l : Launch) (Z : State) (a0 : Array Value) (hw : HW a0 Z) (ws : List Jvm.Cond) (a1 : Addr) (d0 : Int32) (d1 : Int32) (e0 : Int32) (e1 : Int32) (h0 : Heap) (n0 : Nat) (hn : n0 ≤ h0.size) :
    Met own_EL l Z (⟨"com/example/hits_by_heading/hitsbyheading/document/DocumentSectionLocationPinLaw", "ok", "(Ljava/lang/String;IIICCCC)Z"⟩ : MethodName) method_4_code 8 (some .boolean) ({ frames := 0, cells := 0, slots := 0, locals := 0 } : Room) ws #[(.ref a1), (.int (2 : Int32)), (.int (2 : Int32)), Z0, (.int d0), (.int d1), (.int e0), (.int e1)] h0 n0 [] (Pur (.int (1 : Int32)) h0) := by
  refine Met.of pn_12 (fun m => ef_rmOK2_2_0 m a1 d0 d1 e0 e1) ?_
  refine Own.iloadN d12_0 rfl ?_
  refine Own.iloadN d12_1 rfl ?_
  refine Own.icmp_lt 7 d12_2 (by decide) rfl (fun q => absurd q (by decide)) (fun _ => ?_)
  refine Own.iconst (1 : Int32) d12_5 rfl ?_
  refine Own.ret_nar (t := .boolean) (by simp) rfl d12_6 (by decide) (by decide) (fun Sf hSf => ?_)
  exact ⟨rfl, rfl⟩
theorem ef_rmOK3_2_0 (m : MethodId) (a1 : Addr) (d0 : Int32) (d1 : Int32) (e0 : Int32) (e1 : Int32)  : entryFrame m #[(.ref a1), (.int (3 : Int32)), (.int (2 : Int32)), Z0, (.int d0), (.int d1), (.int e0), (.int e1)] 8 = mkF m 0 #[.val (.ref a1), .val (.int (3 : Int32)), .val (.int (2 : Int32)), .val Z0, .val (.int d0), .val (.int d1), .val (.int e0), .val (.int e1)] [] := by simp [entryFrame, mkF, argsToLocals, Value.category]
theorem rmOK3_2_0 (l : Launch) (Z : State) (a0 : Array Value) (hw : HW a0 Z) (ws : List Jvm.Cond) (a1 : Addr) (d0 : Int32) (d1 : Int32) (e0 : Int32) (e1 : Int32) (h0 : Heap) (n0 : Nat) (hn : n0 ≤ h0.size) :
    Met own_EL l Z (⟨"com/example/hits_by_heading/hitsbyheading/document/DocumentSectionLocationPinLaw", "ok", "(Ljava/lang/String;IIICCCC)Z"⟩ : MethodName) method_4_code 8 (some .boolean) ({ frames := 0, cells := 0, slots := 0, locals := 0 } : Room) ws #[(.ref a1), (.int (3 : Int32)), (.int (2 : Int32)), Z0, (.int d0), (.int d1), (.int e0), (.int e1)] h0 n0 [] (Pur (.int (1 : Int32)) h0) := by
  refine Met.of pn_12 (fun m => ef_rmOK3_2_0 m a1 d0 d1 e0 e1) ?_
  refine Own.iloadN d12_0 rfl ?_
  refine Own.iloadN d12_1 rfl ?_
  refine Own.icmp_lt 7 d12_2 (by decide) rfl (fun q => absurd q (by decide)) (fun _ => ?_)
  refine Own.iconst (1 : Int32) d12_5 rfl ?_
  refine Own.ret_nar (t := .boolean) (by simp) rfl d12_6 (by decide) (by decide) (fun Sf hSf => ?_)
  exact ⟨rfl, rfl⟩
theorem ef_rmOK4_2_0 (m : MethodId) (a1 : Addr) (d0 : Int32) (d1 : Int32) (e0 : Int32) (e1 : Int32)  : entryFrame m #[(.ref a1), (.int (4 : Int32)), (.int (2 : Int32)), Z0, (.int d0), (.int d1), (.int e0), (.int e1)] 8 = mkF m 0 #[.val (.ref a1), .val (.int (4 : Int32)), .val (.int (2 : Int32)), .val Z0, .val (.int d0), .val (.int d1), .val (.int e0), .val (.int e1)] [] := by simp [entryFrame, mkF, argsToLocals, Value.category]
theorem rmOK4_2_0 (l : Launch) (Z : State) (a0 : Array Value) (hw : HW a0 Z) (ws : List Jvm.Cond) (a1 : Addr) (d0 : Int32) (d1 : Int32) (e0 : Int32) (e1 : Int32) (h0 : Heap) (n0 : Nat) (hn : n0 ≤ h0.size) :
    Met own_EL l Z (⟨"com/example/hits_by_heading/hitsbyheading/document/DocumentSectionLocationPinLaw", "ok", "(Ljava/lang/String;IIICCCC)Z"⟩ : MethodName) method_4_code 8 (some .boolean) ({ frames := 0, cells := 0, slots := 0, locals := 0 } : Room) ws #[(.ref a1), (.int (4 : Int32)), (.int (2 : Int32)), Z0, (.int d0), (.int d1), (.int e0), (.int e1)] h0 n0 [] (Pur (.int (1 : Int32)) h0) := by
  refine Met.of pn_12 (fun m => ef_rmOK4_2_0 m a1 d0 d1 e0 e1) ?_
  refine Own.iloadN d12_0 rfl ?_
  refine Own.iloadN d12_1 rfl ?_
  refine Own.icmp_lt 7 d12_2 (by decide) rfl (fun q => absurd q (by decide)) (fun _ => ?_)
  refine Own.iconst (1 : Int32) d12_5 rfl ?_
  refine Own.ret_nar (t := .boolean) (by simp) rfl d12_6 (by decide) (by decide) (fun Sf hSf => ?_)
  exact ⟨rfl, rfl⟩
theorem ef_rmPIc_0_3 (m : MethodId) (vf : Value) (hr_2 : (vf).isRef = true) : entryFrame m #[Z0, (.int (3 : Int32)), vf] 3 = mkF m 0 #[.val Z0, .val (.int (3 : Int32)), .val vf] [] := by rcases ref_cases hr_2 with rfl | ⟨z2, rfl⟩ <;> first | (simp [entryFrame, mkF, argsToLocals, Value.category]; done) | rfl
theorem rmPIc_0_3 (l : Launch) (Z : State) (a0 : Array Value) (hw : HW a0 Z) (ws : List Jvm.Cond) (vf : Value) (h0 : Heap) (n0 : Nat) (hn : n0 ≤ h0.size) (hvf : vf.isRef = true) :
    Met own_EL l Z (⟨"jdk/internal/util/Preconditions", "checkIndex", "(IILjava/util/function/BiFunction;)I"⟩ : MethodName) jdk_41_method_11_code 3 (some .int) ({ frames := 0, cells := 0, slots := 0, locals := 0 } : Room) ws #[Z0, (.int (3 : Int32)), vf] h0 n0 [] (Pur Z0 h0) := by
  refine Met.of pn_17 (fun m => ef_rmPIc_0_3 m vf hvf) ?_
  refine Own.iloadN d17_0 rfl ?_
  refine Own.if_lt 9 d17_1 (by decide) rfl (fun q => absurd q (by decide)) (fun _ => ?_)
  refine Own.iloadN d17_4 rfl ?_
  refine Own.iloadN d17_5 rfl ?_
  refine Own.icmp_lt 16 d17_6 (by decide) rfl (fun _ => ?_) (fun q => absurd (by decide) q)
  refine Own.iloadN d17_16 rfl ?_
  refine Own.ret_int rfl d17_17 (by decide) (by decide) (fun Sf hSf => ?_)
  exact ⟨rfl, rfl⟩
theorem ef_rmSIc_0_3 (m : MethodId)   : entryFrame m #[Z0, (.int (3 : Int32))] 2 = mkF m 0 #[.val Z0, .val (.int (3 : Int32))] [] := by simp [entryFrame, mkF, argsToLocals, Value.category]
theorem rmSIc_0_3 (l : Launch) (Z : State) (a0 : Array Value) (hw : HW a0 Z) (ws : List Jvm.Cond) (vf : Value) (h0 : Heap) (n0 : Nat) (hn : n0 ≤ h0.size) (S_F : Sta Z h0 "jdk/internal/util/Preconditions" "SIOOBE_FORMATTER" "Ljava/util/function/BiFunction;" vf) (hvf : vf.isRef = true) :
    Met own_EL l Z (⟨"java/lang/String", "checkIndex", "(II)V"⟩ : MethodName) jdk_42_method_155_code 2 none ({ frames := 1, cells := 0, slots := 0, locals := 14 } : Room) ws #[Z0, (.int (3 : Int32))] h0 n0 [] (Pur0 h0) := by
  refine Met.of pn_16 (fun m => ef_rmSIc_0_3 m ) ?_
  refine Own.iloadN d16_0 rfl ?_
  refine Own.iloadN d16_1 rfl ?_
  refine Own.getS_ (host := "") (Or.inl (hw _ (mg 77 rfl))) Via.refl S_F d16_2 ?_
  refine Own.callSP [Z0, (.int (3 : Int32)), vf] [] 0 (rmPIc_0_3 l Z a0 hw [] vf h0 n0 hn hvf) (hw _ (mg 79 rfl)) (hw _ (mg 80 rfl)) (hw _ (mg 78 rfl)) (hw _ (mg 81 rfl)) (by decide) d16_5 pd_12 rfl rfl rfl rfl (by decide) (by decide) (by decide) (by decide) ?_
  refine Own.pop d16_8 rfl ?_
  refine Own.ret_void rfl d16_9 (by decide) (by decide) (fun Sf hSf => ?_)
  exact ⟨rfl, rfl⟩
theorem ef_rmLC0_3 (m : MethodId) (a1 : Addr)  : entryFrame m #[(.ref a1), Z0] 2 = mkF m 0 #[.val (.ref a1), .val Z0] [] := by simp [entryFrame, mkF, argsToLocals, Value.category]
theorem rmLC0_3 (l : Launch) (Z : State) (a0 : Array Value) (hw : HW a0 Z) (ws : List Jvm.Cond) (a1 : Addr) (ka : ClassId) (vs : List Value) (x : Int32) (vf : Value) (h0 : Heap) (n0 : Nat) (hn : n0 ≤ h0.size) (V_a1 : Arl Z h0 a1 ka .byte vs) (hl : vs.length = 3) (hx : vs[0]? = some (.int x)) (S_F : Sta Z h0 "jdk/internal/util/Preconditions" "SIOOBE_FORMATTER" "Ljava/util/function/BiFunction;" vf) (hvf : vf.isRef = true) :
    Met own_EL l Z (⟨"java/lang/StringLatin1", "charAt", "([BI)C"⟩ : MethodName) jdk_43_method_2_code 2 (some .char) ({ frames := 2, cells := 0, slots := 0, locals := 27 } : Room) ws #[(.ref a1), Z0] h0 n0 [] (Pur (.int (own_lc x)) h0) := by
  refine Met.of pn_15 (fun m => ef_rmLC0_3 m a1) ?_
  refine Own.iloadN d15_0 rfl ?_
  refine Own.aloadN d15_1 rfl rfl ?_
  refine Own.arraylength_ (3 : Int32) V_a1 (by rw [hl]; rfl) d15_2 ?_
  refine Own.callS0 [Z0, (.int (3 : Int32))] [] 0 (rmSIc_0_3 l Z a0 hw [] vf h0 n0 hn S_F hvf) (hw _ (mg 74 rfl)) (hw _ (mg 75 rfl)) (hw _ (mg 7 rfl)) (hw _ (mg 76 rfl)) (by decide) d15_3 pd_10 rfl rfl rfl rfl (by decide) (by decide) (by decide) (by decide) ?_
  refine Own.aloadN d15_6 rfl rfl ?_
  refine Own.iloadN d15_7 rfl ?_
  refine Own.baload_ V_a1 (i := 0) rfl (v := (.int x)) hx d15_8 ?_
  refine Own.sipush (255 : Int32) d15_9 rfl ?_
  refine Own.iand d15_12 ?_
  refine Own.i2c d15_13 ?_
  refine Own.ret_nar (t := .char) (by simp) rfl d15_14 (by decide) (by decide) (fun Sf hSf => ?_)
  exact ⟨rfl, rfl⟩
theorem ef_rmCA0_3 (m : MethodId) (a1 : Addr)  : entryFrame m #[(.ref a1), Z0] 2 = mkF m 0 #[.val (.ref a1), .val Z0] [] := by simp [entryFrame, mkF, argsToLocals, Value.category]
theorem rmCA0_3 (l : Launch) (Z : State) (a0 : Array Value) (hw : HW a0 Z) (ws : List Jvm.Cond) (a1 : Addr) (b : Addr) (kb : ClassId) (vs : List Value) (x : Int32) (zc : Int32) (vf : Value) (h0 : Heap) (n0 : Nat) (hn : n0 ≤ h0.size) (X_a1 : XSt Z h0 a1) (F_value_a1 : FSv Z h0 a1 (.ref b)) (F_coder_a1 : FSc Z h0 a1 Z0) (V_b : Arl Z h0 b kb .byte vs) (hl : vs.length = 3) (hx : vs[0]? = some (.int (nar .byte (x.toInt8.toInt32)))) (S_C : Sta Z h0 "java/lang/String" "COMPACT_STRINGS" "Z" (.int zc)) (S_F : Sta Z h0 "jdk/internal/util/Preconditions" "SIOOBE_FORMATTER" "Ljava/util/function/BiFunction;" vf) (hz : ¬ zc = 0) (hvf : vf.isRef = true) (hr : 0 ≤ x.toInt ∧ x.toInt < 65536) (hlat : ¬ (255 : Int32) < x) :
    Met own_EL l Z (⟨"java/lang/String", "charAt", "(I)C"⟩ : MethodName) jdk_42_method_56_code 2 (some .char) ({ frames := 3, cells := 0, slots := 0, locals := 40 } : Room) ws #[(.ref a1), Z0] h0 n0 [] (Pur (.int x) h0) := by
  refine Met.of pn_13 (fun m => ef_rmCA0_3 m a1) ?_
  refine Own.aloadN d13_0 rfl rfl ?_
  refine Own.callVP a1 [] [] 0 (rm_lat_3 l Z a0 hw [] a1 b kb vs zc h0 n0 hn X_a1 F_value_a1 F_coder_a1 V_b hl S_C hz) (hw _ (mg 65 rfl)) (hw _ (mg 66 rfl)) (fun s hZ => notFace_of_selects (args := #[]) (mvT hZ (hw _ (mg 68 rfl)))) (hw _ (mg 68 rfl)) (hw _ (mg 67 rfl)) (hw _ (mg 7 rfl)) (hw _ (mg 69 rfl)) (by decide) X_a1 d13_1 pd_4 rfl rfl rfl rfl (by decide) (by decide) (by decide) (by decide) ?_
  refine Own.if_eq 16 d13_4 (by decide) rfl (fun q => absurd q (by decide)) (fun _ => ?_)
  refine Own.aloadN d13_7 rfl rfl ?_
  refine Own.getF_ (host := "") (Or.inl (hw _ (mg 33 rfl))) Via.refl F_value_a1 d13_8 ?_
  refine Own.iloadN d13_11 rfl ?_
  refine Own.callSP [(.ref b), Z0] [] 0 (rmLC0_3 l Z a0 hw [] b kb vs _ vf h0 n0 hn V_b hl hx S_F hvf) (hw _ (mg 70 rfl)) (hw _ (mg 71 rfl)) (hw _ (mg 72 rfl)) (hw _ (mg 73 rfl)) (by decide) d13_12 pd_23 rfl rfl rfl rfl (by decide) (by decide) (by decide) (by decide) ?_
  refine Own.ret_nar (t := .char) (by simp) rfl d13_15 (by decide) (by decide) (fun Sf hSf => ?_)
  exact ⟨congrArg (fun z => some (Value.int z)) (by rw [own_lcv hr.1 hlat, own_ncv hr.1 hr.2]), rfl⟩
theorem ef_rmOK0_3_0 (m : MethodId) (a1 : Addr) (d0 : Int32) (d1 : Int32) (e0 : Int32) (e1 : Int32)  : entryFrame m #[(.ref a1), Z0, (.int (3 : Int32)), Z0, (.int d0), (.int d1), (.int e0), (.int e1)] 8 = mkF m 0 #[.val (.ref a1), .val Z0, .val (.int (3 : Int32)), .val Z0, .val (.int d0), .val (.int d1), .val (.int e0), .val (.int e1)] [] := by simp [entryFrame, mkF, argsToLocals, Value.category]
theorem rmOK0_3_0 (l : Launch) (Z : State) (a0 : Array Value) (hw : HW a0 Z) (ws : List Jvm.Cond) (a1 : Addr) (d0 : Int32) (d1 : Int32) (e0 : Int32) (e1 : Int32) (b : Addr) (kb : ClassId) (vs : List Value) (zc : Int32) (vf : Value) (h0 : Heap) (n0 : Nat) (hn : n0 ≤ h0.size) (X_a1 : XSt Z h0 a1) (F_value_a1 : FSv Z h0 a1 (.ref b)) (F_coder_a1 : FSc Z h0 a1 Z0) (V_b : Arl Z h0 b kb .byte vs) (hl : vs.length = 3) (hx : vs[0]? = some (.int (nar .byte ((35 : Int32).toInt8.toInt32)))) (S_C : Sta Z h0 "java/lang/String" "COMPACT_STRINGS" "Z" (.int zc)) (S_F : Sta Z h0 "jdk/internal/util/Preconditions" "SIOOBE_FORMATTER" "Ljava/util/function/BiFunction;" vf) (hz : ¬ zc = 0) (hvf : vf.isRef = true) :
    Met own_EL l Z (⟨"com/example/hits_by_heading/hitsbyheading/document/DocumentSectionLocationPinLaw", "ok", "(Ljava/lang/String;IIICCCC)Z"⟩ : MethodName) method_4_code 8 (some .boolean) ({ frames := 4, cells := 0, slots := 0, locals := 53 } : Room) ws #[(.ref a1), Z0, (.int (3 : Int32)), Z0, (.int d0), (.int d1), (.int e0), (.int e1)] h0 n0 [] (Pur (.int (1 : Int32)) h0) := by
  refine Met.of pn_12 (fun m => ef_rmOK0_3_0 m a1 d0 d1 e0 e1) ?_
  refine Own.iloadN d12_0 rfl ?_
  refine Own.iloadN d12_1 rfl ?_
  refine Own.icmp_lt 7 d12_2 (by decide) rfl (fun _ => ?_) (fun q => absurd (by decide) q)
  refine Own.aloadN d12_7 rfl rfl ?_
  refine Own.iloadN d12_8 rfl ?_
  refine Own.callVP a1 [Z0] [] 0 (rmCA0_3 l Z a0 hw [] a1 b kb vs (35 : Int32) zc vf h0 n0 hn X_a1 F_value_a1 F_coder_a1 V_b hl hx S_C S_F hz hvf own_r35 own_l35) (hw _ (mg 60 rfl)) (hw _ (mg 61 rfl)) (fun s hZ => notFace_of_selects (args := #[]) (mvT hZ (hw _ (mg 63 rfl)))) (hw _ (mg 63 rfl)) (hw _ (mg 62 rfl)) (hw _ (mg 7 rfl)) (hw _ (mg 64 rfl)) (by decide) X_a1 d12_9 pd_6 rfl rfl rfl rfl (by decide) (by decide) (by decide) (by decide) ?_
  refine Own.iloadN d12_12 rfl ?_
  refine Own.iloadN d12_13 rfl ?_
  refine Own.iload d12_14 rfl ?_
  refine Own.iload d12_16 rfl ?_
  refine Own.iload d12_18 rfl ?_
  refine Own.iload d12_20 rfl ?_
  refine Own.callSP [Z0, Z0, (.int d0), (.int d1), (.int e0), (.int e1)] [(.int (35 : Int32))] 1 (rmEX0_0 l Z a0 hw [] d0 d1 e0 e1 h0 n0 hn) (hw _ (mg 82 rfl)) (hw _ (mg 83 rfl)) (hw _ (mg 3 rfl)) (hw _ (mg 84 rfl)) (by decide) d12_22 pd_11 rfl rfl rfl rfl (by decide) (by decide) (by decide) (by decide) ?_
  refine Own.icmp_ne 32 d12_25 (by decide) rfl (fun q => absurd own_c35 q) (fun _ => ?_)
  refine Own.iconst (1 : Int32) d12_28 rfl ?_
  refine Own.goto_ 33 d12_29 (by decide) rfl ?_
  refine Own.ret_nar (t := .boolean) (by simp) rfl d12_33 (by decide) (by decide) (fun Sf hSf => ?_)
  exact ⟨rfl, rfl⟩
theorem ef_rmPIc_1_3 (m : MethodId) (vf : Value) (hr_2 : (vf).isRef = true) : entryFrame m #[(.int (1 : Int32)), (.int (3 : Int32)), vf] 3 = mkF m 0 #[.val (.int (1 : Int32)), .val (.int (3 : Int32)), .val vf] [] := by rcases ref_cases hr_2 with rfl | ⟨z2, rfl⟩ <;> first | (simp [entryFrame, mkF, argsToLocals, Value.category]; done) | rfl
theorem rmPIc_1_3 (l : Launch) (Z : State) (a0 : Array Value) (hw : HW a0 Z) (ws : List Jvm.Cond) (vf : Value) (h0 : Heap) (n0 : Nat) (hn : n0 ≤ h0.size) (hvf : vf.isRef = true) :
    Met own_EL l Z (⟨"jdk/internal/util/Preconditions", "checkIndex", "(IILjava/util/function/BiFunction;)I"⟩ : MethodName) jdk_41_method_11_code 3 (some .int) ({ frames := 0, cells := 0, slots := 0, locals := 0 } : Room) ws #[(.int (1 : Int32)), (.int (3 : Int32)), vf] h0 n0 [] (Pur (.int (1 : Int32)) h0) := by
  refine Met.of pn_17 (fun m => ef_rmPIc_1_3 m vf hvf) ?_
  refine Own.iloadN d17_0 rfl ?_
  refine Own.if_lt 9 d17_1 (by decide) rfl (fun q => absurd q (by decide)) (fun _ => ?_)
  refine Own.iloadN d17_4 rfl ?_
  refine Own.iloadN d17_5 rfl ?_
  refine Own.icmp_lt 16 d17_6 (by decide) rfl (fun _ => ?_) (fun q => absurd (by decide) q)
  refine Own.iloadN d17_16 rfl ?_
  refine Own.ret_int rfl d17_17 (by decide) (by decide) (fun Sf hSf => ?_)
  exact ⟨rfl, rfl⟩
theorem ef_rmSIc_1_3 (m : MethodId)   : entryFrame m #[(.int (1 : Int32)), (.int (3 : Int32))] 2 = mkF m 0 #[.val (.int (1 : Int32)), .val (.int (3 : Int32))] [] := by simp [entryFrame, mkF, argsToLocals, Value.category]
theorem rmSIc_1_3 (l : Launch) (Z : State) (a0 : Array Value) (hw : HW a0 Z) (ws : List Jvm.Cond) (vf : Value) (h0 : Heap) (n0 : Nat) (hn : n0 ≤ h0.size) (S_F : Sta Z h0 "jdk/internal/util/Preconditions" "SIOOBE_FORMATTER" "Ljava/util/function/BiFunction;" vf) (hvf : vf.isRef = true) :
    Met own_EL l Z (⟨"java/lang/String", "checkIndex", "(II)V"⟩ : MethodName) jdk_42_method_155_code 2 none ({ frames := 1, cells := 0, slots := 0, locals := 14 } : Room) ws #[(.int (1 : Int32)), (.int (3 : Int32))] h0 n0 [] (Pur0 h0) := by
  refine Met.of pn_16 (fun m => ef_rmSIc_1_3 m ) ?_
  refine Own.iloadN d16_0 rfl ?_
  refine Own.iloadN d16_1 rfl ?_
  refine Own.getS_ (host := "") (Or.inl (hw _ (mg 77 rfl))) Via.refl S_F d16_2 ?_
  refine Own.callSP [(.int (1 : Int32)), (.int (3 : Int32)), vf] [] 0 (rmPIc_1_3 l Z a0 hw [] vf h0 n0 hn hvf) (hw _ (mg 79 rfl)) (hw _ (mg 80 rfl)) (hw _ (mg 78 rfl)) (hw _ (mg 81 rfl)) (by decide) d16_5 pd_12 rfl rfl rfl rfl (by decide) (by decide) (by decide) (by decide) ?_
  refine Own.pop d16_8 rfl ?_
  refine Own.ret_void rfl d16_9 (by decide) (by decide) (fun Sf hSf => ?_)
  exact ⟨rfl, rfl⟩
theorem ef_rmLC1_3 (m : MethodId) (a1 : Addr)  : entryFrame m #[(.ref a1), (.int (1 : Int32))] 2 = mkF m 0 #[.val (.ref a1), .val (.int (1 : Int32))] [] := by simp [entryFrame, mkF, argsToLocals, Value.category]
theorem rmLC1_3 (l : Launch) (Z : State) (a0 : Array Value) (hw : HW a0 Z) (ws : List Jvm.Cond) (a1 : Addr) (ka : ClassId) (vs : List Value) (x : Int32) (vf : Value) (h0 : Heap) (n0 : Nat) (hn : n0 ≤ h0.size) (V_a1 : Arl Z h0 a1 ka .byte vs) (hl : vs.length = 3) (hx : vs[1]? = some (.int x)) (S_F : Sta Z h0 "jdk/internal/util/Preconditions" "SIOOBE_FORMATTER" "Ljava/util/function/BiFunction;" vf) (hvf : vf.isRef = true) :
    Met own_EL l Z (⟨"java/lang/StringLatin1", "charAt", "([BI)C"⟩ : MethodName) jdk_43_method_2_code 2 (some .char) ({ frames := 2, cells := 0, slots := 0, locals := 27 } : Room) ws #[(.ref a1), (.int (1 : Int32))] h0 n0 [] (Pur (.int (own_lc x)) h0) := by
  refine Met.of pn_15 (fun m => ef_rmLC1_3 m a1) ?_
  refine Own.iloadN d15_0 rfl ?_
  refine Own.aloadN d15_1 rfl rfl ?_
  refine Own.arraylength_ (3 : Int32) V_a1 (by rw [hl]; rfl) d15_2 ?_
  refine Own.callS0 [(.int (1 : Int32)), (.int (3 : Int32))] [] 0 (rmSIc_1_3 l Z a0 hw [] vf h0 n0 hn S_F hvf) (hw _ (mg 74 rfl)) (hw _ (mg 75 rfl)) (hw _ (mg 7 rfl)) (hw _ (mg 76 rfl)) (by decide) d15_3 pd_10 rfl rfl rfl rfl (by decide) (by decide) (by decide) (by decide) ?_
  refine Own.aloadN d15_6 rfl rfl ?_
  refine Own.iloadN d15_7 rfl ?_
  refine Own.baload_ V_a1 (i := 1) rfl (v := (.int x)) hx d15_8 ?_
  refine Own.sipush (255 : Int32) d15_9 rfl ?_
  refine Own.iand d15_12 ?_
  refine Own.i2c d15_13 ?_
  refine Own.ret_nar (t := .char) (by simp) rfl d15_14 (by decide) (by decide) (fun Sf hSf => ?_)
  exact ⟨rfl, rfl⟩
theorem ef_rmCA1_3 (m : MethodId) (a1 : Addr)  : entryFrame m #[(.ref a1), (.int (1 : Int32))] 2 = mkF m 0 #[.val (.ref a1), .val (.int (1 : Int32))] [] := by simp [entryFrame, mkF, argsToLocals, Value.category]
theorem rmCA1_3 (l : Launch) (Z : State) (a0 : Array Value) (hw : HW a0 Z) (ws : List Jvm.Cond) (a1 : Addr) (b : Addr) (kb : ClassId) (vs : List Value) (x : Int32) (zc : Int32) (vf : Value) (h0 : Heap) (n0 : Nat) (hn : n0 ≤ h0.size) (X_a1 : XSt Z h0 a1) (F_value_a1 : FSv Z h0 a1 (.ref b)) (F_coder_a1 : FSc Z h0 a1 Z0) (V_b : Arl Z h0 b kb .byte vs) (hl : vs.length = 3) (hx : vs[1]? = some (.int (nar .byte (x.toInt8.toInt32)))) (S_C : Sta Z h0 "java/lang/String" "COMPACT_STRINGS" "Z" (.int zc)) (S_F : Sta Z h0 "jdk/internal/util/Preconditions" "SIOOBE_FORMATTER" "Ljava/util/function/BiFunction;" vf) (hz : ¬ zc = 0) (hvf : vf.isRef = true) (hr : 0 ≤ x.toInt ∧ x.toInt < 65536) (hlat : ¬ (255 : Int32) < x) :
    Met own_EL l Z (⟨"java/lang/String", "charAt", "(I)C"⟩ : MethodName) jdk_42_method_56_code 2 (some .char) ({ frames := 3, cells := 0, slots := 0, locals := 40 } : Room) ws #[(.ref a1), (.int (1 : Int32))] h0 n0 [] (Pur (.int x) h0) := by
  refine Met.of pn_13 (fun m => ef_rmCA1_3 m a1) ?_
  refine Own.aloadN d13_0 rfl rfl ?_
  refine Own.callVP a1 [] [] 0 (rm_lat_3 l Z a0 hw [] a1 b kb vs zc h0 n0 hn X_a1 F_value_a1 F_coder_a1 V_b hl S_C hz) (hw _ (mg 65 rfl)) (hw _ (mg 66 rfl)) (fun s hZ => notFace_of_selects (args := #[]) (mvT hZ (hw _ (mg 68 rfl)))) (hw _ (mg 68 rfl)) (hw _ (mg 67 rfl)) (hw _ (mg 7 rfl)) (hw _ (mg 69 rfl)) (by decide) X_a1 d13_1 pd_4 rfl rfl rfl rfl (by decide) (by decide) (by decide) (by decide) ?_
  refine Own.if_eq 16 d13_4 (by decide) rfl (fun q => absurd q (by decide)) (fun _ => ?_)
  refine Own.aloadN d13_7 rfl rfl ?_
  refine Own.getF_ (host := "") (Or.inl (hw _ (mg 33 rfl))) Via.refl F_value_a1 d13_8 ?_
  refine Own.iloadN d13_11 rfl ?_
  refine Own.callSP [(.ref b), (.int (1 : Int32))] [] 0 (rmLC1_3 l Z a0 hw [] b kb vs _ vf h0 n0 hn V_b hl hx S_F hvf) (hw _ (mg 70 rfl)) (hw _ (mg 71 rfl)) (hw _ (mg 72 rfl)) (hw _ (mg 73 rfl)) (by decide) d13_12 pd_23 rfl rfl rfl rfl (by decide) (by decide) (by decide) (by decide) ?_
  refine Own.ret_nar (t := .char) (by simp) rfl d13_15 (by decide) (by decide) (fun Sf hSf => ?_)
  exact ⟨congrArg (fun z => some (Value.int z)) (by rw [own_lcv hr.1 hlat, own_ncv hr.1 hr.2]), rfl⟩
theorem ef_rmOK1_3_0 (m : MethodId) (a1 : Addr) (d0 : Int32) (d1 : Int32) (e0 : Int32) (e1 : Int32)  : entryFrame m #[(.ref a1), (.int (1 : Int32)), (.int (3 : Int32)), Z0, (.int d0), (.int d1), (.int e0), (.int e1)] 8 = mkF m 0 #[.val (.ref a1), .val (.int (1 : Int32)), .val (.int (3 : Int32)), .val Z0, .val (.int d0), .val (.int d1), .val (.int e0), .val (.int e1)] [] := by simp [entryFrame, mkF, argsToLocals, Value.category]
theorem rmOK1_3_0 (l : Launch) (Z : State) (a0 : Array Value) (hw : HW a0 Z) (ws : List Jvm.Cond) (a1 : Addr) (d0 : Int32) (d1 : Int32) (e0 : Int32) (e1 : Int32) (b : Addr) (kb : ClassId) (vs : List Value) (zc : Int32) (vf : Value) (h0 : Heap) (n0 : Nat) (hn : n0 ≤ h0.size) (X_a1 : XSt Z h0 a1) (F_value_a1 : FSv Z h0 a1 (.ref b)) (F_coder_a1 : FSc Z h0 a1 Z0) (V_b : Arl Z h0 b kb .byte vs) (hl : vs.length = 3) (hx : vs[1]? = some (.int (nar .byte ((nar .char e0).toInt8.toInt32)))) (S_C : Sta Z h0 "java/lang/String" "COMPACT_STRINGS" "Z" (.int zc)) (S_F : Sta Z h0 "jdk/internal/util/Preconditions" "SIOOBE_FORMATTER" "Ljava/util/function/BiFunction;" vf) (hz : ¬ zc = 0) (hvf : vf.isRef = true) (hlat : ¬ (255 : Int32) < (nar .char e0)) :
    Met own_EL l Z (⟨"com/example/hits_by_heading/hitsbyheading/document/DocumentSectionLocationPinLaw", "ok", "(Ljava/lang/String;IIICCCC)Z"⟩ : MethodName) method_4_code 8 (some .boolean) ({ frames := 4, cells := 0, slots := 0, locals := 53 } : Room) ws #[(.ref a1), (.int (1 : Int32)), (.int (3 : Int32)), Z0, (.int d0), (.int d1), (.int e0), (.int e1)] h0 n0 [] (Pur (.int (1 : Int32)) h0) := by
  refine Met.of pn_12 (fun m => ef_rmOK1_3_0 m a1 d0 d1 e0 e1) ?_
  refine Own.iloadN d12_0 rfl ?_
  refine Own.iloadN d12_1 rfl ?_
  refine Own.icmp_lt 7 d12_2 (by decide) rfl (fun _ => ?_) (fun q => absurd (by decide) q)
  refine Own.aloadN d12_7 rfl rfl ?_
  refine Own.iloadN d12_8 rfl ?_
  refine Own.callVP a1 [(.int (1 : Int32))] [] 0 (rmCA1_3 l Z a0 hw [] a1 b kb vs (nar .char e0) zc vf h0 n0 hn X_a1 F_value_a1 F_coder_a1 V_b hl hx S_C S_F hz hvf (own_rng _) hlat) (hw _ (mg 60 rfl)) (hw _ (mg 61 rfl)) (fun s hZ => notFace_of_selects (args := #[]) (mvT hZ (hw _ (mg 63 rfl)))) (hw _ (mg 63 rfl)) (hw _ (mg 62 rfl)) (hw _ (mg 7 rfl)) (hw _ (mg 64 rfl)) (by decide) X_a1 d12_9 pd_6 rfl rfl rfl rfl (by decide) (by decide) (by decide) (by decide) ?_
  refine Own.iloadN d12_12 rfl ?_
  refine Own.iloadN d12_13 rfl ?_
  refine Own.iload d12_14 rfl ?_
  refine Own.iload d12_16 rfl ?_
  refine Own.iload d12_18 rfl ?_
  refine Own.iload d12_20 rfl ?_
  refine Own.callSP [(.int (1 : Int32)), Z0, (.int d0), (.int d1), (.int e0), (.int e1)] [(.int (nar .char e0))] 1 (rmEX1_0 l Z a0 hw [] d0 d1 e0 e1 h0 n0 hn) (hw _ (mg 82 rfl)) (hw _ (mg 83 rfl)) (hw _ (mg 3 rfl)) (hw _ (mg 84 rfl)) (by decide) d12_22 pd_11 rfl rfl rfl rfl (by decide) (by decide) (by decide) (by decide) ?_
  refine Own.icmp_ne 32 d12_25 (by decide) rfl (fun q => absurd rfl q) (fun _ => ?_)
  refine Own.iconst (1 : Int32) d12_28 rfl ?_
  refine Own.goto_ 33 d12_29 (by decide) rfl ?_
  refine Own.ret_nar (t := .boolean) (by simp) rfl d12_33 (by decide) (by decide) (fun Sf hSf => ?_)
  exact ⟨rfl, rfl⟩
theorem ef_rmPIc_2_3 (m : MethodId) (vf : Value) (hr_2 : (vf).isRef = true) : entryFrame m #[(.int (2 : Int32)), (.int (3 : Int32)), vf] 3 = mkF m 0 #[.val (.int (2 : Int32)), .val (.int (3 : Int32)), .val vf] [] := by rcases ref_cases hr_2 with rfl | ⟨z2, rfl⟩ <;> first | (simp [entryFrame, mkF, argsToLocals, Value.category]; done) | rfl
theorem rmPIc_2_3 (l : Launch) (Z : State) (a0 : Array Value) (hw : HW a0 Z) (ws : List Jvm.Cond) (vf : Value) (h0 : Heap) (n0 : Nat) (hn : n0 ≤ h0.size) (hvf : vf.isRef = true) :
    Met own_EL l Z (⟨"jdk/internal/util/Preconditions", "checkIndex", "(IILjava/util/function/BiFunction;)I"⟩ : MethodName) jdk_41_method_11_code 3 (some .int) ({ frames := 0, cells := 0, slots := 0, locals := 0 } : Room) ws #[(.int (2 : Int32)), (.int (3 : Int32)), vf] h0 n0 [] (Pur (.int (2 : Int32)) h0) := by
  refine Met.of pn_17 (fun m => ef_rmPIc_2_3 m vf hvf) ?_
  refine Own.iloadN d17_0 rfl ?_
  refine Own.if_lt 9 d17_1 (by decide) rfl (fun q => absurd q (by decide)) (fun _ => ?_)
  refine Own.iloadN d17_4 rfl ?_
  refine Own.iloadN d17_5 rfl ?_
  refine Own.icmp_lt 16 d17_6 (by decide) rfl (fun _ => ?_) (fun q => absurd (by decide) q)
  refine Own.iloadN d17_16 rfl ?_
  refine Own.ret_int rfl d17_17 (by decide) (by decide) (fun Sf hSf => ?_)
  exact ⟨rfl, rfl⟩
theorem ef_rmSIc_2_3 (m : MethodId)   : entryFrame m #[(.int (2 : Int32)), (.int (3 : Int32))] 2 = mkF m 0 #[.val (.int (2 : Int32)), .val (.int (3 : Int32))] [] := by simp [entryFrame, mkF, argsToLocals, Value.category]
theorem rmSIc_2_3 (l : Launch) (Z : State) (a0 : Array Value) (hw : HW a0 Z) (ws : List Jvm.Cond) (vf : Value) (h0 : Heap) (n0 : Nat) (hn : n0 ≤ h0.size) (S_F : Sta Z h0 "jdk/internal/util/Preconditions" "SIOOBE_FORMATTER" "Ljava/util/function/BiFunction;" vf) (hvf : vf.isRef = true) :
    Met own_EL l Z (⟨"java/lang/String", "checkIndex", "(II)V"⟩ : MethodName) jdk_42_method_155_code 2 none ({ frames := 1, cells := 0, slots := 0, locals := 14 } : Room) ws #[(.int (2 : Int32)), (.int (3 : Int32))] h0 n0 [] (Pur0 h0) := by
  refine Met.of pn_16 (fun m => ef_rmSIc_2_3 m ) ?_
  refine Own.iloadN d16_0 rfl ?_
  refine Own.iloadN d16_1 rfl ?_
  refine Own.getS_ (host := "") (Or.inl (hw _ (mg 77 rfl))) Via.refl S_F d16_2 ?_
  refine Own.callSP [(.int (2 : Int32)), (.int (3 : Int32)), vf] [] 0 (rmPIc_2_3 l Z a0 hw [] vf h0 n0 hn hvf) (hw _ (mg 79 rfl)) (hw _ (mg 80 rfl)) (hw _ (mg 78 rfl)) (hw _ (mg 81 rfl)) (by decide) d16_5 pd_12 rfl rfl rfl rfl (by decide) (by decide) (by decide) (by decide) ?_
  refine Own.pop d16_8 rfl ?_
  refine Own.ret_void rfl d16_9 (by decide) (by decide) (fun Sf hSf => ?_)
  exact ⟨rfl, rfl⟩
theorem ef_rmLC2_3 (m : MethodId) (a1 : Addr)  : entryFrame m #[(.ref a1), (.int (2 : Int32))] 2 = mkF m 0 #[.val (.ref a1), .val (.int (2 : Int32))] [] := by simp [entryFrame, mkF, argsToLocals, Value.category]
theorem rmLC2_3 (l : Launch) (Z : State) (a0 : Array Value) (hw : HW a0 Z) (ws : List Jvm.Cond) (a1 : Addr) (ka : ClassId) (vs : List Value) (x : Int32) (vf : Value) (h0 : Heap) (n0 : Nat) (hn : n0 ≤ h0.size) (V_a1 : Arl Z h0 a1 ka .byte vs) (hl : vs.length = 3) (hx : vs[2]? = some (.int x)) (S_F : Sta Z h0 "jdk/internal/util/Preconditions" "SIOOBE_FORMATTER" "Ljava/util/function/BiFunction;" vf) (hvf : vf.isRef = true) :
    Met own_EL l Z (⟨"java/lang/StringLatin1", "charAt", "([BI)C"⟩ : MethodName) jdk_43_method_2_code 2 (some .char) ({ frames := 2, cells := 0, slots := 0, locals := 27 } : Room) ws #[(.ref a1), (.int (2 : Int32))] h0 n0 [] (Pur (.int (own_lc x)) h0) := by
  refine Met.of pn_15 (fun m => ef_rmLC2_3 m a1) ?_
  refine Own.iloadN d15_0 rfl ?_
  refine Own.aloadN d15_1 rfl rfl ?_
  refine Own.arraylength_ (3 : Int32) V_a1 (by rw [hl]; rfl) d15_2 ?_
  refine Own.callS0 [(.int (2 : Int32)), (.int (3 : Int32))] [] 0 (rmSIc_2_3 l Z a0 hw [] vf h0 n0 hn S_F hvf) (hw _ (mg 74 rfl)) (hw _ (mg 75 rfl)) (hw _ (mg 7 rfl)) (hw _ (mg 76 rfl)) (by decide) d15_3 pd_10 rfl rfl rfl rfl (by decide) (by decide) (by decide) (by decide) ?_
  refine Own.aloadN d15_6 rfl rfl ?_
  refine Own.iloadN d15_7 rfl ?_
  refine Own.baload_ V_a1 (i := 2) rfl (v := (.int x)) hx d15_8 ?_
  refine Own.sipush (255 : Int32) d15_9 rfl ?_
  refine Own.iand d15_12 ?_
  refine Own.i2c d15_13 ?_
  refine Own.ret_nar (t := .char) (by simp) rfl d15_14 (by decide) (by decide) (fun Sf hSf => ?_)
  exact ⟨rfl, rfl⟩
theorem ef_rmCA2_3 (m : MethodId) (a1 : Addr)  : entryFrame m #[(.ref a1), (.int (2 : Int32))] 2 = mkF m 0 #[.val (.ref a1), .val (.int (2 : Int32))] [] := by simp [entryFrame, mkF, argsToLocals, Value.category]
theorem rmCA2_3 (l : Launch) (Z : State) (a0 : Array Value) (hw : HW a0 Z) (ws : List Jvm.Cond) (a1 : Addr) (b : Addr) (kb : ClassId) (vs : List Value) (x : Int32) (zc : Int32) (vf : Value) (h0 : Heap) (n0 : Nat) (hn : n0 ≤ h0.size) (X_a1 : XSt Z h0 a1) (F_value_a1 : FSv Z h0 a1 (.ref b)) (F_coder_a1 : FSc Z h0 a1 Z0) (V_b : Arl Z h0 b kb .byte vs) (hl : vs.length = 3) (hx : vs[2]? = some (.int (nar .byte (x.toInt8.toInt32)))) (S_C : Sta Z h0 "java/lang/String" "COMPACT_STRINGS" "Z" (.int zc)) (S_F : Sta Z h0 "jdk/internal/util/Preconditions" "SIOOBE_FORMATTER" "Ljava/util/function/BiFunction;" vf) (hz : ¬ zc = 0) (hvf : vf.isRef = true) (hr : 0 ≤ x.toInt ∧ x.toInt < 65536) (hlat : ¬ (255 : Int32) < x) :
    Met own_EL l Z (⟨"java/lang/String", "charAt", "(I)C"⟩ : MethodName) jdk_42_method_56_code 2 (some .char) ({ frames := 3, cells := 0, slots := 0, locals := 40 } : Room) ws #[(.ref a1), (.int (2 : Int32))] h0 n0 [] (Pur (.int x) h0) := by
  refine Met.of pn_13 (fun m => ef_rmCA2_3 m a1) ?_
  refine Own.aloadN d13_0 rfl rfl ?_
  refine Own.callVP a1 [] [] 0 (rm_lat_3 l Z a0 hw [] a1 b kb vs zc h0 n0 hn X_a1 F_value_a1 F_coder_a1 V_b hl S_C hz) (hw _ (mg 65 rfl)) (hw _ (mg 66 rfl)) (fun s hZ => notFace_of_selects (args := #[]) (mvT hZ (hw _ (mg 68 rfl)))) (hw _ (mg 68 rfl)) (hw _ (mg 67 rfl)) (hw _ (mg 7 rfl)) (hw _ (mg 69 rfl)) (by decide) X_a1 d13_1 pd_4 rfl rfl rfl rfl (by decide) (by decide) (by decide) (by decide) ?_
  refine Own.if_eq 16 d13_4 (by decide) rfl (fun q => absurd q (by decide)) (fun _ => ?_)
  refine Own.aloadN d13_7 rfl rfl ?_
  refine Own.getF_ (host := "") (Or.inl (hw _ (mg 33 rfl))) Via.refl F_value_a1 d13_8 ?_
  refine Own.iloadN d13_11 rfl ?_
  refine Own.callSP [(.ref b), (.int (2 : Int32))] [] 0 (rmLC2_3 l Z a0 hw [] b kb vs _ vf h0 n0 hn V_b hl hx S_F hvf) (hw _ (mg 70 rfl)) (hw _ (mg 71 rfl)) (hw _ (mg 72 rfl)) (hw _ (mg 73 rfl)) (by decide) d13_12 pd_23 rfl rfl rfl rfl (by decide) (by decide) (by decide) (by decide) ?_
  refine Own.ret_nar (t := .char) (by simp) rfl d13_15 (by decide) (by decide) (fun Sf hSf => ?_)
  exact ⟨congrArg (fun z => some (Value.int z)) (by rw [own_lcv hr.1 hlat, own_ncv hr.1 hr.2]), rfl⟩
theorem d18_40 : decode method_5_code 40 = .ok (.iload 5, 2) := by decide +kernel
theorem ef_rmEX2_0 (m : MethodId) (d0 : Int32) (d1 : Int32) (e0 : Int32) (e1 : Int32)  : entryFrame m #[(.int (2 : Int32)), Z0, (.int d0), (.int d1), (.int e0), (.int e1)] 7 = mkF m 0 #[.val (.int (2 : Int32)), .val Z0, .val (.int d0), .val (.int d1), .val (.int e0), .val (.int e1), .unset] [] := by simp [entryFrame, mkF, argsToLocals, Value.category]
theorem rmEX2_0 (l : Launch) (Z : State) (a0 : Array Value) (hw : HW a0 Z) (ws : List Jvm.Cond) (d0 : Int32) (d1 : Int32) (e0 : Int32) (e1 : Int32) (h0 : Heap) (n0 : Nat) (hn : n0 ≤ h0.size) :
    Met own_EL l Z (⟨"com/example/hits_by_heading/hitsbyheading/document/DocumentSectionLocationPinLaw", "expected", "(IICCCC)C"⟩ : MethodName) method_5_code 7 (some .char) ({ frames := 0, cells := 0, slots := 0, locals := 0 } : Room) ws #[(.int (2 : Int32)), Z0, (.int d0), (.int d1), (.int e0), (.int e1)] h0 n0 [] (Pur (.int (nar .char e1)) h0) := by
  refine Met.of pn_18 (fun m => ef_rmEX2_0 m d0 d1 e0 e1) ?_
  refine Own.iloadN d18_0 rfl ?_
  refine Own.iloadN d18_1 rfl ?_
  refine Own.icmp_ge 15 d18_2 (by decide) rfl (fun _ => ?_) (fun q => absurd q (by decide))
  refine Own.iloadN d18_15 rfl ?_
  refine Own.iloadN d18_16 rfl ?_
  refine Own.icmp_ne 23 d18_17 (by decide) rfl (fun _ => ?_) (fun q => absurd q (by decide))
  refine Own.iloadN d18_23 rfl ?_
  refine Own.iloadN d18_24 rfl ?_
  refine Own.isub d18_25 ?_
  refine OAt.cast (st' := [(.int (2 : Int32))]) rfl ?_
  refine Own.iconst (1 : Int32) d18_26 rfl ?_
  refine Own.isub d18_27 ?_
  refine OAt.cast (st' := [(.int (1 : Int32))]) rfl ?_
  refine Own.istore #[.val (.int (2 : Int32)), .val Z0, .val (.int d0), .val (.int d1), .val (.int e0), .val (.int e1), .val (.int (1 : Int32))] d18_28 rfl ?_
  refine Own.iload d18_30 rfl ?_
  refine Own.if_ne 40 d18_32 (by decide) rfl (fun _ => ?_) (fun q => absurd q (by decide))
  refine Own.iload d18_40 rfl ?_
  refine Own.ret_nar (t := .char) (by simp) rfl d18_42 (by decide) (by decide) (fun Sf hSf => ?_)
  exact ⟨rfl, rfl⟩
theorem ef_rmOK2_3_0 (m : MethodId) (a1 : Addr) (d0 : Int32) (d1 : Int32) (e0 : Int32) (e1 : Int32)  : entryFrame m #[(.ref a1), (.int (2 : Int32)), (.int (3 : Int32)), Z0, (.int d0), (.int d1), (.int e0), (.int e1)] 8 = mkF m 0 #[.val (.ref a1), .val (.int (2 : Int32)), .val (.int (3 : Int32)), .val Z0, .val (.int d0), .val (.int d1), .val (.int e0), .val (.int e1)] [] := by simp [entryFrame, mkF, argsToLocals, Value.category]
theorem rmOK2_3_0 (l : Launch) (Z : State) (a0 : Array Value) (hw : HW a0 Z) (ws : List Jvm.Cond) (a1 : Addr) (d0 : Int32) (d1 : Int32) (e0 : Int32) (e1 : Int32) (b : Addr) (kb : ClassId) (vs : List Value) (zc : Int32) (vf : Value) (h0 : Heap) (n0 : Nat) (hn : n0 ≤ h0.size) (X_a1 : XSt Z h0 a1) (F_value_a1 : FSv Z h0 a1 (.ref b)) (F_coder_a1 : FSc Z h0 a1 Z0) (V_b : Arl Z h0 b kb .byte vs) (hl : vs.length = 3) (hx : vs[2]? = some (.int (nar .byte ((nar .char e1).toInt8.toInt32)))) (S_C : Sta Z h0 "java/lang/String" "COMPACT_STRINGS" "Z" (.int zc)) (S_F : Sta Z h0 "jdk/internal/util/Preconditions" "SIOOBE_FORMATTER" "Ljava/util/function/BiFunction;" vf) (hz : ¬ zc = 0) (hvf : vf.isRef = true) (hlat : ¬ (255 : Int32) < (nar .char e1)) :
    Met own_EL l Z (⟨"com/example/hits_by_heading/hitsbyheading/document/DocumentSectionLocationPinLaw", "ok", "(Ljava/lang/String;IIICCCC)Z"⟩ : MethodName) method_4_code 8 (some .boolean) ({ frames := 4, cells := 0, slots := 0, locals := 53 } : Room) ws #[(.ref a1), (.int (2 : Int32)), (.int (3 : Int32)), Z0, (.int d0), (.int d1), (.int e0), (.int e1)] h0 n0 [] (Pur (.int (1 : Int32)) h0) := by
  refine Met.of pn_12 (fun m => ef_rmOK2_3_0 m a1 d0 d1 e0 e1) ?_
  refine Own.iloadN d12_0 rfl ?_
  refine Own.iloadN d12_1 rfl ?_
  refine Own.icmp_lt 7 d12_2 (by decide) rfl (fun _ => ?_) (fun q => absurd (by decide) q)
  refine Own.aloadN d12_7 rfl rfl ?_
  refine Own.iloadN d12_8 rfl ?_
  refine Own.callVP a1 [(.int (2 : Int32))] [] 0 (rmCA2_3 l Z a0 hw [] a1 b kb vs (nar .char e1) zc vf h0 n0 hn X_a1 F_value_a1 F_coder_a1 V_b hl hx S_C S_F hz hvf (own_rng _) hlat) (hw _ (mg 60 rfl)) (hw _ (mg 61 rfl)) (fun s hZ => notFace_of_selects (args := #[]) (mvT hZ (hw _ (mg 63 rfl)))) (hw _ (mg 63 rfl)) (hw _ (mg 62 rfl)) (hw _ (mg 7 rfl)) (hw _ (mg 64 rfl)) (by decide) X_a1 d12_9 pd_6 rfl rfl rfl rfl (by decide) (by decide) (by decide) (by decide) ?_
  refine Own.iloadN d12_12 rfl ?_
  refine Own.iloadN d12_13 rfl ?_
  refine Own.iload d12_14 rfl ?_
  refine Own.iload d12_16 rfl ?_
  refine Own.iload d12_18 rfl ?_
  refine Own.iload d12_20 rfl ?_
  refine Own.callSP [(.int (2 : Int32)), Z0, (.int d0), (.int d1), (.int e0), (.int e1)] [(.int (nar .char e1))] 1 (rmEX2_0 l Z a0 hw [] d0 d1 e0 e1 h0 n0 hn) (hw _ (mg 82 rfl)) (hw _ (mg 83 rfl)) (hw _ (mg 3 rfl)) (hw _ (mg 84 rfl)) (by decide) d12_22 pd_11 rfl rfl rfl rfl (by decide) (by decide) (by decide) (by decide) ?_
  refine Own.icmp_ne 32 d12_25 (by decide) rfl (fun q => absurd rfl q) (fun _ => ?_)
  refine Own.iconst (1 : Int32) d12_28 rfl ?_
  refine Own.goto_ 33 d12_29 (by decide) rfl ?_
  refine Own.ret_nar (t := .boolean) (by simp) rfl d12_33 (by decide) (by decide) (fun Sf hSf => ?_)
  exact ⟨rfl, rfl⟩
theorem ef_rmOK3_3_0 (m : MethodId) (a1 : Addr) (d0 : Int32) (d1 : Int32) (e0 : Int32) (e1 : Int32)  : entryFrame m #[(.ref a1), (.int (3 : Int32)), (.int (3 : Int32)), Z0, (.int d0), (.int d1), (.int e0), (.int e1)] 8 = mkF m 0 #[.val (.ref a1), .val (.int (3 : Int32)), .val (.int (3 : Int32)), .val Z0, .val (.int d0), .val (.int d1), .val (.int e0), .val (.int e1)] [] := by simp [entryFrame, mkF, argsToLocals, Value.category]
theorem rmOK3_3_0 (l : Launch) (Z : State) (a0 : Array Value) (hw : HW a0 Z) (ws : List Jvm.Cond) (a1 : Addr) (d0 : Int32) (d1 : Int32) (e0 : Int32) (e1 : Int32) (h0 : Heap) (n0 : Nat) (hn : n0 ≤ h0.size) :
    Met own_EL l Z (⟨"com/example/hits_by_heading/hitsbyheading/document/DocumentSectionLocationPinLaw", "ok", "(Ljava/lang/String;IIICCCC)Z"⟩ : MethodName) method_4_code 8 (some .boolean) ({ frames := 0, cells := 0, slots := 0, locals := 0 } : Room) ws #[(.ref a1), (.int (3 : Int32)), (.int (3 : Int32)), Z0, (.int d0), (.int d1), (.int e0), (.int e1)] h0 n0 [] (Pur (.int (1 : Int32)) h0) := by
  refine Met.of pn_12 (fun m => ef_rmOK3_3_0 m a1 d0 d1 e0 e1) ?_
  refine Own.iloadN d12_0 rfl ?_
  refine Own.iloadN d12_1 rfl ?_
  refine Own.icmp_lt 7 d12_2 (by decide) rfl (fun q => absurd q (by decide)) (fun _ => ?_)
  refine Own.iconst (1 : Int32) d12_5 rfl ?_
  refine Own.ret_nar (t := .boolean) (by simp) rfl d12_6 (by decide) (by decide) (fun Sf hSf => ?_)
  exact ⟨rfl, rfl⟩
theorem ef_rmOK4_3_0 (m : MethodId) (a1 : Addr) (d0 : Int32) (d1 : Int32) (e0 : Int32) (e1 : Int32)  : entryFrame m #[(.ref a1), (.int (4 : Int32)), (.int (3 : Int32)), Z0, (.int d0), (.int d1), (.int e0), (.int e1)] 8 = mkF m 0 #[.val (.ref a1), .val (.int (4 : Int32)), .val (.int (3 : Int32)), .val Z0, .val (.int d0), .val (.int d1), .val (.int e0), .val (.int e1)] [] := by simp [entryFrame, mkF, argsToLocals, Value.category]
theorem rmOK4_3_0 (l : Launch) (Z : State) (a0 : Array Value) (hw : HW a0 Z) (ws : List Jvm.Cond) (a1 : Addr) (d0 : Int32) (d1 : Int32) (e0 : Int32) (e1 : Int32) (h0 : Heap) (n0 : Nat) (hn : n0 ≤ h0.size) :
    Met own_EL l Z (⟨"com/example/hits_by_heading/hitsbyheading/document/DocumentSectionLocationPinLaw", "ok", "(Ljava/lang/String;IIICCCC)Z"⟩ : MethodName) method_4_code 8 (some .boolean) ({ frames := 0, cells := 0, slots := 0, locals := 0 } : Room) ws #[(.ref a1), (.int (4 : Int32)), (.int (3 : Int32)), Z0, (.int d0), (.int d1), (.int e0), (.int e1)] h0 n0 [] (Pur (.int (1 : Int32)) h0) := by
  refine Met.of pn_12 (fun m => ef_rmOK4_3_0 m a1 d0 d1 e0 e1) ?_
  refine Own.iloadN d12_0 rfl ?_
  refine Own.iloadN d12_1 rfl ?_
  refine Own.icmp_lt 7 d12_2 (by decide) rfl (fun q => absurd q (by decide)) (fun _ => ?_)
  refine Own.iconst (1 : Int32) d12_5 rfl ?_
  refine Own.ret_nar (t := .boolean) (by simp) rfl d12_6 (by decide) (by decide) (fun Sf hSf => ?_)
  exact ⟨rfl, rfl⟩
theorem ef_rmPIc_0_1 (m : MethodId) (vf : Value) (hr_2 : (vf).isRef = true) : entryFrame m #[Z0, (.int (1 : Int32)), vf] 3 = mkF m 0 #[.val Z0, .val (.int (1 : Int32)), .val vf] [] := by rcases ref_cases hr_2 with rfl | ⟨z2, rfl⟩ <;> first | (simp [entryFrame, mkF, argsToLocals, Value.category]; done) | rfl
theorem rmPIc_0_1 (l : Launch) (Z : State) (a0 : Array Value) (hw : HW a0 Z) (ws : List Jvm.Cond) (vf : Value) (h0 : Heap) (n0 : Nat) (hn : n0 ≤ h0.size) (hvf : vf.isRef = true) :
    Met own_EL l Z (⟨"jdk/internal/util/Preconditions", "checkIndex", "(IILjava/util/function/BiFunction;)I"⟩ : MethodName) jdk_41_method_11_code 3 (some .int) ({ frames := 0, cells := 0, slots := 0, locals := 0 } : Room) ws #[Z0, (.int (1 : Int32)), vf] h0 n0 [] (Pur Z0 h0) := by
  refine Met.of pn_17 (fun m => ef_rmPIc_0_1 m vf hvf) ?_
  refine Own.iloadN d17_0 rfl ?_
  refine Own.if_lt 9 d17_1 (by decide) rfl (fun q => absurd q (by decide)) (fun _ => ?_)
  refine Own.iloadN d17_4 rfl ?_
  refine Own.iloadN d17_5 rfl ?_
  refine Own.icmp_lt 16 d17_6 (by decide) rfl (fun _ => ?_) (fun q => absurd (by decide) q)
  refine Own.iloadN d17_16 rfl ?_
  refine Own.ret_int rfl d17_17 (by decide) (by decide) (fun Sf hSf => ?_)
  exact ⟨rfl, rfl⟩
theorem ef_rmSIc_0_1 (m : MethodId)   : entryFrame m #[Z0, (.int (1 : Int32))] 2 = mkF m 0 #[.val Z0, .val (.int (1 : Int32))] [] := by simp [entryFrame, mkF, argsToLocals, Value.category]
theorem rmSIc_0_1 (l : Launch) (Z : State) (a0 : Array Value) (hw : HW a0 Z) (ws : List Jvm.Cond) (vf : Value) (h0 : Heap) (n0 : Nat) (hn : n0 ≤ h0.size) (S_F : Sta Z h0 "jdk/internal/util/Preconditions" "SIOOBE_FORMATTER" "Ljava/util/function/BiFunction;" vf) (hvf : vf.isRef = true) :
    Met own_EL l Z (⟨"java/lang/String", "checkIndex", "(II)V"⟩ : MethodName) jdk_42_method_155_code 2 none ({ frames := 1, cells := 0, slots := 0, locals := 14 } : Room) ws #[Z0, (.int (1 : Int32))] h0 n0 [] (Pur0 h0) := by
  refine Met.of pn_16 (fun m => ef_rmSIc_0_1 m ) ?_
  refine Own.iloadN d16_0 rfl ?_
  refine Own.iloadN d16_1 rfl ?_
  refine Own.getS_ (host := "") (Or.inl (hw _ (mg 77 rfl))) Via.refl S_F d16_2 ?_
  refine Own.callSP [Z0, (.int (1 : Int32)), vf] [] 0 (rmPIc_0_1 l Z a0 hw [] vf h0 n0 hn hvf) (hw _ (mg 79 rfl)) (hw _ (mg 80 rfl)) (hw _ (mg 78 rfl)) (hw _ (mg 81 rfl)) (by decide) d16_5 pd_12 rfl rfl rfl rfl (by decide) (by decide) (by decide) (by decide) ?_
  refine Own.pop d16_8 rfl ?_
  refine Own.ret_void rfl d16_9 (by decide) (by decide) (fun Sf hSf => ?_)
  exact ⟨rfl, rfl⟩
theorem ef_rmLC0_1 (m : MethodId) (a1 : Addr)  : entryFrame m #[(.ref a1), Z0] 2 = mkF m 0 #[.val (.ref a1), .val Z0] [] := by simp [entryFrame, mkF, argsToLocals, Value.category]
theorem rmLC0_1 (l : Launch) (Z : State) (a0 : Array Value) (hw : HW a0 Z) (ws : List Jvm.Cond) (a1 : Addr) (ka : ClassId) (vs : List Value) (x : Int32) (vf : Value) (h0 : Heap) (n0 : Nat) (hn : n0 ≤ h0.size) (V_a1 : Arl Z h0 a1 ka .byte vs) (hl : vs.length = 1) (hx : vs[0]? = some (.int x)) (S_F : Sta Z h0 "jdk/internal/util/Preconditions" "SIOOBE_FORMATTER" "Ljava/util/function/BiFunction;" vf) (hvf : vf.isRef = true) :
    Met own_EL l Z (⟨"java/lang/StringLatin1", "charAt", "([BI)C"⟩ : MethodName) jdk_43_method_2_code 2 (some .char) ({ frames := 2, cells := 0, slots := 0, locals := 27 } : Room) ws #[(.ref a1), Z0] h0 n0 [] (Pur (.int (own_lc x)) h0) := by
  refine Met.of pn_15 (fun m => ef_rmLC0_1 m a1) ?_
  refine Own.iloadN d15_0 rfl ?_
  refine Own.aloadN d15_1 rfl rfl ?_
  refine Own.arraylength_ (1 : Int32) V_a1 (by rw [hl]; rfl) d15_2 ?_
  refine Own.callS0 [Z0, (.int (1 : Int32))] [] 0 (rmSIc_0_1 l Z a0 hw [] vf h0 n0 hn S_F hvf) (hw _ (mg 74 rfl)) (hw _ (mg 75 rfl)) (hw _ (mg 7 rfl)) (hw _ (mg 76 rfl)) (by decide) d15_3 pd_10 rfl rfl rfl rfl (by decide) (by decide) (by decide) (by decide) ?_
  refine Own.aloadN d15_6 rfl rfl ?_
  refine Own.iloadN d15_7 rfl ?_
  refine Own.baload_ V_a1 (i := 0) rfl (v := (.int x)) hx d15_8 ?_
  refine Own.sipush (255 : Int32) d15_9 rfl ?_
  refine Own.iand d15_12 ?_
  refine Own.i2c d15_13 ?_
  refine Own.ret_nar (t := .char) (by simp) rfl d15_14 (by decide) (by decide) (fun Sf hSf => ?_)
  exact ⟨rfl, rfl⟩
theorem ef_rmCA0_1 (m : MethodId) (a1 : Addr)  : entryFrame m #[(.ref a1), Z0] 2 = mkF m 0 #[.val (.ref a1), .val Z0] [] := by simp [entryFrame, mkF, argsToLocals, Value.category]
theorem rmCA0_1 (l : Launch) (Z : State) (a0 : Array Value) (hw : HW a0 Z) (ws : List Jvm.Cond) (a1 : Addr) (b : Addr) (kb : ClassId) (vs : List Value) (x : Int32) (zc : Int32) (vf : Value) (h0 : Heap) (n0 : Nat) (hn : n0 ≤ h0.size) (X_a1 : XSt Z h0 a1) (F_value_a1 : FSv Z h0 a1 (.ref b)) (F_coder_a1 : FSc Z h0 a1 Z0) (V_b : Arl Z h0 b kb .byte vs) (hl : vs.length = 1) (hx : vs[0]? = some (.int (nar .byte (x.toInt8.toInt32)))) (S_C : Sta Z h0 "java/lang/String" "COMPACT_STRINGS" "Z" (.int zc)) (S_F : Sta Z h0 "jdk/internal/util/Preconditions" "SIOOBE_FORMATTER" "Ljava/util/function/BiFunction;" vf) (hz : ¬ zc = 0) (hvf : vf.isRef = true) (hr : 0 ≤ x.toInt ∧ x.toInt < 65536) (hlat : ¬ (255 : Int32) < x) :
    Met own_EL l Z (⟨"java/lang/String", "charAt", "(I)C"⟩ : MethodName) jdk_42_method_56_code 2 (some .char) ({ frames := 3, cells := 0, slots := 0, locals := 40 } : Room) ws #[(.ref a1), Z0] h0 n0 [] (Pur (.int x) h0) := by
  refine Met.of pn_13 (fun m => ef_rmCA0_1 m a1) ?_
  refine Own.aloadN d13_0 rfl rfl ?_
  refine Own.callVP a1 [] [] 0 (rm_lat_1 l Z a0 hw [] a1 b kb vs zc h0 n0 hn X_a1 F_value_a1 F_coder_a1 V_b hl S_C hz) (hw _ (mg 65 rfl)) (hw _ (mg 66 rfl)) (fun s hZ => notFace_of_selects (args := #[]) (mvT hZ (hw _ (mg 68 rfl)))) (hw _ (mg 68 rfl)) (hw _ (mg 67 rfl)) (hw _ (mg 7 rfl)) (hw _ (mg 69 rfl)) (by decide) X_a1 d13_1 pd_4 rfl rfl rfl rfl (by decide) (by decide) (by decide) (by decide) ?_
  refine Own.if_eq 16 d13_4 (by decide) rfl (fun q => absurd q (by decide)) (fun _ => ?_)
  refine Own.aloadN d13_7 rfl rfl ?_
  refine Own.getF_ (host := "") (Or.inl (hw _ (mg 33 rfl))) Via.refl F_value_a1 d13_8 ?_
  refine Own.iloadN d13_11 rfl ?_
  refine Own.callSP [(.ref b), Z0] [] 0 (rmLC0_1 l Z a0 hw [] b kb vs _ vf h0 n0 hn V_b hl hx S_F hvf) (hw _ (mg 70 rfl)) (hw _ (mg 71 rfl)) (hw _ (mg 72 rfl)) (hw _ (mg 73 rfl)) (by decide) d13_12 pd_23 rfl rfl rfl rfl (by decide) (by decide) (by decide) (by decide) ?_
  refine Own.ret_nar (t := .char) (by simp) rfl d13_15 (by decide) (by decide) (fun Sf hSf => ?_)
  exact ⟨congrArg (fun z => some (Value.int z)) (by rw [own_lcv hr.1 hlat, own_ncv hr.1 hr.2]), rfl⟩
theorem d18_5 : decode method_5_code 5 = .ok (.iload_n 0, 1) := by decide +kernel
theorem d18_6 : decode method_5_code 6 = .ok (.ifCond .ne 7, 3) := by decide +kernel
theorem d18_9 : decode method_5_code 9 = .ok (.iload_n 2, 1) := by decide +kernel
theorem d18_10 : decode method_5_code 10 = .ok (.goto 4, 3) := by decide +kernel
theorem d18_14 : decode method_5_code 14 = .ok (.ireturn, 1) := by decide +kernel
theorem ef_rmEX0_1 (m : MethodId) (d0 : Int32) (d1 : Int32) (e0 : Int32) (e1 : Int32)  : entryFrame m #[Z0, (.int (1 : Int32)), (.int d0), (.int d1), (.int e0), (.int e1)] 7 = mkF m 0 #[.val Z0, .val (.int (1 : Int32)), .val (.int d0), .val (.int d1), .val (.int e0), .val (.int e1), .unset] [] := by simp [entryFrame, mkF, argsToLocals, Value.category]
theorem rmEX0_1 (l : Launch) (Z : State) (a0 : Array Value) (hw : HW a0 Z) (ws : List Jvm.Cond) (d0 : Int32) (d1 : Int32) (e0 : Int32) (e1 : Int32) (h0 : Heap) (n0 : Nat) (hn : n0 ≤ h0.size) :
    Met own_EL l Z (⟨"com/example/hits_by_heading/hitsbyheading/document/DocumentSectionLocationPinLaw", "expected", "(IICCCC)C"⟩ : MethodName) method_5_code 7 (some .char) ({ frames := 0, cells := 0, slots := 0, locals := 0 } : Room) ws #[Z0, (.int (1 : Int32)), (.int d0), (.int d1), (.int e0), (.int e1)] h0 n0 [] (Pur (.int (nar .char d0)) h0) := by
  refine Met.of pn_18 (fun m => ef_rmEX0_1 m d0 d1 e0 e1) ?_
  refine Own.iloadN d18_0 rfl ?_
  refine Own.iloadN d18_1 rfl ?_
  refine Own.icmp_ge 15 d18_2 (by decide) rfl (fun q => absurd (by decide) q) (fun _ => ?_)
  refine Own.iloadN d18_5 rfl ?_
  refine Own.if_ne 13 d18_6 (by decide) rfl (fun q => absurd (by decide) q) (fun _ => ?_)
  refine Own.iloadN d18_9 rfl ?_
  refine Own.goto_ 14 d18_10 (by decide) rfl ?_
  refine Own.ret_nar (t := .char) (by simp) rfl d18_14 (by decide) (by decide) (fun Sf hSf => ?_)
  exact ⟨rfl, rfl⟩
theorem ef_rmOK0_1_1 (m : MethodId) (a1 : Addr) (d0 : Int32) (d1 : Int32) (e0 : Int32) (e1 : Int32)  : entryFrame m #[(.ref a1), Z0, (.int (1 : Int32)), (.int (1 : Int32)), (.int d0), (.int d1), (.int e0), (.int e1)] 8 = mkF m 0 #[.val (.ref a1), .val Z0, .val (.int (1 : Int32)), .val (.int (1 : Int32)), .val (.int d0), .val (.int d1), .val (.int e0), .val (.int e1)] [] := by simp [entryFrame, mkF, argsToLocals, Value.category]
theorem rmOK0_1_1 (l : Launch) (Z : State) (a0 : Array Value) (hw : HW a0 Z) (ws : List Jvm.Cond) (a1 : Addr) (d0 : Int32) (d1 : Int32) (e0 : Int32) (e1 : Int32) (b : Addr) (kb : ClassId) (vs : List Value) (zc : Int32) (vf : Value) (h0 : Heap) (n0 : Nat) (hn : n0 ≤ h0.size) (X_a1 : XSt Z h0 a1) (F_value_a1 : FSv Z h0 a1 (.ref b)) (F_coder_a1 : FSc Z h0 a1 Z0) (V_b : Arl Z h0 b kb .byte vs) (hl : vs.length = 1) (hx : vs[0]? = some (.int (nar .byte ((nar .char d0).toInt8.toInt32)))) (S_C : Sta Z h0 "java/lang/String" "COMPACT_STRINGS" "Z" (.int zc)) (S_F : Sta Z h0 "jdk/internal/util/Preconditions" "SIOOBE_FORMATTER" "Ljava/util/function/BiFunction;" vf) (hz : ¬ zc = 0) (hvf : vf.isRef = true) (hlat : ¬ (255 : Int32) < (nar .char d0)) :
    Met own_EL l Z (⟨"com/example/hits_by_heading/hitsbyheading/document/DocumentSectionLocationPinLaw", "ok", "(Ljava/lang/String;IIICCCC)Z"⟩ : MethodName) method_4_code 8 (some .boolean) ({ frames := 4, cells := 0, slots := 0, locals := 53 } : Room) ws #[(.ref a1), Z0, (.int (1 : Int32)), (.int (1 : Int32)), (.int d0), (.int d1), (.int e0), (.int e1)] h0 n0 [] (Pur (.int (1 : Int32)) h0) := by
  refine Met.of pn_12 (fun m => ef_rmOK0_1_1 m a1 d0 d1 e0 e1) ?_
  refine Own.iloadN d12_0 rfl ?_
  refine Own.iloadN d12_1 rfl ?_
  refine Own.icmp_lt 7 d12_2 (by decide) rfl (fun _ => ?_) (fun q => absurd (by decide) q)
  refine Own.aloadN d12_7 rfl rfl ?_
  refine Own.iloadN d12_8 rfl ?_
  refine Own.callVP a1 [Z0] [] 0 (rmCA0_1 l Z a0 hw [] a1 b kb vs (nar .char d0) zc vf h0 n0 hn X_a1 F_value_a1 F_coder_a1 V_b hl hx S_C S_F hz hvf (own_rng _) hlat) (hw _ (mg 60 rfl)) (hw _ (mg 61 rfl)) (fun s hZ => notFace_of_selects (args := #[]) (mvT hZ (hw _ (mg 63 rfl)))) (hw _ (mg 63 rfl)) (hw _ (mg 62 rfl)) (hw _ (mg 7 rfl)) (hw _ (mg 64 rfl)) (by decide) X_a1 d12_9 pd_6 rfl rfl rfl rfl (by decide) (by decide) (by decide) (by decide) ?_
  refine Own.iloadN d12_12 rfl ?_
  refine Own.iloadN d12_13 rfl ?_
  refine Own.iload d12_14 rfl ?_
  refine Own.iload d12_16 rfl ?_
  refine Own.iload d12_18 rfl ?_
  refine Own.iload d12_20 rfl ?_
  refine Own.callSP [Z0, (.int (1 : Int32)), (.int d0), (.int d1), (.int e0), (.int e1)] [(.int (nar .char d0))] 1 (rmEX0_1 l Z a0 hw [] d0 d1 e0 e1 h0 n0 hn) (hw _ (mg 82 rfl)) (hw _ (mg 83 rfl)) (hw _ (mg 3 rfl)) (hw _ (mg 84 rfl)) (by decide) d12_22 pd_11 rfl rfl rfl rfl (by decide) (by decide) (by decide) (by decide) ?_
  refine Own.icmp_ne 32 d12_25 (by decide) rfl (fun q => absurd rfl q) (fun _ => ?_)
  refine Own.iconst (1 : Int32) d12_28 rfl ?_
  refine Own.goto_ 33 d12_29 (by decide) rfl ?_
  refine Own.ret_nar (t := .boolean) (by simp) rfl d12_33 (by decide) (by decide) (fun Sf hSf => ?_)
  exact ⟨rfl, rfl⟩
theorem ef_rmOK1_1_1 (m : MethodId) (a1 : Addr) (d0 : Int32) (d1 : Int32) (e0 : Int32) (e1 : Int32)  : entryFrame m #[(.ref a1), (.int (1 : Int32)), (.int (1 : Int32)), (.int (1 : Int32)), (.int d0), (.int d1), (.int e0), (.int e1)] 8 = mkF m 0 #[.val (.ref a1), .val (.int (1 : Int32)), .val (.int (1 : Int32)), .val (.int (1 : Int32)), .val (.int d0), .val (.int d1), .val (.int e0), .val (.int e1)] [] := by simp [entryFrame, mkF, argsToLocals, Value.category]
theorem rmOK1_1_1 (l : Launch) (Z : State) (a0 : Array Value) (hw : HW a0 Z) (ws : List Jvm.Cond) (a1 : Addr) (d0 : Int32) (d1 : Int32) (e0 : Int32) (e1 : Int32) (h0 : Heap) (n0 : Nat) (hn : n0 ≤ h0.size) :
    Met own_EL l Z (⟨"com/example/hits_by_heading/hitsbyheading/document/DocumentSectionLocationPinLaw", "ok", "(Ljava/lang/String;IIICCCC)Z"⟩ : MethodName) method_4_code 8 (some .boolean) ({ frames := 0, cells := 0, slots := 0, locals := 0 } : Room) ws #[(.ref a1), (.int (1 : Int32)), (.int (1 : Int32)), (.int (1 : Int32)), (.int d0), (.int d1), (.int e0), (.int e1)] h0 n0 [] (Pur (.int (1 : Int32)) h0) := by
  refine Met.of pn_12 (fun m => ef_rmOK1_1_1 m a1 d0 d1 e0 e1) ?_
  refine Own.iloadN d12_0 rfl ?_
  refine Own.iloadN d12_1 rfl ?_
  refine Own.icmp_lt 7 d12_2 (by decide) rfl (fun q => absurd q (by decide)) (fun _ => ?_)
  refine Own.iconst (1 : Int32) d12_5 rfl ?_
  refine Own.ret_nar (t := .boolean) (by simp) rfl d12_6 (by decide) (by decide) (fun Sf hSf => ?_)
  exact ⟨rfl, rfl⟩
theorem ef_rmOK2_1_1 (m : MethodId) (a1 : Addr) (d0 : Int32) (d1 : Int32) (e0 : Int32) (e1 : Int32)  : entryFrame m #[(.ref a1), (.int (2 : Int32)), (.int (1 : Int32)), (.int (1 : Int32)), (.int d0), (.int d1), (.int e0), (.int e1)] 8 = mkF m 0 #[.val (.ref a1), .val (.int (2 : Int32)), .val (.int (1 : Int32)), .val (.int (1 : Int32)), .val (.int d0), .val (.int d1), .val (.int e0), .val (.int e1)] [] := by simp [entryFrame, mkF, argsToLocals, Value.category]
theorem rmOK2_1_1 (l : Launch) (Z : State) (a0 : Array Value) (hw : HW a0 Z) (ws : List Jvm.Cond) (a1 : Addr) (d0 : Int32) (d1 : Int32) (e0 : Int32) (e1 : Int32) (h0 : Heap) (n0 : Nat) (hn : n0 ≤ h0.size) :
    Met own_EL l Z (⟨"com/example/hits_by_heading/hitsbyheading/document/DocumentSectionLocationPinLaw", "ok", "(Ljava/lang/String;IIICCCC)Z"⟩ : MethodName) method_4_code 8 (some .boolean) ({ frames := 0, cells := 0, slots := 0, locals := 0 } : Room) ws #[(.ref a1), (.int (2 : Int32)), (.int (1 : Int32)), (.int (1 : Int32)), (.int d0), (.int d1), (.int e0), (.int e1)] h0 n0 [] (Pur (.int (1 : Int32)) h0) := by
  refine Met.of pn_12 (fun m => ef_rmOK2_1_1 m a1 d0 d1 e0 e1) ?_
  refine Own.iloadN d12_0 rfl ?_
  refine Own.iloadN d12_1 rfl ?_
  refine Own.icmp_lt 7 d12_2 (by decide) rfl (fun q => absurd q (by decide)) (fun _ => ?_)
  refine Own.iconst (1 : Int32) d12_5 rfl ?_
  refine Own.ret_nar (t := .boolean) (by simp) rfl d12_6 (by decide) (by decide) (fun Sf hSf => ?_)
  exact ⟨rfl, rfl⟩
theorem ef_rmOK3_1_1 (m : MethodId) (a1 : Addr) (d0 : Int32) (d1 : Int32) (e0 : Int32) (e1 : Int32)  : entryFrame m #[(.ref a1), (.int (3 : Int32)), (.int (1 : Int32)), (.int (1 : Int32)), (.int d0), (.int d1), (.int e0), (.int e1)] 8 = mkF m 0 #[.val (.ref a1), .val (.int (3 : Int32)), .val (.int (1 : Int32)), .val (.int (1 : Int32)), .val (.int d0), .val (.int d1), .val (.int e0), .val (.int e1)] [] := by simp [entryFrame, mkF, argsToLocals, Value.category]
theorem rmOK3_1_1 (l : Launch) (Z : State) (a0 : Array Value) (hw : HW a0 Z) (ws : List Jvm.Cond) (a1 : Addr) (d0 : Int32) (d1 : Int32) (e0 : Int32) (e1 : Int32) (h0 : Heap) (n0 : Nat) (hn : n0 ≤ h0.size) :
    Met own_EL l Z (⟨"com/example/hits_by_heading/hitsbyheading/document/DocumentSectionLocationPinLaw", "ok", "(Ljava/lang/String;IIICCCC)Z"⟩ : MethodName) method_4_code 8 (some .boolean) ({ frames := 0, cells := 0, slots := 0, locals := 0 } : Room) ws #[(.ref a1), (.int (3 : Int32)), (.int (1 : Int32)), (.int (1 : Int32)), (.int d0), (.int d1), (.int e0), (.int e1)] h0 n0 [] (Pur (.int (1 : Int32)) h0) := by
  refine Met.of pn_12 (fun m => ef_rmOK3_1_1 m a1 d0 d1 e0 e1) ?_
  refine Own.iloadN d12_0 rfl ?_
  refine Own.iloadN d12_1 rfl ?_
  refine Own.icmp_lt 7 d12_2 (by decide) rfl (fun q => absurd q (by decide)) (fun _ => ?_)
  refine Own.iconst (1 : Int32) d12_5 rfl ?_
  refine Own.ret_nar (t := .boolean) (by simp) rfl d12_6 (by decide) (by decide) (fun Sf hSf => ?_)
  exact ⟨rfl, rfl⟩
theorem ef_rmOK4_1_1 (m : MethodId) (a1 : Addr) (d0 : Int32) (d1 : Int32) (e0 : Int32) (e1 : Int32)  : entryFrame m #[(.ref a1), (.int (4 : Int32)), (.int (1 : Int32)), (.int (1 : Int32)), (.int d0), (.int d1), (.int e0), (.int e1)] 8 = mkF m 0 #[.val (.ref a1), .val (.int (4 : Int32)), .val (.int (1 : Int32)), .val (.int (1 : Int32)), .val (.int d0), .val (.int d1), .val (.int e0), .val (.int e1)] [] := by simp [entryFrame, mkF, argsToLocals, Value.category]
theorem rmOK4_1_1 (l : Launch) (Z : State) (a0 : Array Value) (hw : HW a0 Z) (ws : List Jvm.Cond) (a1 : Addr) (d0 : Int32) (d1 : Int32) (e0 : Int32) (e1 : Int32) (h0 : Heap) (n0 : Nat) (hn : n0 ≤ h0.size) :
    Met own_EL l Z (⟨"com/example/hits_by_heading/hitsbyheading/document/DocumentSectionLocationPinLaw", "ok", "(Ljava/lang/String;IIICCCC)Z"⟩ : MethodName) method_4_code 8 (some .boolean) ({ frames := 0, cells := 0, slots := 0, locals := 0 } : Room) ws #[(.ref a1), (.int (4 : Int32)), (.int (1 : Int32)), (.int (1 : Int32)), (.int d0), (.int d1), (.int e0), (.int e1)] h0 n0 [] (Pur (.int (1 : Int32)) h0) := by
  refine Met.of pn_12 (fun m => ef_rmOK4_1_1 m a1 d0 d1 e0 e1) ?_
  refine Own.iloadN d12_0 rfl ?_
  refine Own.iloadN d12_1 rfl ?_
  refine Own.icmp_lt 7 d12_2 (by decide) rfl (fun q => absurd q (by decide)) (fun _ => ?_)
  refine Own.iconst (1 : Int32) d12_5 rfl ?_
  refine Own.ret_nar (t := .boolean) (by simp) rfl d12_6 (by decide) (by decide) (fun Sf hSf => ?_)
  exact ⟨rfl, rfl⟩
theorem ef_rmOK0_3_1 (m : MethodId) (a1 : Addr) (d0 : Int32) (d1 : Int32) (e0 : Int32) (e1 : Int32)  : entryFrame m #[(.ref a1), Z0, (.int (3 : Int32)), (.int (1 : Int32)), (.int d0), (.int d1), (.int e0), (.int e1)] 8 = mkF m 0 #[.val (.ref a1), .val Z0, .val (.int (3 : Int32)), .val (.int (1 : Int32)), .val (.int d0), .val (.int d1), .val (.int e0), .val (.int e1)] [] := by simp [entryFrame, mkF, argsToLocals, Value.category]
theorem rmOK0_3_1 (l : Launch) (Z : State) (a0 : Array Value) (hw : HW a0 Z) (ws : List Jvm.Cond) (a1 : Addr) (d0 : Int32) (d1 : Int32) (e0 : Int32) (e1 : Int32) (b : Addr) (kb : ClassId) (vs : List Value) (zc : Int32) (vf : Value) (h0 : Heap) (n0 : Nat) (hn : n0 ≤ h0.size) (X_a1 : XSt Z h0 a1) (F_value_a1 : FSv Z h0 a1 (.ref b)) (F_coder_a1 : FSc Z h0 a1 Z0) (V_b : Arl Z h0 b kb .byte vs) (hl : vs.length = 3) (hx : vs[0]? = some (.int (nar .byte ((nar .char d0).toInt8.toInt32)))) (S_C : Sta Z h0 "java/lang/String" "COMPACT_STRINGS" "Z" (.int zc)) (S_F : Sta Z h0 "jdk/internal/util/Preconditions" "SIOOBE_FORMATTER" "Ljava/util/function/BiFunction;" vf) (hz : ¬ zc = 0) (hvf : vf.isRef = true) (hlat : ¬ (255 : Int32) < (nar .char d0)) :
    Met own_EL l Z (⟨"com/example/hits_by_heading/hitsbyheading/document/DocumentSectionLocationPinLaw", "ok", "(Ljava/lang/String;IIICCCC)Z"⟩ : MethodName) method_4_code 8 (some .boolean) ({ frames := 4, cells := 0, slots := 0, locals := 53 } : Room) ws #[(.ref a1), Z0, (.int (3 : Int32)), (.int (1 : Int32)), (.int d0), (.int d1), (.int e0), (.int e1)] h0 n0 [] (Pur (.int (1 : Int32)) h0) := by
  refine Met.of pn_12 (fun m => ef_rmOK0_3_1 m a1 d0 d1 e0 e1) ?_
  refine Own.iloadN d12_0 rfl ?_
  refine Own.iloadN d12_1 rfl ?_
  refine Own.icmp_lt 7 d12_2 (by decide) rfl (fun _ => ?_) (fun q => absurd (by decide) q)
  refine Own.aloadN d12_7 rfl rfl ?_
  refine Own.iloadN d12_8 rfl ?_
  refine Own.callVP a1 [Z0] [] 0 (rmCA0_3 l Z a0 hw [] a1 b kb vs (nar .char d0) zc vf h0 n0 hn X_a1 F_value_a1 F_coder_a1 V_b hl hx S_C S_F hz hvf (own_rng _) hlat) (hw _ (mg 60 rfl)) (hw _ (mg 61 rfl)) (fun s hZ => notFace_of_selects (args := #[]) (mvT hZ (hw _ (mg 63 rfl)))) (hw _ (mg 63 rfl)) (hw _ (mg 62 rfl)) (hw _ (mg 7 rfl)) (hw _ (mg 64 rfl)) (by decide) X_a1 d12_9 pd_6 rfl rfl rfl rfl (by decide) (by decide) (by decide) (by decide) ?_
  refine Own.iloadN d12_12 rfl ?_
  refine Own.iloadN d12_13 rfl ?_
  refine Own.iload d12_14 rfl ?_
  refine Own.iload d12_16 rfl ?_
  refine Own.iload d12_18 rfl ?_
  refine Own.iload d12_20 rfl ?_
  refine Own.callSP [Z0, (.int (1 : Int32)), (.int d0), (.int d1), (.int e0), (.int e1)] [(.int (nar .char d0))] 1 (rmEX0_1 l Z a0 hw [] d0 d1 e0 e1 h0 n0 hn) (hw _ (mg 82 rfl)) (hw _ (mg 83 rfl)) (hw _ (mg 3 rfl)) (hw _ (mg 84 rfl)) (by decide) d12_22 pd_11 rfl rfl rfl rfl (by decide) (by decide) (by decide) (by decide) ?_
  refine Own.icmp_ne 32 d12_25 (by decide) rfl (fun q => absurd rfl q) (fun _ => ?_)
  refine Own.iconst (1 : Int32) d12_28 rfl ?_
  refine Own.goto_ 33 d12_29 (by decide) rfl ?_
  refine Own.ret_nar (t := .boolean) (by simp) rfl d12_33 (by decide) (by decide) (fun Sf hSf => ?_)
  exact ⟨rfl, rfl⟩
theorem ef_rmEX1_1 (m : MethodId) (d0 : Int32) (d1 : Int32) (e0 : Int32) (e1 : Int32)  : entryFrame m #[(.int (1 : Int32)), (.int (1 : Int32)), (.int d0), (.int d1), (.int e0), (.int e1)] 7 = mkF m 0 #[.val (.int (1 : Int32)), .val (.int (1 : Int32)), .val (.int d0), .val (.int d1), .val (.int e0), .val (.int e1), .unset] [] := by simp [entryFrame, mkF, argsToLocals, Value.category]
theorem rmEX1_1 (l : Launch) (Z : State) (a0 : Array Value) (hw : HW a0 Z) (ws : List Jvm.Cond) (d0 : Int32) (d1 : Int32) (e0 : Int32) (e1 : Int32) (h0 : Heap) (n0 : Nat) (hn : n0 ≤ h0.size) :
    Met own_EL l Z (⟨"com/example/hits_by_heading/hitsbyheading/document/DocumentSectionLocationPinLaw", "expected", "(IICCCC)C"⟩ : MethodName) method_5_code 7 (some .char) ({ frames := 0, cells := 0, slots := 0, locals := 0 } : Room) ws #[(.int (1 : Int32)), (.int (1 : Int32)), (.int d0), (.int d1), (.int e0), (.int e1)] h0 n0 [] (Pur (.int (nar .char (35 : Int32))) h0) := by
  refine Met.of pn_18 (fun m => ef_rmEX1_1 m d0 d1 e0 e1) ?_
  refine Own.iloadN d18_0 rfl ?_
  refine Own.iloadN d18_1 rfl ?_
  refine Own.icmp_ge 15 d18_2 (by decide) rfl (fun _ => ?_) (fun q => absurd q (by decide))
  refine Own.iloadN d18_15 rfl ?_
  refine Own.iloadN d18_16 rfl ?_
  refine Own.icmp_ne 23 d18_17 (by decide) rfl (fun q => absurd (by decide) q) (fun _ => ?_)
  refine Own.bipush (35 : Int32) d18_20 rfl ?_
  refine Own.ret_nar (t := .char) (by simp) rfl d18_22 (by decide) (by decide) (fun Sf hSf => ?_)
  exact ⟨rfl, rfl⟩
theorem ef_rmOK1_3_1 (m : MethodId) (a1 : Addr) (d0 : Int32) (d1 : Int32) (e0 : Int32) (e1 : Int32)  : entryFrame m #[(.ref a1), (.int (1 : Int32)), (.int (3 : Int32)), (.int (1 : Int32)), (.int d0), (.int d1), (.int e0), (.int e1)] 8 = mkF m 0 #[.val (.ref a1), .val (.int (1 : Int32)), .val (.int (3 : Int32)), .val (.int (1 : Int32)), .val (.int d0), .val (.int d1), .val (.int e0), .val (.int e1)] [] := by simp [entryFrame, mkF, argsToLocals, Value.category]
theorem rmOK1_3_1 (l : Launch) (Z : State) (a0 : Array Value) (hw : HW a0 Z) (ws : List Jvm.Cond) (a1 : Addr) (d0 : Int32) (d1 : Int32) (e0 : Int32) (e1 : Int32) (b : Addr) (kb : ClassId) (vs : List Value) (zc : Int32) (vf : Value) (h0 : Heap) (n0 : Nat) (hn : n0 ≤ h0.size) (X_a1 : XSt Z h0 a1) (F_value_a1 : FSv Z h0 a1 (.ref b)) (F_coder_a1 : FSc Z h0 a1 Z0) (V_b : Arl Z h0 b kb .byte vs) (hl : vs.length = 3) (hx : vs[1]? = some (.int (nar .byte ((35 : Int32).toInt8.toInt32)))) (S_C : Sta Z h0 "java/lang/String" "COMPACT_STRINGS" "Z" (.int zc)) (S_F : Sta Z h0 "jdk/internal/util/Preconditions" "SIOOBE_FORMATTER" "Ljava/util/function/BiFunction;" vf) (hz : ¬ zc = 0) (hvf : vf.isRef = true) :
    Met own_EL l Z (⟨"com/example/hits_by_heading/hitsbyheading/document/DocumentSectionLocationPinLaw", "ok", "(Ljava/lang/String;IIICCCC)Z"⟩ : MethodName) method_4_code 8 (some .boolean) ({ frames := 4, cells := 0, slots := 0, locals := 53 } : Room) ws #[(.ref a1), (.int (1 : Int32)), (.int (3 : Int32)), (.int (1 : Int32)), (.int d0), (.int d1), (.int e0), (.int e1)] h0 n0 [] (Pur (.int (1 : Int32)) h0) := by
  refine Met.of pn_12 (fun m => ef_rmOK1_3_1 m a1 d0 d1 e0 e1) ?_
  refine Own.iloadN d12_0 rfl ?_
  refine Own.iloadN d12_1 rfl ?_
  refine Own.icmp_lt 7 d12_2 (by decide) rfl (fun _ => ?_) (fun q => absurd (by decide) q)
  refine Own.aloadN d12_7 rfl rfl ?_
  refine Own.iloadN d12_8 rfl ?_
  refine Own.callVP a1 [(.int (1 : Int32))] [] 0 (rmCA1_3 l Z a0 hw [] a1 b kb vs (35 : Int32) zc vf h0 n0 hn X_a1 F_value_a1 F_coder_a1 V_b hl hx S_C S_F hz hvf own_r35 own_l35) (hw _ (mg 60 rfl)) (hw _ (mg 61 rfl)) (fun s hZ => notFace_of_selects (args := #[]) (mvT hZ (hw _ (mg 63 rfl)))) (hw _ (mg 63 rfl)) (hw _ (mg 62 rfl)) (hw _ (mg 7 rfl)) (hw _ (mg 64 rfl)) (by decide) X_a1 d12_9 pd_6 rfl rfl rfl rfl (by decide) (by decide) (by decide) (by decide) ?_
  refine Own.iloadN d12_12 rfl ?_
  refine Own.iloadN d12_13 rfl ?_
  refine Own.iload d12_14 rfl ?_
  refine Own.iload d12_16 rfl ?_
  refine Own.iload d12_18 rfl ?_
  refine Own.iload d12_20 rfl ?_
  refine Own.callSP [(.int (1 : Int32)), (.int (1 : Int32)), (.int d0), (.int d1), (.int e0), (.int e1)] [(.int (35 : Int32))] 1 (rmEX1_1 l Z a0 hw [] d0 d1 e0 e1 h0 n0 hn) (hw _ (mg 82 rfl)) (hw _ (mg 83 rfl)) (hw _ (mg 3 rfl)) (hw _ (mg 84 rfl)) (by decide) d12_22 pd_11 rfl rfl rfl rfl (by decide) (by decide) (by decide) (by decide) ?_
  refine Own.icmp_ne 32 d12_25 (by decide) rfl (fun q => absurd own_c35 q) (fun _ => ?_)
  refine Own.iconst (1 : Int32) d12_28 rfl ?_
  refine Own.goto_ 33 d12_29 (by decide) rfl ?_
  refine Own.ret_nar (t := .boolean) (by simp) rfl d12_33 (by decide) (by decide) (fun Sf hSf => ?_)
  exact ⟨rfl, rfl⟩
theorem ef_rmEX2_1 (m : MethodId) (d0 : Int32) (d1 : Int32) (e0 : Int32) (e1 : Int32)  : entryFrame m #[(.int (2 : Int32)), (.int (1 : Int32)), (.int d0), (.int d1), (.int e0), (.int e1)] 7 = mkF m 0 #[.val (.int (2 : Int32)), .val (.int (1 : Int32)), .val (.int d0), .val (.int d1), .val (.int e0), .val (.int e1), .unset] [] := by simp [entryFrame, mkF, argsToLocals, Value.category]
theorem rmEX2_1 (l : Launch) (Z : State) (a0 : Array Value) (hw : HW a0 Z) (ws : List Jvm.Cond) (d0 : Int32) (d1 : Int32) (e0 : Int32) (e1 : Int32) (h0 : Heap) (n0 : Nat) (hn : n0 ≤ h0.size) :
    Met own_EL l Z (⟨"com/example/hits_by_heading/hitsbyheading/document/DocumentSectionLocationPinLaw", "expected", "(IICCCC)C"⟩ : MethodName) method_5_code 7 (some .char) ({ frames := 0, cells := 0, slots := 0, locals := 0 } : Room) ws #[(.int (2 : Int32)), (.int (1 : Int32)), (.int d0), (.int d1), (.int e0), (.int e1)] h0 n0 [] (Pur (.int (nar .char e0)) h0) := by
  refine Met.of pn_18 (fun m => ef_rmEX2_1 m d0 d1 e0 e1) ?_
  refine Own.iloadN d18_0 rfl ?_
  refine Own.iloadN d18_1 rfl ?_
  refine Own.icmp_ge 15 d18_2 (by decide) rfl (fun _ => ?_) (fun q => absurd q (by decide))
  refine Own.iloadN d18_15 rfl ?_
  refine Own.iloadN d18_16 rfl ?_
  refine Own.icmp_ne 23 d18_17 (by decide) rfl (fun _ => ?_) (fun q => absurd q (by decide))
  refine Own.iloadN d18_23 rfl ?_
  refine Own.iloadN d18_24 rfl ?_
  refine Own.isub d18_25 ?_
  refine OAt.cast (st' := [(.int (1 : Int32))]) rfl ?_
  refine Own.iconst (1 : Int32) d18_26 rfl ?_
  refine Own.isub d18_27 ?_
  refine OAt.cast (st' := [Z0]) rfl ?_
  refine Own.istore #[.val (.int (2 : Int32)), .val (.int (1 : Int32)), .val (.int d0), .val (.int d1), .val (.int e0), .val (.int e1), .val Z0] d18_28 rfl ?_
  refine Own.iload d18_30 rfl ?_
  refine Own.if_ne 40 d18_32 (by decide) rfl (fun q => absurd (by decide) q) (fun _ => ?_)
  refine Own.iload d18_35 rfl ?_
  refine Own.goto_ 42 d18_37 (by decide) rfl ?_
  refine Own.ret_nar (t := .char) (by simp) rfl d18_42 (by decide) (by decide) (fun Sf hSf => ?_)
  exact ⟨rfl, rfl⟩
theorem ef_rmOK2_3_1 (m : MethodId) (a1 : Addr) (d0 : Int32) (d1 : Int32) (e0 : Int32) (e1 : Int32)  : entryFrame m #[(.ref a1), (.int (2 : Int32)), (.int (3 : Int32)), (.int (1 : Int32)), (.int d0), (.int d1), (.int e0), (.int e1)] 8 = mkF m 0 #[.val (.ref a1), .val (.int (2 : Int32)), .val (.int (3 : Int32)), .val (.int (1 : Int32)), .val (.int d0), .val (.int d1), .val (.int e0), .val (.int e1)] [] := by simp [entryFrame, mkF, argsToLocals, Value.category]
theorem rmOK2_3_1 (l : Launch) (Z : State) (a0 : Array Value) (hw : HW a0 Z) (ws : List Jvm.Cond) (a1 : Addr) (d0 : Int32) (d1 : Int32) (e0 : Int32) (e1 : Int32) (b : Addr) (kb : ClassId) (vs : List Value) (zc : Int32) (vf : Value) (h0 : Heap) (n0 : Nat) (hn : n0 ≤ h0.size) (X_a1 : XSt Z h0 a1) (F_value_a1 : FSv Z h0 a1 (.ref b)) (F_coder_a1 : FSc Z h0 a1 Z0) (V_b : Arl Z h0 b kb .byte vs) (hl : vs.length = 3) (hx : vs[2]? = some (.int (nar .byte ((nar .char e0).toInt8.toInt32)))) (S_C : Sta Z h0 "java/lang/String" "COMPACT_STRINGS" "Z" (.int zc)) (S_F : Sta Z h0 "jdk/internal/util/Preconditions" "SIOOBE_FORMATTER" "Ljava/util/function/BiFunction;" vf) (hz : ¬ zc = 0) (hvf : vf.isRef = true) (hlat : ¬ (255 : Int32) < (nar .char e0)) :
    Met own_EL l Z (⟨"com/example/hits_by_heading/hitsbyheading/document/DocumentSectionLocationPinLaw", "ok", "(Ljava/lang/String;IIICCCC)Z"⟩ : MethodName) method_4_code 8 (some .boolean) ({ frames := 4, cells := 0, slots := 0, locals := 53 } : Room) ws #[(.ref a1), (.int (2 : Int32)), (.int (3 : Int32)), (.int (1 : Int32)), (.int d0), (.int d1), (.int e0), (.int e1)] h0 n0 [] (Pur (.int (1 : Int32)) h0) := by
  refine Met.of pn_12 (fun m => ef_rmOK2_3_1 m a1 d0 d1 e0 e1) ?_
  refine Own.iloadN d12_0 rfl ?_
  refine Own.iloadN d12_1 rfl ?_
  refine Own.icmp_lt 7 d12_2 (by decide) rfl (fun _ => ?_) (fun q => absurd (by decide) q)
  refine Own.aloadN d12_7 rfl rfl ?_
  refine Own.iloadN d12_8 rfl ?_
  refine Own.callVP a1 [(.int (2 : Int32))] [] 0 (rmCA2_3 l Z a0 hw [] a1 b kb vs (nar .char e0) zc vf h0 n0 hn X_a1 F_value_a1 F_coder_a1 V_b hl hx S_C S_F hz hvf (own_rng _) hlat) (hw _ (mg 60 rfl)) (hw _ (mg 61 rfl)) (fun s hZ => notFace_of_selects (args := #[]) (mvT hZ (hw _ (mg 63 rfl)))) (hw _ (mg 63 rfl)) (hw _ (mg 62 rfl)) (hw _ (mg 7 rfl)) (hw _ (mg 64 rfl)) (by decide) X_a1 d12_9 pd_6 rfl rfl rfl rfl (by decide) (by decide) (by decide) (by decide) ?_
  refine Own.iloadN d12_12 rfl ?_
  refine Own.iloadN d12_13 rfl ?_
  refine Own.iload d12_14 rfl ?_
  refine Own.iload d12_16 rfl ?_
  refine Own.iload d12_18 rfl ?_
  refine Own.iload d12_20 rfl ?_
  refine Own.callSP [(.int (2 : Int32)), (.int (1 : Int32)), (.int d0), (.int d1), (.int e0), (.int e1)] [(.int (nar .char e0))] 1 (rmEX2_1 l Z a0 hw [] d0 d1 e0 e1 h0 n0 hn) (hw _ (mg 82 rfl)) (hw _ (mg 83 rfl)) (hw _ (mg 3 rfl)) (hw _ (mg 84 rfl)) (by decide) d12_22 pd_11 rfl rfl rfl rfl (by decide) (by decide) (by decide) (by decide) ?_
  refine Own.icmp_ne 32 d12_25 (by decide) rfl (fun q => absurd rfl q) (fun _ => ?_)
  refine Own.iconst (1 : Int32) d12_28 rfl ?_
  refine Own.goto_ 33 d12_29 (by decide) rfl ?_
  refine Own.ret_nar (t := .boolean) (by simp) rfl d12_33 (by decide) (by decide) (fun Sf hSf => ?_)
  exact ⟨rfl, rfl⟩
theorem ef_rmOK3_3_1 (m : MethodId) (a1 : Addr) (d0 : Int32) (d1 : Int32) (e0 : Int32) (e1 : Int32)  : entryFrame m #[(.ref a1), (.int (3 : Int32)), (.int (3 : Int32)), (.int (1 : Int32)), (.int d0), (.int d1), (.int e0), (.int e1)] 8 = mkF m 0 #[.val (.ref a1), .val (.int (3 : Int32)), .val (.int (3 : Int32)), .val (.int (1 : Int32)), .val (.int d0), .val (.int d1), .val (.int e0), .val (.int e1)] [] := by simp [entryFrame, mkF, argsToLocals, Value.category]
theorem rmOK3_3_1 (l : Launch) (Z : State) (a0 : Array Value) (hw : HW a0 Z) (ws : List Jvm.Cond) (a1 : Addr) (d0 : Int32) (d1 : Int32) (e0 : Int32) (e1 : Int32) (h0 : Heap) (n0 : Nat) (hn : n0 ≤ h0.size) :
    Met own_EL l Z (⟨"com/example/hits_by_heading/hitsbyheading/document/DocumentSectionLocationPinLaw", "ok", "(Ljava/lang/String;IIICCCC)Z"⟩ : MethodName) method_4_code 8 (some .boolean) ({ frames := 0, cells := 0, slots := 0, locals := 0 } : Room) ws #[(.ref a1), (.int (3 : Int32)), (.int (3 : Int32)), (.int (1 : Int32)), (.int d0), (.int d1), (.int e0), (.int e1)] h0 n0 [] (Pur (.int (1 : Int32)) h0) := by
  refine Met.of pn_12 (fun m => ef_rmOK3_3_1 m a1 d0 d1 e0 e1) ?_
  refine Own.iloadN d12_0 rfl ?_
  refine Own.iloadN d12_1 rfl ?_
  refine Own.icmp_lt 7 d12_2 (by decide) rfl (fun q => absurd q (by decide)) (fun _ => ?_)
  refine Own.iconst (1 : Int32) d12_5 rfl ?_
  refine Own.ret_nar (t := .boolean) (by simp) rfl d12_6 (by decide) (by decide) (fun Sf hSf => ?_)
  exact ⟨rfl, rfl⟩
theorem ef_rmOK4_3_1 (m : MethodId) (a1 : Addr) (d0 : Int32) (d1 : Int32) (e0 : Int32) (e1 : Int32)  : entryFrame m #[(.ref a1), (.int (4 : Int32)), (.int (3 : Int32)), (.int (1 : Int32)), (.int d0), (.int d1), (.int e0), (.int e1)] 8 = mkF m 0 #[.val (.ref a1), .val (.int (4 : Int32)), .val (.int (3 : Int32)), .val (.int (1 : Int32)), .val (.int d0), .val (.int d1), .val (.int e0), .val (.int e1)] [] := by simp [entryFrame, mkF, argsToLocals, Value.category]
theorem rmOK4_3_1 (l : Launch) (Z : State) (a0 : Array Value) (hw : HW a0 Z) (ws : List Jvm.Cond) (a1 : Addr) (d0 : Int32) (d1 : Int32) (e0 : Int32) (e1 : Int32) (h0 : Heap) (n0 : Nat) (hn : n0 ≤ h0.size) :
    Met own_EL l Z (⟨"com/example/hits_by_heading/hitsbyheading/document/DocumentSectionLocationPinLaw", "ok", "(Ljava/lang/String;IIICCCC)Z"⟩ : MethodName) method_4_code 8 (some .boolean) ({ frames := 0, cells := 0, slots := 0, locals := 0 } : Room) ws #[(.ref a1), (.int (4 : Int32)), (.int (3 : Int32)), (.int (1 : Int32)), (.int d0), (.int d1), (.int e0), (.int e1)] h0 n0 [] (Pur (.int (1 : Int32)) h0) := by
  refine Met.of pn_12 (fun m => ef_rmOK4_3_1 m a1 d0 d1 e0 e1) ?_
  refine Own.iloadN d12_0 rfl ?_
  refine Own.iloadN d12_1 rfl ?_
  refine Own.icmp_lt 7 d12_2 (by decide) rfl (fun q => absurd q (by decide)) (fun _ => ?_)
  refine Own.iconst (1 : Int32) d12_5 rfl ?_
  refine Own.ret_nar (t := .boolean) (by simp) rfl d12_6 (by decide) (by decide) (fun Sf hSf => ?_)
  exact ⟨rfl, rfl⟩
theorem ef_rmPIc_0_4 (m : MethodId) (vf : Value) (hr_2 : (vf).isRef = true) : entryFrame m #[Z0, (.int (4 : Int32)), vf] 3 = mkF m 0 #[.val Z0, .val (.int (4 : Int32)), .val vf] [] := by rcases ref_cases hr_2 with rfl | ⟨z2, rfl⟩ <;> first | (simp [entryFrame, mkF, argsToLocals, Value.category]; done) | rfl
theorem rmPIc_0_4 (l : Launch) (Z : State) (a0 : Array Value) (hw : HW a0 Z) (ws : List Jvm.Cond) (vf : Value) (h0 : Heap) (n0 : Nat) (hn : n0 ≤ h0.size) (hvf : vf.isRef = true) :
    Met own_EL l Z (⟨"jdk/internal/util/Preconditions", "checkIndex", "(IILjava/util/function/BiFunction;)I"⟩ : MethodName) jdk_41_method_11_code 3 (some .int) ({ frames := 0, cells := 0, slots := 0, locals := 0 } : Room) ws #[Z0, (.int (4 : Int32)), vf] h0 n0 [] (Pur Z0 h0) := by
  refine Met.of pn_17 (fun m => ef_rmPIc_0_4 m vf hvf) ?_
  refine Own.iloadN d17_0 rfl ?_
  refine Own.if_lt 9 d17_1 (by decide) rfl (fun q => absurd q (by decide)) (fun _ => ?_)
  refine Own.iloadN d17_4 rfl ?_
  refine Own.iloadN d17_5 rfl ?_
  refine Own.icmp_lt 16 d17_6 (by decide) rfl (fun _ => ?_) (fun q => absurd (by decide) q)
  refine Own.iloadN d17_16 rfl ?_
  refine Own.ret_int rfl d17_17 (by decide) (by decide) (fun Sf hSf => ?_)
  exact ⟨rfl, rfl⟩
theorem ef_rmSIc_0_4 (m : MethodId)   : entryFrame m #[Z0, (.int (4 : Int32))] 2 = mkF m 0 #[.val Z0, .val (.int (4 : Int32))] [] := by simp [entryFrame, mkF, argsToLocals, Value.category]
theorem rmSIc_0_4 (l : Launch) (Z : State) (a0 : Array Value) (hw : HW a0 Z) (ws : List Jvm.Cond) (vf : Value) (h0 : Heap) (n0 : Nat) (hn : n0 ≤ h0.size) (S_F : Sta Z h0 "jdk/internal/util/Preconditions" "SIOOBE_FORMATTER" "Ljava/util/function/BiFunction;" vf) (hvf : vf.isRef = true) :
    Met own_EL l Z (⟨"java/lang/String", "checkIndex", "(II)V"⟩ : MethodName) jdk_42_method_155_code 2 none ({ frames := 1, cells := 0, slots := 0, locals := 14 } : Room) ws #[Z0, (.int (4 : Int32))] h0 n0 [] (Pur0 h0) := by
  refine Met.of pn_16 (fun m => ef_rmSIc_0_4 m ) ?_
  refine Own.iloadN d16_0 rfl ?_
  refine Own.iloadN d16_1 rfl ?_
  refine Own.getS_ (host := "") (Or.inl (hw _ (mg 77 rfl))) Via.refl S_F d16_2 ?_
  refine Own.callSP [Z0, (.int (4 : Int32)), vf] [] 0 (rmPIc_0_4 l Z a0 hw [] vf h0 n0 hn hvf) (hw _ (mg 79 rfl)) (hw _ (mg 80 rfl)) (hw _ (mg 78 rfl)) (hw _ (mg 81 rfl)) (by decide) d16_5 pd_12 rfl rfl rfl rfl (by decide) (by decide) (by decide) (by decide) ?_
  refine Own.pop d16_8 rfl ?_
  refine Own.ret_void rfl d16_9 (by decide) (by decide) (fun Sf hSf => ?_)
  exact ⟨rfl, rfl⟩
theorem ef_rmLC0_4 (m : MethodId) (a1 : Addr)  : entryFrame m #[(.ref a1), Z0] 2 = mkF m 0 #[.val (.ref a1), .val Z0] [] := by simp [entryFrame, mkF, argsToLocals, Value.category]
theorem rmLC0_4 (l : Launch) (Z : State) (a0 : Array Value) (hw : HW a0 Z) (ws : List Jvm.Cond) (a1 : Addr) (ka : ClassId) (vs : List Value) (x : Int32) (vf : Value) (h0 : Heap) (n0 : Nat) (hn : n0 ≤ h0.size) (V_a1 : Arl Z h0 a1 ka .byte vs) (hl : vs.length = 4) (hx : vs[0]? = some (.int x)) (S_F : Sta Z h0 "jdk/internal/util/Preconditions" "SIOOBE_FORMATTER" "Ljava/util/function/BiFunction;" vf) (hvf : vf.isRef = true) :
    Met own_EL l Z (⟨"java/lang/StringLatin1", "charAt", "([BI)C"⟩ : MethodName) jdk_43_method_2_code 2 (some .char) ({ frames := 2, cells := 0, slots := 0, locals := 27 } : Room) ws #[(.ref a1), Z0] h0 n0 [] (Pur (.int (own_lc x)) h0) := by
  refine Met.of pn_15 (fun m => ef_rmLC0_4 m a1) ?_
  refine Own.iloadN d15_0 rfl ?_
  refine Own.aloadN d15_1 rfl rfl ?_
  refine Own.arraylength_ (4 : Int32) V_a1 (by rw [hl]; rfl) d15_2 ?_
  refine Own.callS0 [Z0, (.int (4 : Int32))] [] 0 (rmSIc_0_4 l Z a0 hw [] vf h0 n0 hn S_F hvf) (hw _ (mg 74 rfl)) (hw _ (mg 75 rfl)) (hw _ (mg 7 rfl)) (hw _ (mg 76 rfl)) (by decide) d15_3 pd_10 rfl rfl rfl rfl (by decide) (by decide) (by decide) (by decide) ?_
  refine Own.aloadN d15_6 rfl rfl ?_
  refine Own.iloadN d15_7 rfl ?_
  refine Own.baload_ V_a1 (i := 0) rfl (v := (.int x)) hx d15_8 ?_
  refine Own.sipush (255 : Int32) d15_9 rfl ?_
  refine Own.iand d15_12 ?_
  refine Own.i2c d15_13 ?_
  refine Own.ret_nar (t := .char) (by simp) rfl d15_14 (by decide) (by decide) (fun Sf hSf => ?_)
  exact ⟨rfl, rfl⟩
theorem ef_rmCA0_4 (m : MethodId) (a1 : Addr)  : entryFrame m #[(.ref a1), Z0] 2 = mkF m 0 #[.val (.ref a1), .val Z0] [] := by simp [entryFrame, mkF, argsToLocals, Value.category]
theorem rmCA0_4 (l : Launch) (Z : State) (a0 : Array Value) (hw : HW a0 Z) (ws : List Jvm.Cond) (a1 : Addr) (b : Addr) (kb : ClassId) (vs : List Value) (x : Int32) (zc : Int32) (vf : Value) (h0 : Heap) (n0 : Nat) (hn : n0 ≤ h0.size) (X_a1 : XSt Z h0 a1) (F_value_a1 : FSv Z h0 a1 (.ref b)) (F_coder_a1 : FSc Z h0 a1 Z0) (V_b : Arl Z h0 b kb .byte vs) (hl : vs.length = 4) (hx : vs[0]? = some (.int (nar .byte (x.toInt8.toInt32)))) (S_C : Sta Z h0 "java/lang/String" "COMPACT_STRINGS" "Z" (.int zc)) (S_F : Sta Z h0 "jdk/internal/util/Preconditions" "SIOOBE_FORMATTER" "Ljava/util/function/BiFunction;" vf) (hz : ¬ zc = 0) (hvf : vf.isRef = true) (hr : 0 ≤ x.toInt ∧ x.toInt < 65536) (hlat : ¬ (255 : Int32) < x) :
    Met own_EL l Z (⟨"java/lang/String", "charAt", "(I)C"⟩ : MethodName) jdk_42_method_56_code 2 (some .char) ({ frames := 3, cells := 0, slots := 0, locals := 40 } : Room) ws #[(.ref a1), Z0] h0 n0 [] (Pur (.int x) h0) := by
  refine Met.of pn_13 (fun m => ef_rmCA0_4 m a1) ?_
  refine Own.aloadN d13_0 rfl rfl ?_
  refine Own.callVP a1 [] [] 0 (rm_lat_4 l Z a0 hw [] a1 b kb vs zc h0 n0 hn X_a1 F_value_a1 F_coder_a1 V_b hl S_C hz) (hw _ (mg 65 rfl)) (hw _ (mg 66 rfl)) (fun s hZ => notFace_of_selects (args := #[]) (mvT hZ (hw _ (mg 68 rfl)))) (hw _ (mg 68 rfl)) (hw _ (mg 67 rfl)) (hw _ (mg 7 rfl)) (hw _ (mg 69 rfl)) (by decide) X_a1 d13_1 pd_4 rfl rfl rfl rfl (by decide) (by decide) (by decide) (by decide) ?_
  refine Own.if_eq 16 d13_4 (by decide) rfl (fun q => absurd q (by decide)) (fun _ => ?_)
  refine Own.aloadN d13_7 rfl rfl ?_
  refine Own.getF_ (host := "") (Or.inl (hw _ (mg 33 rfl))) Via.refl F_value_a1 d13_8 ?_
  refine Own.iloadN d13_11 rfl ?_
  refine Own.callSP [(.ref b), Z0] [] 0 (rmLC0_4 l Z a0 hw [] b kb vs _ vf h0 n0 hn V_b hl hx S_F hvf) (hw _ (mg 70 rfl)) (hw _ (mg 71 rfl)) (hw _ (mg 72 rfl)) (hw _ (mg 73 rfl)) (by decide) d13_12 pd_23 rfl rfl rfl rfl (by decide) (by decide) (by decide) (by decide) ?_
  refine Own.ret_nar (t := .char) (by simp) rfl d13_15 (by decide) (by decide) (fun Sf hSf => ?_)
  exact ⟨congrArg (fun z => some (Value.int z)) (by rw [own_lcv hr.1 hlat, own_ncv hr.1 hr.2]), rfl⟩
theorem ef_rmOK0_4_1 (m : MethodId) (a1 : Addr) (d0 : Int32) (d1 : Int32) (e0 : Int32) (e1 : Int32)  : entryFrame m #[(.ref a1), Z0, (.int (4 : Int32)), (.int (1 : Int32)), (.int d0), (.int d1), (.int e0), (.int e1)] 8 = mkF m 0 #[.val (.ref a1), .val Z0, .val (.int (4 : Int32)), .val (.int (1 : Int32)), .val (.int d0), .val (.int d1), .val (.int e0), .val (.int e1)] [] := by simp [entryFrame, mkF, argsToLocals, Value.category]
theorem rmOK0_4_1 (l : Launch) (Z : State) (a0 : Array Value) (hw : HW a0 Z) (ws : List Jvm.Cond) (a1 : Addr) (d0 : Int32) (d1 : Int32) (e0 : Int32) (e1 : Int32) (b : Addr) (kb : ClassId) (vs : List Value) (zc : Int32) (vf : Value) (h0 : Heap) (n0 : Nat) (hn : n0 ≤ h0.size) (X_a1 : XSt Z h0 a1) (F_value_a1 : FSv Z h0 a1 (.ref b)) (F_coder_a1 : FSc Z h0 a1 Z0) (V_b : Arl Z h0 b kb .byte vs) (hl : vs.length = 4) (hx : vs[0]? = some (.int (nar .byte ((nar .char d0).toInt8.toInt32)))) (S_C : Sta Z h0 "java/lang/String" "COMPACT_STRINGS" "Z" (.int zc)) (S_F : Sta Z h0 "jdk/internal/util/Preconditions" "SIOOBE_FORMATTER" "Ljava/util/function/BiFunction;" vf) (hz : ¬ zc = 0) (hvf : vf.isRef = true) (hlat : ¬ (255 : Int32) < (nar .char d0)) :
    Met own_EL l Z (⟨"com/example/hits_by_heading/hitsbyheading/document/DocumentSectionLocationPinLaw", "ok", "(Ljava/lang/String;IIICCCC)Z"⟩ : MethodName) method_4_code 8 (some .boolean) ({ frames := 4, cells := 0, slots := 0, locals := 53 } : Room) ws #[(.ref a1), Z0, (.int (4 : Int32)), (.int (1 : Int32)), (.int d0), (.int d1), (.int e0), (.int e1)] h0 n0 [] (Pur (.int (1 : Int32)) h0) := by
  refine Met.of pn_12 (fun m => ef_rmOK0_4_1 m a1 d0 d1 e0 e1) ?_
  refine Own.iloadN d12_0 rfl ?_
  refine Own.iloadN d12_1 rfl ?_
  refine Own.icmp_lt 7 d12_2 (by decide) rfl (fun _ => ?_) (fun q => absurd (by decide) q)
  refine Own.aloadN d12_7 rfl rfl ?_
  refine Own.iloadN d12_8 rfl ?_
  refine Own.callVP a1 [Z0] [] 0 (rmCA0_4 l Z a0 hw [] a1 b kb vs (nar .char d0) zc vf h0 n0 hn X_a1 F_value_a1 F_coder_a1 V_b hl hx S_C S_F hz hvf (own_rng _) hlat) (hw _ (mg 60 rfl)) (hw _ (mg 61 rfl)) (fun s hZ => notFace_of_selects (args := #[]) (mvT hZ (hw _ (mg 63 rfl)))) (hw _ (mg 63 rfl)) (hw _ (mg 62 rfl)) (hw _ (mg 7 rfl)) (hw _ (mg 64 rfl)) (by decide) X_a1 d12_9 pd_6 rfl rfl rfl rfl (by decide) (by decide) (by decide) (by decide) ?_
  refine Own.iloadN d12_12 rfl ?_
  refine Own.iloadN d12_13 rfl ?_
  refine Own.iload d12_14 rfl ?_
  refine Own.iload d12_16 rfl ?_
  refine Own.iload d12_18 rfl ?_
  refine Own.iload d12_20 rfl ?_
  refine Own.callSP [Z0, (.int (1 : Int32)), (.int d0), (.int d1), (.int e0), (.int e1)] [(.int (nar .char d0))] 1 (rmEX0_1 l Z a0 hw [] d0 d1 e0 e1 h0 n0 hn) (hw _ (mg 82 rfl)) (hw _ (mg 83 rfl)) (hw _ (mg 3 rfl)) (hw _ (mg 84 rfl)) (by decide) d12_22 pd_11 rfl rfl rfl rfl (by decide) (by decide) (by decide) (by decide) ?_
  refine Own.icmp_ne 32 d12_25 (by decide) rfl (fun q => absurd rfl q) (fun _ => ?_)
  refine Own.iconst (1 : Int32) d12_28 rfl ?_
  refine Own.goto_ 33 d12_29 (by decide) rfl ?_
  refine Own.ret_nar (t := .boolean) (by simp) rfl d12_33 (by decide) (by decide) (fun Sf hSf => ?_)
  exact ⟨rfl, rfl⟩
theorem ef_rmPIc_1_4 (m : MethodId) (vf : Value) (hr_2 : (vf).isRef = true) : entryFrame m #[(.int (1 : Int32)), (.int (4 : Int32)), vf] 3 = mkF m 0 #[.val (.int (1 : Int32)), .val (.int (4 : Int32)), .val vf] [] := by rcases ref_cases hr_2 with rfl | ⟨z2, rfl⟩ <;> first | (simp [entryFrame, mkF, argsToLocals, Value.category]; done) | rfl
theorem rmPIc_1_4 (l : Launch) (Z : State) (a0 : Array Value) (hw : HW a0 Z) (ws : List Jvm.Cond) (vf : Value) (h0 : Heap) (n0 : Nat) (hn : n0 ≤ h0.size) (hvf : vf.isRef = true) :
    Met own_EL l Z (⟨"jdk/internal/util/Preconditions", "checkIndex", "(IILjava/util/function/BiFunction;)I"⟩ : MethodName) jdk_41_method_11_code 3 (some .int) ({ frames := 0, cells := 0, slots := 0, locals := 0 } : Room) ws #[(.int (1 : Int32)), (.int (4 : Int32)), vf] h0 n0 [] (Pur (.int (1 : Int32)) h0) := by
  refine Met.of pn_17 (fun m => ef_rmPIc_1_4 m vf hvf) ?_
  refine Own.iloadN d17_0 rfl ?_
  refine Own.if_lt 9 d17_1 (by decide) rfl (fun q => absurd q (by decide)) (fun _ => ?_)
  refine Own.iloadN d17_4 rfl ?_
  refine Own.iloadN d17_5 rfl ?_
  refine Own.icmp_lt 16 d17_6 (by decide) rfl (fun _ => ?_) (fun q => absurd (by decide) q)
  refine Own.iloadN d17_16 rfl ?_
  refine Own.ret_int rfl d17_17 (by decide) (by decide) (fun Sf hSf => ?_)
  exact ⟨rfl, rfl⟩
theorem ef_rmSIc_1_4 (m : MethodId)   : entryFrame m #[(.int (1 : Int32)), (.int (4 : Int32))] 2 = mkF m 0 #[.val (.int (1 : Int32)), .val (.int (4 : Int32))] [] := by simp [entryFrame, mkF, argsToLocals, Value.category]
theorem rmSIc_1_4 (l : Launch) (Z : State) (a0 : Array Value) (hw : HW a0 Z) (ws : List Jvm.Cond) (vf : Value) (h0 : Heap) (n0 : Nat) (hn : n0 ≤ h0.size) (S_F : Sta Z h0 "jdk/internal/util/Preconditions" "SIOOBE_FORMATTER" "Ljava/util/function/BiFunction;" vf) (hvf : vf.isRef = true) :
    Met own_EL l Z (⟨"java/lang/String", "checkIndex", "(II)V"⟩ : MethodName) jdk_42_method_155_code 2 none ({ frames := 1, cells := 0, slots := 0, locals := 14 } : Room) ws #[(.int (1 : Int32)), (.int (4 : Int32))] h0 n0 [] (Pur0 h0) := by
  refine Met.of pn_16 (fun m => ef_rmSIc_1_4 m ) ?_
  refine Own.iloadN d16_0 rfl ?_
  refine Own.iloadN d16_1 rfl ?_
  refine Own.getS_ (host := "") (Or.inl (hw _ (mg 77 rfl))) Via.refl S_F d16_2 ?_
  refine Own.callSP [(.int (1 : Int32)), (.int (4 : Int32)), vf] [] 0 (rmPIc_1_4 l Z a0 hw [] vf h0 n0 hn hvf) (hw _ (mg 79 rfl)) (hw _ (mg 80 rfl)) (hw _ (mg 78 rfl)) (hw _ (mg 81 rfl)) (by decide) d16_5 pd_12 rfl rfl rfl rfl (by decide) (by decide) (by decide) (by decide) ?_
  refine Own.pop d16_8 rfl ?_
  refine Own.ret_void rfl d16_9 (by decide) (by decide) (fun Sf hSf => ?_)
  exact ⟨rfl, rfl⟩
theorem ef_rmLC1_4 (m : MethodId) (a1 : Addr)  : entryFrame m #[(.ref a1), (.int (1 : Int32))] 2 = mkF m 0 #[.val (.ref a1), .val (.int (1 : Int32))] [] := by simp [entryFrame, mkF, argsToLocals, Value.category]
theorem rmLC1_4 (l : Launch) (Z : State) (a0 : Array Value) (hw : HW a0 Z) (ws : List Jvm.Cond) (a1 : Addr) (ka : ClassId) (vs : List Value) (x : Int32) (vf : Value) (h0 : Heap) (n0 : Nat) (hn : n0 ≤ h0.size) (V_a1 : Arl Z h0 a1 ka .byte vs) (hl : vs.length = 4) (hx : vs[1]? = some (.int x)) (S_F : Sta Z h0 "jdk/internal/util/Preconditions" "SIOOBE_FORMATTER" "Ljava/util/function/BiFunction;" vf) (hvf : vf.isRef = true) :
    Met own_EL l Z (⟨"java/lang/StringLatin1", "charAt", "([BI)C"⟩ : MethodName) jdk_43_method_2_code 2 (some .char) ({ frames := 2, cells := 0, slots := 0, locals := 27 } : Room) ws #[(.ref a1), (.int (1 : Int32))] h0 n0 [] (Pur (.int (own_lc x)) h0) := by
  refine Met.of pn_15 (fun m => ef_rmLC1_4 m a1) ?_
  refine Own.iloadN d15_0 rfl ?_
  refine Own.aloadN d15_1 rfl rfl ?_
  refine Own.arraylength_ (4 : Int32) V_a1 (by rw [hl]; rfl) d15_2 ?_
  refine Own.callS0 [(.int (1 : Int32)), (.int (4 : Int32))] [] 0 (rmSIc_1_4 l Z a0 hw [] vf h0 n0 hn S_F hvf) (hw _ (mg 74 rfl)) (hw _ (mg 75 rfl)) (hw _ (mg 7 rfl)) (hw _ (mg 76 rfl)) (by decide) d15_3 pd_10 rfl rfl rfl rfl (by decide) (by decide) (by decide) (by decide) ?_
  refine Own.aloadN d15_6 rfl rfl ?_
  refine Own.iloadN d15_7 rfl ?_
  refine Own.baload_ V_a1 (i := 1) rfl (v := (.int x)) hx d15_8 ?_
  refine Own.sipush (255 : Int32) d15_9 rfl ?_
  refine Own.iand d15_12 ?_
  refine Own.i2c d15_13 ?_
  refine Own.ret_nar (t := .char) (by simp) rfl d15_14 (by decide) (by decide) (fun Sf hSf => ?_)
  exact ⟨rfl, rfl⟩
theorem ef_rmCA1_4 (m : MethodId) (a1 : Addr)  : entryFrame m #[(.ref a1), (.int (1 : Int32))] 2 = mkF m 0 #[.val (.ref a1), .val (.int (1 : Int32))] [] := by simp [entryFrame, mkF, argsToLocals, Value.category]
theorem rmCA1_4 (l : Launch) (Z : State) (a0 : Array Value) (hw : HW a0 Z) (ws : List Jvm.Cond) (a1 : Addr) (b : Addr) (kb : ClassId) (vs : List Value) (x : Int32) (zc : Int32) (vf : Value) (h0 : Heap) (n0 : Nat) (hn : n0 ≤ h0.size) (X_a1 : XSt Z h0 a1) (F_value_a1 : FSv Z h0 a1 (.ref b)) (F_coder_a1 : FSc Z h0 a1 Z0) (V_b : Arl Z h0 b kb .byte vs) (hl : vs.length = 4) (hx : vs[1]? = some (.int (nar .byte (x.toInt8.toInt32)))) (S_C : Sta Z h0 "java/lang/String" "COMPACT_STRINGS" "Z" (.int zc)) (S_F : Sta Z h0 "jdk/internal/util/Preconditions" "SIOOBE_FORMATTER" "Ljava/util/function/BiFunction;" vf) (hz : ¬ zc = 0) (hvf : vf.isRef = true) (hr : 0 ≤ x.toInt ∧ x.toInt < 65536) (hlat : ¬ (255 : Int32) < x) :
    Met own_EL l Z (⟨"java/lang/String", "charAt", "(I)C"⟩ : MethodName) jdk_42_method_56_code 2 (some .char) ({ frames := 3, cells := 0, slots := 0, locals := 40 } : Room) ws #[(.ref a1), (.int (1 : Int32))] h0 n0 [] (Pur (.int x) h0) := by
  refine Met.of pn_13 (fun m => ef_rmCA1_4 m a1) ?_
  refine Own.aloadN d13_0 rfl rfl ?_
  refine Own.callVP a1 [] [] 0 (rm_lat_4 l Z a0 hw [] a1 b kb vs zc h0 n0 hn X_a1 F_value_a1 F_coder_a1 V_b hl S_C hz) (hw _ (mg 65 rfl)) (hw _ (mg 66 rfl)) (fun s hZ => notFace_of_selects (args := #[]) (mvT hZ (hw _ (mg 68 rfl)))) (hw _ (mg 68 rfl)) (hw _ (mg 67 rfl)) (hw _ (mg 7 rfl)) (hw _ (mg 69 rfl)) (by decide) X_a1 d13_1 pd_4 rfl rfl rfl rfl (by decide) (by decide) (by decide) (by decide) ?_
  refine Own.if_eq 16 d13_4 (by decide) rfl (fun q => absurd q (by decide)) (fun _ => ?_)
  refine Own.aloadN d13_7 rfl rfl ?_
  refine Own.getF_ (host := "") (Or.inl (hw _ (mg 33 rfl))) Via.refl F_value_a1 d13_8 ?_
  refine Own.iloadN d13_11 rfl ?_
  refine Own.callSP [(.ref b), (.int (1 : Int32))] [] 0 (rmLC1_4 l Z a0 hw [] b kb vs _ vf h0 n0 hn V_b hl hx S_F hvf) (hw _ (mg 70 rfl)) (hw _ (mg 71 rfl)) (hw _ (mg 72 rfl)) (hw _ (mg 73 rfl)) (by decide) d13_12 pd_23 rfl rfl rfl rfl (by decide) (by decide) (by decide) (by decide) ?_
  refine Own.ret_nar (t := .char) (by simp) rfl d13_15 (by decide) (by decide) (fun Sf hSf => ?_)
  exact ⟨congrArg (fun z => some (Value.int z)) (by rw [own_lcv hr.1 hlat, own_ncv hr.1 hr.2]), rfl⟩
theorem ef_rmOK1_4_1 (m : MethodId) (a1 : Addr) (d0 : Int32) (d1 : Int32) (e0 : Int32) (e1 : Int32)  : entryFrame m #[(.ref a1), (.int (1 : Int32)), (.int (4 : Int32)), (.int (1 : Int32)), (.int d0), (.int d1), (.int e0), (.int e1)] 8 = mkF m 0 #[.val (.ref a1), .val (.int (1 : Int32)), .val (.int (4 : Int32)), .val (.int (1 : Int32)), .val (.int d0), .val (.int d1), .val (.int e0), .val (.int e1)] [] := by simp [entryFrame, mkF, argsToLocals, Value.category]
theorem rmOK1_4_1 (l : Launch) (Z : State) (a0 : Array Value) (hw : HW a0 Z) (ws : List Jvm.Cond) (a1 : Addr) (d0 : Int32) (d1 : Int32) (e0 : Int32) (e1 : Int32) (b : Addr) (kb : ClassId) (vs : List Value) (zc : Int32) (vf : Value) (h0 : Heap) (n0 : Nat) (hn : n0 ≤ h0.size) (X_a1 : XSt Z h0 a1) (F_value_a1 : FSv Z h0 a1 (.ref b)) (F_coder_a1 : FSc Z h0 a1 Z0) (V_b : Arl Z h0 b kb .byte vs) (hl : vs.length = 4) (hx : vs[1]? = some (.int (nar .byte ((35 : Int32).toInt8.toInt32)))) (S_C : Sta Z h0 "java/lang/String" "COMPACT_STRINGS" "Z" (.int zc)) (S_F : Sta Z h0 "jdk/internal/util/Preconditions" "SIOOBE_FORMATTER" "Ljava/util/function/BiFunction;" vf) (hz : ¬ zc = 0) (hvf : vf.isRef = true) :
    Met own_EL l Z (⟨"com/example/hits_by_heading/hitsbyheading/document/DocumentSectionLocationPinLaw", "ok", "(Ljava/lang/String;IIICCCC)Z"⟩ : MethodName) method_4_code 8 (some .boolean) ({ frames := 4, cells := 0, slots := 0, locals := 53 } : Room) ws #[(.ref a1), (.int (1 : Int32)), (.int (4 : Int32)), (.int (1 : Int32)), (.int d0), (.int d1), (.int e0), (.int e1)] h0 n0 [] (Pur (.int (1 : Int32)) h0) := by
  refine Met.of pn_12 (fun m => ef_rmOK1_4_1 m a1 d0 d1 e0 e1) ?_
  refine Own.iloadN d12_0 rfl ?_
  refine Own.iloadN d12_1 rfl ?_
  refine Own.icmp_lt 7 d12_2 (by decide) rfl (fun _ => ?_) (fun q => absurd (by decide) q)
  refine Own.aloadN d12_7 rfl rfl ?_
  refine Own.iloadN d12_8 rfl ?_
  refine Own.callVP a1 [(.int (1 : Int32))] [] 0 (rmCA1_4 l Z a0 hw [] a1 b kb vs (35 : Int32) zc vf h0 n0 hn X_a1 F_value_a1 F_coder_a1 V_b hl hx S_C S_F hz hvf own_r35 own_l35) (hw _ (mg 60 rfl)) (hw _ (mg 61 rfl)) (fun s hZ => notFace_of_selects (args := #[]) (mvT hZ (hw _ (mg 63 rfl)))) (hw _ (mg 63 rfl)) (hw _ (mg 62 rfl)) (hw _ (mg 7 rfl)) (hw _ (mg 64 rfl)) (by decide) X_a1 d12_9 pd_6 rfl rfl rfl rfl (by decide) (by decide) (by decide) (by decide) ?_
  refine Own.iloadN d12_12 rfl ?_
  refine Own.iloadN d12_13 rfl ?_
  refine Own.iload d12_14 rfl ?_
  refine Own.iload d12_16 rfl ?_
  refine Own.iload d12_18 rfl ?_
  refine Own.iload d12_20 rfl ?_
  refine Own.callSP [(.int (1 : Int32)), (.int (1 : Int32)), (.int d0), (.int d1), (.int e0), (.int e1)] [(.int (35 : Int32))] 1 (rmEX1_1 l Z a0 hw [] d0 d1 e0 e1 h0 n0 hn) (hw _ (mg 82 rfl)) (hw _ (mg 83 rfl)) (hw _ (mg 3 rfl)) (hw _ (mg 84 rfl)) (by decide) d12_22 pd_11 rfl rfl rfl rfl (by decide) (by decide) (by decide) (by decide) ?_
  refine Own.icmp_ne 32 d12_25 (by decide) rfl (fun q => absurd own_c35 q) (fun _ => ?_)
  refine Own.iconst (1 : Int32) d12_28 rfl ?_
  refine Own.goto_ 33 d12_29 (by decide) rfl ?_
  refine Own.ret_nar (t := .boolean) (by simp) rfl d12_33 (by decide) (by decide) (fun Sf hSf => ?_)
  exact ⟨rfl, rfl⟩
theorem ef_rmPIc_2_4 (m : MethodId) (vf : Value) (hr_2 : (vf).isRef = true) : entryFrame m #[(.int (2 : Int32)), (.int (4 : Int32)), vf] 3 = mkF m 0 #[.val (.int (2 : Int32)), .val (.int (4 : Int32)), .val vf] [] := by rcases ref_cases hr_2 with rfl | ⟨z2, rfl⟩ <;> first | (simp [entryFrame, mkF, argsToLocals, Value.category]; done) | rfl
theorem rmPIc_2_4 (l : Launch) (Z : State) (a0 : Array Value) (hw : HW a0 Z) (ws : List Jvm.Cond) (vf : Value) (h0 : Heap) (n0 : Nat) (hn : n0 ≤ h0.size) (hvf : vf.isRef = true) :
    Met own_EL l Z (⟨"jdk/internal/util/Preconditions", "checkIndex", "(IILjava/util/function/BiFunction;)I"⟩ : MethodName) jdk_41_method_11_code 3 (some .int) ({ frames := 0, cells := 0, slots := 0, locals := 0 } : Room) ws #[(.int (2 : Int32)), (.int (4 : Int32)), vf] h0 n0 [] (Pur (.int (2 : Int32)) h0) := by
  refine Met.of pn_17 (fun m => ef_rmPIc_2_4 m vf hvf) ?_
  refine Own.iloadN d17_0 rfl ?_
  refine Own.if_lt 9 d17_1 (by decide) rfl (fun q => absurd q (by decide)) (fun _ => ?_)
  refine Own.iloadN d17_4 rfl ?_
  refine Own.iloadN d17_5 rfl ?_
  refine Own.icmp_lt 16 d17_6 (by decide) rfl (fun _ => ?_) (fun q => absurd (by decide) q)
  refine Own.iloadN d17_16 rfl ?_
  refine Own.ret_int rfl d17_17 (by decide) (by decide) (fun Sf hSf => ?_)
  exact ⟨rfl, rfl⟩
theorem ef_rmSIc_2_4 (m : MethodId)   : entryFrame m #[(.int (2 : Int32)), (.int (4 : Int32))] 2 = mkF m 0 #[.val (.int (2 : Int32)), .val (.int (4 : Int32))] [] := by simp [entryFrame, mkF, argsToLocals, Value.category]
theorem rmSIc_2_4 (l : Launch) (Z : State) (a0 : Array Value) (hw : HW a0 Z) (ws : List Jvm.Cond) (vf : Value) (h0 : Heap) (n0 : Nat) (hn : n0 ≤ h0.size) (S_F : Sta Z h0 "jdk/internal/util/Preconditions" "SIOOBE_FORMATTER" "Ljava/util/function/BiFunction;" vf) (hvf : vf.isRef = true) :
    Met own_EL l Z (⟨"java/lang/String", "checkIndex", "(II)V"⟩ : MethodName) jdk_42_method_155_code 2 none ({ frames := 1, cells := 0, slots := 0, locals := 14 } : Room) ws #[(.int (2 : Int32)), (.int (4 : Int32))] h0 n0 [] (Pur0 h0) := by
  refine Met.of pn_16 (fun m => ef_rmSIc_2_4 m ) ?_
  refine Own.iloadN d16_0 rfl ?_
  refine Own.iloadN d16_1 rfl ?_
  refine Own.getS_ (host := "") (Or.inl (hw _ (mg 77 rfl))) Via.refl S_F d16_2 ?_
  refine Own.callSP [(.int (2 : Int32)), (.int (4 : Int32)), vf] [] 0 (rmPIc_2_4 l Z a0 hw [] vf h0 n0 hn hvf) (hw _ (mg 79 rfl)) (hw _ (mg 80 rfl)) (hw _ (mg 78 rfl)) (hw _ (mg 81 rfl)) (by decide) d16_5 pd_12 rfl rfl rfl rfl (by decide) (by decide) (by decide) (by decide) ?_
  refine Own.pop d16_8 rfl ?_
  refine Own.ret_void rfl d16_9 (by decide) (by decide) (fun Sf hSf => ?_)
  exact ⟨rfl, rfl⟩
theorem ef_rmLC2_4 (m : MethodId) (a1 : Addr)  : entryFrame m #[(.ref a1), (.int (2 : Int32))] 2 = mkF m 0 #[.val (.ref a1), .val (.int (2 : Int32))] [] := by simp [entryFrame, mkF, argsToLocals, Value.category]
theorem rmLC2_4 (l : Launch) (Z : State) (a0 : Array Value) (hw : HW a0 Z) (ws : List Jvm.Cond) (a1 : Addr) (ka : ClassId) (vs : List Value) (x : Int32) (vf : Value) (h0 : Heap) (n0 : Nat) (hn : n0 ≤ h0.size) (V_a1 : Arl Z h0 a1 ka .byte vs) (hl : vs.length = 4) (hx : vs[2]? = some (.int x)) (S_F : Sta Z h0 "jdk/internal/util/Preconditions" "SIOOBE_FORMATTER" "Ljava/util/function/BiFunction;" vf) (hvf : vf.isRef = true) :
    Met own_EL l Z (⟨"java/lang/StringLatin1", "charAt", "([BI)C"⟩ : MethodName) jdk_43_method_2_code 2 (some .char) ({ frames := 2, cells := 0, slots := 0, locals := 27 } : Room) ws #[(.ref a1), (.int (2 : Int32))] h0 n0 [] (Pur (.int (own_lc x)) h0) := by
  refine Met.of pn_15 (fun m => ef_rmLC2_4 m a1) ?_
  refine Own.iloadN d15_0 rfl ?_
  refine Own.aloadN d15_1 rfl rfl ?_
  refine Own.arraylength_ (4 : Int32) V_a1 (by rw [hl]; rfl) d15_2 ?_
  refine Own.callS0 [(.int (2 : Int32)), (.int (4 : Int32))] [] 0 (rmSIc_2_4 l Z a0 hw [] vf h0 n0 hn S_F hvf) (hw _ (mg 74 rfl)) (hw _ (mg 75 rfl)) (hw _ (mg 7 rfl)) (hw _ (mg 76 rfl)) (by decide) d15_3 pd_10 rfl rfl rfl rfl (by decide) (by decide) (by decide) (by decide) ?_
  refine Own.aloadN d15_6 rfl rfl ?_
  refine Own.iloadN d15_7 rfl ?_
  refine Own.baload_ V_a1 (i := 2) rfl (v := (.int x)) hx d15_8 ?_
  refine Own.sipush (255 : Int32) d15_9 rfl ?_
  refine Own.iand d15_12 ?_
  refine Own.i2c d15_13 ?_
  refine Own.ret_nar (t := .char) (by simp) rfl d15_14 (by decide) (by decide) (fun Sf hSf => ?_)
  exact ⟨rfl, rfl⟩
theorem ef_rmCA2_4 (m : MethodId) (a1 : Addr)  : entryFrame m #[(.ref a1), (.int (2 : Int32))] 2 = mkF m 0 #[.val (.ref a1), .val (.int (2 : Int32))] [] := by simp [entryFrame, mkF, argsToLocals, Value.category]
theorem rmCA2_4 (l : Launch) (Z : State) (a0 : Array Value) (hw : HW a0 Z) (ws : List Jvm.Cond) (a1 : Addr) (b : Addr) (kb : ClassId) (vs : List Value) (x : Int32) (zc : Int32) (vf : Value) (h0 : Heap) (n0 : Nat) (hn : n0 ≤ h0.size) (X_a1 : XSt Z h0 a1) (F_value_a1 : FSv Z h0 a1 (.ref b)) (F_coder_a1 : FSc Z h0 a1 Z0) (V_b : Arl Z h0 b kb .byte vs) (hl : vs.length = 4) (hx : vs[2]? = some (.int (nar .byte (x.toInt8.toInt32)))) (S_C : Sta Z h0 "java/lang/String" "COMPACT_STRINGS" "Z" (.int zc)) (S_F : Sta Z h0 "jdk/internal/util/Preconditions" "SIOOBE_FORMATTER" "Ljava/util/function/BiFunction;" vf) (hz : ¬ zc = 0) (hvf : vf.isRef = true) (hr : 0 ≤ x.toInt ∧ x.toInt < 65536) (hlat : ¬ (255 : Int32) < x) :
    Met own_EL l Z (⟨"java/lang/String", "charAt", "(I)C"⟩ : MethodName) jdk_42_method_56_code 2 (some .char) ({ frames := 3, cells := 0, slots := 0, locals := 40 } : Room) ws #[(.ref a1), (.int (2 : Int32))] h0 n0 [] (Pur (.int x) h0) := by
  refine Met.of pn_13 (fun m => ef_rmCA2_4 m a1) ?_
  refine Own.aloadN d13_0 rfl rfl ?_
  refine Own.callVP a1 [] [] 0 (rm_lat_4 l Z a0 hw [] a1 b kb vs zc h0 n0 hn X_a1 F_value_a1 F_coder_a1 V_b hl S_C hz) (hw _ (mg 65 rfl)) (hw _ (mg 66 rfl)) (fun s hZ => notFace_of_selects (args := #[]) (mvT hZ (hw _ (mg 68 rfl)))) (hw _ (mg 68 rfl)) (hw _ (mg 67 rfl)) (hw _ (mg 7 rfl)) (hw _ (mg 69 rfl)) (by decide) X_a1 d13_1 pd_4 rfl rfl rfl rfl (by decide) (by decide) (by decide) (by decide) ?_
  refine Own.if_eq 16 d13_4 (by decide) rfl (fun q => absurd q (by decide)) (fun _ => ?_)
  refine Own.aloadN d13_7 rfl rfl ?_
  refine Own.getF_ (host := "") (Or.inl (hw _ (mg 33 rfl))) Via.refl F_value_a1 d13_8 ?_
  refine Own.iloadN d13_11 rfl ?_
  refine Own.callSP [(.ref b), (.int (2 : Int32))] [] 0 (rmLC2_4 l Z a0 hw [] b kb vs _ vf h0 n0 hn V_b hl hx S_F hvf) (hw _ (mg 70 rfl)) (hw _ (mg 71 rfl)) (hw _ (mg 72 rfl)) (hw _ (mg 73 rfl)) (by decide) d13_12 pd_23 rfl rfl rfl rfl (by decide) (by decide) (by decide) (by decide) ?_
  refine Own.ret_nar (t := .char) (by simp) rfl d13_15 (by decide) (by decide) (fun Sf hSf => ?_)
  exact ⟨congrArg (fun z => some (Value.int z)) (by rw [own_lcv hr.1 hlat, own_ncv hr.1 hr.2]), rfl⟩
theorem ef_rmOK2_4_1 (m : MethodId) (a1 : Addr) (d0 : Int32) (d1 : Int32) (e0 : Int32) (e1 : Int32)  : entryFrame m #[(.ref a1), (.int (2 : Int32)), (.int (4 : Int32)), (.int (1 : Int32)), (.int d0), (.int d1), (.int e0), (.int e1)] 8 = mkF m 0 #[.val (.ref a1), .val (.int (2 : Int32)), .val (.int (4 : Int32)), .val (.int (1 : Int32)), .val (.int d0), .val (.int d1), .val (.int e0), .val (.int e1)] [] := by simp [entryFrame, mkF, argsToLocals, Value.category]
theorem rmOK2_4_1 (l : Launch) (Z : State) (a0 : Array Value) (hw : HW a0 Z) (ws : List Jvm.Cond) (a1 : Addr) (d0 : Int32) (d1 : Int32) (e0 : Int32) (e1 : Int32) (b : Addr) (kb : ClassId) (vs : List Value) (zc : Int32) (vf : Value) (h0 : Heap) (n0 : Nat) (hn : n0 ≤ h0.size) (X_a1 : XSt Z h0 a1) (F_value_a1 : FSv Z h0 a1 (.ref b)) (F_coder_a1 : FSc Z h0 a1 Z0) (V_b : Arl Z h0 b kb .byte vs) (hl : vs.length = 4) (hx : vs[2]? = some (.int (nar .byte ((nar .char e0).toInt8.toInt32)))) (S_C : Sta Z h0 "java/lang/String" "COMPACT_STRINGS" "Z" (.int zc)) (S_F : Sta Z h0 "jdk/internal/util/Preconditions" "SIOOBE_FORMATTER" "Ljava/util/function/BiFunction;" vf) (hz : ¬ zc = 0) (hvf : vf.isRef = true) (hlat : ¬ (255 : Int32) < (nar .char e0)) :
    Met own_EL l Z (⟨"com/example/hits_by_heading/hitsbyheading/document/DocumentSectionLocationPinLaw", "ok", "(Ljava/lang/String;IIICCCC)Z"⟩ : MethodName) method_4_code 8 (some .boolean) ({ frames := 4, cells := 0, slots := 0, locals := 53 } : Room) ws #[(.ref a1), (.int (2 : Int32)), (.int (4 : Int32)), (.int (1 : Int32)), (.int d0), (.int d1), (.int e0), (.int e1)] h0 n0 [] (Pur (.int (1 : Int32)) h0) := by
  refine Met.of pn_12 (fun m => ef_rmOK2_4_1 m a1 d0 d1 e0 e1) ?_
  refine Own.iloadN d12_0 rfl ?_
  refine Own.iloadN d12_1 rfl ?_
  refine Own.icmp_lt 7 d12_2 (by decide) rfl (fun _ => ?_) (fun q => absurd (by decide) q)
  refine Own.aloadN d12_7 rfl rfl ?_
  refine Own.iloadN d12_8 rfl ?_
  refine Own.callVP a1 [(.int (2 : Int32))] [] 0 (rmCA2_4 l Z a0 hw [] a1 b kb vs (nar .char e0) zc vf h0 n0 hn X_a1 F_value_a1 F_coder_a1 V_b hl hx S_C S_F hz hvf (own_rng _) hlat) (hw _ (mg 60 rfl)) (hw _ (mg 61 rfl)) (fun s hZ => notFace_of_selects (args := #[]) (mvT hZ (hw _ (mg 63 rfl)))) (hw _ (mg 63 rfl)) (hw _ (mg 62 rfl)) (hw _ (mg 7 rfl)) (hw _ (mg 64 rfl)) (by decide) X_a1 d12_9 pd_6 rfl rfl rfl rfl (by decide) (by decide) (by decide) (by decide) ?_
  refine Own.iloadN d12_12 rfl ?_
  refine Own.iloadN d12_13 rfl ?_
  refine Own.iload d12_14 rfl ?_
  refine Own.iload d12_16 rfl ?_
  refine Own.iload d12_18 rfl ?_
  refine Own.iload d12_20 rfl ?_
  refine Own.callSP [(.int (2 : Int32)), (.int (1 : Int32)), (.int d0), (.int d1), (.int e0), (.int e1)] [(.int (nar .char e0))] 1 (rmEX2_1 l Z a0 hw [] d0 d1 e0 e1 h0 n0 hn) (hw _ (mg 82 rfl)) (hw _ (mg 83 rfl)) (hw _ (mg 3 rfl)) (hw _ (mg 84 rfl)) (by decide) d12_22 pd_11 rfl rfl rfl rfl (by decide) (by decide) (by decide) (by decide) ?_
  refine Own.icmp_ne 32 d12_25 (by decide) rfl (fun q => absurd rfl q) (fun _ => ?_)
  refine Own.iconst (1 : Int32) d12_28 rfl ?_
  refine Own.goto_ 33 d12_29 (by decide) rfl ?_
  refine Own.ret_nar (t := .boolean) (by simp) rfl d12_33 (by decide) (by decide) (fun Sf hSf => ?_)
  exact ⟨rfl, rfl⟩
theorem ef_rmPIc_3_4 (m : MethodId) (vf : Value) (hr_2 : (vf).isRef = true) : entryFrame m #[(.int (3 : Int32)), (.int (4 : Int32)), vf] 3 = mkF m 0 #[.val (.int (3 : Int32)), .val (.int (4 : Int32)), .val vf] [] := by rcases ref_cases hr_2 with rfl | ⟨z2, rfl⟩ <;> first | (simp [entryFrame, mkF, argsToLocals, Value.category]; done) | rfl
theorem rmPIc_3_4 (l : Launch) (Z : State) (a0 : Array Value) (hw : HW a0 Z) (ws : List Jvm.Cond) (vf : Value) (h0 : Heap) (n0 : Nat) (hn : n0 ≤ h0.size) (hvf : vf.isRef = true) :
    Met own_EL l Z (⟨"jdk/internal/util/Preconditions", "checkIndex", "(IILjava/util/function/BiFunction;)I"⟩ : MethodName) jdk_41_method_11_code 3 (some .int) ({ frames := 0, cells := 0, slots := 0, locals := 0 } : Room) ws #[(.int (3 : Int32)), (.int (4 : Int32)), vf] h0 n0 [] (Pur (.int (3 : Int32)) h0) := by
  refine Met.of pn_17 (fun m => ef_rmPIc_3_4 m vf hvf) ?_
  refine Own.iloadN d17_0 rfl ?_
  refine Own.if_lt 9 d17_1 (by decide) rfl (fun q => absurd q (by decide)) (fun _ => ?_)
  refine Own.iloadN d17_4 rfl ?_
  refine Own.iloadN d17_5 rfl ?_
  refine Own.icmp_lt 16 d17_6 (by decide) rfl (fun _ => ?_) (fun q => absurd (by decide) q)
  refine Own.iloadN d17_16 rfl ?_
  refine Own.ret_int rfl d17_17 (by decide) (by decide) (fun Sf hSf => ?_)
  exact ⟨rfl, rfl⟩
theorem ef_rmSIc_3_4 (m : MethodId)   : entryFrame m #[(.int (3 : Int32)), (.int (4 : Int32))] 2 = mkF m 0 #[.val (.int (3 : Int32)), .val (.int (4 : Int32))] [] := by simp [entryFrame, mkF, argsToLocals, Value.category]
theorem rmSIc_3_4 (l : Launch) (Z : State) (a0 : Array Value) (hw : HW a0 Z) (ws : List Jvm.Cond) (vf : Value) (h0 : Heap) (n0 : Nat) (hn : n0 ≤ h0.size) (S_F : Sta Z h0 "jdk/internal/util/Preconditions" "SIOOBE_FORMATTER" "Ljava/util/function/BiFunction;" vf) (hvf : vf.isRef = true) :
    Met own_EL l Z (⟨"java/lang/String", "checkIndex", "(II)V"⟩ : MethodName) jdk_42_method_155_code 2 none ({ frames := 1, cells := 0, slots := 0, locals := 14 } : Room) ws #[(.int (3 : Int32)), (.int (4 : Int32))] h0 n0 [] (Pur0 h0) := by
  refine Met.of pn_16 (fun m => ef_rmSIc_3_4 m ) ?_
  refine Own.iloadN d16_0 rfl ?_
  refine Own.iloadN d16_1 rfl ?_
  refine Own.getS_ (host := "") (Or.inl (hw _ (mg 77 rfl))) Via.refl S_F d16_2 ?_
  refine Own.callSP [(.int (3 : Int32)), (.int (4 : Int32)), vf] [] 0 (rmPIc_3_4 l Z a0 hw [] vf h0 n0 hn hvf) (hw _ (mg 79 rfl)) (hw _ (mg 80 rfl)) (hw _ (mg 78 rfl)) (hw _ (mg 81 rfl)) (by decide) d16_5 pd_12 rfl rfl rfl rfl (by decide) (by decide) (by decide) (by decide) ?_
  refine Own.pop d16_8 rfl ?_
  refine Own.ret_void rfl d16_9 (by decide) (by decide) (fun Sf hSf => ?_)
  exact ⟨rfl, rfl⟩
theorem ef_rmLC3_4 (m : MethodId) (a1 : Addr)  : entryFrame m #[(.ref a1), (.int (3 : Int32))] 2 = mkF m 0 #[.val (.ref a1), .val (.int (3 : Int32))] [] := by simp [entryFrame, mkF, argsToLocals, Value.category]
theorem rmLC3_4 (l : Launch) (Z : State) (a0 : Array Value) (hw : HW a0 Z) (ws : List Jvm.Cond) (a1 : Addr) (ka : ClassId) (vs : List Value) (x : Int32) (vf : Value) (h0 : Heap) (n0 : Nat) (hn : n0 ≤ h0.size) (V_a1 : Arl Z h0 a1 ka .byte vs) (hl : vs.length = 4) (hx : vs[3]? = some (.int x)) (S_F : Sta Z h0 "jdk/internal/util/Preconditions" "SIOOBE_FORMATTER" "Ljava/util/function/BiFunction;" vf) (hvf : vf.isRef = true) :
    Met own_EL l Z (⟨"java/lang/StringLatin1", "charAt", "([BI)C"⟩ : MethodName) jdk_43_method_2_code 2 (some .char) ({ frames := 2, cells := 0, slots := 0, locals := 27 } : Room) ws #[(.ref a1), (.int (3 : Int32))] h0 n0 [] (Pur (.int (own_lc x)) h0) := by
  refine Met.of pn_15 (fun m => ef_rmLC3_4 m a1) ?_
  refine Own.iloadN d15_0 rfl ?_
  refine Own.aloadN d15_1 rfl rfl ?_
  refine Own.arraylength_ (4 : Int32) V_a1 (by rw [hl]; rfl) d15_2 ?_
  refine Own.callS0 [(.int (3 : Int32)), (.int (4 : Int32))] [] 0 (rmSIc_3_4 l Z a0 hw [] vf h0 n0 hn S_F hvf) (hw _ (mg 74 rfl)) (hw _ (mg 75 rfl)) (hw _ (mg 7 rfl)) (hw _ (mg 76 rfl)) (by decide) d15_3 pd_10 rfl rfl rfl rfl (by decide) (by decide) (by decide) (by decide) ?_
  refine Own.aloadN d15_6 rfl rfl ?_
  refine Own.iloadN d15_7 rfl ?_
  refine Own.baload_ V_a1 (i := 3) rfl (v := (.int x)) hx d15_8 ?_
  refine Own.sipush (255 : Int32) d15_9 rfl ?_
  refine Own.iand d15_12 ?_
  refine Own.i2c d15_13 ?_
  refine Own.ret_nar (t := .char) (by simp) rfl d15_14 (by decide) (by decide) (fun Sf hSf => ?_)
  exact ⟨rfl, rfl⟩
theorem ef_rmCA3_4 (m : MethodId) (a1 : Addr)  : entryFrame m #[(.ref a1), (.int (3 : Int32))] 2 = mkF m 0 #[.val (.ref a1), .val (.int (3 : Int32))] [] := by simp [entryFrame, mkF, argsToLocals, Value.category]
theorem rmCA3_4 (l : Launch) (Z : State) (a0 : Array Value) (hw : HW a0 Z) (ws : List Jvm.Cond) (a1 : Addr) (b : Addr) (kb : ClassId) (vs : List Value) (x : Int32) (zc : Int32) (vf : Value) (h0 : Heap) (n0 : Nat) (hn : n0 ≤ h0.size) (X_a1 : XSt Z h0 a1) (F_value_a1 : FSv Z h0 a1 (.ref b)) (F_coder_a1 : FSc Z h0 a1 Z0) (V_b : Arl Z h0 b kb .byte vs) (hl : vs.length = 4) (hx : vs[3]? = some (.int (nar .byte (x.toInt8.toInt32)))) (S_C : Sta Z h0 "java/lang/String" "COMPACT_STRINGS" "Z" (.int zc)) (S_F : Sta Z h0 "jdk/internal/util/Preconditions" "SIOOBE_FORMATTER" "Ljava/util/function/BiFunction;" vf) (hz : ¬ zc = 0) (hvf : vf.isRef = true) (hr : 0 ≤ x.toInt ∧ x.toInt < 65536) (hlat : ¬ (255 : Int32) < x) :
    Met own_EL l Z (⟨"java/lang/String", "charAt", "(I)C"⟩ : MethodName) jdk_42_method_56_code 2 (some .char) ({ frames := 3, cells := 0, slots := 0, locals := 40 } : Room) ws #[(.ref a1), (.int (3 : Int32))] h0 n0 [] (Pur (.int x) h0) := by
  refine Met.of pn_13 (fun m => ef_rmCA3_4 m a1) ?_
  refine Own.aloadN d13_0 rfl rfl ?_
  refine Own.callVP a1 [] [] 0 (rm_lat_4 l Z a0 hw [] a1 b kb vs zc h0 n0 hn X_a1 F_value_a1 F_coder_a1 V_b hl S_C hz) (hw _ (mg 65 rfl)) (hw _ (mg 66 rfl)) (fun s hZ => notFace_of_selects (args := #[]) (mvT hZ (hw _ (mg 68 rfl)))) (hw _ (mg 68 rfl)) (hw _ (mg 67 rfl)) (hw _ (mg 7 rfl)) (hw _ (mg 69 rfl)) (by decide) X_a1 d13_1 pd_4 rfl rfl rfl rfl (by decide) (by decide) (by decide) (by decide) ?_
  refine Own.if_eq 16 d13_4 (by decide) rfl (fun q => absurd q (by decide)) (fun _ => ?_)
  refine Own.aloadN d13_7 rfl rfl ?_
  refine Own.getF_ (host := "") (Or.inl (hw _ (mg 33 rfl))) Via.refl F_value_a1 d13_8 ?_
  refine Own.iloadN d13_11 rfl ?_
  refine Own.callSP [(.ref b), (.int (3 : Int32))] [] 0 (rmLC3_4 l Z a0 hw [] b kb vs _ vf h0 n0 hn V_b hl hx S_F hvf) (hw _ (mg 70 rfl)) (hw _ (mg 71 rfl)) (hw _ (mg 72 rfl)) (hw _ (mg 73 rfl)) (by decide) d13_12 pd_23 rfl rfl rfl rfl (by decide) (by decide) (by decide) (by decide) ?_
  refine Own.ret_nar (t := .char) (by simp) rfl d13_15 (by decide) (by decide) (fun Sf hSf => ?_)
  exact ⟨congrArg (fun z => some (Value.int z)) (by rw [own_lcv hr.1 hlat, own_ncv hr.1 hr.2]), rfl⟩
theorem ef_rmEX3_1 (m : MethodId) (d0 : Int32) (d1 : Int32) (e0 : Int32) (e1 : Int32)  : entryFrame m #[(.int (3 : Int32)), (.int (1 : Int32)), (.int d0), (.int d1), (.int e0), (.int e1)] 7 = mkF m 0 #[.val (.int (3 : Int32)), .val (.int (1 : Int32)), .val (.int d0), .val (.int d1), .val (.int e0), .val (.int e1), .unset] [] := by simp [entryFrame, mkF, argsToLocals, Value.category]
theorem rmEX3_1 (l : Launch) (Z : State) (a0 : Array Value) (hw : HW a0 Z) (ws : List Jvm.Cond) (d0 : Int32) (d1 : Int32) (e0 : Int32) (e1 : Int32) (h0 : Heap) (n0 : Nat) (hn : n0 ≤ h0.size) :
    Met own_EL l Z (⟨"com/example/hits_by_heading/hitsbyheading/document/DocumentSectionLocationPinLaw", "expected", "(IICCCC)C"⟩ : MethodName) method_5_code 7 (some .char) ({ frames := 0, cells := 0, slots := 0, locals := 0 } : Room) ws #[(.int (3 : Int32)), (.int (1 : Int32)), (.int d0), (.int d1), (.int e0), (.int e1)] h0 n0 [] (Pur (.int (nar .char e1)) h0) := by
  refine Met.of pn_18 (fun m => ef_rmEX3_1 m d0 d1 e0 e1) ?_
  refine Own.iloadN d18_0 rfl ?_
  refine Own.iloadN d18_1 rfl ?_
  refine Own.icmp_ge 15 d18_2 (by decide) rfl (fun _ => ?_) (fun q => absurd q (by decide))
  refine Own.iloadN d18_15 rfl ?_
  refine Own.iloadN d18_16 rfl ?_
  refine Own.icmp_ne 23 d18_17 (by decide) rfl (fun _ => ?_) (fun q => absurd q (by decide))
  refine Own.iloadN d18_23 rfl ?_
  refine Own.iloadN d18_24 rfl ?_
  refine Own.isub d18_25 ?_
  refine OAt.cast (st' := [(.int (2 : Int32))]) rfl ?_
  refine Own.iconst (1 : Int32) d18_26 rfl ?_
  refine Own.isub d18_27 ?_
  refine OAt.cast (st' := [(.int (1 : Int32))]) rfl ?_
  refine Own.istore #[.val (.int (3 : Int32)), .val (.int (1 : Int32)), .val (.int d0), .val (.int d1), .val (.int e0), .val (.int e1), .val (.int (1 : Int32))] d18_28 rfl ?_
  refine Own.iload d18_30 rfl ?_
  refine Own.if_ne 40 d18_32 (by decide) rfl (fun _ => ?_) (fun q => absurd q (by decide))
  refine Own.iload d18_40 rfl ?_
  refine Own.ret_nar (t := .char) (by simp) rfl d18_42 (by decide) (by decide) (fun Sf hSf => ?_)
  exact ⟨rfl, rfl⟩
theorem ef_rmOK3_4_1 (m : MethodId) (a1 : Addr) (d0 : Int32) (d1 : Int32) (e0 : Int32) (e1 : Int32)  : entryFrame m #[(.ref a1), (.int (3 : Int32)), (.int (4 : Int32)), (.int (1 : Int32)), (.int d0), (.int d1), (.int e0), (.int e1)] 8 = mkF m 0 #[.val (.ref a1), .val (.int (3 : Int32)), .val (.int (4 : Int32)), .val (.int (1 : Int32)), .val (.int d0), .val (.int d1), .val (.int e0), .val (.int e1)] [] := by simp [entryFrame, mkF, argsToLocals, Value.category]
theorem rmOK3_4_1 (l : Launch) (Z : State) (a0 : Array Value) (hw : HW a0 Z) (ws : List Jvm.Cond) (a1 : Addr) (d0 : Int32) (d1 : Int32) (e0 : Int32) (e1 : Int32) (b : Addr) (kb : ClassId) (vs : List Value) (zc : Int32) (vf : Value) (h0 : Heap) (n0 : Nat) (hn : n0 ≤ h0.size) (X_a1 : XSt Z h0 a1) (F_value_a1 : FSv Z h0 a1 (.ref b)) (F_coder_a1 : FSc Z h0 a1 Z0) (V_b : Arl Z h0 b kb .byte vs) (hl : vs.length = 4) (hx : vs[3]? = some (.int (nar .byte ((nar .char e1).toInt8.toInt32)))) (S_C : Sta Z h0 "java/lang/String" "COMPACT_STRINGS" "Z" (.int zc)) (S_F : Sta Z h0 "jdk/internal/util/Preconditions" "SIOOBE_FORMATTER" "Ljava/util/function/BiFunction;" vf) (hz : ¬ zc = 0) (hvf : vf.isRef = true) (hlat : ¬ (255 : Int32) < (nar .char e1)) :
    Met own_EL l Z (⟨"com/example/hits_by_heading/hitsbyheading/document/DocumentSectionLocationPinLaw", "ok", "(Ljava/lang/String;IIICCCC)Z"⟩ : MethodName) method_4_code 8 (some .boolean) ({ frames := 4, cells := 0, slots := 0, locals := 53 } : Room) ws #[(.ref a1), (.int (3 : Int32)), (.int (4 : Int32)), (.int (1 : Int32)), (.int d0), (.int d1), (.int e0), (.int e1)] h0 n0 [] (Pur (.int (1 : Int32)) h0) := by
  refine Met.of pn_12 (fun m => ef_rmOK3_4_1 m a1 d0 d1 e0 e1) ?_
  refine Own.iloadN d12_0 rfl ?_
  refine Own.iloadN d12_1 rfl ?_
  refine Own.icmp_lt 7 d12_2 (by decide) rfl (fun _ => ?_) (fun q => absurd (by decide) q)
  refine Own.aloadN d12_7 rfl rfl ?_
  refine Own.iloadN d12_8 rfl ?_
  refine Own.callVP a1 [(.int (3 : Int32))] [] 0 (rmCA3_4 l Z a0 hw [] a1 b kb vs (nar .char e1) zc vf h0 n0 hn X_a1 F_value_a1 F_coder_a1 V_b hl hx S_C S_F hz hvf (own_rng _) hlat) (hw _ (mg 60 rfl)) (hw _ (mg 61 rfl)) (fun s hZ => notFace_of_selects (args := #[]) (mvT hZ (hw _ (mg 63 rfl)))) (hw _ (mg 63 rfl)) (hw _ (mg 62 rfl)) (hw _ (mg 7 rfl)) (hw _ (mg 64 rfl)) (by decide) X_a1 d12_9 pd_6 rfl rfl rfl rfl (by decide) (by decide) (by decide) (by decide) ?_
  refine Own.iloadN d12_12 rfl ?_
  refine Own.iloadN d12_13 rfl ?_
  refine Own.iload d12_14 rfl ?_
  refine Own.iload d12_16 rfl ?_
  refine Own.iload d12_18 rfl ?_
  refine Own.iload d12_20 rfl ?_
  refine Own.callSP [(.int (3 : Int32)), (.int (1 : Int32)), (.int d0), (.int d1), (.int e0), (.int e1)] [(.int (nar .char e1))] 1 (rmEX3_1 l Z a0 hw [] d0 d1 e0 e1 h0 n0 hn) (hw _ (mg 82 rfl)) (hw _ (mg 83 rfl)) (hw _ (mg 3 rfl)) (hw _ (mg 84 rfl)) (by decide) d12_22 pd_11 rfl rfl rfl rfl (by decide) (by decide) (by decide) (by decide) ?_
  refine Own.icmp_ne 32 d12_25 (by decide) rfl (fun q => absurd rfl q) (fun _ => ?_)
  refine Own.iconst (1 : Int32) d12_28 rfl ?_
  refine Own.goto_ 33 d12_29 (by decide) rfl ?_
  refine Own.ret_nar (t := .boolean) (by simp) rfl d12_33 (by decide) (by decide) (fun Sf hSf => ?_)
  exact ⟨rfl, rfl⟩
theorem ef_rmOK4_4_1 (m : MethodId) (a1 : Addr) (d0 : Int32) (d1 : Int32) (e0 : Int32) (e1 : Int32)  : entryFrame m #[(.ref a1), (.int (4 : Int32)), (.int (4 : Int32)), (.int (1 : Int32)), (.int d0), (.int d1), (.int e0), (.int e1)] 8 = mkF m 0 #[.val (.ref a1), .val (.int (4 : Int32)), .val (.int (4 : Int32)), .val (.int (1 : Int32)), .val (.int d0), .val (.int d1), .val (.int e0), .val (.int e1)] [] := by simp [entryFrame, mkF, argsToLocals, Value.category]
theorem rmOK4_4_1 (l : Launch) (Z : State) (a0 : Array Value) (hw : HW a0 Z) (ws : List Jvm.Cond) (a1 : Addr) (d0 : Int32) (d1 : Int32) (e0 : Int32) (e1 : Int32) (h0 : Heap) (n0 : Nat) (hn : n0 ≤ h0.size) :
    Met own_EL l Z (⟨"com/example/hits_by_heading/hitsbyheading/document/DocumentSectionLocationPinLaw", "ok", "(Ljava/lang/String;IIICCCC)Z"⟩ : MethodName) method_4_code 8 (some .boolean) ({ frames := 0, cells := 0, slots := 0, locals := 0 } : Room) ws #[(.ref a1), (.int (4 : Int32)), (.int (4 : Int32)), (.int (1 : Int32)), (.int d0), (.int d1), (.int e0), (.int e1)] h0 n0 [] (Pur (.int (1 : Int32)) h0) := by
  refine Met.of pn_12 (fun m => ef_rmOK4_4_1 m a1 d0 d1 e0 e1) ?_
  refine Own.iloadN d12_0 rfl ?_
  refine Own.iloadN d12_1 rfl ?_
  refine Own.icmp_lt 7 d12_2 (by decide) rfl (fun q => absurd q (by decide)) (fun _ => ?_)
  refine Own.iconst (1 : Int32) d12_5 rfl ?_
  refine Own.ret_nar (t := .boolean) (by simp) rfl d12_6 (by decide) (by decide) (fun Sf hSf => ?_)
  exact ⟨rfl, rfl⟩
theorem ef_rmEX0_2 (m : MethodId) (d0 : Int32) (d1 : Int32) (e0 : Int32) (e1 : Int32)  : entryFrame m #[Z0, (.int (2 : Int32)), (.int d0), (.int d1), (.int e0), (.int e1)] 7 = mkF m 0 #[.val Z0, .val (.int (2 : Int32)), .val (.int d0), .val (.int d1), .val (.int e0), .val (.int e1), .unset] [] := by simp [entryFrame, mkF, argsToLocals, Value.category]
theorem rmEX0_2 (l : Launch) (Z : State) (a0 : Array Value) (hw : HW a0 Z) (ws : List Jvm.Cond) (d0 : Int32) (d1 : Int32) (e0 : Int32) (e1 : Int32) (h0 : Heap) (n0 : Nat) (hn : n0 ≤ h0.size) :
    Met own_EL l Z (⟨"com/example/hits_by_heading/hitsbyheading/document/DocumentSectionLocationPinLaw", "expected", "(IICCCC)C"⟩ : MethodName) method_5_code 7 (some .char) ({ frames := 0, cells := 0, slots := 0, locals := 0 } : Room) ws #[Z0, (.int (2 : Int32)), (.int d0), (.int d1), (.int e0), (.int e1)] h0 n0 [] (Pur (.int (nar .char d0)) h0) := by
  refine Met.of pn_18 (fun m => ef_rmEX0_2 m d0 d1 e0 e1) ?_
  refine Own.iloadN d18_0 rfl ?_
  refine Own.iloadN d18_1 rfl ?_
  refine Own.icmp_ge 15 d18_2 (by decide) rfl (fun q => absurd (by decide) q) (fun _ => ?_)
  refine Own.iloadN d18_5 rfl ?_
  refine Own.if_ne 13 d18_6 (by decide) rfl (fun q => absurd (by decide) q) (fun _ => ?_)
  refine Own.iloadN d18_9 rfl ?_
  refine Own.goto_ 14 d18_10 (by decide) rfl ?_
  refine Own.ret_nar (t := .char) (by simp) rfl d18_14 (by decide) (by decide) (fun Sf hSf => ?_)
  exact ⟨rfl, rfl⟩
theorem ef_rmOK0_2_2 (m : MethodId) (a1 : Addr) (d0 : Int32) (d1 : Int32) (e0 : Int32) (e1 : Int32)  : entryFrame m #[(.ref a1), Z0, (.int (2 : Int32)), (.int (2 : Int32)), (.int d0), (.int d1), (.int e0), (.int e1)] 8 = mkF m 0 #[.val (.ref a1), .val Z0, .val (.int (2 : Int32)), .val (.int (2 : Int32)), .val (.int d0), .val (.int d1), .val (.int e0), .val (.int e1)] [] := by simp [entryFrame, mkF, argsToLocals, Value.category]
theorem rmOK0_2_2 (l : Launch) (Z : State) (a0 : Array Value) (hw : HW a0 Z) (ws : List Jvm.Cond) (a1 : Addr) (d0 : Int32) (d1 : Int32) (e0 : Int32) (e1 : Int32) (b : Addr) (kb : ClassId) (vs : List Value) (zc : Int32) (vf : Value) (h0 : Heap) (n0 : Nat) (hn : n0 ≤ h0.size) (X_a1 : XSt Z h0 a1) (F_value_a1 : FSv Z h0 a1 (.ref b)) (F_coder_a1 : FSc Z h0 a1 Z0) (V_b : Arl Z h0 b kb .byte vs) (hl : vs.length = 2) (hx : vs[0]? = some (.int (nar .byte ((nar .char d0).toInt8.toInt32)))) (S_C : Sta Z h0 "java/lang/String" "COMPACT_STRINGS" "Z" (.int zc)) (S_F : Sta Z h0 "jdk/internal/util/Preconditions" "SIOOBE_FORMATTER" "Ljava/util/function/BiFunction;" vf) (hz : ¬ zc = 0) (hvf : vf.isRef = true) (hlat : ¬ (255 : Int32) < (nar .char d0)) :
    Met own_EL l Z (⟨"com/example/hits_by_heading/hitsbyheading/document/DocumentSectionLocationPinLaw", "ok", "(Ljava/lang/String;IIICCCC)Z"⟩ : MethodName) method_4_code 8 (some .boolean) ({ frames := 4, cells := 0, slots := 0, locals := 53 } : Room) ws #[(.ref a1), Z0, (.int (2 : Int32)), (.int (2 : Int32)), (.int d0), (.int d1), (.int e0), (.int e1)] h0 n0 [] (Pur (.int (1 : Int32)) h0) := by
  refine Met.of pn_12 (fun m => ef_rmOK0_2_2 m a1 d0 d1 e0 e1) ?_
  refine Own.iloadN d12_0 rfl ?_
  refine Own.iloadN d12_1 rfl ?_
  refine Own.icmp_lt 7 d12_2 (by decide) rfl (fun _ => ?_) (fun q => absurd (by decide) q)
  refine Own.aloadN d12_7 rfl rfl ?_
  refine Own.iloadN d12_8 rfl ?_
  refine Own.callVP a1 [Z0] [] 0 (rmCA0_2 l Z a0 hw [] a1 b kb vs (nar .char d0) zc vf h0 n0 hn X_a1 F_value_a1 F_coder_a1 V_b hl hx S_C S_F hz hvf (own_rng _) hlat) (hw _ (mg 60 rfl)) (hw _ (mg 61 rfl)) (fun s hZ => notFace_of_selects (args := #[]) (mvT hZ (hw _ (mg 63 rfl)))) (hw _ (mg 63 rfl)) (hw _ (mg 62 rfl)) (hw _ (mg 7 rfl)) (hw _ (mg 64 rfl)) (by decide) X_a1 d12_9 pd_6 rfl rfl rfl rfl (by decide) (by decide) (by decide) (by decide) ?_
  refine Own.iloadN d12_12 rfl ?_
  refine Own.iloadN d12_13 rfl ?_
  refine Own.iload d12_14 rfl ?_
  refine Own.iload d12_16 rfl ?_
  refine Own.iload d12_18 rfl ?_
  refine Own.iload d12_20 rfl ?_
  refine Own.callSP [Z0, (.int (2 : Int32)), (.int d0), (.int d1), (.int e0), (.int e1)] [(.int (nar .char d0))] 1 (rmEX0_2 l Z a0 hw [] d0 d1 e0 e1 h0 n0 hn) (hw _ (mg 82 rfl)) (hw _ (mg 83 rfl)) (hw _ (mg 3 rfl)) (hw _ (mg 84 rfl)) (by decide) d12_22 pd_11 rfl rfl rfl rfl (by decide) (by decide) (by decide) (by decide) ?_
  refine Own.icmp_ne 32 d12_25 (by decide) rfl (fun q => absurd rfl q) (fun _ => ?_)
  refine Own.iconst (1 : Int32) d12_28 rfl ?_
  refine Own.goto_ 33 d12_29 (by decide) rfl ?_
  refine Own.ret_nar (t := .boolean) (by simp) rfl d12_33 (by decide) (by decide) (fun Sf hSf => ?_)
  exact ⟨rfl, rfl⟩
theorem d18_13 : decode method_5_code 13 = .ok (.iload_n 3, 1) := by decide +kernel
theorem ef_rmEX1_2 (m : MethodId) (d0 : Int32) (d1 : Int32) (e0 : Int32) (e1 : Int32)  : entryFrame m #[(.int (1 : Int32)), (.int (2 : Int32)), (.int d0), (.int d1), (.int e0), (.int e1)] 7 = mkF m 0 #[.val (.int (1 : Int32)), .val (.int (2 : Int32)), .val (.int d0), .val (.int d1), .val (.int e0), .val (.int e1), .unset] [] := by simp [entryFrame, mkF, argsToLocals, Value.category]
theorem rmEX1_2 (l : Launch) (Z : State) (a0 : Array Value) (hw : HW a0 Z) (ws : List Jvm.Cond) (d0 : Int32) (d1 : Int32) (e0 : Int32) (e1 : Int32) (h0 : Heap) (n0 : Nat) (hn : n0 ≤ h0.size) :
    Met own_EL l Z (⟨"com/example/hits_by_heading/hitsbyheading/document/DocumentSectionLocationPinLaw", "expected", "(IICCCC)C"⟩ : MethodName) method_5_code 7 (some .char) ({ frames := 0, cells := 0, slots := 0, locals := 0 } : Room) ws #[(.int (1 : Int32)), (.int (2 : Int32)), (.int d0), (.int d1), (.int e0), (.int e1)] h0 n0 [] (Pur (.int (nar .char d1)) h0) := by
  refine Met.of pn_18 (fun m => ef_rmEX1_2 m d0 d1 e0 e1) ?_
  refine Own.iloadN d18_0 rfl ?_
  refine Own.iloadN d18_1 rfl ?_
  refine Own.icmp_ge 15 d18_2 (by decide) rfl (fun q => absurd (by decide) q) (fun _ => ?_)
  refine Own.iloadN d18_5 rfl ?_
  refine Own.if_ne 13 d18_6 (by decide) rfl (fun _ => ?_) (fun q => absurd q (by decide))
  refine Own.iloadN d18_13 rfl ?_
  refine Own.ret_nar (t := .char) (by simp) rfl d18_14 (by decide) (by decide) (fun Sf hSf => ?_)
  exact ⟨rfl, rfl⟩
theorem ef_rmOK1_2_2 (m : MethodId) (a1 : Addr) (d0 : Int32) (d1 : Int32) (e0 : Int32) (e1 : Int32)  : entryFrame m #[(.ref a1), (.int (1 : Int32)), (.int (2 : Int32)), (.int (2 : Int32)), (.int d0), (.int d1), (.int e0), (.int e1)] 8 = mkF m 0 #[.val (.ref a1), .val (.int (1 : Int32)), .val (.int (2 : Int32)), .val (.int (2 : Int32)), .val (.int d0), .val (.int d1), .val (.int e0), .val (.int e1)] [] := by simp [entryFrame, mkF, argsToLocals, Value.category]
theorem rmOK1_2_2 (l : Launch) (Z : State) (a0 : Array Value) (hw : HW a0 Z) (ws : List Jvm.Cond) (a1 : Addr) (d0 : Int32) (d1 : Int32) (e0 : Int32) (e1 : Int32) (b : Addr) (kb : ClassId) (vs : List Value) (zc : Int32) (vf : Value) (h0 : Heap) (n0 : Nat) (hn : n0 ≤ h0.size) (X_a1 : XSt Z h0 a1) (F_value_a1 : FSv Z h0 a1 (.ref b)) (F_coder_a1 : FSc Z h0 a1 Z0) (V_b : Arl Z h0 b kb .byte vs) (hl : vs.length = 2) (hx : vs[1]? = some (.int (nar .byte ((nar .char d1).toInt8.toInt32)))) (S_C : Sta Z h0 "java/lang/String" "COMPACT_STRINGS" "Z" (.int zc)) (S_F : Sta Z h0 "jdk/internal/util/Preconditions" "SIOOBE_FORMATTER" "Ljava/util/function/BiFunction;" vf) (hz : ¬ zc = 0) (hvf : vf.isRef = true) (hlat : ¬ (255 : Int32) < (nar .char d1)) :
    Met own_EL l Z (⟨"com/example/hits_by_heading/hitsbyheading/document/DocumentSectionLocationPinLaw", "ok", "(Ljava/lang/String;IIICCCC)Z"⟩ : MethodName) method_4_code 8 (some .boolean) ({ frames := 4, cells := 0, slots := 0, locals := 53 } : Room) ws #[(.ref a1), (.int (1 : Int32)), (.int (2 : Int32)), (.int (2 : Int32)), (.int d0), (.int d1), (.int e0), (.int e1)] h0 n0 [] (Pur (.int (1 : Int32)) h0) := by
  refine Met.of pn_12 (fun m => ef_rmOK1_2_2 m a1 d0 d1 e0 e1) ?_
  refine Own.iloadN d12_0 rfl ?_
  refine Own.iloadN d12_1 rfl ?_
  refine Own.icmp_lt 7 d12_2 (by decide) rfl (fun _ => ?_) (fun q => absurd (by decide) q)
  refine Own.aloadN d12_7 rfl rfl ?_
  refine Own.iloadN d12_8 rfl ?_
  refine Own.callVP a1 [(.int (1 : Int32))] [] 0 (rmCA1_2 l Z a0 hw [] a1 b kb vs (nar .char d1) zc vf h0 n0 hn X_a1 F_value_a1 F_coder_a1 V_b hl hx S_C S_F hz hvf (own_rng _) hlat) (hw _ (mg 60 rfl)) (hw _ (mg 61 rfl)) (fun s hZ => notFace_of_selects (args := #[]) (mvT hZ (hw _ (mg 63 rfl)))) (hw _ (mg 63 rfl)) (hw _ (mg 62 rfl)) (hw _ (mg 7 rfl)) (hw _ (mg 64 rfl)) (by decide) X_a1 d12_9 pd_6 rfl rfl rfl rfl (by decide) (by decide) (by decide) (by decide) ?_
  refine Own.iloadN d12_12 rfl ?_
  refine Own.iloadN d12_13 rfl ?_
  refine Own.iload d12_14 rfl ?_
  refine Own.iload d12_16 rfl ?_
  refine Own.iload d12_18 rfl ?_
  refine Own.iload d12_20 rfl ?_
  refine Own.callSP [(.int (1 : Int32)), (.int (2 : Int32)), (.int d0), (.int d1), (.int e0), (.int e1)] [(.int (nar .char d1))] 1 (rmEX1_2 l Z a0 hw [] d0 d1 e0 e1 h0 n0 hn) (hw _ (mg 82 rfl)) (hw _ (mg 83 rfl)) (hw _ (mg 3 rfl)) (hw _ (mg 84 rfl)) (by decide) d12_22 pd_11 rfl rfl rfl rfl (by decide) (by decide) (by decide) (by decide) ?_
  refine Own.icmp_ne 32 d12_25 (by decide) rfl (fun q => absurd rfl q) (fun _ => ?_)
  refine Own.iconst (1 : Int32) d12_28 rfl ?_
  refine Own.goto_ 33 d12_29 (by decide) rfl ?_
  refine Own.ret_nar (t := .boolean) (by simp) rfl d12_33 (by decide) (by decide) (fun Sf hSf => ?_)
  exact ⟨rfl, rfl⟩
theorem ef_rmOK2_2_2 (m : MethodId) (a1 : Addr) (d0 : Int32) (d1 : Int32) (e0 : Int32) (e1 : Int32)  : entryFrame m #[(.ref a1), (.int (2 : Int32)), (.int (2 : Int32)), (.int (2 : Int32)), (.int d0), (.int d1), (.int e0), (.int e1)] 8 = mkF m 0 #[.val (.ref a1), .val (.int (2 : Int32)), .val (.int (2 : Int32)), .val (.int (2 : Int32)), .val (.int d0), .val (.int d1), .val (.int e0), .val (.int e1)] [] := by simp [entryFrame, mkF, argsToLocals, Value.category]
theorem rmOK2_2_2 (l : Launch) (Z : State) (a0 : Array Value) (hw : HW a0 Z) (ws : List Jvm.Cond) (a1 : Addr) (d0 : Int32) (d1 : Int32) (e0 : Int32) (e1 : Int32) (h0 : Heap) (n0 : Nat) (hn : n0 ≤ h0.size) :
    Met own_EL l Z (⟨"com/example/hits_by_heading/hitsbyheading/document/DocumentSectionLocationPinLaw", "ok", "(Ljava/lang/String;IIICCCC)Z"⟩ : MethodName) method_4_code 8 (some .boolean) ({ frames := 0, cells := 0, slots := 0, locals := 0 } : Room) ws #[(.ref a1), (.int (2 : Int32)), (.int (2 : Int32)), (.int (2 : Int32)), (.int d0), (.int d1), (.int e0), (.int e1)] h0 n0 [] (Pur (.int (1 : Int32)) h0) := by
  refine Met.of pn_12 (fun m => ef_rmOK2_2_2 m a1 d0 d1 e0 e1) ?_
  refine Own.iloadN d12_0 rfl ?_
  refine Own.iloadN d12_1 rfl ?_
  refine Own.icmp_lt 7 d12_2 (by decide) rfl (fun q => absurd q (by decide)) (fun _ => ?_)
  refine Own.iconst (1 : Int32) d12_5 rfl ?_
  refine Own.ret_nar (t := .boolean) (by simp) rfl d12_6 (by decide) (by decide) (fun Sf hSf => ?_)
  exact ⟨rfl, rfl⟩
theorem ef_rmOK3_2_2 (m : MethodId) (a1 : Addr) (d0 : Int32) (d1 : Int32) (e0 : Int32) (e1 : Int32)  : entryFrame m #[(.ref a1), (.int (3 : Int32)), (.int (2 : Int32)), (.int (2 : Int32)), (.int d0), (.int d1), (.int e0), (.int e1)] 8 = mkF m 0 #[.val (.ref a1), .val (.int (3 : Int32)), .val (.int (2 : Int32)), .val (.int (2 : Int32)), .val (.int d0), .val (.int d1), .val (.int e0), .val (.int e1)] [] := by simp [entryFrame, mkF, argsToLocals, Value.category]
theorem rmOK3_2_2 (l : Launch) (Z : State) (a0 : Array Value) (hw : HW a0 Z) (ws : List Jvm.Cond) (a1 : Addr) (d0 : Int32) (d1 : Int32) (e0 : Int32) (e1 : Int32) (h0 : Heap) (n0 : Nat) (hn : n0 ≤ h0.size) :
    Met own_EL l Z (⟨"com/example/hits_by_heading/hitsbyheading/document/DocumentSectionLocationPinLaw", "ok", "(Ljava/lang/String;IIICCCC)Z"⟩ : MethodName) method_4_code 8 (some .boolean) ({ frames := 0, cells := 0, slots := 0, locals := 0 } : Room) ws #[(.ref a1), (.int (3 : Int32)), (.int (2 : Int32)), (.int (2 : Int32)), (.int d0), (.int d1), (.int e0), (.int e1)] h0 n0 [] (Pur (.int (1 : Int32)) h0) := by
  refine Met.of pn_12 (fun m => ef_rmOK3_2_2 m a1 d0 d1 e0 e1) ?_
  refine Own.iloadN d12_0 rfl ?_
  refine Own.iloadN d12_1 rfl ?_
  refine Own.icmp_lt 7 d12_2 (by decide) rfl (fun q => absurd q (by decide)) (fun _ => ?_)
  refine Own.iconst (1 : Int32) d12_5 rfl ?_
  refine Own.ret_nar (t := .boolean) (by simp) rfl d12_6 (by decide) (by decide) (fun Sf hSf => ?_)
  exact ⟨rfl, rfl⟩
theorem ef_rmOK4_2_2 (m : MethodId) (a1 : Addr) (d0 : Int32) (d1 : Int32) (e0 : Int32) (e1 : Int32)  : entryFrame m #[(.ref a1), (.int (4 : Int32)), (.int (2 : Int32)), (.int (2 : Int32)), (.int d0), (.int d1), (.int e0), (.int e1)] 8 = mkF m 0 #[.val (.ref a1), .val (.int (4 : Int32)), .val (.int (2 : Int32)), .val (.int (2 : Int32)), .val (.int d0), .val (.int d1), .val (.int e0), .val (.int e1)] [] := by simp [entryFrame, mkF, argsToLocals, Value.category]
theorem rmOK4_2_2 (l : Launch) (Z : State) (a0 : Array Value) (hw : HW a0 Z) (ws : List Jvm.Cond) (a1 : Addr) (d0 : Int32) (d1 : Int32) (e0 : Int32) (e1 : Int32) (h0 : Heap) (n0 : Nat) (hn : n0 ≤ h0.size) :
    Met own_EL l Z (⟨"com/example/hits_by_heading/hitsbyheading/document/DocumentSectionLocationPinLaw", "ok", "(Ljava/lang/String;IIICCCC)Z"⟩ : MethodName) method_4_code 8 (some .boolean) ({ frames := 0, cells := 0, slots := 0, locals := 0 } : Room) ws #[(.ref a1), (.int (4 : Int32)), (.int (2 : Int32)), (.int (2 : Int32)), (.int d0), (.int d1), (.int e0), (.int e1)] h0 n0 [] (Pur (.int (1 : Int32)) h0) := by
  refine Met.of pn_12 (fun m => ef_rmOK4_2_2 m a1 d0 d1 e0 e1) ?_
  refine Own.iloadN d12_0 rfl ?_
  refine Own.iloadN d12_1 rfl ?_
  refine Own.icmp_lt 7 d12_2 (by decide) rfl (fun q => absurd q (by decide)) (fun _ => ?_)
  refine Own.iconst (1 : Int32) d12_5 rfl ?_
  refine Own.ret_nar (t := .boolean) (by simp) rfl d12_6 (by decide) (by decide) (fun Sf hSf => ?_)
  exact ⟨rfl, rfl⟩
theorem ef_rmOK0_4_2 (m : MethodId) (a1 : Addr) (d0 : Int32) (d1 : Int32) (e0 : Int32) (e1 : Int32)  : entryFrame m #[(.ref a1), Z0, (.int (4 : Int32)), (.int (2 : Int32)), (.int d0), (.int d1), (.int e0), (.int e1)] 8 = mkF m 0 #[.val (.ref a1), .val Z0, .val (.int (4 : Int32)), .val (.int (2 : Int32)), .val (.int d0), .val (.int d1), .val (.int e0), .val (.int e1)] [] := by simp [entryFrame, mkF, argsToLocals, Value.category]
theorem rmOK0_4_2 (l : Launch) (Z : State) (a0 : Array Value) (hw : HW a0 Z) (ws : List Jvm.Cond) (a1 : Addr) (d0 : Int32) (d1 : Int32) (e0 : Int32) (e1 : Int32) (b : Addr) (kb : ClassId) (vs : List Value) (zc : Int32) (vf : Value) (h0 : Heap) (n0 : Nat) (hn : n0 ≤ h0.size) (X_a1 : XSt Z h0 a1) (F_value_a1 : FSv Z h0 a1 (.ref b)) (F_coder_a1 : FSc Z h0 a1 Z0) (V_b : Arl Z h0 b kb .byte vs) (hl : vs.length = 4) (hx : vs[0]? = some (.int (nar .byte ((nar .char d0).toInt8.toInt32)))) (S_C : Sta Z h0 "java/lang/String" "COMPACT_STRINGS" "Z" (.int zc)) (S_F : Sta Z h0 "jdk/internal/util/Preconditions" "SIOOBE_FORMATTER" "Ljava/util/function/BiFunction;" vf) (hz : ¬ zc = 0) (hvf : vf.isRef = true) (hlat : ¬ (255 : Int32) < (nar .char d0)) :
    Met own_EL l Z (⟨"com/example/hits_by_heading/hitsbyheading/document/DocumentSectionLocationPinLaw", "ok", "(Ljava/lang/String;IIICCCC)Z"⟩ : MethodName) method_4_code 8 (some .boolean) ({ frames := 4, cells := 0, slots := 0, locals := 53 } : Room) ws #[(.ref a1), Z0, (.int (4 : Int32)), (.int (2 : Int32)), (.int d0), (.int d1), (.int e0), (.int e1)] h0 n0 [] (Pur (.int (1 : Int32)) h0) := by
  refine Met.of pn_12 (fun m => ef_rmOK0_4_2 m a1 d0 d1 e0 e1) ?_
  refine Own.iloadN d12_0 rfl ?_
  refine Own.iloadN d12_1 rfl ?_
  refine Own.icmp_lt 7 d12_2 (by decide) rfl (fun _ => ?_) (fun q => absurd (by decide) q)
  refine Own.aloadN d12_7 rfl rfl ?_
  refine Own.iloadN d12_8 rfl ?_
  refine Own.callVP a1 [Z0] [] 0 (rmCA0_4 l Z a0 hw [] a1 b kb vs (nar .char d0) zc vf h0 n0 hn X_a1 F_value_a1 F_coder_a1 V_b hl hx S_C S_F hz hvf (own_rng _) hlat) (hw _ (mg 60 rfl)) (hw _ (mg 61 rfl)) (fun s hZ => notFace_of_selects (args := #[]) (mvT hZ (hw _ (mg 63 rfl)))) (hw _ (mg 63 rfl)) (hw _ (mg 62 rfl)) (hw _ (mg 7 rfl)) (hw _ (mg 64 rfl)) (by decide) X_a1 d12_9 pd_6 rfl rfl rfl rfl (by decide) (by decide) (by decide) (by decide) ?_
  refine Own.iloadN d12_12 rfl ?_
  refine Own.iloadN d12_13 rfl ?_
  refine Own.iload d12_14 rfl ?_
  refine Own.iload d12_16 rfl ?_
  refine Own.iload d12_18 rfl ?_
  refine Own.iload d12_20 rfl ?_
  refine Own.callSP [Z0, (.int (2 : Int32)), (.int d0), (.int d1), (.int e0), (.int e1)] [(.int (nar .char d0))] 1 (rmEX0_2 l Z a0 hw [] d0 d1 e0 e1 h0 n0 hn) (hw _ (mg 82 rfl)) (hw _ (mg 83 rfl)) (hw _ (mg 3 rfl)) (hw _ (mg 84 rfl)) (by decide) d12_22 pd_11 rfl rfl rfl rfl (by decide) (by decide) (by decide) (by decide) ?_
  refine Own.icmp_ne 32 d12_25 (by decide) rfl (fun q => absurd rfl q) (fun _ => ?_)
  refine Own.iconst (1 : Int32) d12_28 rfl ?_
  refine Own.goto_ 33 d12_29 (by decide) rfl ?_
  refine Own.ret_nar (t := .boolean) (by simp) rfl d12_33 (by decide) (by decide) (fun Sf hSf => ?_)
  exact ⟨rfl, rfl⟩
theorem ef_rmOK1_4_2 (m : MethodId) (a1 : Addr) (d0 : Int32) (d1 : Int32) (e0 : Int32) (e1 : Int32)  : entryFrame m #[(.ref a1), (.int (1 : Int32)), (.int (4 : Int32)), (.int (2 : Int32)), (.int d0), (.int d1), (.int e0), (.int e1)] 8 = mkF m 0 #[.val (.ref a1), .val (.int (1 : Int32)), .val (.int (4 : Int32)), .val (.int (2 : Int32)), .val (.int d0), .val (.int d1), .val (.int e0), .val (.int e1)] [] := by simp [entryFrame, mkF, argsToLocals, Value.category]
theorem rmOK1_4_2 (l : Launch) (Z : State) (a0 : Array Value) (hw : HW a0 Z) (ws : List Jvm.Cond) (a1 : Addr) (d0 : Int32) (d1 : Int32) (e0 : Int32) (e1 : Int32) (b : Addr) (kb : ClassId) (vs : List Value) (zc : Int32) (vf : Value) (h0 : Heap) (n0 : Nat) (hn : n0 ≤ h0.size) (X_a1 : XSt Z h0 a1) (F_value_a1 : FSv Z h0 a1 (.ref b)) (F_coder_a1 : FSc Z h0 a1 Z0) (V_b : Arl Z h0 b kb .byte vs) (hl : vs.length = 4) (hx : vs[1]? = some (.int (nar .byte ((nar .char d1).toInt8.toInt32)))) (S_C : Sta Z h0 "java/lang/String" "COMPACT_STRINGS" "Z" (.int zc)) (S_F : Sta Z h0 "jdk/internal/util/Preconditions" "SIOOBE_FORMATTER" "Ljava/util/function/BiFunction;" vf) (hz : ¬ zc = 0) (hvf : vf.isRef = true) (hlat : ¬ (255 : Int32) < (nar .char d1)) :
    Met own_EL l Z (⟨"com/example/hits_by_heading/hitsbyheading/document/DocumentSectionLocationPinLaw", "ok", "(Ljava/lang/String;IIICCCC)Z"⟩ : MethodName) method_4_code 8 (some .boolean) ({ frames := 4, cells := 0, slots := 0, locals := 53 } : Room) ws #[(.ref a1), (.int (1 : Int32)), (.int (4 : Int32)), (.int (2 : Int32)), (.int d0), (.int d1), (.int e0), (.int e1)] h0 n0 [] (Pur (.int (1 : Int32)) h0) := by
  refine Met.of pn_12 (fun m => ef_rmOK1_4_2 m a1 d0 d1 e0 e1) ?_
  refine Own.iloadN d12_0 rfl ?_
  refine Own.iloadN d12_1 rfl ?_
  refine Own.icmp_lt 7 d12_2 (by decide) rfl (fun _ => ?_) (fun q => absurd (by decide) q)
  refine Own.aloadN d12_7 rfl rfl ?_
  refine Own.iloadN d12_8 rfl ?_
  refine Own.callVP a1 [(.int (1 : Int32))] [] 0 (rmCA1_4 l Z a0 hw [] a1 b kb vs (nar .char d1) zc vf h0 n0 hn X_a1 F_value_a1 F_coder_a1 V_b hl hx S_C S_F hz hvf (own_rng _) hlat) (hw _ (mg 60 rfl)) (hw _ (mg 61 rfl)) (fun s hZ => notFace_of_selects (args := #[]) (mvT hZ (hw _ (mg 63 rfl)))) (hw _ (mg 63 rfl)) (hw _ (mg 62 rfl)) (hw _ (mg 7 rfl)) (hw _ (mg 64 rfl)) (by decide) X_a1 d12_9 pd_6 rfl rfl rfl rfl (by decide) (by decide) (by decide) (by decide) ?_
  refine Own.iloadN d12_12 rfl ?_
  refine Own.iloadN d12_13 rfl ?_
  refine Own.iload d12_14 rfl ?_
  refine Own.iload d12_16 rfl ?_
  refine Own.iload d12_18 rfl ?_
  refine Own.iload d12_20 rfl ?_
  refine Own.callSP [(.int (1 : Int32)), (.int (2 : Int32)), (.int d0), (.int d1), (.int e0), (.int e1)] [(.int (nar .char d1))] 1 (rmEX1_2 l Z a0 hw [] d0 d1 e0 e1 h0 n0 hn) (hw _ (mg 82 rfl)) (hw _ (mg 83 rfl)) (hw _ (mg 3 rfl)) (hw _ (mg 84 rfl)) (by decide) d12_22 pd_11 rfl rfl rfl rfl (by decide) (by decide) (by decide) (by decide) ?_
  refine Own.icmp_ne 32 d12_25 (by decide) rfl (fun q => absurd rfl q) (fun _ => ?_)
  refine Own.iconst (1 : Int32) d12_28 rfl ?_
  refine Own.goto_ 33 d12_29 (by decide) rfl ?_
  refine Own.ret_nar (t := .boolean) (by simp) rfl d12_33 (by decide) (by decide) (fun Sf hSf => ?_)
  exact ⟨rfl, rfl⟩
theorem ef_rmEX2_2 (m : MethodId) (d0 : Int32) (d1 : Int32) (e0 : Int32) (e1 : Int32)  : entryFrame m #[(.int (2 : Int32)), (.int (2 : Int32)), (.int d0), (.int d1), (.int e0), (.int e1)] 7 = mkF m 0 #[.val (.int (2 : Int32)), .val (.int (2 : Int32)), .val (.int d0), .val (.int d1), .val (.int e0), .val (.int e1), .unset] [] := by simp [entryFrame, mkF, argsToLocals, Value.category]
theorem rmEX2_2 (l : Launch) (Z : State) (a0 : Array Value) (hw : HW a0 Z) (ws : List Jvm.Cond) (d0 : Int32) (d1 : Int32) (e0 : Int32) (e1 : Int32) (h0 : Heap) (n0 : Nat) (hn : n0 ≤ h0.size) :
    Met own_EL l Z (⟨"com/example/hits_by_heading/hitsbyheading/document/DocumentSectionLocationPinLaw", "expected", "(IICCCC)C"⟩ : MethodName) method_5_code 7 (some .char) ({ frames := 0, cells := 0, slots := 0, locals := 0 } : Room) ws #[(.int (2 : Int32)), (.int (2 : Int32)), (.int d0), (.int d1), (.int e0), (.int e1)] h0 n0 [] (Pur (.int (nar .char (35 : Int32))) h0) := by
  refine Met.of pn_18 (fun m => ef_rmEX2_2 m d0 d1 e0 e1) ?_
  refine Own.iloadN d18_0 rfl ?_
  refine Own.iloadN d18_1 rfl ?_
  refine Own.icmp_ge 15 d18_2 (by decide) rfl (fun _ => ?_) (fun q => absurd q (by decide))
  refine Own.iloadN d18_15 rfl ?_
  refine Own.iloadN d18_16 rfl ?_
  refine Own.icmp_ne 23 d18_17 (by decide) rfl (fun q => absurd (by decide) q) (fun _ => ?_)
  refine Own.bipush (35 : Int32) d18_20 rfl ?_
  refine Own.ret_nar (t := .char) (by simp) rfl d18_22 (by decide) (by decide) (fun Sf hSf => ?_)
  exact ⟨rfl, rfl⟩
theorem ef_rmOK2_4_2 (m : MethodId) (a1 : Addr) (d0 : Int32) (d1 : Int32) (e0 : Int32) (e1 : Int32)  : entryFrame m #[(.ref a1), (.int (2 : Int32)), (.int (4 : Int32)), (.int (2 : Int32)), (.int d0), (.int d1), (.int e0), (.int e1)] 8 = mkF m 0 #[.val (.ref a1), .val (.int (2 : Int32)), .val (.int (4 : Int32)), .val (.int (2 : Int32)), .val (.int d0), .val (.int d1), .val (.int e0), .val (.int e1)] [] := by simp [entryFrame, mkF, argsToLocals, Value.category]
theorem rmOK2_4_2 (l : Launch) (Z : State) (a0 : Array Value) (hw : HW a0 Z) (ws : List Jvm.Cond) (a1 : Addr) (d0 : Int32) (d1 : Int32) (e0 : Int32) (e1 : Int32) (b : Addr) (kb : ClassId) (vs : List Value) (zc : Int32) (vf : Value) (h0 : Heap) (n0 : Nat) (hn : n0 ≤ h0.size) (X_a1 : XSt Z h0 a1) (F_value_a1 : FSv Z h0 a1 (.ref b)) (F_coder_a1 : FSc Z h0 a1 Z0) (V_b : Arl Z h0 b kb .byte vs) (hl : vs.length = 4) (hx : vs[2]? = some (.int (nar .byte ((35 : Int32).toInt8.toInt32)))) (S_C : Sta Z h0 "java/lang/String" "COMPACT_STRINGS" "Z" (.int zc)) (S_F : Sta Z h0 "jdk/internal/util/Preconditions" "SIOOBE_FORMATTER" "Ljava/util/function/BiFunction;" vf) (hz : ¬ zc = 0) (hvf : vf.isRef = true) :
    Met own_EL l Z (⟨"com/example/hits_by_heading/hitsbyheading/document/DocumentSectionLocationPinLaw", "ok", "(Ljava/lang/String;IIICCCC)Z"⟩ : MethodName) method_4_code 8 (some .boolean) ({ frames := 4, cells := 0, slots := 0, locals := 53 } : Room) ws #[(.ref a1), (.int (2 : Int32)), (.int (4 : Int32)), (.int (2 : Int32)), (.int d0), (.int d1), (.int e0), (.int e1)] h0 n0 [] (Pur (.int (1 : Int32)) h0) := by
  refine Met.of pn_12 (fun m => ef_rmOK2_4_2 m a1 d0 d1 e0 e1) ?_
  refine Own.iloadN d12_0 rfl ?_
  refine Own.iloadN d12_1 rfl ?_
  refine Own.icmp_lt 7 d12_2 (by decide) rfl (fun _ => ?_) (fun q => absurd (by decide) q)
  refine Own.aloadN d12_7 rfl rfl ?_
  refine Own.iloadN d12_8 rfl ?_
  refine Own.callVP a1 [(.int (2 : Int32))] [] 0 (rmCA2_4 l Z a0 hw [] a1 b kb vs (35 : Int32) zc vf h0 n0 hn X_a1 F_value_a1 F_coder_a1 V_b hl hx S_C S_F hz hvf own_r35 own_l35) (hw _ (mg 60 rfl)) (hw _ (mg 61 rfl)) (fun s hZ => notFace_of_selects (args := #[]) (mvT hZ (hw _ (mg 63 rfl)))) (hw _ (mg 63 rfl)) (hw _ (mg 62 rfl)) (hw _ (mg 7 rfl)) (hw _ (mg 64 rfl)) (by decide) X_a1 d12_9 pd_6 rfl rfl rfl rfl (by decide) (by decide) (by decide) (by decide) ?_
  refine Own.iloadN d12_12 rfl ?_
  refine Own.iloadN d12_13 rfl ?_
  refine Own.iload d12_14 rfl ?_
  refine Own.iload d12_16 rfl ?_
  refine Own.iload d12_18 rfl ?_
  refine Own.iload d12_20 rfl ?_
  refine Own.callSP [(.int (2 : Int32)), (.int (2 : Int32)), (.int d0), (.int d1), (.int e0), (.int e1)] [(.int (35 : Int32))] 1 (rmEX2_2 l Z a0 hw [] d0 d1 e0 e1 h0 n0 hn) (hw _ (mg 82 rfl)) (hw _ (mg 83 rfl)) (hw _ (mg 3 rfl)) (hw _ (mg 84 rfl)) (by decide) d12_22 pd_11 rfl rfl rfl rfl (by decide) (by decide) (by decide) (by decide) ?_
  refine Own.icmp_ne 32 d12_25 (by decide) rfl (fun q => absurd own_c35 q) (fun _ => ?_)
  refine Own.iconst (1 : Int32) d12_28 rfl ?_
  refine Own.goto_ 33 d12_29 (by decide) rfl ?_
  refine Own.ret_nar (t := .boolean) (by simp) rfl d12_33 (by decide) (by decide) (fun Sf hSf => ?_)
  exact ⟨rfl, rfl⟩
theorem ef_rmEX3_2 (m : MethodId) (d0 : Int32) (d1 : Int32) (e0 : Int32) (e1 : Int32)  : entryFrame m #[(.int (3 : Int32)), (.int (2 : Int32)), (.int d0), (.int d1), (.int e0), (.int e1)] 7 = mkF m 0 #[.val (.int (3 : Int32)), .val (.int (2 : Int32)), .val (.int d0), .val (.int d1), .val (.int e0), .val (.int e1), .unset] [] := by simp [entryFrame, mkF, argsToLocals, Value.category]
theorem rmEX3_2 (l : Launch) (Z : State) (a0 : Array Value) (hw : HW a0 Z) (ws : List Jvm.Cond) (d0 : Int32) (d1 : Int32) (e0 : Int32) (e1 : Int32) (h0 : Heap) (n0 : Nat) (hn : n0 ≤ h0.size) :
    Met own_EL l Z (⟨"com/example/hits_by_heading/hitsbyheading/document/DocumentSectionLocationPinLaw", "expected", "(IICCCC)C"⟩ : MethodName) method_5_code 7 (some .char) ({ frames := 0, cells := 0, slots := 0, locals := 0 } : Room) ws #[(.int (3 : Int32)), (.int (2 : Int32)), (.int d0), (.int d1), (.int e0), (.int e1)] h0 n0 [] (Pur (.int (nar .char e0)) h0) := by
  refine Met.of pn_18 (fun m => ef_rmEX3_2 m d0 d1 e0 e1) ?_
  refine Own.iloadN d18_0 rfl ?_
  refine Own.iloadN d18_1 rfl ?_
  refine Own.icmp_ge 15 d18_2 (by decide) rfl (fun _ => ?_) (fun q => absurd q (by decide))
  refine Own.iloadN d18_15 rfl ?_
  refine Own.iloadN d18_16 rfl ?_
  refine Own.icmp_ne 23 d18_17 (by decide) rfl (fun _ => ?_) (fun q => absurd q (by decide))
  refine Own.iloadN d18_23 rfl ?_
  refine Own.iloadN d18_24 rfl ?_
  refine Own.isub d18_25 ?_
  refine OAt.cast (st' := [(.int (1 : Int32))]) rfl ?_
  refine Own.iconst (1 : Int32) d18_26 rfl ?_
  refine Own.isub d18_27 ?_
  refine OAt.cast (st' := [Z0]) rfl ?_
  refine Own.istore #[.val (.int (3 : Int32)), .val (.int (2 : Int32)), .val (.int d0), .val (.int d1), .val (.int e0), .val (.int e1), .val Z0] d18_28 rfl ?_
  refine Own.iload d18_30 rfl ?_
  refine Own.if_ne 40 d18_32 (by decide) rfl (fun q => absurd (by decide) q) (fun _ => ?_)
  refine Own.iload d18_35 rfl ?_
  refine Own.goto_ 42 d18_37 (by decide) rfl ?_
  refine Own.ret_nar (t := .char) (by simp) rfl d18_42 (by decide) (by decide) (fun Sf hSf => ?_)
  exact ⟨rfl, rfl⟩
theorem ef_rmOK3_4_2 (m : MethodId) (a1 : Addr) (d0 : Int32) (d1 : Int32) (e0 : Int32) (e1 : Int32)  : entryFrame m #[(.ref a1), (.int (3 : Int32)), (.int (4 : Int32)), (.int (2 : Int32)), (.int d0), (.int d1), (.int e0), (.int e1)] 8 = mkF m 0 #[.val (.ref a1), .val (.int (3 : Int32)), .val (.int (4 : Int32)), .val (.int (2 : Int32)), .val (.int d0), .val (.int d1), .val (.int e0), .val (.int e1)] [] := by simp [entryFrame, mkF, argsToLocals, Value.category]
theorem rmOK3_4_2 (l : Launch) (Z : State) (a0 : Array Value) (hw : HW a0 Z) (ws : List Jvm.Cond) (a1 : Addr) (d0 : Int32) (d1 : Int32) (e0 : Int32) (e1 : Int32) (b : Addr) (kb : ClassId) (vs : List Value) (zc : Int32) (vf : Value) (h0 : Heap) (n0 : Nat) (hn : n0 ≤ h0.size) (X_a1 : XSt Z h0 a1) (F_value_a1 : FSv Z h0 a1 (.ref b)) (F_coder_a1 : FSc Z h0 a1 Z0) (V_b : Arl Z h0 b kb .byte vs) (hl : vs.length = 4) (hx : vs[3]? = some (.int (nar .byte ((nar .char e0).toInt8.toInt32)))) (S_C : Sta Z h0 "java/lang/String" "COMPACT_STRINGS" "Z" (.int zc)) (S_F : Sta Z h0 "jdk/internal/util/Preconditions" "SIOOBE_FORMATTER" "Ljava/util/function/BiFunction;" vf) (hz : ¬ zc = 0) (hvf : vf.isRef = true) (hlat : ¬ (255 : Int32) < (nar .char e0)) :
    Met own_EL l Z (⟨"com/example/hits_by_heading/hitsbyheading/document/DocumentSectionLocationPinLaw", "ok", "(Ljava/lang/String;IIICCCC)Z"⟩ : MethodName) method_4_code 8 (some .boolean) ({ frames := 4, cells := 0, slots := 0, locals := 53 } : Room) ws #[(.ref a1), (.int (3 : Int32)), (.int (4 : Int32)), (.int (2 : Int32)), (.int d0), (.int d1), (.int e0), (.int e1)] h0 n0 [] (Pur (.int (1 : Int32)) h0) := by
  refine Met.of pn_12 (fun m => ef_rmOK3_4_2 m a1 d0 d1 e0 e1) ?_
  refine Own.iloadN d12_0 rfl ?_
  refine Own.iloadN d12_1 rfl ?_
  refine Own.icmp_lt 7 d12_2 (by decide) rfl (fun _ => ?_) (fun q => absurd (by decide) q)
  refine Own.aloadN d12_7 rfl rfl ?_
  refine Own.iloadN d12_8 rfl ?_
  refine Own.callVP a1 [(.int (3 : Int32))] [] 0 (rmCA3_4 l Z a0 hw [] a1 b kb vs (nar .char e0) zc vf h0 n0 hn X_a1 F_value_a1 F_coder_a1 V_b hl hx S_C S_F hz hvf (own_rng _) hlat) (hw _ (mg 60 rfl)) (hw _ (mg 61 rfl)) (fun s hZ => notFace_of_selects (args := #[]) (mvT hZ (hw _ (mg 63 rfl)))) (hw _ (mg 63 rfl)) (hw _ (mg 62 rfl)) (hw _ (mg 7 rfl)) (hw _ (mg 64 rfl)) (by decide) X_a1 d12_9 pd_6 rfl rfl rfl rfl (by decide) (by decide) (by decide) (by decide) ?_
  refine Own.iloadN d12_12 rfl ?_
  refine Own.iloadN d12_13 rfl ?_
  refine Own.iload d12_14 rfl ?_
  refine Own.iload d12_16 rfl ?_
  refine Own.iload d12_18 rfl ?_
  refine Own.iload d12_20 rfl ?_
  refine Own.callSP [(.int (3 : Int32)), (.int (2 : Int32)), (.int d0), (.int d1), (.int e0), (.int e1)] [(.int (nar .char e0))] 1 (rmEX3_2 l Z a0 hw [] d0 d1 e0 e1 h0 n0 hn) (hw _ (mg 82 rfl)) (hw _ (mg 83 rfl)) (hw _ (mg 3 rfl)) (hw _ (mg 84 rfl)) (by decide) d12_22 pd_11 rfl rfl rfl rfl (by decide) (by decide) (by decide) (by decide) ?_
  refine Own.icmp_ne 32 d12_25 (by decide) rfl (fun q => absurd rfl q) (fun _ => ?_)
  refine Own.iconst (1 : Int32) d12_28 rfl ?_
  refine Own.goto_ 33 d12_29 (by decide) rfl ?_
  refine Own.ret_nar (t := .boolean) (by simp) rfl d12_33 (by decide) (by decide) (fun Sf hSf => ?_)
  exact ⟨rfl, rfl⟩
theorem ef_rmOK4_4_2 (m : MethodId) (a1 : Addr) (d0 : Int32) (d1 : Int32) (e0 : Int32) (e1 : Int32)  : entryFrame m #[(.ref a1), (.int (4 : Int32)), (.int (4 : Int32)), (.int (2 : Int32)), (.int d0), (.int d1), (.int e0), (.int e1)] 8 = mkF m 0 #[.val (.ref a1), .val (.int (4 : Int32)), .val (.int (4 : Int32)), .val (.int (2 : Int32)), .val (.int d0), .val (.int d1), .val (.int e0), .val (.int e1)] [] := by simp [entryFrame, mkF, argsToLocals, Value.category]
theorem rmOK4_4_2 (l : Launch) (Z : State) (a0 : Array Value) (hw : HW a0 Z) (ws : List Jvm.Cond) (a1 : Addr) (d0 : Int32) (d1 : Int32) (e0 : Int32) (e1 : Int32) (h0 : Heap) (n0 : Nat) (hn : n0 ≤ h0.size) :
    Met own_EL l Z (⟨"com/example/hits_by_heading/hitsbyheading/document/DocumentSectionLocationPinLaw", "ok", "(Ljava/lang/String;IIICCCC)Z"⟩ : MethodName) method_4_code 8 (some .boolean) ({ frames := 0, cells := 0, slots := 0, locals := 0 } : Room) ws #[(.ref a1), (.int (4 : Int32)), (.int (4 : Int32)), (.int (2 : Int32)), (.int d0), (.int d1), (.int e0), (.int e1)] h0 n0 [] (Pur (.int (1 : Int32)) h0) := by
  refine Met.of pn_12 (fun m => ef_rmOK4_4_2 m a1 d0 d1 e0 e1) ?_
  refine Own.iloadN d12_0 rfl ?_
  refine Own.iloadN d12_1 rfl ?_
  refine Own.icmp_lt 7 d12_2 (by decide) rfl (fun q => absurd q (by decide)) (fun _ => ?_)
  refine Own.iconst (1 : Int32) d12_5 rfl ?_
  refine Own.ret_nar (t := .boolean) (by simp) rfl d12_6 (by decide) (by decide) (fun Sf hSf => ?_)
  exact ⟨rfl, rfl⟩
theorem ef_rmPIc_0_5 (m : MethodId) (vf : Value) (hr_2 : (vf).isRef = true) : entryFrame m #[Z0, (.int (5 : Int32)), vf] 3 = mkF m 0 #[.val Z0, .val (.int (5 : Int32)), .val vf] [] := by rcases ref_cases hr_2 with rfl | ⟨z2, rfl⟩ <;> first | (simp [entryFrame, mkF, argsToLocals, Value.category]; done) | rfl
theorem rmPIc_0_5 (l : Launch) (Z : State) (a0 : Array Value) (hw : HW a0 Z) (ws : List Jvm.Cond) (vf : Value) (h0 : Heap) (n0 : Nat) (hn : n0 ≤ h0.size) (hvf : vf.isRef = true) :
    Met own_EL l Z (⟨"jdk/internal/util/Preconditions", "checkIndex", "(IILjava/util/function/BiFunction;)I"⟩ : MethodName) jdk_41_method_11_code 3 (some .int) ({ frames := 0, cells := 0, slots := 0, locals := 0 } : Room) ws #[Z0, (.int (5 : Int32)), vf] h0 n0 [] (Pur Z0 h0) := by
  refine Met.of pn_17 (fun m => ef_rmPIc_0_5 m vf hvf) ?_
  refine Own.iloadN d17_0 rfl ?_
  refine Own.if_lt 9 d17_1 (by decide) rfl (fun q => absurd q (by decide)) (fun _ => ?_)
  refine Own.iloadN d17_4 rfl ?_
  refine Own.iloadN d17_5 rfl ?_
  refine Own.icmp_lt 16 d17_6 (by decide) rfl (fun _ => ?_) (fun q => absurd (by decide) q)
  refine Own.iloadN d17_16 rfl ?_
  refine Own.ret_int rfl d17_17 (by decide) (by decide) (fun Sf hSf => ?_)
  exact ⟨rfl, rfl⟩
theorem ef_rmSIc_0_5 (m : MethodId)   : entryFrame m #[Z0, (.int (5 : Int32))] 2 = mkF m 0 #[.val Z0, .val (.int (5 : Int32))] [] := by simp [entryFrame, mkF, argsToLocals, Value.category]
theorem rmSIc_0_5 (l : Launch) (Z : State) (a0 : Array Value) (hw : HW a0 Z) (ws : List Jvm.Cond) (vf : Value) (h0 : Heap) (n0 : Nat) (hn : n0 ≤ h0.size) (S_F : Sta Z h0 "jdk/internal/util/Preconditions" "SIOOBE_FORMATTER" "Ljava/util/function/BiFunction;" vf) (hvf : vf.isRef = true) :
    Met own_EL l Z (⟨"java/lang/String", "checkIndex", "(II)V"⟩ : MethodName) jdk_42_method_155_code 2 none ({ frames := 1, cells := 0, slots := 0, locals := 14 } : Room) ws #[Z0, (.int (5 : Int32))] h0 n0 [] (Pur0 h0) := by
  refine Met.of pn_16 (fun m => ef_rmSIc_0_5 m ) ?_
  refine Own.iloadN d16_0 rfl ?_
  refine Own.iloadN d16_1 rfl ?_
  refine Own.getS_ (host := "") (Or.inl (hw _ (mg 77 rfl))) Via.refl S_F d16_2 ?_
  refine Own.callSP [Z0, (.int (5 : Int32)), vf] [] 0 (rmPIc_0_5 l Z a0 hw [] vf h0 n0 hn hvf) (hw _ (mg 79 rfl)) (hw _ (mg 80 rfl)) (hw _ (mg 78 rfl)) (hw _ (mg 81 rfl)) (by decide) d16_5 pd_12 rfl rfl rfl rfl (by decide) (by decide) (by decide) (by decide) ?_
  refine Own.pop d16_8 rfl ?_
  refine Own.ret_void rfl d16_9 (by decide) (by decide) (fun Sf hSf => ?_)
  exact ⟨rfl, rfl⟩
theorem ef_rmLC0_5 (m : MethodId) (a1 : Addr)  : entryFrame m #[(.ref a1), Z0] 2 = mkF m 0 #[.val (.ref a1), .val Z0] [] := by simp [entryFrame, mkF, argsToLocals, Value.category]
theorem rmLC0_5 (l : Launch) (Z : State) (a0 : Array Value) (hw : HW a0 Z) (ws : List Jvm.Cond) (a1 : Addr) (ka : ClassId) (vs : List Value) (x : Int32) (vf : Value) (h0 : Heap) (n0 : Nat) (hn : n0 ≤ h0.size) (V_a1 : Arl Z h0 a1 ka .byte vs) (hl : vs.length = 5) (hx : vs[0]? = some (.int x)) (S_F : Sta Z h0 "jdk/internal/util/Preconditions" "SIOOBE_FORMATTER" "Ljava/util/function/BiFunction;" vf) (hvf : vf.isRef = true) :
    Met own_EL l Z (⟨"java/lang/StringLatin1", "charAt", "([BI)C"⟩ : MethodName) jdk_43_method_2_code 2 (some .char) ({ frames := 2, cells := 0, slots := 0, locals := 27 } : Room) ws #[(.ref a1), Z0] h0 n0 [] (Pur (.int (own_lc x)) h0) := by
  refine Met.of pn_15 (fun m => ef_rmLC0_5 m a1) ?_
  refine Own.iloadN d15_0 rfl ?_
  refine Own.aloadN d15_1 rfl rfl ?_
  refine Own.arraylength_ (5 : Int32) V_a1 (by rw [hl]; rfl) d15_2 ?_
  refine Own.callS0 [Z0, (.int (5 : Int32))] [] 0 (rmSIc_0_5 l Z a0 hw [] vf h0 n0 hn S_F hvf) (hw _ (mg 74 rfl)) (hw _ (mg 75 rfl)) (hw _ (mg 7 rfl)) (hw _ (mg 76 rfl)) (by decide) d15_3 pd_10 rfl rfl rfl rfl (by decide) (by decide) (by decide) (by decide) ?_
  refine Own.aloadN d15_6 rfl rfl ?_
  refine Own.iloadN d15_7 rfl ?_
  refine Own.baload_ V_a1 (i := 0) rfl (v := (.int x)) hx d15_8 ?_
  refine Own.sipush (255 : Int32) d15_9 rfl ?_
  refine Own.iand d15_12 ?_
  refine Own.i2c d15_13 ?_
  refine Own.ret_nar (t := .char) (by simp) rfl d15_14 (by decide) (by decide) (fun Sf hSf => ?_)
  exact ⟨rfl, rfl⟩
theorem ef_rmCA0_5 (m : MethodId) (a1 : Addr)  : entryFrame m #[(.ref a1), Z0] 2 = mkF m 0 #[.val (.ref a1), .val Z0] [] := by simp [entryFrame, mkF, argsToLocals, Value.category]
theorem rmCA0_5 (l : Launch) (Z : State) (a0 : Array Value) (hw : HW a0 Z) (ws : List Jvm.Cond) (a1 : Addr) (b : Addr) (kb : ClassId) (vs : List Value) (x : Int32) (zc : Int32) (vf : Value) (h0 : Heap) (n0 : Nat) (hn : n0 ≤ h0.size) (X_a1 : XSt Z h0 a1) (F_value_a1 : FSv Z h0 a1 (.ref b)) (F_coder_a1 : FSc Z h0 a1 Z0) (V_b : Arl Z h0 b kb .byte vs) (hl : vs.length = 5) (hx : vs[0]? = some (.int (nar .byte (x.toInt8.toInt32)))) (S_C : Sta Z h0 "java/lang/String" "COMPACT_STRINGS" "Z" (.int zc)) (S_F : Sta Z h0 "jdk/internal/util/Preconditions" "SIOOBE_FORMATTER" "Ljava/util/function/BiFunction;" vf) (hz : ¬ zc = 0) (hvf : vf.isRef = true) (hr : 0 ≤ x.toInt ∧ x.toInt < 65536) (hlat : ¬ (255 : Int32) < x) :
    Met own_EL l Z (⟨"java/lang/String", "charAt", "(I)C"⟩ : MethodName) jdk_42_method_56_code 2 (some .char) ({ frames := 3, cells := 0, slots := 0, locals := 40 } : Room) ws #[(.ref a1), Z0] h0 n0 [] (Pur (.int x) h0) := by
  refine Met.of pn_13 (fun m => ef_rmCA0_5 m a1) ?_
  refine Own.aloadN d13_0 rfl rfl ?_
  refine Own.callVP a1 [] [] 0 (rm_lat_5 l Z a0 hw [] a1 b kb vs zc h0 n0 hn X_a1 F_value_a1 F_coder_a1 V_b hl S_C hz) (hw _ (mg 65 rfl)) (hw _ (mg 66 rfl)) (fun s hZ => notFace_of_selects (args := #[]) (mvT hZ (hw _ (mg 68 rfl)))) (hw _ (mg 68 rfl)) (hw _ (mg 67 rfl)) (hw _ (mg 7 rfl)) (hw _ (mg 69 rfl)) (by decide) X_a1 d13_1 pd_4 rfl rfl rfl rfl (by decide) (by decide) (by decide) (by decide) ?_
  refine Own.if_eq 16 d13_4 (by decide) rfl (fun q => absurd q (by decide)) (fun _ => ?_)
  refine Own.aloadN d13_7 rfl rfl ?_
  refine Own.getF_ (host := "") (Or.inl (hw _ (mg 33 rfl))) Via.refl F_value_a1 d13_8 ?_
  refine Own.iloadN d13_11 rfl ?_
  refine Own.callSP [(.ref b), Z0] [] 0 (rmLC0_5 l Z a0 hw [] b kb vs _ vf h0 n0 hn V_b hl hx S_F hvf) (hw _ (mg 70 rfl)) (hw _ (mg 71 rfl)) (hw _ (mg 72 rfl)) (hw _ (mg 73 rfl)) (by decide) d13_12 pd_23 rfl rfl rfl rfl (by decide) (by decide) (by decide) (by decide) ?_
  refine Own.ret_nar (t := .char) (by simp) rfl d13_15 (by decide) (by decide) (fun Sf hSf => ?_)
  exact ⟨congrArg (fun z => some (Value.int z)) (by rw [own_lcv hr.1 hlat, own_ncv hr.1 hr.2]), rfl⟩
theorem ef_rmOK0_5_2 (m : MethodId) (a1 : Addr) (d0 : Int32) (d1 : Int32) (e0 : Int32) (e1 : Int32)  : entryFrame m #[(.ref a1), Z0, (.int (5 : Int32)), (.int (2 : Int32)), (.int d0), (.int d1), (.int e0), (.int e1)] 8 = mkF m 0 #[.val (.ref a1), .val Z0, .val (.int (5 : Int32)), .val (.int (2 : Int32)), .val (.int d0), .val (.int d1), .val (.int e0), .val (.int e1)] [] := by simp [entryFrame, mkF, argsToLocals, Value.category]
theorem rmOK0_5_2 (l : Launch) (Z : State) (a0 : Array Value) (hw : HW a0 Z) (ws : List Jvm.Cond) (a1 : Addr) (d0 : Int32) (d1 : Int32) (e0 : Int32) (e1 : Int32) (b : Addr) (kb : ClassId) (vs : List Value) (zc : Int32) (vf : Value) (h0 : Heap) (n0 : Nat) (hn : n0 ≤ h0.size) (X_a1 : XSt Z h0 a1) (F_value_a1 : FSv Z h0 a1 (.ref b)) (F_coder_a1 : FSc Z h0 a1 Z0) (V_b : Arl Z h0 b kb .byte vs) (hl : vs.length = 5) (hx : vs[0]? = some (.int (nar .byte ((nar .char d0).toInt8.toInt32)))) (S_C : Sta Z h0 "java/lang/String" "COMPACT_STRINGS" "Z" (.int zc)) (S_F : Sta Z h0 "jdk/internal/util/Preconditions" "SIOOBE_FORMATTER" "Ljava/util/function/BiFunction;" vf) (hz : ¬ zc = 0) (hvf : vf.isRef = true) (hlat : ¬ (255 : Int32) < (nar .char d0)) :
    Met own_EL l Z (⟨"com/example/hits_by_heading/hitsbyheading/document/DocumentSectionLocationPinLaw", "ok", "(Ljava/lang/String;IIICCCC)Z"⟩ : MethodName) method_4_code 8 (some .boolean) ({ frames := 4, cells := 0, slots := 0, locals := 53 } : Room) ws #[(.ref a1), Z0, (.int (5 : Int32)), (.int (2 : Int32)), (.int d0), (.int d1), (.int e0), (.int e1)] h0 n0 [] (Pur (.int (1 : Int32)) h0) := by
  refine Met.of pn_12 (fun m => ef_rmOK0_5_2 m a1 d0 d1 e0 e1) ?_
  refine Own.iloadN d12_0 rfl ?_
  refine Own.iloadN d12_1 rfl ?_
  refine Own.icmp_lt 7 d12_2 (by decide) rfl (fun _ => ?_) (fun q => absurd (by decide) q)
  refine Own.aloadN d12_7 rfl rfl ?_
  refine Own.iloadN d12_8 rfl ?_
  refine Own.callVP a1 [Z0] [] 0 (rmCA0_5 l Z a0 hw [] a1 b kb vs (nar .char d0) zc vf h0 n0 hn X_a1 F_value_a1 F_coder_a1 V_b hl hx S_C S_F hz hvf (own_rng _) hlat) (hw _ (mg 60 rfl)) (hw _ (mg 61 rfl)) (fun s hZ => notFace_of_selects (args := #[]) (mvT hZ (hw _ (mg 63 rfl)))) (hw _ (mg 63 rfl)) (hw _ (mg 62 rfl)) (hw _ (mg 7 rfl)) (hw _ (mg 64 rfl)) (by decide) X_a1 d12_9 pd_6 rfl rfl rfl rfl (by decide) (by decide) (by decide) (by decide) ?_
  refine Own.iloadN d12_12 rfl ?_
  refine Own.iloadN d12_13 rfl ?_
  refine Own.iload d12_14 rfl ?_
  refine Own.iload d12_16 rfl ?_
  refine Own.iload d12_18 rfl ?_
  refine Own.iload d12_20 rfl ?_
  refine Own.callSP [Z0, (.int (2 : Int32)), (.int d0), (.int d1), (.int e0), (.int e1)] [(.int (nar .char d0))] 1 (rmEX0_2 l Z a0 hw [] d0 d1 e0 e1 h0 n0 hn) (hw _ (mg 82 rfl)) (hw _ (mg 83 rfl)) (hw _ (mg 3 rfl)) (hw _ (mg 84 rfl)) (by decide) d12_22 pd_11 rfl rfl rfl rfl (by decide) (by decide) (by decide) (by decide) ?_
  refine Own.icmp_ne 32 d12_25 (by decide) rfl (fun q => absurd rfl q) (fun _ => ?_)
  refine Own.iconst (1 : Int32) d12_28 rfl ?_
  refine Own.goto_ 33 d12_29 (by decide) rfl ?_
  refine Own.ret_nar (t := .boolean) (by simp) rfl d12_33 (by decide) (by decide) (fun Sf hSf => ?_)
  exact ⟨rfl, rfl⟩
theorem ef_rmPIc_1_5 (m : MethodId) (vf : Value) (hr_2 : (vf).isRef = true) : entryFrame m #[(.int (1 : Int32)), (.int (5 : Int32)), vf] 3 = mkF m 0 #[.val (.int (1 : Int32)), .val (.int (5 : Int32)), .val vf] [] := by rcases ref_cases hr_2 with rfl | ⟨z2, rfl⟩ <;> first | (simp [entryFrame, mkF, argsToLocals, Value.category]; done) | rfl
theorem rmPIc_1_5 (l : Launch) (Z : State) (a0 : Array Value) (hw : HW a0 Z) (ws : List Jvm.Cond) (vf : Value) (h0 : Heap) (n0 : Nat) (hn : n0 ≤ h0.size) (hvf : vf.isRef = true) :
    Met own_EL l Z (⟨"jdk/internal/util/Preconditions", "checkIndex", "(IILjava/util/function/BiFunction;)I"⟩ : MethodName) jdk_41_method_11_code 3 (some .int) ({ frames := 0, cells := 0, slots := 0, locals := 0 } : Room) ws #[(.int (1 : Int32)), (.int (5 : Int32)), vf] h0 n0 [] (Pur (.int (1 : Int32)) h0) := by
  refine Met.of pn_17 (fun m => ef_rmPIc_1_5 m vf hvf) ?_
  refine Own.iloadN d17_0 rfl ?_
  refine Own.if_lt 9 d17_1 (by decide) rfl (fun q => absurd q (by decide)) (fun _ => ?_)
  refine Own.iloadN d17_4 rfl ?_
  refine Own.iloadN d17_5 rfl ?_
  refine Own.icmp_lt 16 d17_6 (by decide) rfl (fun _ => ?_) (fun q => absurd (by decide) q)
  refine Own.iloadN d17_16 rfl ?_
  refine Own.ret_int rfl d17_17 (by decide) (by decide) (fun Sf hSf => ?_)
  exact ⟨rfl, rfl⟩
theorem ef_rmSIc_1_5 (m : MethodId)   : entryFrame m #[(.int (1 : Int32)), (.int (5 : Int32))] 2 = mkF m 0 #[.val (.int (1 : Int32)), .val (.int (5 : Int32))] [] := by simp [entryFrame, mkF, argsToLocals, Value.category]
theorem rmSIc_1_5 (l : Launch) (Z : State) (a0 : Array Value) (hw : HW a0 Z) (ws : List Jvm.Cond) (vf : Value) (h0 : Heap) (n0 : Nat) (hn : n0 ≤ h0.size) (S_F : Sta Z h0 "jdk/internal/util/Preconditions" "SIOOBE_FORMATTER" "Ljava/util/function/BiFunction;" vf) (hvf : vf.isRef = true) :
    Met own_EL l Z (⟨"java/lang/String", "checkIndex", "(II)V"⟩ : MethodName) jdk_42_method_155_code 2 none ({ frames := 1, cells := 0, slots := 0, locals := 14 } : Room) ws #[(.int (1 : Int32)), (.int (5 : Int32))] h0 n0 [] (Pur0 h0) := by
  refine Met.of pn_16 (fun m => ef_rmSIc_1_5 m ) ?_
  refine Own.iloadN d16_0 rfl ?_
  refine Own.iloadN d16_1 rfl ?_
  refine Own.getS_ (host := "") (Or.inl (hw _ (mg 77 rfl))) Via.refl S_F d16_2 ?_
  refine Own.callSP [(.int (1 : Int32)), (.int (5 : Int32)), vf] [] 0 (rmPIc_1_5 l Z a0 hw [] vf h0 n0 hn hvf) (hw _ (mg 79 rfl)) (hw _ (mg 80 rfl)) (hw _ (mg 78 rfl)) (hw _ (mg 81 rfl)) (by decide) d16_5 pd_12 rfl rfl rfl rfl (by decide) (by decide) (by decide) (by decide) ?_
  refine Own.pop d16_8 rfl ?_
  refine Own.ret_void rfl d16_9 (by decide) (by decide) (fun Sf hSf => ?_)
  exact ⟨rfl, rfl⟩
theorem ef_rmLC1_5 (m : MethodId) (a1 : Addr)  : entryFrame m #[(.ref a1), (.int (1 : Int32))] 2 = mkF m 0 #[.val (.ref a1), .val (.int (1 : Int32))] [] := by simp [entryFrame, mkF, argsToLocals, Value.category]
theorem rmLC1_5 (l : Launch) (Z : State) (a0 : Array Value) (hw : HW a0 Z) (ws : List Jvm.Cond) (a1 : Addr) (ka : ClassId) (vs : List Value) (x : Int32) (vf : Value) (h0 : Heap) (n0 : Nat) (hn : n0 ≤ h0.size) (V_a1 : Arl Z h0 a1 ka .byte vs) (hl : vs.length = 5) (hx : vs[1]? = some (.int x)) (S_F : Sta Z h0 "jdk/internal/util/Preconditions" "SIOOBE_FORMATTER" "Ljava/util/function/BiFunction;" vf) (hvf : vf.isRef = true) :
    Met own_EL l Z (⟨"java/lang/StringLatin1", "charAt", "([BI)C"⟩ : MethodName) jdk_43_method_2_code 2 (some .char) ({ frames := 2, cells := 0, slots := 0, locals := 27 } : Room) ws #[(.ref a1), (.int (1 : Int32))] h0 n0 [] (Pur (.int (own_lc x)) h0) := by
  refine Met.of pn_15 (fun m => ef_rmLC1_5 m a1) ?_
  refine Own.iloadN d15_0 rfl ?_
  refine Own.aloadN d15_1 rfl rfl ?_
  refine Own.arraylength_ (5 : Int32) V_a1 (by rw [hl]; rfl) d15_2 ?_
  refine Own.callS0 [(.int (1 : Int32)), (.int (5 : Int32))] [] 0 (rmSIc_1_5 l Z a0 hw [] vf h0 n0 hn S_F hvf) (hw _ (mg 74 rfl)) (hw _ (mg 75 rfl)) (hw _ (mg 7 rfl)) (hw _ (mg 76 rfl)) (by decide) d15_3 pd_10 rfl rfl rfl rfl (by decide) (by decide) (by decide) (by decide) ?_
  refine Own.aloadN d15_6 rfl rfl ?_
  refine Own.iloadN d15_7 rfl ?_
  refine Own.baload_ V_a1 (i := 1) rfl (v := (.int x)) hx d15_8 ?_
  refine Own.sipush (255 : Int32) d15_9 rfl ?_
  refine Own.iand d15_12 ?_
  refine Own.i2c d15_13 ?_
  refine Own.ret_nar (t := .char) (by simp) rfl d15_14 (by decide) (by decide) (fun Sf hSf => ?_)
  exact ⟨rfl, rfl⟩
theorem ef_rmCA1_5 (m : MethodId) (a1 : Addr)  : entryFrame m #[(.ref a1), (.int (1 : Int32))] 2 = mkF m 0 #[.val (.ref a1), .val (.int (1 : Int32))] [] := by simp [entryFrame, mkF, argsToLocals, Value.category]
theorem rmCA1_5 (l : Launch) (Z : State) (a0 : Array Value) (hw : HW a0 Z) (ws : List Jvm.Cond) (a1 : Addr) (b : Addr) (kb : ClassId) (vs : List Value) (x : Int32) (zc : Int32) (vf : Value) (h0 : Heap) (n0 : Nat) (hn : n0 ≤ h0.size) (X_a1 : XSt Z h0 a1) (F_value_a1 : FSv Z h0 a1 (.ref b)) (F_coder_a1 : FSc Z h0 a1 Z0) (V_b : Arl Z h0 b kb .byte vs) (hl : vs.length = 5) (hx : vs[1]? = some (.int (nar .byte (x.toInt8.toInt32)))) (S_C : Sta Z h0 "java/lang/String" "COMPACT_STRINGS" "Z" (.int zc)) (S_F : Sta Z h0 "jdk/internal/util/Preconditions" "SIOOBE_FORMATTER" "Ljava/util/function/BiFunction;" vf) (hz : ¬ zc = 0) (hvf : vf.isRef = true) (hr : 0 ≤ x.toInt ∧ x.toInt < 65536) (hlat : ¬ (255 : Int32) < x) :
    Met own_EL l Z (⟨"java/lang/String", "charAt", "(I)C"⟩ : MethodName) jdk_42_method_56_code 2 (some .char) ({ frames := 3, cells := 0, slots := 0, locals := 40 } : Room) ws #[(.ref a1), (.int (1 : Int32))] h0 n0 [] (Pur (.int x) h0) := by
  refine Met.of pn_13 (fun m => ef_rmCA1_5 m a1) ?_
  refine Own.aloadN d13_0 rfl rfl ?_
  refine Own.callVP a1 [] [] 0 (rm_lat_5 l Z a0 hw [] a1 b kb vs zc h0 n0 hn X_a1 F_value_a1 F_coder_a1 V_b hl S_C hz) (hw _ (mg 65 rfl)) (hw _ (mg 66 rfl)) (fun s hZ => notFace_of_selects (args := #[]) (mvT hZ (hw _ (mg 68 rfl)))) (hw _ (mg 68 rfl)) (hw _ (mg 67 rfl)) (hw _ (mg 7 rfl)) (hw _ (mg 69 rfl)) (by decide) X_a1 d13_1 pd_4 rfl rfl rfl rfl (by decide) (by decide) (by decide) (by decide) ?_
  refine Own.if_eq 16 d13_4 (by decide) rfl (fun q => absurd q (by decide)) (fun _ => ?_)
  refine Own.aloadN d13_7 rfl rfl ?_
  refine Own.getF_ (host := "") (Or.inl (hw _ (mg 33 rfl))) Via.refl F_value_a1 d13_8 ?_
  refine Own.iloadN d13_11 rfl ?_
  refine Own.callSP [(.ref b), (.int (1 : Int32))] [] 0 (rmLC1_5 l Z a0 hw [] b kb vs _ vf h0 n0 hn V_b hl hx S_F hvf) (hw _ (mg 70 rfl)) (hw _ (mg 71 rfl)) (hw _ (mg 72 rfl)) (hw _ (mg 73 rfl)) (by decide) d13_12 pd_23 rfl rfl rfl rfl (by decide) (by decide) (by decide) (by decide) ?_
  refine Own.ret_nar (t := .char) (by simp) rfl d13_15 (by decide) (by decide) (fun Sf hSf => ?_)
  exact ⟨congrArg (fun z => some (Value.int z)) (by rw [own_lcv hr.1 hlat, own_ncv hr.1 hr.2]), rfl⟩
theorem ef_rmOK1_5_2 (m : MethodId) (a1 : Addr) (d0 : Int32) (d1 : Int32) (e0 : Int32) (e1 : Int32)  : entryFrame m #[(.ref a1), (.int (1 : Int32)), (.int (5 : Int32)), (.int (2 : Int32)), (.int d0), (.int d1), (.int e0), (.int e1)] 8 = mkF m 0 #[.val (.ref a1), .val (.int (1 : Int32)), .val (.int (5 : Int32)), .val (.int (2 : Int32)), .val (.int d0), .val (.int d1), .val (.int e0), .val (.int e1)] [] := by simp [entryFrame, mkF, argsToLocals, Value.category]
theorem rmOK1_5_2 (l : Launch) (Z : State) (a0 : Array Value) (hw : HW a0 Z) (ws : List Jvm.Cond) (a1 : Addr) (d0 : Int32) (d1 : Int32) (e0 : Int32) (e1 : Int32) (b : Addr) (kb : ClassId) (vs : List Value) (zc : Int32) (vf : Value) (h0 : Heap) (n0 : Nat) (hn : n0 ≤ h0.size) (X_a1 : XSt Z h0 a1) (F_value_a1 : FSv Z h0 a1 (.ref b)) (F_coder_a1 : FSc Z h0 a1 Z0) (V_b : Arl Z h0 b kb .byte vs) (hl : vs.length = 5) (hx : vs[1]? = some (.int (nar .byte ((nar .char d1).toInt8.toInt32)))) (S_C : Sta Z h0 "java/lang/String" "COMPACT_STRINGS" "Z" (.int zc)) (S_F : Sta Z h0 "jdk/internal/util/Preconditions" "SIOOBE_FORMATTER" "Ljava/util/function/BiFunction;" vf) (hz : ¬ zc = 0) (hvf : vf.isRef = true) (hlat : ¬ (255 : Int32) < (nar .char d1)) :
    Met own_EL l Z (⟨"com/example/hits_by_heading/hitsbyheading/document/DocumentSectionLocationPinLaw", "ok", "(Ljava/lang/String;IIICCCC)Z"⟩ : MethodName) method_4_code 8 (some .boolean) ({ frames := 4, cells := 0, slots := 0, locals := 53 } : Room) ws #[(.ref a1), (.int (1 : Int32)), (.int (5 : Int32)), (.int (2 : Int32)), (.int d0), (.int d1), (.int e0), (.int e1)] h0 n0 [] (Pur (.int (1 : Int32)) h0) := by
  refine Met.of pn_12 (fun m => ef_rmOK1_5_2 m a1 d0 d1 e0 e1) ?_
  refine Own.iloadN d12_0 rfl ?_
  refine Own.iloadN d12_1 rfl ?_
  refine Own.icmp_lt 7 d12_2 (by decide) rfl (fun _ => ?_) (fun q => absurd (by decide) q)
  refine Own.aloadN d12_7 rfl rfl ?_
  refine Own.iloadN d12_8 rfl ?_
  refine Own.callVP a1 [(.int (1 : Int32))] [] 0 (rmCA1_5 l Z a0 hw [] a1 b kb vs (nar .char d1) zc vf h0 n0 hn X_a1 F_value_a1 F_coder_a1 V_b hl hx S_C S_F hz hvf (own_rng _) hlat) (hw _ (mg 60 rfl)) (hw _ (mg 61 rfl)) (fun s hZ => notFace_of_selects (args := #[]) (mvT hZ (hw _ (mg 63 rfl)))) (hw _ (mg 63 rfl)) (hw _ (mg 62 rfl)) (hw _ (mg 7 rfl)) (hw _ (mg 64 rfl)) (by decide) X_a1 d12_9 pd_6 rfl rfl rfl rfl (by decide) (by decide) (by decide) (by decide) ?_
  refine Own.iloadN d12_12 rfl ?_
  refine Own.iloadN d12_13 rfl ?_
  refine Own.iload d12_14 rfl ?_
  refine Own.iload d12_16 rfl ?_
  refine Own.iload d12_18 rfl ?_
  refine Own.iload d12_20 rfl ?_
  refine Own.callSP [(.int (1 : Int32)), (.int (2 : Int32)), (.int d0), (.int d1), (.int e0), (.int e1)] [(.int (nar .char d1))] 1 (rmEX1_2 l Z a0 hw [] d0 d1 e0 e1 h0 n0 hn) (hw _ (mg 82 rfl)) (hw _ (mg 83 rfl)) (hw _ (mg 3 rfl)) (hw _ (mg 84 rfl)) (by decide) d12_22 pd_11 rfl rfl rfl rfl (by decide) (by decide) (by decide) (by decide) ?_
  refine Own.icmp_ne 32 d12_25 (by decide) rfl (fun q => absurd rfl q) (fun _ => ?_)
  refine Own.iconst (1 : Int32) d12_28 rfl ?_
  refine Own.goto_ 33 d12_29 (by decide) rfl ?_
  refine Own.ret_nar (t := .boolean) (by simp) rfl d12_33 (by decide) (by decide) (fun Sf hSf => ?_)
  exact ⟨rfl, rfl⟩
theorem ef_rmPIc_2_5 (m : MethodId) (vf : Value) (hr_2 : (vf).isRef = true) : entryFrame m #[(.int (2 : Int32)), (.int (5 : Int32)), vf] 3 = mkF m 0 #[.val (.int (2 : Int32)), .val (.int (5 : Int32)), .val vf] [] := by rcases ref_cases hr_2 with rfl | ⟨z2, rfl⟩ <;> first | (simp [entryFrame, mkF, argsToLocals, Value.category]; done) | rfl
theorem rmPIc_2_5 (l : Launch) (Z : State) (a0 : Array Value) (hw : HW a0 Z) (ws : List Jvm.Cond) (vf : Value) (h0 : Heap) (n0 : Nat) (hn : n0 ≤ h0.size) (hvf : vf.isRef = true) :
    Met own_EL l Z (⟨"jdk/internal/util/Preconditions", "checkIndex", "(IILjava/util/function/BiFunction;)I"⟩ : MethodName) jdk_41_method_11_code 3 (some .int) ({ frames := 0, cells := 0, slots := 0, locals := 0 } : Room) ws #[(.int (2 : Int32)), (.int (5 : Int32)), vf] h0 n0 [] (Pur (.int (2 : Int32)) h0) := by
  refine Met.of pn_17 (fun m => ef_rmPIc_2_5 m vf hvf) ?_
  refine Own.iloadN d17_0 rfl ?_
  refine Own.if_lt 9 d17_1 (by decide) rfl (fun q => absurd q (by decide)) (fun _ => ?_)
  refine Own.iloadN d17_4 rfl ?_
  refine Own.iloadN d17_5 rfl ?_
  refine Own.icmp_lt 16 d17_6 (by decide) rfl (fun _ => ?_) (fun q => absurd (by decide) q)
  refine Own.iloadN d17_16 rfl ?_
  refine Own.ret_int rfl d17_17 (by decide) (by decide) (fun Sf hSf => ?_)
  exact ⟨rfl, rfl⟩
theorem ef_rmSIc_2_5 (m : MethodId)   : entryFrame m #[(.int (2 : Int32)), (.int (5 : Int32))] 2 = mkF m 0 #[.val (.int (2 : Int32)), .val (.int (5 : Int32))] [] := by simp [entryFrame, mkF, argsToLocals, Value.category]
theorem rmSIc_2_5 (l : Launch) (Z : State) (a0 : Array Value) (hw : HW a0 Z) (ws : List Jvm.Cond) (vf : Value) (h0 : Heap) (n0 : Nat) (hn : n0 ≤ h0.size) (S_F : Sta Z h0 "jdk/internal/util/Preconditions" "SIOOBE_FORMATTER" "Ljava/util/function/BiFunction;" vf) (hvf : vf.isRef = true) :
    Met own_EL l Z (⟨"java/lang/String", "checkIndex", "(II)V"⟩ : MethodName) jdk_42_method_155_code 2 none ({ frames := 1, cells := 0, slots := 0, locals := 14 } : Room) ws #[(.int (2 : Int32)), (.int (5 : Int32))] h0 n0 [] (Pur0 h0) := by
  refine Met.of pn_16 (fun m => ef_rmSIc_2_5 m ) ?_
  refine Own.iloadN d16_0 rfl ?_
  refine Own.iloadN d16_1 rfl ?_
  refine Own.getS_ (host := "") (Or.inl (hw _ (mg 77 rfl))) Via.refl S_F d16_2 ?_
  refine Own.callSP [(.int (2 : Int32)), (.int (5 : Int32)), vf] [] 0 (rmPIc_2_5 l Z a0 hw [] vf h0 n0 hn hvf) (hw _ (mg 79 rfl)) (hw _ (mg 80 rfl)) (hw _ (mg 78 rfl)) (hw _ (mg 81 rfl)) (by decide) d16_5 pd_12 rfl rfl rfl rfl (by decide) (by decide) (by decide) (by decide) ?_
  refine Own.pop d16_8 rfl ?_
  refine Own.ret_void rfl d16_9 (by decide) (by decide) (fun Sf hSf => ?_)
  exact ⟨rfl, rfl⟩
theorem ef_rmLC2_5 (m : MethodId) (a1 : Addr)  : entryFrame m #[(.ref a1), (.int (2 : Int32))] 2 = mkF m 0 #[.val (.ref a1), .val (.int (2 : Int32))] [] := by simp [entryFrame, mkF, argsToLocals, Value.category]
theorem rmLC2_5 (l : Launch) (Z : State) (a0 : Array Value) (hw : HW a0 Z) (ws : List Jvm.Cond) (a1 : Addr) (ka : ClassId) (vs : List Value) (x : Int32) (vf : Value) (h0 : Heap) (n0 : Nat) (hn : n0 ≤ h0.size) (V_a1 : Arl Z h0 a1 ka .byte vs) (hl : vs.length = 5) (hx : vs[2]? = some (.int x)) (S_F : Sta Z h0 "jdk/internal/util/Preconditions" "SIOOBE_FORMATTER" "Ljava/util/function/BiFunction;" vf) (hvf : vf.isRef = true) :
    Met own_EL l Z (⟨"java/lang/StringLatin1", "charAt", "([BI)C"⟩ : MethodName) jdk_43_method_2_code 2 (some .char) ({ frames := 2, cells := 0, slots := 0, locals := 27 } : Room) ws #[(.ref a1), (.int (2 : Int32))] h0 n0 [] (Pur (.int (own_lc x)) h0) := by
  refine Met.of pn_15 (fun m => ef_rmLC2_5 m a1) ?_
  refine Own.iloadN d15_0 rfl ?_
  refine Own.aloadN d15_1 rfl rfl ?_
  refine Own.arraylength_ (5 : Int32) V_a1 (by rw [hl]; rfl) d15_2 ?_
  refine Own.callS0 [(.int (2 : Int32)), (.int (5 : Int32))] [] 0 (rmSIc_2_5 l Z a0 hw [] vf h0 n0 hn S_F hvf) (hw _ (mg 74 rfl)) (hw _ (mg 75 rfl)) (hw _ (mg 7 rfl)) (hw _ (mg 76 rfl)) (by decide) d15_3 pd_10 rfl rfl rfl rfl (by decide) (by decide) (by decide) (by decide) ?_
  refine Own.aloadN d15_6 rfl rfl ?_
  refine Own.iloadN d15_7 rfl ?_
  refine Own.baload_ V_a1 (i := 2) rfl (v := (.int x)) hx d15_8 ?_
  refine Own.sipush (255 : Int32) d15_9 rfl ?_
  refine Own.iand d15_12 ?_
  refine Own.i2c d15_13 ?_
  refine Own.ret_nar (t := .char) (by simp) rfl d15_14 (by decide) (by decide) (fun Sf hSf => ?_)
  exact ⟨rfl, rfl⟩
theorem ef_rmCA2_5 (m : MethodId) (a1 : Addr)  : entryFrame m #[(.ref a1), (.int (2 : Int32))] 2 = mkF m 0 #[.val (.ref a1), .val (.int (2 : Int32))] [] := by simp [entryFrame, mkF, argsToLocals, Value.category]
theorem rmCA2_5 (l : Launch) (Z : State) (a0 : Array Value) (hw : HW a0 Z) (ws : List Jvm.Cond) (a1 : Addr) (b : Addr) (kb : ClassId) (vs : List Value) (x : Int32) (zc : Int32) (vf : Value) (h0 : Heap) (n0 : Nat) (hn : n0 ≤ h0.size) (X_a1 : XSt Z h0 a1) (F_value_a1 : FSv Z h0 a1 (.ref b)) (F_coder_a1 : FSc Z h0 a1 Z0) (V_b : Arl Z h0 b kb .byte vs) (hl : vs.length = 5) (hx : vs[2]? = some (.int (nar .byte (x.toInt8.toInt32)))) (S_C : Sta Z h0 "java/lang/String" "COMPACT_STRINGS" "Z" (.int zc)) (S_F : Sta Z h0 "jdk/internal/util/Preconditions" "SIOOBE_FORMATTER" "Ljava/util/function/BiFunction;" vf) (hz : ¬ zc = 0) (hvf : vf.isRef = true) (hr : 0 ≤ x.toInt ∧ x.toInt < 65536) (hlat : ¬ (255 : Int32) < x) :
    Met own_EL l Z (⟨"java/lang/String", "charAt", "(I)C"⟩ : MethodName) jdk_42_method_56_code 2 (some .char) ({ frames := 3, cells := 0, slots := 0, locals := 40 } : Room) ws #[(.ref a1), (.int (2 : Int32))] h0 n0 [] (Pur (.int x) h0) := by
  refine Met.of pn_13 (fun m => ef_rmCA2_5 m a1) ?_
  refine Own.aloadN d13_0 rfl rfl ?_
  refine Own.callVP a1 [] [] 0 (rm_lat_5 l Z a0 hw [] a1 b kb vs zc h0 n0 hn X_a1 F_value_a1 F_coder_a1 V_b hl S_C hz) (hw _ (mg 65 rfl)) (hw _ (mg 66 rfl)) (fun s hZ => notFace_of_selects (args := #[]) (mvT hZ (hw _ (mg 68 rfl)))) (hw _ (mg 68 rfl)) (hw _ (mg 67 rfl)) (hw _ (mg 7 rfl)) (hw _ (mg 69 rfl)) (by decide) X_a1 d13_1 pd_4 rfl rfl rfl rfl (by decide) (by decide) (by decide) (by decide) ?_
  refine Own.if_eq 16 d13_4 (by decide) rfl (fun q => absurd q (by decide)) (fun _ => ?_)
  refine Own.aloadN d13_7 rfl rfl ?_
  refine Own.getF_ (host := "") (Or.inl (hw _ (mg 33 rfl))) Via.refl F_value_a1 d13_8 ?_
  refine Own.iloadN d13_11 rfl ?_
  refine Own.callSP [(.ref b), (.int (2 : Int32))] [] 0 (rmLC2_5 l Z a0 hw [] b kb vs _ vf h0 n0 hn V_b hl hx S_F hvf) (hw _ (mg 70 rfl)) (hw _ (mg 71 rfl)) (hw _ (mg 72 rfl)) (hw _ (mg 73 rfl)) (by decide) d13_12 pd_23 rfl rfl rfl rfl (by decide) (by decide) (by decide) (by decide) ?_
  refine Own.ret_nar (t := .char) (by simp) rfl d13_15 (by decide) (by decide) (fun Sf hSf => ?_)
  exact ⟨congrArg (fun z => some (Value.int z)) (by rw [own_lcv hr.1 hlat, own_ncv hr.1 hr.2]), rfl⟩
theorem ef_rmOK2_5_2 (m : MethodId) (a1 : Addr) (d0 : Int32) (d1 : Int32) (e0 : Int32) (e1 : Int32)  : entryFrame m #[(.ref a1), (.int (2 : Int32)), (.int (5 : Int32)), (.int (2 : Int32)), (.int d0), (.int d1), (.int e0), (.int e1)] 8 = mkF m 0 #[.val (.ref a1), .val (.int (2 : Int32)), .val (.int (5 : Int32)), .val (.int (2 : Int32)), .val (.int d0), .val (.int d1), .val (.int e0), .val (.int e1)] [] := by simp [entryFrame, mkF, argsToLocals, Value.category]
theorem rmOK2_5_2 (l : Launch) (Z : State) (a0 : Array Value) (hw : HW a0 Z) (ws : List Jvm.Cond) (a1 : Addr) (d0 : Int32) (d1 : Int32) (e0 : Int32) (e1 : Int32) (b : Addr) (kb : ClassId) (vs : List Value) (zc : Int32) (vf : Value) (h0 : Heap) (n0 : Nat) (hn : n0 ≤ h0.size) (X_a1 : XSt Z h0 a1) (F_value_a1 : FSv Z h0 a1 (.ref b)) (F_coder_a1 : FSc Z h0 a1 Z0) (V_b : Arl Z h0 b kb .byte vs) (hl : vs.length = 5) (hx : vs[2]? = some (.int (nar .byte ((35 : Int32).toInt8.toInt32)))) (S_C : Sta Z h0 "java/lang/String" "COMPACT_STRINGS" "Z" (.int zc)) (S_F : Sta Z h0 "jdk/internal/util/Preconditions" "SIOOBE_FORMATTER" "Ljava/util/function/BiFunction;" vf) (hz : ¬ zc = 0) (hvf : vf.isRef = true) :
    Met own_EL l Z (⟨"com/example/hits_by_heading/hitsbyheading/document/DocumentSectionLocationPinLaw", "ok", "(Ljava/lang/String;IIICCCC)Z"⟩ : MethodName) method_4_code 8 (some .boolean) ({ frames := 4, cells := 0, slots := 0, locals := 53 } : Room) ws #[(.ref a1), (.int (2 : Int32)), (.int (5 : Int32)), (.int (2 : Int32)), (.int d0), (.int d1), (.int e0), (.int e1)] h0 n0 [] (Pur (.int (1 : Int32)) h0) := by
  refine Met.of pn_12 (fun m => ef_rmOK2_5_2 m a1 d0 d1 e0 e1) ?_
  refine Own.iloadN d12_0 rfl ?_
  refine Own.iloadN d12_1 rfl ?_
  refine Own.icmp_lt 7 d12_2 (by decide) rfl (fun _ => ?_) (fun q => absurd (by decide) q)
  refine Own.aloadN d12_7 rfl rfl ?_
  refine Own.iloadN d12_8 rfl ?_
  refine Own.callVP a1 [(.int (2 : Int32))] [] 0 (rmCA2_5 l Z a0 hw [] a1 b kb vs (35 : Int32) zc vf h0 n0 hn X_a1 F_value_a1 F_coder_a1 V_b hl hx S_C S_F hz hvf own_r35 own_l35) (hw _ (mg 60 rfl)) (hw _ (mg 61 rfl)) (fun s hZ => notFace_of_selects (args := #[]) (mvT hZ (hw _ (mg 63 rfl)))) (hw _ (mg 63 rfl)) (hw _ (mg 62 rfl)) (hw _ (mg 7 rfl)) (hw _ (mg 64 rfl)) (by decide) X_a1 d12_9 pd_6 rfl rfl rfl rfl (by decide) (by decide) (by decide) (by decide) ?_
  refine Own.iloadN d12_12 rfl ?_
  refine Own.iloadN d12_13 rfl ?_
  refine Own.iload d12_14 rfl ?_
  refine Own.iload d12_16 rfl ?_
  refine Own.iload d12_18 rfl ?_
  refine Own.iload d12_20 rfl ?_
  refine Own.callSP [(.int (2 : Int32)), (.int (2 : Int32)), (.int d0), (.int d1), (.int e0), (.int e1)] [(.int (35 : Int32))] 1 (rmEX2_2 l Z a0 hw [] d0 d1 e0 e1 h0 n0 hn) (hw _ (mg 82 rfl)) (hw _ (mg 83 rfl)) (hw _ (mg 3 rfl)) (hw _ (mg 84 rfl)) (by decide) d12_22 pd_11 rfl rfl rfl rfl (by decide) (by decide) (by decide) (by decide) ?_
  refine Own.icmp_ne 32 d12_25 (by decide) rfl (fun q => absurd own_c35 q) (fun _ => ?_)
  refine Own.iconst (1 : Int32) d12_28 rfl ?_
  refine Own.goto_ 33 d12_29 (by decide) rfl ?_
  refine Own.ret_nar (t := .boolean) (by simp) rfl d12_33 (by decide) (by decide) (fun Sf hSf => ?_)
  exact ⟨rfl, rfl⟩
theorem ef_rmPIc_3_5 (m : MethodId) (vf : Value) (hr_2 : (vf).isRef = true) : entryFrame m #[(.int (3 : Int32)), (.int (5 : Int32)), vf] 3 = mkF m 0 #[.val (.int (3 : Int32)), .val (.int (5 : Int32)), .val vf] [] := by rcases ref_cases hr_2 with rfl | ⟨z2, rfl⟩ <;> first | (simp [entryFrame, mkF, argsToLocals, Value.category]; done) | rfl
theorem rmPIc_3_5 (l : Launch) (Z : State) (a0 : Array Value) (hw : HW a0 Z) (ws : List Jvm.Cond) (vf : Value) (h0 : Heap) (n0 : Nat) (hn : n0 ≤ h0.size) (hvf : vf.isRef = true) :
    Met own_EL l Z (⟨"jdk/internal/util/Preconditions", "checkIndex", "(IILjava/util/function/BiFunction;)I"⟩ : MethodName) jdk_41_method_11_code 3 (some .int) ({ frames := 0, cells := 0, slots := 0, locals := 0 } : Room) ws #[(.int (3 : Int32)), (.int (5 : Int32)), vf] h0 n0 [] (Pur (.int (3 : Int32)) h0) := by
  refine Met.of pn_17 (fun m => ef_rmPIc_3_5 m vf hvf) ?_
  refine Own.iloadN d17_0 rfl ?_
  refine Own.if_lt 9 d17_1 (by decide) rfl (fun q => absurd q (by decide)) (fun _ => ?_)
  refine Own.iloadN d17_4 rfl ?_
  refine Own.iloadN d17_5 rfl ?_
  refine Own.icmp_lt 16 d17_6 (by decide) rfl (fun _ => ?_) (fun q => absurd (by decide) q)
  refine Own.iloadN d17_16 rfl ?_
  refine Own.ret_int rfl d17_17 (by decide) (by decide) (fun Sf hSf => ?_)
  exact ⟨rfl, rfl⟩
theorem ef_rmSIc_3_5 (m : MethodId)   : entryFrame m #[(.int (3 : Int32)), (.int (5 : Int32))] 2 = mkF m 0 #[.val (.int (3 : Int32)), .val (.int (5 : Int32))] [] := by simp [entryFrame, mkF, argsToLocals, Value.category]
theorem rmSIc_3_5 (l : Launch) (Z : State) (a0 : Array Value) (hw : HW a0 Z) (ws : List Jvm.Cond) (vf : Value) (h0 : Heap) (n0 : Nat) (hn : n0 ≤ h0.size) (S_F : Sta Z h0 "jdk/internal/util/Preconditions" "SIOOBE_FORMATTER" "Ljava/util/function/BiFunction;" vf) (hvf : vf.isRef = true) :
    Met own_EL l Z (⟨"java/lang/String", "checkIndex", "(II)V"⟩ : MethodName) jdk_42_method_155_code 2 none ({ frames := 1, cells := 0, slots := 0, locals := 14 } : Room) ws #[(.int (3 : Int32)), (.int (5 : Int32))] h0 n0 [] (Pur0 h0) := by
  refine Met.of pn_16 (fun m => ef_rmSIc_3_5 m ) ?_
  refine Own.iloadN d16_0 rfl ?_
  refine Own.iloadN d16_1 rfl ?_
  refine Own.getS_ (host := "") (Or.inl (hw _ (mg 77 rfl))) Via.refl S_F d16_2 ?_
  refine Own.callSP [(.int (3 : Int32)), (.int (5 : Int32)), vf] [] 0 (rmPIc_3_5 l Z a0 hw [] vf h0 n0 hn hvf) (hw _ (mg 79 rfl)) (hw _ (mg 80 rfl)) (hw _ (mg 78 rfl)) (hw _ (mg 81 rfl)) (by decide) d16_5 pd_12 rfl rfl rfl rfl (by decide) (by decide) (by decide) (by decide) ?_
  refine Own.pop d16_8 rfl ?_
  refine Own.ret_void rfl d16_9 (by decide) (by decide) (fun Sf hSf => ?_)
  exact ⟨rfl, rfl⟩
theorem ef_rmLC3_5 (m : MethodId) (a1 : Addr)  : entryFrame m #[(.ref a1), (.int (3 : Int32))] 2 = mkF m 0 #[.val (.ref a1), .val (.int (3 : Int32))] [] := by simp [entryFrame, mkF, argsToLocals, Value.category]
theorem rmLC3_5 (l : Launch) (Z : State) (a0 : Array Value) (hw : HW a0 Z) (ws : List Jvm.Cond) (a1 : Addr) (ka : ClassId) (vs : List Value) (x : Int32) (vf : Value) (h0 : Heap) (n0 : Nat) (hn : n0 ≤ h0.size) (V_a1 : Arl Z h0 a1 ka .byte vs) (hl : vs.length = 5) (hx : vs[3]? = some (.int x)) (S_F : Sta Z h0 "jdk/internal/util/Preconditions" "SIOOBE_FORMATTER" "Ljava/util/function/BiFunction;" vf) (hvf : vf.isRef = true) :
    Met own_EL l Z (⟨"java/lang/StringLatin1", "charAt", "([BI)C"⟩ : MethodName) jdk_43_method_2_code 2 (some .char) ({ frames := 2, cells := 0, slots := 0, locals := 27 } : Room) ws #[(.ref a1), (.int (3 : Int32))] h0 n0 [] (Pur (.int (own_lc x)) h0) := by
  refine Met.of pn_15 (fun m => ef_rmLC3_5 m a1) ?_
  refine Own.iloadN d15_0 rfl ?_
  refine Own.aloadN d15_1 rfl rfl ?_
  refine Own.arraylength_ (5 : Int32) V_a1 (by rw [hl]; rfl) d15_2 ?_
  refine Own.callS0 [(.int (3 : Int32)), (.int (5 : Int32))] [] 0 (rmSIc_3_5 l Z a0 hw [] vf h0 n0 hn S_F hvf) (hw _ (mg 74 rfl)) (hw _ (mg 75 rfl)) (hw _ (mg 7 rfl)) (hw _ (mg 76 rfl)) (by decide) d15_3 pd_10 rfl rfl rfl rfl (by decide) (by decide) (by decide) (by decide) ?_
  refine Own.aloadN d15_6 rfl rfl ?_
  refine Own.iloadN d15_7 rfl ?_
  refine Own.baload_ V_a1 (i := 3) rfl (v := (.int x)) hx d15_8 ?_
  refine Own.sipush (255 : Int32) d15_9 rfl ?_
  refine Own.iand d15_12 ?_
  refine Own.i2c d15_13 ?_
  refine Own.ret_nar (t := .char) (by simp) rfl d15_14 (by decide) (by decide) (fun Sf hSf => ?_)
  exact ⟨rfl, rfl⟩
theorem ef_rmCA3_5 (m : MethodId) (a1 : Addr)  : entryFrame m #[(.ref a1), (.int (3 : Int32))] 2 = mkF m 0 #[.val (.ref a1), .val (.int (3 : Int32))] [] := by simp [entryFrame, mkF, argsToLocals, Value.category]
theorem rmCA3_5 (l : Launch) (Z : State) (a0 : Array Value) (hw : HW a0 Z) (ws : List Jvm.Cond) (a1 : Addr) (b : Addr) (kb : ClassId) (vs : List Value) (x : Int32) (zc : Int32) (vf : Value) (h0 : Heap) (n0 : Nat) (hn : n0 ≤ h0.size) (X_a1 : XSt Z h0 a1) (F_value_a1 : FSv Z h0 a1 (.ref b)) (F_coder_a1 : FSc Z h0 a1 Z0) (V_b : Arl Z h0 b kb .byte vs) (hl : vs.length = 5) (hx : vs[3]? = some (.int (nar .byte (x.toInt8.toInt32)))) (S_C : Sta Z h0 "java/lang/String" "COMPACT_STRINGS" "Z" (.int zc)) (S_F : Sta Z h0 "jdk/internal/util/Preconditions" "SIOOBE_FORMATTER" "Ljava/util/function/BiFunction;" vf) (hz : ¬ zc = 0) (hvf : vf.isRef = true) (hr : 0 ≤ x.toInt ∧ x.toInt < 65536) (hlat : ¬ (255 : Int32) < x) :
    Met own_EL l Z (⟨"java/lang/String", "charAt", "(I)C"⟩ : MethodName) jdk_42_method_56_code 2 (some .char) ({ frames := 3, cells := 0, slots := 0, locals := 40 } : Room) ws #[(.ref a1), (.int (3 : Int32))] h0 n0 [] (Pur (.int x) h0) := by
  refine Met.of pn_13 (fun m => ef_rmCA3_5 m a1) ?_
  refine Own.aloadN d13_0 rfl rfl ?_
  refine Own.callVP a1 [] [] 0 (rm_lat_5 l Z a0 hw [] a1 b kb vs zc h0 n0 hn X_a1 F_value_a1 F_coder_a1 V_b hl S_C hz) (hw _ (mg 65 rfl)) (hw _ (mg 66 rfl)) (fun s hZ => notFace_of_selects (args := #[]) (mvT hZ (hw _ (mg 68 rfl)))) (hw _ (mg 68 rfl)) (hw _ (mg 67 rfl)) (hw _ (mg 7 rfl)) (hw _ (mg 69 rfl)) (by decide) X_a1 d13_1 pd_4 rfl rfl rfl rfl (by decide) (by decide) (by decide) (by decide) ?_
  refine Own.if_eq 16 d13_4 (by decide) rfl (fun q => absurd q (by decide)) (fun _ => ?_)
  refine Own.aloadN d13_7 rfl rfl ?_
  refine Own.getF_ (host := "") (Or.inl (hw _ (mg 33 rfl))) Via.refl F_value_a1 d13_8 ?_
  refine Own.iloadN d13_11 rfl ?_
  refine Own.callSP [(.ref b), (.int (3 : Int32))] [] 0 (rmLC3_5 l Z a0 hw [] b kb vs _ vf h0 n0 hn V_b hl hx S_F hvf) (hw _ (mg 70 rfl)) (hw _ (mg 71 rfl)) (hw _ (mg 72 rfl)) (hw _ (mg 73 rfl)) (by decide) d13_12 pd_23 rfl rfl rfl rfl (by decide) (by decide) (by decide) (by decide) ?_
  refine Own.ret_nar (t := .char) (by simp) rfl d13_15 (by decide) (by decide) (fun Sf hSf => ?_)
  exact ⟨congrArg (fun z => some (Value.int z)) (by rw [own_lcv hr.1 hlat, own_ncv hr.1 hr.2]), rfl⟩
theorem ef_rmOK3_5_2 (m : MethodId) (a1 : Addr) (d0 : Int32) (d1 : Int32) (e0 : Int32) (e1 : Int32)  : entryFrame m #[(.ref a1), (.int (3 : Int32)), (.int (5 : Int32)), (.int (2 : Int32)), (.int d0), (.int d1), (.int e0), (.int e1)] 8 = mkF m 0 #[.val (.ref a1), .val (.int (3 : Int32)), .val (.int (5 : Int32)), .val (.int (2 : Int32)), .val (.int d0), .val (.int d1), .val (.int e0), .val (.int e1)] [] := by simp [entryFrame, mkF, argsToLocals, Value.category]
theorem rmOK3_5_2 (l : Launch) (Z : State) (a0 : Array Value) (hw : HW a0 Z) (ws : List Jvm.Cond) (a1 : Addr) (d0 : Int32) (d1 : Int32) (e0 : Int32) (e1 : Int32) (b : Addr) (kb : ClassId) (vs : List Value) (zc : Int32) (vf : Value) (h0 : Heap) (n0 : Nat) (hn : n0 ≤ h0.size) (X_a1 : XSt Z h0 a1) (F_value_a1 : FSv Z h0 a1 (.ref b)) (F_coder_a1 : FSc Z h0 a1 Z0) (V_b : Arl Z h0 b kb .byte vs) (hl : vs.length = 5) (hx : vs[3]? = some (.int (nar .byte ((nar .char e0).toInt8.toInt32)))) (S_C : Sta Z h0 "java/lang/String" "COMPACT_STRINGS" "Z" (.int zc)) (S_F : Sta Z h0 "jdk/internal/util/Preconditions" "SIOOBE_FORMATTER" "Ljava/util/function/BiFunction;" vf) (hz : ¬ zc = 0) (hvf : vf.isRef = true) (hlat : ¬ (255 : Int32) < (nar .char e0)) :
    Met own_EL l Z (⟨"com/example/hits_by_heading/hitsbyheading/document/DocumentSectionLocationPinLaw", "ok", "(Ljava/lang/String;IIICCCC)Z"⟩ : MethodName) method_4_code 8 (some .boolean) ({ frames := 4, cells := 0, slots := 0, locals := 53 } : Room) ws #[(.ref a1), (.int (3 : Int32)), (.int (5 : Int32)), (.int (2 : Int32)), (.int d0), (.int d1), (.int e0), (.int e1)] h0 n0 [] (Pur (.int (1 : Int32)) h0) := by
  refine Met.of pn_12 (fun m => ef_rmOK3_5_2 m a1 d0 d1 e0 e1) ?_
  refine Own.iloadN d12_0 rfl ?_
  refine Own.iloadN d12_1 rfl ?_
  refine Own.icmp_lt 7 d12_2 (by decide) rfl (fun _ => ?_) (fun q => absurd (by decide) q)
  refine Own.aloadN d12_7 rfl rfl ?_
  refine Own.iloadN d12_8 rfl ?_
  refine Own.callVP a1 [(.int (3 : Int32))] [] 0 (rmCA3_5 l Z a0 hw [] a1 b kb vs (nar .char e0) zc vf h0 n0 hn X_a1 F_value_a1 F_coder_a1 V_b hl hx S_C S_F hz hvf (own_rng _) hlat) (hw _ (mg 60 rfl)) (hw _ (mg 61 rfl)) (fun s hZ => notFace_of_selects (args := #[]) (mvT hZ (hw _ (mg 63 rfl)))) (hw _ (mg 63 rfl)) (hw _ (mg 62 rfl)) (hw _ (mg 7 rfl)) (hw _ (mg 64 rfl)) (by decide) X_a1 d12_9 pd_6 rfl rfl rfl rfl (by decide) (by decide) (by decide) (by decide) ?_
  refine Own.iloadN d12_12 rfl ?_
  refine Own.iloadN d12_13 rfl ?_
  refine Own.iload d12_14 rfl ?_
  refine Own.iload d12_16 rfl ?_
  refine Own.iload d12_18 rfl ?_
  refine Own.iload d12_20 rfl ?_
  refine Own.callSP [(.int (3 : Int32)), (.int (2 : Int32)), (.int d0), (.int d1), (.int e0), (.int e1)] [(.int (nar .char e0))] 1 (rmEX3_2 l Z a0 hw [] d0 d1 e0 e1 h0 n0 hn) (hw _ (mg 82 rfl)) (hw _ (mg 83 rfl)) (hw _ (mg 3 rfl)) (hw _ (mg 84 rfl)) (by decide) d12_22 pd_11 rfl rfl rfl rfl (by decide) (by decide) (by decide) (by decide) ?_
  refine Own.icmp_ne 32 d12_25 (by decide) rfl (fun q => absurd rfl q) (fun _ => ?_)
  refine Own.iconst (1 : Int32) d12_28 rfl ?_
  refine Own.goto_ 33 d12_29 (by decide) rfl ?_
  refine Own.ret_nar (t := .boolean) (by simp) rfl d12_33 (by decide) (by decide) (fun Sf hSf => ?_)
  exact ⟨rfl, rfl⟩
theorem ef_rmPIc_4_5 (m : MethodId) (vf : Value) (hr_2 : (vf).isRef = true) : entryFrame m #[(.int (4 : Int32)), (.int (5 : Int32)), vf] 3 = mkF m 0 #[.val (.int (4 : Int32)), .val (.int (5 : Int32)), .val vf] [] := by rcases ref_cases hr_2 with rfl | ⟨z2, rfl⟩ <;> first | (simp [entryFrame, mkF, argsToLocals, Value.category]; done) | rfl
theorem rmPIc_4_5 (l : Launch) (Z : State) (a0 : Array Value) (hw : HW a0 Z) (ws : List Jvm.Cond) (vf : Value) (h0 : Heap) (n0 : Nat) (hn : n0 ≤ h0.size) (hvf : vf.isRef = true) :
    Met own_EL l Z (⟨"jdk/internal/util/Preconditions", "checkIndex", "(IILjava/util/function/BiFunction;)I"⟩ : MethodName) jdk_41_method_11_code 3 (some .int) ({ frames := 0, cells := 0, slots := 0, locals := 0 } : Room) ws #[(.int (4 : Int32)), (.int (5 : Int32)), vf] h0 n0 [] (Pur (.int (4 : Int32)) h0) := by
  refine Met.of pn_17 (fun m => ef_rmPIc_4_5 m vf hvf) ?_
  refine Own.iloadN d17_0 rfl ?_
  refine Own.if_lt 9 d17_1 (by decide) rfl (fun q => absurd q (by decide)) (fun _ => ?_)
  refine Own.iloadN d17_4 rfl ?_
  refine Own.iloadN d17_5 rfl ?_
  refine Own.icmp_lt 16 d17_6 (by decide) rfl (fun _ => ?_) (fun q => absurd (by decide) q)
  refine Own.iloadN d17_16 rfl ?_
  refine Own.ret_int rfl d17_17 (by decide) (by decide) (fun Sf hSf => ?_)
  exact ⟨rfl, rfl⟩
theorem ef_rmSIc_4_5 (m : MethodId)   : entryFrame m #[(.int (4 : Int32)), (.int (5 : Int32))] 2 = mkF m 0 #[.val (.int (4 : Int32)), .val (.int (5 : Int32))] [] := by simp [entryFrame, mkF, argsToLocals, Value.category]
theorem rmSIc_4_5 (l : Launch) (Z : State) (a0 : Array Value) (hw : HW a0 Z) (ws : List Jvm.Cond) (vf : Value) (h0 : Heap) (n0 : Nat) (hn : n0 ≤ h0.size) (S_F : Sta Z h0 "jdk/internal/util/Preconditions" "SIOOBE_FORMATTER" "Ljava/util/function/BiFunction;" vf) (hvf : vf.isRef = true) :
    Met own_EL l Z (⟨"java/lang/String", "checkIndex", "(II)V"⟩ : MethodName) jdk_42_method_155_code 2 none ({ frames := 1, cells := 0, slots := 0, locals := 14 } : Room) ws #[(.int (4 : Int32)), (.int (5 : Int32))] h0 n0 [] (Pur0 h0) := by
  refine Met.of pn_16 (fun m => ef_rmSIc_4_5 m ) ?_
  refine Own.iloadN d16_0 rfl ?_
  refine Own.iloadN d16_1 rfl ?_
  refine Own.getS_ (host := "") (Or.inl (hw _ (mg 77 rfl))) Via.refl S_F d16_2 ?_
  refine Own.callSP [(.int (4 : Int32)), (.int (5 : Int32)), vf] [] 0 (rmPIc_4_5 l Z a0 hw [] vf h0 n0 hn hvf) (hw _ (mg 79 rfl)) (hw _ (mg 80 rfl)) (hw _ (mg 78 rfl)) (hw _ (mg 81 rfl)) (by decide) d16_5 pd_12 rfl rfl rfl rfl (by decide) (by decide) (by decide) (by decide) ?_
  refine Own.pop d16_8 rfl ?_
  refine Own.ret_void rfl d16_9 (by decide) (by decide) (fun Sf hSf => ?_)
  exact ⟨rfl, rfl⟩
theorem ef_rmLC4_5 (m : MethodId) (a1 : Addr)  : entryFrame m #[(.ref a1), (.int (4 : Int32))] 2 = mkF m 0 #[.val (.ref a1), .val (.int (4 : Int32))] [] := by simp [entryFrame, mkF, argsToLocals, Value.category]
theorem rmLC4_5 (l : Launch) (Z : State) (a0 : Array Value) (hw : HW a0 Z) (ws : List Jvm.Cond) (a1 : Addr) (ka : ClassId) (vs : List Value) (x : Int32) (vf : Value) (h0 : Heap) (n0 : Nat) (hn : n0 ≤ h0.size) (V_a1 : Arl Z h0 a1 ka .byte vs) (hl : vs.length = 5) (hx : vs[4]? = some (.int x)) (S_F : Sta Z h0 "jdk/internal/util/Preconditions" "SIOOBE_FORMATTER" "Ljava/util/function/BiFunction;" vf) (hvf : vf.isRef = true) :
    Met own_EL l Z (⟨"java/lang/StringLatin1", "charAt", "([BI)C"⟩ : MethodName) jdk_43_method_2_code 2 (some .char) ({ frames := 2, cells := 0, slots := 0, locals := 27 } : Room) ws #[(.ref a1), (.int (4 : Int32))] h0 n0 [] (Pur (.int (own_lc x)) h0) := by
  refine Met.of pn_15 (fun m => ef_rmLC4_5 m a1) ?_
  refine Own.iloadN d15_0 rfl ?_
  refine Own.aloadN d15_1 rfl rfl ?_
  refine Own.arraylength_ (5 : Int32) V_a1 (by rw [hl]; rfl) d15_2 ?_
  refine Own.callS0 [(.int (4 : Int32)), (.int (5 : Int32))] [] 0 (rmSIc_4_5 l Z a0 hw [] vf h0 n0 hn S_F hvf) (hw _ (mg 74 rfl)) (hw _ (mg 75 rfl)) (hw _ (mg 7 rfl)) (hw _ (mg 76 rfl)) (by decide) d15_3 pd_10 rfl rfl rfl rfl (by decide) (by decide) (by decide) (by decide) ?_
  refine Own.aloadN d15_6 rfl rfl ?_
  refine Own.iloadN d15_7 rfl ?_
  refine Own.baload_ V_a1 (i := 4) rfl (v := (.int x)) hx d15_8 ?_
  refine Own.sipush (255 : Int32) d15_9 rfl ?_
  refine Own.iand d15_12 ?_
  refine Own.i2c d15_13 ?_
  refine Own.ret_nar (t := .char) (by simp) rfl d15_14 (by decide) (by decide) (fun Sf hSf => ?_)
  exact ⟨rfl, rfl⟩
theorem ef_rmCA4_5 (m : MethodId) (a1 : Addr)  : entryFrame m #[(.ref a1), (.int (4 : Int32))] 2 = mkF m 0 #[.val (.ref a1), .val (.int (4 : Int32))] [] := by simp [entryFrame, mkF, argsToLocals, Value.category]
theorem rmCA4_5 (l : Launch) (Z : State) (a0 : Array Value) (hw : HW a0 Z) (ws : List Jvm.Cond) (a1 : Addr) (b : Addr) (kb : ClassId) (vs : List Value) (x : Int32) (zc : Int32) (vf : Value) (h0 : Heap) (n0 : Nat) (hn : n0 ≤ h0.size) (X_a1 : XSt Z h0 a1) (F_value_a1 : FSv Z h0 a1 (.ref b)) (F_coder_a1 : FSc Z h0 a1 Z0) (V_b : Arl Z h0 b kb .byte vs) (hl : vs.length = 5) (hx : vs[4]? = some (.int (nar .byte (x.toInt8.toInt32)))) (S_C : Sta Z h0 "java/lang/String" "COMPACT_STRINGS" "Z" (.int zc)) (S_F : Sta Z h0 "jdk/internal/util/Preconditions" "SIOOBE_FORMATTER" "Ljava/util/function/BiFunction;" vf) (hz : ¬ zc = 0) (hvf : vf.isRef = true) (hr : 0 ≤ x.toInt ∧ x.toInt < 65536) (hlat : ¬ (255 : Int32) < x) :
    Met own_EL l Z (⟨"java/lang/String", "charAt", "(I)C"⟩ : MethodName) jdk_42_method_56_code 2 (some .char) ({ frames := 3, cells := 0, slots := 0, locals := 40 } : Room) ws #[(.ref a1), (.int (4 : Int32))] h0 n0 [] (Pur (.int x) h0) := by
  refine Met.of pn_13 (fun m => ef_rmCA4_5 m a1) ?_
  refine Own.aloadN d13_0 rfl rfl ?_
  refine Own.callVP a1 [] [] 0 (rm_lat_5 l Z a0 hw [] a1 b kb vs zc h0 n0 hn X_a1 F_value_a1 F_coder_a1 V_b hl S_C hz) (hw _ (mg 65 rfl)) (hw _ (mg 66 rfl)) (fun s hZ => notFace_of_selects (args := #[]) (mvT hZ (hw _ (mg 68 rfl)))) (hw _ (mg 68 rfl)) (hw _ (mg 67 rfl)) (hw _ (mg 7 rfl)) (hw _ (mg 69 rfl)) (by decide) X_a1 d13_1 pd_4 rfl rfl rfl rfl (by decide) (by decide) (by decide) (by decide) ?_
  refine Own.if_eq 16 d13_4 (by decide) rfl (fun q => absurd q (by decide)) (fun _ => ?_)
  refine Own.aloadN d13_7 rfl rfl ?_
  refine Own.getF_ (host := "") (Or.inl (hw _ (mg 33 rfl))) Via.refl F_value_a1 d13_8 ?_
  refine Own.iloadN d13_11 rfl ?_
  refine Own.callSP [(.ref b), (.int (4 : Int32))] [] 0 (rmLC4_5 l Z a0 hw [] b kb vs _ vf h0 n0 hn V_b hl hx S_F hvf) (hw _ (mg 70 rfl)) (hw _ (mg 71 rfl)) (hw _ (mg 72 rfl)) (hw _ (mg 73 rfl)) (by decide) d13_12 pd_23 rfl rfl rfl rfl (by decide) (by decide) (by decide) (by decide) ?_
  refine Own.ret_nar (t := .char) (by simp) rfl d13_15 (by decide) (by decide) (fun Sf hSf => ?_)
  exact ⟨congrArg (fun z => some (Value.int z)) (by rw [own_lcv hr.1 hlat, own_ncv hr.1 hr.2]), rfl⟩
theorem ef_rmEX4_2 (m : MethodId) (d0 : Int32) (d1 : Int32) (e0 : Int32) (e1 : Int32)  : entryFrame m #[(.int (4 : Int32)), (.int (2 : Int32)), (.int d0), (.int d1), (.int e0), (.int e1)] 7 = mkF m 0 #[.val (.int (4 : Int32)), .val (.int (2 : Int32)), .val (.int d0), .val (.int d1), .val (.int e0), .val (.int e1), .unset] [] := by simp [entryFrame, mkF, argsToLocals, Value.category]
theorem rmEX4_2 (l : Launch) (Z : State) (a0 : Array Value) (hw : HW a0 Z) (ws : List Jvm.Cond) (d0 : Int32) (d1 : Int32) (e0 : Int32) (e1 : Int32) (h0 : Heap) (n0 : Nat) (hn : n0 ≤ h0.size) :
    Met own_EL l Z (⟨"com/example/hits_by_heading/hitsbyheading/document/DocumentSectionLocationPinLaw", "expected", "(IICCCC)C"⟩ : MethodName) method_5_code 7 (some .char) ({ frames := 0, cells := 0, slots := 0, locals := 0 } : Room) ws #[(.int (4 : Int32)), (.int (2 : Int32)), (.int d0), (.int d1), (.int e0), (.int e1)] h0 n0 [] (Pur (.int (nar .char e1)) h0) := by
  refine Met.of pn_18 (fun m => ef_rmEX4_2 m d0 d1 e0 e1) ?_
  refine Own.iloadN d18_0 rfl ?_
  refine Own.iloadN d18_1 rfl ?_
  refine Own.icmp_ge 15 d18_2 (by decide) rfl (fun _ => ?_) (fun q => absurd q (by decide))
  refine Own.iloadN d18_15 rfl ?_
  refine Own.iloadN d18_16 rfl ?_
  refine Own.icmp_ne 23 d18_17 (by decide) rfl (fun _ => ?_) (fun q => absurd q (by decide))
  refine Own.iloadN d18_23 rfl ?_
  refine Own.iloadN d18_24 rfl ?_
  refine Own.isub d18_25 ?_
  refine OAt.cast (st' := [(.int (2 : Int32))]) rfl ?_
  refine Own.iconst (1 : Int32) d18_26 rfl ?_
  refine Own.isub d18_27 ?_
  refine OAt.cast (st' := [(.int (1 : Int32))]) rfl ?_
  refine Own.istore #[.val (.int (4 : Int32)), .val (.int (2 : Int32)), .val (.int d0), .val (.int d1), .val (.int e0), .val (.int e1), .val (.int (1 : Int32))] d18_28 rfl ?_
  refine Own.iload d18_30 rfl ?_
  refine Own.if_ne 40 d18_32 (by decide) rfl (fun _ => ?_) (fun q => absurd q (by decide))
  refine Own.iload d18_40 rfl ?_
  refine Own.ret_nar (t := .char) (by simp) rfl d18_42 (by decide) (by decide) (fun Sf hSf => ?_)
  exact ⟨rfl, rfl⟩
theorem ef_rmOK4_5_2 (m : MethodId) (a1 : Addr) (d0 : Int32) (d1 : Int32) (e0 : Int32) (e1 : Int32)  : entryFrame m #[(.ref a1), (.int (4 : Int32)), (.int (5 : Int32)), (.int (2 : Int32)), (.int d0), (.int d1), (.int e0), (.int e1)] 8 = mkF m 0 #[.val (.ref a1), .val (.int (4 : Int32)), .val (.int (5 : Int32)), .val (.int (2 : Int32)), .val (.int d0), .val (.int d1), .val (.int e0), .val (.int e1)] [] := by simp [entryFrame, mkF, argsToLocals, Value.category]
theorem rmOK4_5_2 (l : Launch) (Z : State) (a0 : Array Value) (hw : HW a0 Z) (ws : List Jvm.Cond) (a1 : Addr) (d0 : Int32) (d1 : Int32) (e0 : Int32) (e1 : Int32) (b : Addr) (kb : ClassId) (vs : List Value) (zc : Int32) (vf : Value) (h0 : Heap) (n0 : Nat) (hn : n0 ≤ h0.size) (X_a1 : XSt Z h0 a1) (F_value_a1 : FSv Z h0 a1 (.ref b)) (F_coder_a1 : FSc Z h0 a1 Z0) (V_b : Arl Z h0 b kb .byte vs) (hl : vs.length = 5) (hx : vs[4]? = some (.int (nar .byte ((nar .char e1).toInt8.toInt32)))) (S_C : Sta Z h0 "java/lang/String" "COMPACT_STRINGS" "Z" (.int zc)) (S_F : Sta Z h0 "jdk/internal/util/Preconditions" "SIOOBE_FORMATTER" "Ljava/util/function/BiFunction;" vf) (hz : ¬ zc = 0) (hvf : vf.isRef = true) (hlat : ¬ (255 : Int32) < (nar .char e1)) :
    Met own_EL l Z (⟨"com/example/hits_by_heading/hitsbyheading/document/DocumentSectionLocationPinLaw", "ok", "(Ljava/lang/String;IIICCCC)Z"⟩ : MethodName) method_4_code 8 (some .boolean) ({ frames := 4, cells := 0, slots := 0, locals := 53 } : Room) ws #[(.ref a1), (.int (4 : Int32)), (.int (5 : Int32)), (.int (2 : Int32)), (.int d0), (.int d1), (.int e0), (.int e1)] h0 n0 [] (Pur (.int (1 : Int32)) h0) := by
  refine Met.of pn_12 (fun m => ef_rmOK4_5_2 m a1 d0 d1 e0 e1) ?_
  refine Own.iloadN d12_0 rfl ?_
  refine Own.iloadN d12_1 rfl ?_
  refine Own.icmp_lt 7 d12_2 (by decide) rfl (fun _ => ?_) (fun q => absurd (by decide) q)
  refine Own.aloadN d12_7 rfl rfl ?_
  refine Own.iloadN d12_8 rfl ?_
  refine Own.callVP a1 [(.int (4 : Int32))] [] 0 (rmCA4_5 l Z a0 hw [] a1 b kb vs (nar .char e1) zc vf h0 n0 hn X_a1 F_value_a1 F_coder_a1 V_b hl hx S_C S_F hz hvf (own_rng _) hlat) (hw _ (mg 60 rfl)) (hw _ (mg 61 rfl)) (fun s hZ => notFace_of_selects (args := #[]) (mvT hZ (hw _ (mg 63 rfl)))) (hw _ (mg 63 rfl)) (hw _ (mg 62 rfl)) (hw _ (mg 7 rfl)) (hw _ (mg 64 rfl)) (by decide) X_a1 d12_9 pd_6 rfl rfl rfl rfl (by decide) (by decide) (by decide) (by decide) ?_
  refine Own.iloadN d12_12 rfl ?_
  refine Own.iloadN d12_13 rfl ?_
  refine Own.iload d12_14 rfl ?_
  refine Own.iload d12_16 rfl ?_
  refine Own.iload d12_18 rfl ?_
  refine Own.iload d12_20 rfl ?_
  refine Own.callSP [(.int (4 : Int32)), (.int (2 : Int32)), (.int d0), (.int d1), (.int e0), (.int e1)] [(.int (nar .char e1))] 1 (rmEX4_2 l Z a0 hw [] d0 d1 e0 e1 h0 n0 hn) (hw _ (mg 82 rfl)) (hw _ (mg 83 rfl)) (hw _ (mg 3 rfl)) (hw _ (mg 84 rfl)) (by decide) d12_22 pd_11 rfl rfl rfl rfl (by decide) (by decide) (by decide) (by decide) ?_
  refine Own.icmp_ne 32 d12_25 (by decide) rfl (fun q => absurd rfl q) (fun _ => ?_)
  refine Own.iconst (1 : Int32) d12_28 rfl ?_
  refine Own.goto_ 33 d12_29 (by decide) rfl ?_
  refine Own.ret_nar (t := .boolean) (by simp) rfl d12_33 (by decide) (by decide) (fun Sf hSf => ?_)
  exact ⟨rfl, rfl⟩
theorem pd_8 : parseMethodDescriptor "(ICC)Ljava/lang/String;" = some ⟨[.int, .char, .char], some (.object "java/lang/String")⟩ := by decide +kernel
theorem pd_20 : parseMethodDescriptor "(Ljava/lang/String;Ljava/lang/String;)Ljava/lang/String;" = some ⟨[(.object "java/lang/String"), (.object "java/lang/String")], some (.object "java/lang/String")⟩ := by decide +kernel
theorem pd_19 : parseMethodDescriptor "(Ljava/lang/String;IIICCCC)Z" = some ⟨[(.object "java/lang/String"), .int, .int, .int, .char, .char, .char, .char], some .boolean⟩ := by decide +kernel
def Q_rm0 (Z : State)  (h0 : Heap) (n0 : Nat) (v : Option Value) (h : Heap) (Sf : Addr → Prop) : Prop := v = some (.int 1)
theorem ef_rm0 (m : MethodId) (p0 : Int32) (p1 : Int32) (p2 : Int32)  : entryFrame m #[(.int p0), (.int p1), (.int p2)] maxLocals = mkF m 0 #[.val (.int p0), .val (.int p1), .val (.int p2), .unset, .unset, .unset, .unset, .unset, .unset, .unset, .unset, .unset, .unset] [] := by first | (simp [entryFrame, mkF, argsToLocals, Value.category, maxLocals]; done) | rfl
theorem pn_0 : plainFor (⟨"com/example/hits_by_heading/hitsbyheading/document/DocumentSectionLocationPinLaw", "law", "(III)Z"⟩ : MethodName) = true := plainFor_of_name (show plainName "com/example/hits_by_heading/hitsbyheading/document/DocumentSectionLocationPinLaw" = true by first | (simp [plainName, overriddenIn]; done) | decide +kernel)
theorem rm0 (l : Launch) (Z : State) (a0 : Array Value) (hw : HW a0 Z) (ws : List Jvm.Cond) (p0 : Int32) (p1 : Int32) (p2 : Int32) (zc : Int32) (vf : Value) (h0 : Heap) (n0 : Nat) (hn : n0 ≤ h0.size) (S_C : Sta Z h0 "java/lang/String" "COMPACT_STRINGS" "Z" (.int zc)) (S_F : Sta Z h0 "jdk/internal/util/Preconditions" "SIOOBE_FORMATTER" "Ljava/util/function/BiFunction;" vf) (hz : ¬ zc = 0) (hvf : vf.isRef = true) :
    Met own_EL l Z x code maxLocals ret room_1 ws #[(.int p0), (.int p1), (.int p2)] h0 n0 [] (Q_rm0 Z  h0 n0) := by
  refine Met.of pn_0 (fun m => ef_rm0 m p0 p1 p2) ?_
  refine Own.iloadN at_0 rfl ?_
  refine Own.ldcInt (hw _ (mg 0 rfl)) at_1 ?_
  refine Own.iand at_3 ?_
  refine Own.iconst (3 : Int32) at_4 rfl ?_
  refine Own.irem_ at_5 (by decide) ?_
  obtain ⟨dl, e_dl⟩ : ∃ z : Int32, z = ((p2 &&& (2147483647 : Int32)) % (3 : Int32)) := ⟨_, rfl⟩
  rw [← e_dl]
  refine Own.istoreN #[.val (.int p0), .val (.int p1), .val (.int p2), .val (.int dl), .unset, .unset, .unset, .unset, .unset, .unset, .unset, .unset, .unset] at_6 rfl ?_
  refine Own.iloadN at_7 rfl ?_
  refine Own.iconst (2 : Int32) at_8 rfl ?_
  refine Own.iushr at_9 ?_
  refine Own.ldcInt (hw _ (mg 0 rfl)) at_10 ?_
  refine Own.iand at_12 ?_
  refine Own.iconst (3 : Int32) at_13 rfl ?_
  refine Own.irem_ at_14 (by decide) ?_
  obtain ⟨al, e_al⟩ : ∃ z : Int32, z = ((((p2.toUInt32 >>> ((2 : Int32) &&& 31).toUInt32).toInt32) &&& (2147483647 : Int32)) % (3 : Int32)) := ⟨_, rfl⟩
  rw [← e_al]
  refine Own.istore #[.val (.int p0), .val (.int p1), .val (.int p2), .val (.int dl), .val (.int al), .unset, .unset, .unset, .unset, .unset, .unset, .unset, .unset] at_15 rfl ?_
  refine Own.iloadN at_17 rfl ?_
  refine Own.sipush (255 : Int32) at_18 rfl ?_
  refine Own.iand at_21 ?_
  refine Own.i2c at_22 ?_
  obtain ⟨d0, e_d0⟩ : ∃ z : Int32, z = ((p0 &&& (255 : Int32)).toUInt32.toUInt16.toUInt32.toInt32) := ⟨_, rfl⟩
  rw [← e_d0]
  refine Own.istore #[.val (.int p0), .val (.int p1), .val (.int p2), .val (.int dl), .val (.int al), .val (.int d0), .unset, .unset, .unset, .unset, .unset, .unset, .unset] at_23 rfl ?_
  refine Own.iloadN at_25 rfl ?_
  refine Own.bipush (8 : Int32) at_26 rfl ?_
  refine Own.iushr at_28 ?_
  refine Own.sipush (255 : Int32) at_29 rfl ?_
  refine Own.iand at_32 ?_
  refine Own.i2c at_33 ?_
  obtain ⟨d1, e_d1⟩ : ∃ z : Int32, z = ((((p0.toUInt32 >>> ((8 : Int32) &&& 31).toUInt32).toInt32) &&& (255 : Int32)).toUInt32.toUInt16.toUInt32.toInt32) := ⟨_, rfl⟩
  rw [← e_d1]
  refine Own.istore #[.val (.int p0), .val (.int p1), .val (.int p2), .val (.int dl), .val (.int al), .val (.int d0), .val (.int d1), .unset, .unset, .unset, .unset, .unset, .unset] at_34 rfl ?_
  refine Own.iloadN at_36 rfl ?_
  refine Own.sipush (255 : Int32) at_37 rfl ?_
  refine Own.iand at_40 ?_
  refine Own.i2c at_41 ?_
  obtain ⟨e0, e_e0⟩ : ∃ z : Int32, z = ((p1 &&& (255 : Int32)).toUInt32.toUInt16.toUInt32.toInt32) := ⟨_, rfl⟩
  rw [← e_e0]
  refine Own.istore #[.val (.int p0), .val (.int p1), .val (.int p2), .val (.int dl), .val (.int al), .val (.int d0), .val (.int d1), .val (.int e0), .unset, .unset, .unset, .unset, .unset] at_42 rfl ?_
  refine Own.iloadN at_44 rfl ?_
  refine Own.bipush (8 : Int32) at_45 rfl ?_
  refine Own.iushr at_47 ?_
  refine Own.sipush (255 : Int32) at_48 rfl ?_
  refine Own.iand at_51 ?_
  refine Own.i2c at_52 ?_
  obtain ⟨e1, e_e1⟩ : ∃ z : Int32, z = ((((p1.toUInt32 >>> ((8 : Int32) &&& 31).toUInt32).toInt32) &&& (255 : Int32)).toUInt32.toUInt16.toUInt32.toInt32) := ⟨_, rfl⟩
  rw [← e_e1]
  refine Own.istore #[.val (.int p0), .val (.int p1), .val (.int p2), .val (.int dl), .val (.int al), .val (.int d0), .val (.int d1), .val (.int e0), .val (.int e1), .unset, .unset, .unset, .unset] at_53 rfl ?_
  have hd0 : ¬ (255 : Int32) < nar .char d0 := by rw [e_d0]; exact own_255 _
  have hd1 : ¬ (255 : Int32) < nar .char d1 := by rw [e_d1]; exact own_255 _
  have he0 : ¬ (255 : Int32) < nar .char e0 := by rw [e_e0]; exact own_255 _
  have he1 : ¬ (255 : Int32) < nar .char e1 := by rw [e_e1]; exact own_255 _
  have hdl : dl = 0 ∨ dl = 1 ∨ dl = 2 := by rw [e_dl]; exact own_f3 _
  have hal : al = 0 ∨ al = 1 ∨ al = 2 := by rw [e_al]; exact own_f3 _
  rcases hdl with rfl | rfl | rfl
  · rcases hal with rfl | rfl | rfl
    · refine Own.iloadN at_55 rfl ?_
      refine Own.iload at_56 rfl ?_
      refine Own.iload at_58 rfl ?_
      refine Own.callS_ [Z0, (.int d0), (.int d1)] [] 0 (rmMk0 l Z a0 hw [] d0 d1 zc h0 n0 hn S_C hz hd0 hd1) all0 (hw _ (mg 1 rfl)) (hw _ (mg 2 rfl)) (hw _ (mg 3 rfl)) (hw _ (mg 4 rfl)) (by decide) at_60 pd_8 rfl rfl rfl rfl (by decide) (by decide) (by decide) (by decide) (fun v262 h262 S262 hq262 => ?_)
      obtain ⟨K263, s263, t263, kt263, rfl, X_s263, F_value_s263, F_coder_s263, V_t263⟩ := hq262
      have hn := Nat.le_trans hn K263.1
      replace S_C := sta_keep S_C K263 ns0
      replace S_F := sta_keep S_F K263 ns0
      refine ⟨[], all0, ?_⟩
      refine OAt.cast (st' := [(.ref s263)]) rfl ?_
      refine Own.astore #[.val (.int p0), .val (.int p1), .val (.int p2), .val Z0, .val Z0, .val (.int d0), .val (.int d1), .val (.int e0), .val (.int e1), .val (.ref s263), .unset, .unset, .unset] at_63 rfl rfl ?_
      refine Own.iload at_65 rfl ?_
      refine Own.iload at_67 rfl ?_
      refine Own.iload at_69 rfl ?_
      refine Own.callS_ [Z0, (.int e0), (.int e1)] [] 0 (rmMk0 l Z a0 hw [] e0 e1 zc h262 n0 hn S_C hz he0 he1) all0 (hw _ (mg 1 rfl)) (hw _ (mg 2 rfl)) (hw _ (mg 3 rfl)) (hw _ (mg 4 rfl)) (by decide) at_71 pd_8 rfl rfl rfl rfl (by decide) (by decide) (by decide) (by decide) (fun v264 h264 S264 hq264 => ?_)
      obtain ⟨K265, s265, t265, kt265, rfl, X_s265, F_value_s265, F_coder_s265, V_t265⟩ := hq264
      have hn := Nat.le_trans hn K265.1
      replace S_C := sta_keep S_C K265 ns0
      replace S_F := sta_keep S_F K265 ns0
      replace X_s263 := X_s263.keep K265
      replace F_value_s263 := F_value_s263.keep K265 nin0
      replace F_coder_s263 := F_coder_s263.keep K265 nin0
      replace V_t263 := V_t263.keep K265 nin0
      refine ⟨[], all0, ?_⟩
      refine OAt.cast (st' := [(.ref s265)]) rfl ?_
      refine Own.astore #[.val (.int p0), .val (.int p1), .val (.int p2), .val Z0, .val Z0, .val (.int d0), .val (.int d1), .val (.int e0), .val (.int e1), .val (.ref s263), .val (.ref s265), .unset, .unset] at_74 rfl rfl ?_
      refine Own.aload at_76 rfl rfl ?_
      refine Own.aload at_78 rfl rfl ?_
      refine Own.callS_ [(.ref s263), (.ref s265)] [] 0 (rmSL0_0 l Z a0 hw [] s263 t263 kt263 s265 t265 kt265 zc  h264 n0 hn X_s263 F_value_s263 F_coder_s263 V_t263 X_s265 F_value_s265 F_coder_s265 V_t265 S_C hz) all0 (hw _ (mg 38 rfl)) (hw _ (mg 39 rfl)) (hw _ (mg 40 rfl)) (hw _ (mg 41 rfl)) (by decide) at_80 pd_20 rfl rfl rfl rfl (by decide) (by decide) (by decide) (by decide) (fun v266 h266 S266 hq266 => ?_)
      obtain ⟨K267, s267, t267, kt267, rfl, X_s267, F_value_s267, F_coder_s267, V_t267⟩ := hq266
      have hn := Nat.le_trans hn K267.1
      replace S_C := sta_keep S_C K267 ns0
      replace S_F := sta_keep S_F K267 ns0
      refine ⟨[], all0, ?_⟩
      refine OAt.cast (st' := [(.ref s267)]) rfl ?_
      refine Own.astore #[.val (.int p0), .val (.int p1), .val (.int p2), .val Z0, .val Z0, .val (.int d0), .val (.int d1), .val (.int e0), .val (.int e1), .val (.ref s263), .val (.ref s265), .val (.ref s267), .unset] at_83 rfl rfl ?_
      refine Own.aload at_85 rfl rfl ?_
      refine Own.ifnonnullYes 92 at_87 (by decide) rfl ?_
      refine Own.iload at_92 rfl ?_
      refine Own.if_ne 101 at_94 (by decide) rfl (fun q => absurd (by decide) q) (fun _ => ?_)
      refine Own.iloadN at_97 rfl ?_
      refine Own.goto_ 107 at_98 (by decide) rfl ?_
      refine Own.istore #[.val (.int p0), .val (.int p1), .val (.int p2), .val Z0, .val Z0, .val (.int d0), .val (.int d1), .val (.int e0), .val (.int e1), .val (.ref s263), .val (.ref s265), .val (.ref s267), .val Z0] at_107 rfl ?_
      refine Own.aload at_109 rfl rfl ?_
      refine Own.callVP s267 [] [] 0 (rm_len_0 l Z a0 hw [] s267 t267 kt267 _ zc h266 n0 hn X_s267 F_value_s267 F_coder_s267 V_t267 rfl S_C hz) (hw _ (mg 47 rfl)) (hw _ (mg 48 rfl)) (fun s hZ => notFace_of_selects (args := #[]) (mvT hZ (hw _ (mg 50 rfl)))) (hw _ (mg 50 rfl)) (hw _ (mg 49 rfl)) (hw _ (mg 7 rfl)) (hw _ (mg 51 rfl)) (by decide) X_s267 at_111 pd_1 rfl rfl rfl rfl (by decide) (by decide) (by decide) (by decide) ?_
      refine Own.iload at_114 rfl ?_
      refine Own.icmp_eq 121 at_116 (by decide) rfl (fun _ => ?_) (fun q => absurd (by decide) q)
      refine Own.aload at_121 rfl rfl ?_
      refine Own.iconst (0 : Int32) at_123 rfl ?_
      refine Own.iload at_124 rfl ?_
      refine Own.iloadN at_126 rfl ?_
      refine Own.iload at_127 rfl ?_
      refine Own.iload at_129 rfl ?_
      refine Own.iload at_131 rfl ?_
      refine Own.iload at_133 rfl ?_
      refine Own.callSP [(.ref s267), Z0, Z0, Z0, (.int d0), (.int d1), (.int e0), (.int e1)] [] 0 (rmOK0_0_0 l Z a0 hw [] s267 d0 d1 e0 e1 h266 n0 hn) (hw _ (mg 57 rfl)) (hw _ (mg 58 rfl)) (hw _ (mg 3 rfl)) (hw _ (mg 59 rfl)) (by decide) at_135 pd_19 rfl rfl rfl rfl (by decide) (by decide) (by decide) (by decide) ?_
      refine Own.if_eq 225 at_138 (by decide) rfl (fun q => absurd q (by decide)) (fun _ => ?_)
      refine Own.aload at_141 rfl rfl ?_
      refine Own.iconst (1 : Int32) at_143 rfl ?_
      refine Own.iload at_144 rfl ?_
      refine Own.iloadN at_146 rfl ?_
      refine Own.iload at_147 rfl ?_
      refine Own.iload at_149 rfl ?_
      refine Own.iload at_151 rfl ?_
      refine Own.iload at_153 rfl ?_
      refine Own.callSP [(.ref s267), (.int (1 : Int32)), Z0, Z0, (.int d0), (.int d1), (.int e0), (.int e1)] [] 0 (rmOK1_0_0 l Z a0 hw [] s267 d0 d1 e0 e1 h266 n0 hn) (hw _ (mg 57 rfl)) (hw _ (mg 58 rfl)) (hw _ (mg 3 rfl)) (hw _ (mg 59 rfl)) (by decide) at_155 pd_19 rfl rfl rfl rfl (by decide) (by decide) (by decide) (by decide) ?_
      refine Own.if_eq 225 at_158 (by decide) rfl (fun q => absurd q (by decide)) (fun _ => ?_)
      refine Own.aload at_161 rfl rfl ?_
      refine Own.iconst (2 : Int32) at_163 rfl ?_
      refine Own.iload at_164 rfl ?_
      refine Own.iloadN at_166 rfl ?_
      refine Own.iload at_167 rfl ?_
      refine Own.iload at_169 rfl ?_
      refine Own.iload at_171 rfl ?_
      refine Own.iload at_173 rfl ?_
      refine Own.callSP [(.ref s267), (.int (2 : Int32)), Z0, Z0, (.int d0), (.int d1), (.int e0), (.int e1)] [] 0 (rmOK2_0_0 l Z a0 hw [] s267 d0 d1 e0 e1 h266 n0 hn) (hw _ (mg 57 rfl)) (hw _ (mg 58 rfl)) (hw _ (mg 3 rfl)) (hw _ (mg 59 rfl)) (by decide) at_175 pd_19 rfl rfl rfl rfl (by decide) (by decide) (by decide) (by decide) ?_
      refine Own.if_eq 225 at_178 (by decide) rfl (fun q => absurd q (by decide)) (fun _ => ?_)
      refine Own.aload at_181 rfl rfl ?_
      refine Own.iconst (3 : Int32) at_183 rfl ?_
      refine Own.iload at_184 rfl ?_
      refine Own.iloadN at_186 rfl ?_
      refine Own.iload at_187 rfl ?_
      refine Own.iload at_189 rfl ?_
      refine Own.iload at_191 rfl ?_
      refine Own.iload at_193 rfl ?_
      refine Own.callSP [(.ref s267), (.int (3 : Int32)), Z0, Z0, (.int d0), (.int d1), (.int e0), (.int e1)] [] 0 (rmOK3_0_0 l Z a0 hw [] s267 d0 d1 e0 e1 h266 n0 hn) (hw _ (mg 57 rfl)) (hw _ (mg 58 rfl)) (hw _ (mg 3 rfl)) (hw _ (mg 59 rfl)) (by decide) at_195 pd_19 rfl rfl rfl rfl (by decide) (by decide) (by decide) (by decide) ?_
      refine Own.if_eq 225 at_198 (by decide) rfl (fun q => absurd q (by decide)) (fun _ => ?_)
      refine Own.aload at_201 rfl rfl ?_
      refine Own.iconst (4 : Int32) at_203 rfl ?_
      refine Own.iload at_204 rfl ?_
      refine Own.iloadN at_206 rfl ?_
      refine Own.iload at_207 rfl ?_
      refine Own.iload at_209 rfl ?_
      refine Own.iload at_211 rfl ?_
      refine Own.iload at_213 rfl ?_
      refine Own.callSP [(.ref s267), (.int (4 : Int32)), Z0, Z0, (.int d0), (.int d1), (.int e0), (.int e1)] [] 0 (rmOK4_0_0 l Z a0 hw [] s267 d0 d1 e0 e1 h266 n0 hn) (hw _ (mg 57 rfl)) (hw _ (mg 58 rfl)) (hw _ (mg 3 rfl)) (hw _ (mg 59 rfl)) (by decide) at_215 pd_19 rfl rfl rfl rfl (by decide) (by decide) (by decide) (by decide) ?_
      refine Own.if_eq 225 at_218 (by decide) rfl (fun q => absurd q (by decide)) (fun _ => ?_)
      refine Own.iconst (1 : Int32) at_221 rfl ?_
      refine Own.goto_ 226 at_222 (by decide) rfl ?_
      refine Own.ret_nar (t := .boolean) (by simp) rfl at_226 (by decide) (by decide) (fun Sf hSf => ?_)
      exact rfl
    · refine Own.iloadN at_55 rfl ?_
      refine Own.iload at_56 rfl ?_
      refine Own.iload at_58 rfl ?_
      refine Own.callS_ [Z0, (.int d0), (.int d1)] [] 0 (rmMk0 l Z a0 hw [] d0 d1 zc h0 n0 hn S_C hz hd0 hd1) all0 (hw _ (mg 1 rfl)) (hw _ (mg 2 rfl)) (hw _ (mg 3 rfl)) (hw _ (mg 4 rfl)) (by decide) at_60 pd_8 rfl rfl rfl rfl (by decide) (by decide) (by decide) (by decide) (fun v268 h268 S268 hq268 => ?_)
      obtain ⟨K269, s269, t269, kt269, rfl, X_s269, F_value_s269, F_coder_s269, V_t269⟩ := hq268
      have hn := Nat.le_trans hn K269.1
      replace S_C := sta_keep S_C K269 ns0
      replace S_F := sta_keep S_F K269 ns0
      refine ⟨[], all0, ?_⟩
      refine OAt.cast (st' := [(.ref s269)]) rfl ?_
      refine Own.astore #[.val (.int p0), .val (.int p1), .val (.int p2), .val Z0, .val (.int (1 : Int32)), .val (.int d0), .val (.int d1), .val (.int e0), .val (.int e1), .val (.ref s269), .unset, .unset, .unset] at_63 rfl rfl ?_
      refine Own.iload at_65 rfl ?_
      refine Own.iload at_67 rfl ?_
      refine Own.iload at_69 rfl ?_
      refine Own.callS_ [(.int (1 : Int32)), (.int e0), (.int e1)] [] 0 (rmMk1 l Z a0 hw [] e0 e1 zc h268 n0 hn S_C hz he0 he1) all0 (hw _ (mg 1 rfl)) (hw _ (mg 2 rfl)) (hw _ (mg 3 rfl)) (hw _ (mg 4 rfl)) (by decide) at_71 pd_8 rfl rfl rfl rfl (by decide) (by decide) (by decide) (by decide) (fun v270 h270 S270 hq270 => ?_)
      obtain ⟨K271, s271, t271, kt271, rfl, X_s271, F_value_s271, F_coder_s271, V_t271⟩ := hq270
      have hn := Nat.le_trans hn K271.1
      replace S_C := sta_keep S_C K271 ns0
      replace S_F := sta_keep S_F K271 ns0
      replace X_s269 := X_s269.keep K271
      replace F_value_s269 := F_value_s269.keep K271 nin0
      replace F_coder_s269 := F_coder_s269.keep K271 nin0
      replace V_t269 := V_t269.keep K271 nin0
      refine ⟨[], all0, ?_⟩
      refine OAt.cast (st' := [(.ref s271)]) rfl ?_
      refine Own.astore #[.val (.int p0), .val (.int p1), .val (.int p2), .val Z0, .val (.int (1 : Int32)), .val (.int d0), .val (.int d1), .val (.int e0), .val (.int e1), .val (.ref s269), .val (.ref s271), .unset, .unset] at_74 rfl rfl ?_
      refine Own.aload at_76 rfl rfl ?_
      refine Own.aload at_78 rfl rfl ?_
      refine Own.callS_ [(.ref s269), (.ref s271)] [] 0 (rmSL0_1 l Z a0 hw [] s269 t269 kt269 s271 t271 kt271 zc (.int (nar .byte ((nar .char e0).toInt8.toInt32))) h270 n0 hn X_s269 F_value_s269 F_coder_s269 V_t269 X_s271 F_value_s271 F_coder_s271 V_t271 S_C hz) all0 (hw _ (mg 38 rfl)) (hw _ (mg 39 rfl)) (hw _ (mg 40 rfl)) (hw _ (mg 41 rfl)) (by decide) at_80 pd_20 rfl rfl rfl rfl (by decide) (by decide) (by decide) (by decide) (fun v272 h272 S272 hq272 => ?_)
      obtain ⟨K273, s273, t273, kt273, rfl, X_s273, F_value_s273, F_coder_s273, V_t273⟩ := hq272
      have hn := Nat.le_trans hn K273.1
      replace S_C := sta_keep S_C K273 ns0
      replace S_F := sta_keep S_F K273 ns0
      refine ⟨[], all0, ?_⟩
      refine OAt.cast (st' := [(.ref s273)]) rfl ?_
      refine Own.astore #[.val (.int p0), .val (.int p1), .val (.int p2), .val Z0, .val (.int (1 : Int32)), .val (.int d0), .val (.int d1), .val (.int e0), .val (.int e1), .val (.ref s269), .val (.ref s271), .val (.ref s273), .unset] at_83 rfl rfl ?_
      refine Own.aload at_85 rfl rfl ?_
      refine Own.ifnonnullYes 92 at_87 (by decide) rfl ?_
      refine Own.iload at_92 rfl ?_
      refine Own.if_ne 101 at_94 (by decide) rfl (fun _ => ?_) (fun q => absurd q (by decide))
      refine Own.iloadN at_101 rfl ?_
      refine Own.iconst (1 : Int32) at_102 rfl ?_
      refine Own.iadd at_103 ?_
      refine OAt.cast (st' := [(.int (1 : Int32))]) rfl ?_
      refine Own.iload at_104 rfl ?_
      refine Own.iadd at_106 ?_
      refine OAt.cast (st' := [(.int (2 : Int32))]) rfl ?_
      refine Own.istore #[.val (.int p0), .val (.int p1), .val (.int p2), .val Z0, .val (.int (1 : Int32)), .val (.int d0), .val (.int d1), .val (.int e0), .val (.int e1), .val (.ref s269), .val (.ref s271), .val (.ref s273), .val (.int (2 : Int32))] at_107 rfl ?_
      refine Own.aload at_109 rfl rfl ?_
      refine Own.callVP s273 [] [] 0 (rm_len_2 l Z a0 hw [] s273 t273 kt273 _ zc h272 n0 hn X_s273 F_value_s273 F_coder_s273 V_t273 rfl S_C hz) (hw _ (mg 47 rfl)) (hw _ (mg 48 rfl)) (fun s hZ => notFace_of_selects (args := #[]) (mvT hZ (hw _ (mg 50 rfl)))) (hw _ (mg 50 rfl)) (hw _ (mg 49 rfl)) (hw _ (mg 7 rfl)) (hw _ (mg 51 rfl)) (by decide) X_s273 at_111 pd_1 rfl rfl rfl rfl (by decide) (by decide) (by decide) (by decide) ?_
      refine Own.iload at_114 rfl ?_
      refine Own.icmp_eq 121 at_116 (by decide) rfl (fun _ => ?_) (fun q => absurd (by decide) q)
      refine Own.aload at_121 rfl rfl ?_
      refine Own.iconst (0 : Int32) at_123 rfl ?_
      refine Own.iload at_124 rfl ?_
      refine Own.iloadN at_126 rfl ?_
      refine Own.iload at_127 rfl ?_
      refine Own.iload at_129 rfl ?_
      refine Own.iload at_131 rfl ?_
      refine Own.iload at_133 rfl ?_
      refine Own.callSP [(.ref s273), Z0, (.int (2 : Int32)), Z0, (.int d0), (.int d1), (.int e0), (.int e1)] [] 0 (rmOK0_2_0 l Z a0 hw [] s273 d0 d1 e0 e1 t273 kt273 _ zc vf h272 n0 hn X_s273 F_value_s273 F_coder_s273 V_t273 rfl (by rw [own_b35]; rfl) S_C S_F hz hvf ) (hw _ (mg 57 rfl)) (hw _ (mg 58 rfl)) (hw _ (mg 3 rfl)) (hw _ (mg 59 rfl)) (by decide) at_135 pd_19 rfl rfl rfl rfl (by decide) (by decide) (by decide) (by decide) ?_
      refine Own.if_eq 225 at_138 (by decide) rfl (fun q => absurd q (by decide)) (fun _ => ?_)
      refine Own.aload at_141 rfl rfl ?_
      refine Own.iconst (1 : Int32) at_143 rfl ?_
      refine Own.iload at_144 rfl ?_
      refine Own.iloadN at_146 rfl ?_
      refine Own.iload at_147 rfl ?_
      refine Own.iload at_149 rfl ?_
      refine Own.iload at_151 rfl ?_
      refine Own.iload at_153 rfl ?_
      refine Own.callSP [(.ref s273), (.int (1 : Int32)), (.int (2 : Int32)), Z0, (.int d0), (.int d1), (.int e0), (.int e1)] [] 0 (rmOK1_2_0 l Z a0 hw [] s273 d0 d1 e0 e1 t273 kt273 _ zc vf h272 n0 hn X_s273 F_value_s273 F_coder_s273 V_t273 rfl rfl S_C S_F hz hvf he0) (hw _ (mg 57 rfl)) (hw _ (mg 58 rfl)) (hw _ (mg 3 rfl)) (hw _ (mg 59 rfl)) (by decide) at_155 pd_19 rfl rfl rfl rfl (by decide) (by decide) (by decide) (by decide) ?_
      refine Own.if_eq 225 at_158 (by decide) rfl (fun q => absurd q (by decide)) (fun _ => ?_)
      refine Own.aload at_161 rfl rfl ?_
      refine Own.iconst (2 : Int32) at_163 rfl ?_
      refine Own.iload at_164 rfl ?_
      refine Own.iloadN at_166 rfl ?_
      refine Own.iload at_167 rfl ?_
      refine Own.iload at_169 rfl ?_
      refine Own.iload at_171 rfl ?_
      refine Own.iload at_173 rfl ?_
      refine Own.callSP [(.ref s273), (.int (2 : Int32)), (.int (2 : Int32)), Z0, (.int d0), (.int d1), (.int e0), (.int e1)] [] 0 (rmOK2_2_0 l Z a0 hw [] s273 d0 d1 e0 e1 h272 n0 hn) (hw _ (mg 57 rfl)) (hw _ (mg 58 rfl)) (hw _ (mg 3 rfl)) (hw _ (mg 59 rfl)) (by decide) at_175 pd_19 rfl rfl rfl rfl (by decide) (by decide) (by decide) (by decide) ?_
      refine Own.if_eq 225 at_178 (by decide) rfl (fun q => absurd q (by decide)) (fun _ => ?_)
      refine Own.aload at_181 rfl rfl ?_
      refine Own.iconst (3 : Int32) at_183 rfl ?_
      refine Own.iload at_184 rfl ?_
      refine Own.iloadN at_186 rfl ?_
      refine Own.iload at_187 rfl ?_
      refine Own.iload at_189 rfl ?_
      refine Own.iload at_191 rfl ?_
      refine Own.iload at_193 rfl ?_
      refine Own.callSP [(.ref s273), (.int (3 : Int32)), (.int (2 : Int32)), Z0, (.int d0), (.int d1), (.int e0), (.int e1)] [] 0 (rmOK3_2_0 l Z a0 hw [] s273 d0 d1 e0 e1 h272 n0 hn) (hw _ (mg 57 rfl)) (hw _ (mg 58 rfl)) (hw _ (mg 3 rfl)) (hw _ (mg 59 rfl)) (by decide) at_195 pd_19 rfl rfl rfl rfl (by decide) (by decide) (by decide) (by decide) ?_
      refine Own.if_eq 225 at_198 (by decide) rfl (fun q => absurd q (by decide)) (fun _ => ?_)
      refine Own.aload at_201 rfl rfl ?_
      refine Own.iconst (4 : Int32) at_203 rfl ?_
      refine Own.iload at_204 rfl ?_
      refine Own.iloadN at_206 rfl ?_
      refine Own.iload at_207 rfl ?_
      refine Own.iload at_209 rfl ?_
      refine Own.iload at_211 rfl ?_
      refine Own.iload at_213 rfl ?_
      refine Own.callSP [(.ref s273), (.int (4 : Int32)), (.int (2 : Int32)), Z0, (.int d0), (.int d1), (.int e0), (.int e1)] [] 0 (rmOK4_2_0 l Z a0 hw [] s273 d0 d1 e0 e1 h272 n0 hn) (hw _ (mg 57 rfl)) (hw _ (mg 58 rfl)) (hw _ (mg 3 rfl)) (hw _ (mg 59 rfl)) (by decide) at_215 pd_19 rfl rfl rfl rfl (by decide) (by decide) (by decide) (by decide) ?_
      refine Own.if_eq 225 at_218 (by decide) rfl (fun q => absurd q (by decide)) (fun _ => ?_)
      refine Own.iconst (1 : Int32) at_221 rfl ?_
      refine Own.goto_ 226 at_222 (by decide) rfl ?_
      refine Own.ret_nar (t := .boolean) (by simp) rfl at_226 (by decide) (by decide) (fun Sf hSf => ?_)
      exact rfl
    · refine Own.iloadN at_55 rfl ?_
      refine Own.iload at_56 rfl ?_
      refine Own.iload at_58 rfl ?_
      refine Own.callS_ [Z0, (.int d0), (.int d1)] [] 0 (rmMk0 l Z a0 hw [] d0 d1 zc h0 n0 hn S_C hz hd0 hd1) all0 (hw _ (mg 1 rfl)) (hw _ (mg 2 rfl)) (hw _ (mg 3 rfl)) (hw _ (mg 4 rfl)) (by decide) at_60 pd_8 rfl rfl rfl rfl (by decide) (by decide) (by decide) (by decide) (fun v274 h274 S274 hq274 => ?_)
      obtain ⟨K275, s275, t275, kt275, rfl, X_s275, F_value_s275, F_coder_s275, V_t275⟩ := hq274
      have hn := Nat.le_trans hn K275.1
      replace S_C := sta_keep S_C K275 ns0
      replace S_F := sta_keep S_F K275 ns0
      refine ⟨[], all0, ?_⟩
      refine OAt.cast (st' := [(.ref s275)]) rfl ?_
      refine Own.astore #[.val (.int p0), .val (.int p1), .val (.int p2), .val Z0, .val (.int (2 : Int32)), .val (.int d0), .val (.int d1), .val (.int e0), .val (.int e1), .val (.ref s275), .unset, .unset, .unset] at_63 rfl rfl ?_
      refine Own.iload at_65 rfl ?_
      refine Own.iload at_67 rfl ?_
      refine Own.iload at_69 rfl ?_
      refine Own.callS_ [(.int (2 : Int32)), (.int e0), (.int e1)] [] 0 (rmMk2 l Z a0 hw [] e0 e1 zc h274 n0 hn S_C hz he0 he1) all0 (hw _ (mg 1 rfl)) (hw _ (mg 2 rfl)) (hw _ (mg 3 rfl)) (hw _ (mg 4 rfl)) (by decide) at_71 pd_8 rfl rfl rfl rfl (by decide) (by decide) (by decide) (by decide) (fun v276 h276 S276 hq276 => ?_)
      obtain ⟨K277, s277, t277, kt277, rfl, X_s277, F_value_s277, F_coder_s277, V_t277⟩ := hq276
      have hn := Nat.le_trans hn K277.1
      replace S_C := sta_keep S_C K277 ns0
      replace S_F := sta_keep S_F K277 ns0
      replace X_s275 := X_s275.keep K277
      replace F_value_s275 := F_value_s275.keep K277 nin0
      replace F_coder_s275 := F_coder_s275.keep K277 nin0
      replace V_t275 := V_t275.keep K277 nin0
      refine ⟨[], all0, ?_⟩
      refine OAt.cast (st' := [(.ref s277)]) rfl ?_
      refine Own.astore #[.val (.int p0), .val (.int p1), .val (.int p2), .val Z0, .val (.int (2 : Int32)), .val (.int d0), .val (.int d1), .val (.int e0), .val (.int e1), .val (.ref s275), .val (.ref s277), .unset, .unset] at_74 rfl rfl ?_
      refine Own.aload at_76 rfl rfl ?_
      refine Own.aload at_78 rfl rfl ?_
      refine Own.callS_ [(.ref s275), (.ref s277)] [] 0 (rmSL0_2 l Z a0 hw [] s275 t275 kt275 s277 t277 kt277 zc (.int (nar .byte ((nar .char e0).toInt8.toInt32))) (.int (nar .byte ((nar .char e1).toInt8.toInt32))) h276 n0 hn X_s275 F_value_s275 F_coder_s275 V_t275 X_s277 F_value_s277 F_coder_s277 V_t277 S_C hz) all0 (hw _ (mg 38 rfl)) (hw _ (mg 39 rfl)) (hw _ (mg 40 rfl)) (hw _ (mg 41 rfl)) (by decide) at_80 pd_20 rfl rfl rfl rfl (by decide) (by decide) (by decide) (by decide) (fun v278 h278 S278 hq278 => ?_)
      obtain ⟨K279, s279, t279, kt279, rfl, X_s279, F_value_s279, F_coder_s279, V_t279⟩ := hq278
      have hn := Nat.le_trans hn K279.1
      replace S_C := sta_keep S_C K279 ns0
      replace S_F := sta_keep S_F K279 ns0
      refine ⟨[], all0, ?_⟩
      refine OAt.cast (st' := [(.ref s279)]) rfl ?_
      refine Own.astore #[.val (.int p0), .val (.int p1), .val (.int p2), .val Z0, .val (.int (2 : Int32)), .val (.int d0), .val (.int d1), .val (.int e0), .val (.int e1), .val (.ref s275), .val (.ref s277), .val (.ref s279), .unset] at_83 rfl rfl ?_
      refine Own.aload at_85 rfl rfl ?_
      refine Own.ifnonnullYes 92 at_87 (by decide) rfl ?_
      refine Own.iload at_92 rfl ?_
      refine Own.if_ne 101 at_94 (by decide) rfl (fun _ => ?_) (fun q => absurd q (by decide))
      refine Own.iloadN at_101 rfl ?_
      refine Own.iconst (1 : Int32) at_102 rfl ?_
      refine Own.iadd at_103 ?_
      refine OAt.cast (st' := [(.int (1 : Int32))]) rfl ?_
      refine Own.iload at_104 rfl ?_
      refine Own.iadd at_106 ?_
      refine OAt.cast (st' := [(.int (3 : Int32))]) rfl ?_
      refine Own.istore #[.val (.int p0), .val (.int p1), .val (.int p2), .val Z0, .val (.int (2 : Int32)), .val (.int d0), .val (.int d1), .val (.int e0), .val (.int e1), .val (.ref s275), .val (.ref s277), .val (.ref s279), .val (.int (3 : Int32))] at_107 rfl ?_
      refine Own.aload at_109 rfl rfl ?_
      refine Own.callVP s279 [] [] 0 (rm_len_3 l Z a0 hw [] s279 t279 kt279 _ zc h278 n0 hn X_s279 F_value_s279 F_coder_s279 V_t279 rfl S_C hz) (hw _ (mg 47 rfl)) (hw _ (mg 48 rfl)) (fun s hZ => notFace_of_selects (args := #[]) (mvT hZ (hw _ (mg 50 rfl)))) (hw _ (mg 50 rfl)) (hw _ (mg 49 rfl)) (hw _ (mg 7 rfl)) (hw _ (mg 51 rfl)) (by decide) X_s279 at_111 pd_1 rfl rfl rfl rfl (by decide) (by decide) (by decide) (by decide) ?_
      refine Own.iload at_114 rfl ?_
      refine Own.icmp_eq 121 at_116 (by decide) rfl (fun _ => ?_) (fun q => absurd (by decide) q)
      refine Own.aload at_121 rfl rfl ?_
      refine Own.iconst (0 : Int32) at_123 rfl ?_
      refine Own.iload at_124 rfl ?_
      refine Own.iloadN at_126 rfl ?_
      refine Own.iload at_127 rfl ?_
      refine Own.iload at_129 rfl ?_
      refine Own.iload at_131 rfl ?_
      refine Own.iload at_133 rfl ?_
      refine Own.callSP [(.ref s279), Z0, (.int (3 : Int32)), Z0, (.int d0), (.int d1), (.int e0), (.int e1)] [] 0 (rmOK0_3_0 l Z a0 hw [] s279 d0 d1 e0 e1 t279 kt279 _ zc vf h278 n0 hn X_s279 F_value_s279 F_coder_s279 V_t279 rfl (by rw [own_b35]; rfl) S_C S_F hz hvf ) (hw _ (mg 57 rfl)) (hw _ (mg 58 rfl)) (hw _ (mg 3 rfl)) (hw _ (mg 59 rfl)) (by decide) at_135 pd_19 rfl rfl rfl rfl (by decide) (by decide) (by decide) (by decide) ?_
      refine Own.if_eq 225 at_138 (by decide) rfl (fun q => absurd q (by decide)) (fun _ => ?_)
      refine Own.aload at_141 rfl rfl ?_
      refine Own.iconst (1 : Int32) at_143 rfl ?_
      refine Own.iload at_144 rfl ?_
      refine Own.iloadN at_146 rfl ?_
      refine Own.iload at_147 rfl ?_
      refine Own.iload at_149 rfl ?_
      refine Own.iload at_151 rfl ?_
      refine Own.iload at_153 rfl ?_
      refine Own.callSP [(.ref s279), (.int (1 : Int32)), (.int (3 : Int32)), Z0, (.int d0), (.int d1), (.int e0), (.int e1)] [] 0 (rmOK1_3_0 l Z a0 hw [] s279 d0 d1 e0 e1 t279 kt279 _ zc vf h278 n0 hn X_s279 F_value_s279 F_coder_s279 V_t279 rfl rfl S_C S_F hz hvf he0) (hw _ (mg 57 rfl)) (hw _ (mg 58 rfl)) (hw _ (mg 3 rfl)) (hw _ (mg 59 rfl)) (by decide) at_155 pd_19 rfl rfl rfl rfl (by decide) (by decide) (by decide) (by decide) ?_
      refine Own.if_eq 225 at_158 (by decide) rfl (fun q => absurd q (by decide)) (fun _ => ?_)
      refine Own.aload at_161 rfl rfl ?_
      refine Own.iconst (2 : Int32) at_163 rfl ?_
      refine Own.iload at_164 rfl ?_
      refine Own.iloadN at_166 rfl ?_
      refine Own.iload at_167 rfl ?_
      refine Own.iload at_169 rfl ?_
      refine Own.iload at_171 rfl ?_
      refine Own.iload at_173 rfl ?_
      refine Own.callSP [(.ref s279), (.int (2 : Int32)), (.int (3 : Int32)), Z0, (.int d0), (.int d1), (.int e0), (.int e1)] [] 0 (rmOK2_3_0 l Z a0 hw [] s279 d0 d1 e0 e1 t279 kt279 _ zc vf h278 n0 hn X_s279 F_value_s279 F_coder_s279 V_t279 rfl rfl S_C S_F hz hvf he1) (hw _ (mg 57 rfl)) (hw _ (mg 58 rfl)) (hw _ (mg 3 rfl)) (hw _ (mg 59 rfl)) (by decide) at_175 pd_19 rfl rfl rfl rfl (by decide) (by decide) (by decide) (by decide) ?_
      refine Own.if_eq 225 at_178 (by decide) rfl (fun q => absurd q (by decide)) (fun _ => ?_)
      refine Own.aload at_181 rfl rfl ?_
      refine Own.iconst (3 : Int32) at_183 rfl ?_
      refine Own.iload at_184 rfl ?_
      refine Own.iloadN at_186 rfl ?_
      refine Own.iload at_187 rfl ?_
      refine Own.iload at_189 rfl ?_
      refine Own.iload at_191 rfl ?_
      refine Own.iload at_193 rfl ?_
      refine Own.callSP [(.ref s279), (.int (3 : Int32)), (.int (3 : Int32)), Z0, (.int d0), (.int d1), (.int e0), (.int e1)] [] 0 (rmOK3_3_0 l Z a0 hw [] s279 d0 d1 e0 e1 h278 n0 hn) (hw _ (mg 57 rfl)) (hw _ (mg 58 rfl)) (hw _ (mg 3 rfl)) (hw _ (mg 59 rfl)) (by decide) at_195 pd_19 rfl rfl rfl rfl (by decide) (by decide) (by decide) (by decide) ?_
      refine Own.if_eq 225 at_198 (by decide) rfl (fun q => absurd q (by decide)) (fun _ => ?_)
      refine Own.aload at_201 rfl rfl ?_
      refine Own.iconst (4 : Int32) at_203 rfl ?_
      refine Own.iload at_204 rfl ?_
      refine Own.iloadN at_206 rfl ?_
      refine Own.iload at_207 rfl ?_
      refine Own.iload at_209 rfl ?_
      refine Own.iload at_211 rfl ?_
      refine Own.iload at_213 rfl ?_
      refine Own.callSP [(.ref s279), (.int (4 : Int32)), (.int (3 : Int32)), Z0, (.int d0), (.int d1), (.int e0), (.int e1)] [] 0 (rmOK4_3_0 l Z a0 hw [] s279 d0 d1 e0 e1 h278 n0 hn) (hw _ (mg 57 rfl)) (hw _ (mg 58 rfl)) (hw _ (mg 3 rfl)) (hw _ (mg 59 rfl)) (by decide) at_215 pd_19 rfl rfl rfl rfl (by decide) (by decide) (by decide) (by decide) ?_
      refine Own.if_eq 225 at_218 (by decide) rfl (fun q => absurd q (by decide)) (fun _ => ?_)
      refine Own.iconst (1 : Int32) at_221 rfl ?_
      refine Own.goto_ 226 at_222 (by decide) rfl ?_
      refine Own.ret_nar (t := .boolean) (by simp) rfl at_226 (by decide) (by decide) (fun Sf hSf => ?_)
      exact rfl
  · rcases hal with rfl | rfl | rfl
    · refine Own.iloadN at_55 rfl ?_
      refine Own.iload at_56 rfl ?_
      refine Own.iload at_58 rfl ?_
      refine Own.callS_ [(.int (1 : Int32)), (.int d0), (.int d1)] [] 0 (rmMk1 l Z a0 hw [] d0 d1 zc h0 n0 hn S_C hz hd0 hd1) all0 (hw _ (mg 1 rfl)) (hw _ (mg 2 rfl)) (hw _ (mg 3 rfl)) (hw _ (mg 4 rfl)) (by decide) at_60 pd_8 rfl rfl rfl rfl (by decide) (by decide) (by decide) (by decide) (fun v280 h280 S280 hq280 => ?_)
      obtain ⟨K281, s281, t281, kt281, rfl, X_s281, F_value_s281, F_coder_s281, V_t281⟩ := hq280
      have hn := Nat.le_trans hn K281.1
      replace S_C := sta_keep S_C K281 ns0
      replace S_F := sta_keep S_F K281 ns0
      refine ⟨[], all0, ?_⟩
      refine OAt.cast (st' := [(.ref s281)]) rfl ?_
      refine Own.astore #[.val (.int p0), .val (.int p1), .val (.int p2), .val (.int (1 : Int32)), .val Z0, .val (.int d0), .val (.int d1), .val (.int e0), .val (.int e1), .val (.ref s281), .unset, .unset, .unset] at_63 rfl rfl ?_
      refine Own.iload at_65 rfl ?_
      refine Own.iload at_67 rfl ?_
      refine Own.iload at_69 rfl ?_
      refine Own.callS_ [Z0, (.int e0), (.int e1)] [] 0 (rmMk0 l Z a0 hw [] e0 e1 zc h280 n0 hn S_C hz he0 he1) all0 (hw _ (mg 1 rfl)) (hw _ (mg 2 rfl)) (hw _ (mg 3 rfl)) (hw _ (mg 4 rfl)) (by decide) at_71 pd_8 rfl rfl rfl rfl (by decide) (by decide) (by decide) (by decide) (fun v282 h282 S282 hq282 => ?_)
      obtain ⟨K283, s283, t283, kt283, rfl, X_s283, F_value_s283, F_coder_s283, V_t283⟩ := hq282
      have hn := Nat.le_trans hn K283.1
      replace S_C := sta_keep S_C K283 ns0
      replace S_F := sta_keep S_F K283 ns0
      replace X_s281 := X_s281.keep K283
      replace F_value_s281 := F_value_s281.keep K283 nin0
      replace F_coder_s281 := F_coder_s281.keep K283 nin0
      replace V_t281 := V_t281.keep K283 nin0
      refine ⟨[], all0, ?_⟩
      refine OAt.cast (st' := [(.ref s283)]) rfl ?_
      refine Own.astore #[.val (.int p0), .val (.int p1), .val (.int p2), .val (.int (1 : Int32)), .val Z0, .val (.int d0), .val (.int d1), .val (.int e0), .val (.int e1), .val (.ref s281), .val (.ref s283), .unset, .unset] at_74 rfl rfl ?_
      refine Own.aload at_76 rfl rfl ?_
      refine Own.aload at_78 rfl rfl ?_
      refine Own.callS_ [(.ref s281), (.ref s283)] [] 0 (rmSL1_0 l Z a0 hw [] s281 t281 kt281 s283 t283 kt283 zc (.int (nar .byte ((nar .char d0).toInt8.toInt32))) h282 n0 hn X_s281 F_value_s281 F_coder_s281 V_t281 X_s283 F_value_s283 F_coder_s283 V_t283 S_C hz) all0 (hw _ (mg 38 rfl)) (hw _ (mg 39 rfl)) (hw _ (mg 40 rfl)) (hw _ (mg 41 rfl)) (by decide) at_80 pd_20 rfl rfl rfl rfl (by decide) (by decide) (by decide) (by decide) (fun v284 h284 S284 hq284 => ?_)
      obtain ⟨K285, s285, t285, kt285, rfl, X_s285, F_value_s285, F_coder_s285, V_t285⟩ := hq284
      have hn := Nat.le_trans hn K285.1
      replace S_C := sta_keep S_C K285 ns0
      replace S_F := sta_keep S_F K285 ns0
      refine ⟨[], all0, ?_⟩
      refine OAt.cast (st' := [(.ref s285)]) rfl ?_
      refine Own.astore #[.val (.int p0), .val (.int p1), .val (.int p2), .val (.int (1 : Int32)), .val Z0, .val (.int d0), .val (.int d1), .val (.int e0), .val (.int e1), .val (.ref s281), .val (.ref s283), .val (.ref s285), .unset] at_83 rfl rfl ?_
      refine Own.aload at_85 rfl rfl ?_
      refine Own.ifnonnullYes 92 at_87 (by decide) rfl ?_
      refine Own.iload at_92 rfl ?_
      refine Own.if_ne 101 at_94 (by decide) rfl (fun q => absurd (by decide) q) (fun _ => ?_)
      refine Own.iloadN at_97 rfl ?_
      refine Own.goto_ 107 at_98 (by decide) rfl ?_
      refine Own.istore #[.val (.int p0), .val (.int p1), .val (.int p2), .val (.int (1 : Int32)), .val Z0, .val (.int d0), .val (.int d1), .val (.int e0), .val (.int e1), .val (.ref s281), .val (.ref s283), .val (.ref s285), .val (.int (1 : Int32))] at_107 rfl ?_
      refine Own.aload at_109 rfl rfl ?_
      refine Own.callVP s285 [] [] 0 (rm_len_1 l Z a0 hw [] s285 t285 kt285 _ zc h284 n0 hn X_s285 F_value_s285 F_coder_s285 V_t285 rfl S_C hz) (hw _ (mg 47 rfl)) (hw _ (mg 48 rfl)) (fun s hZ => notFace_of_selects (args := #[]) (mvT hZ (hw _ (mg 50 rfl)))) (hw _ (mg 50 rfl)) (hw _ (mg 49 rfl)) (hw _ (mg 7 rfl)) (hw _ (mg 51 rfl)) (by decide) X_s285 at_111 pd_1 rfl rfl rfl rfl (by decide) (by decide) (by decide) (by decide) ?_
      refine Own.iload at_114 rfl ?_
      refine Own.icmp_eq 121 at_116 (by decide) rfl (fun _ => ?_) (fun q => absurd (by decide) q)
      refine Own.aload at_121 rfl rfl ?_
      refine Own.iconst (0 : Int32) at_123 rfl ?_
      refine Own.iload at_124 rfl ?_
      refine Own.iloadN at_126 rfl ?_
      refine Own.iload at_127 rfl ?_
      refine Own.iload at_129 rfl ?_
      refine Own.iload at_131 rfl ?_
      refine Own.iload at_133 rfl ?_
      refine Own.callSP [(.ref s285), Z0, (.int (1 : Int32)), (.int (1 : Int32)), (.int d0), (.int d1), (.int e0), (.int e1)] [] 0 (rmOK0_1_1 l Z a0 hw [] s285 d0 d1 e0 e1 t285 kt285 _ zc vf h284 n0 hn X_s285 F_value_s285 F_coder_s285 V_t285 rfl rfl S_C S_F hz hvf hd0) (hw _ (mg 57 rfl)) (hw _ (mg 58 rfl)) (hw _ (mg 3 rfl)) (hw _ (mg 59 rfl)) (by decide) at_135 pd_19 rfl rfl rfl rfl (by decide) (by decide) (by decide) (by decide) ?_
      refine Own.if_eq 225 at_138 (by decide) rfl (fun q => absurd q (by decide)) (fun _ => ?_)
      refine Own.aload at_141 rfl rfl ?_
      refine Own.iconst (1 : Int32) at_143 rfl ?_
      refine Own.iload at_144 rfl ?_
      refine Own.iloadN at_146 rfl ?_
      refine Own.iload at_147 rfl ?_
      refine Own.iload at_149 rfl ?_
      refine Own.iload at_151 rfl ?_
      refine Own.iload at_153 rfl ?_
      refine Own.callSP [(.ref s285), (.int (1 : Int32)), (.int (1 : Int32)), (.int (1 : Int32)), (.int d0), (.int d1), (.int e0), (.int e1)] [] 0 (rmOK1_1_1 l Z a0 hw [] s285 d0 d1 e0 e1 h284 n0 hn) (hw _ (mg 57 rfl)) (hw _ (mg 58 rfl)) (hw _ (mg 3 rfl)) (hw _ (mg 59 rfl)) (by decide) at_155 pd_19 rfl rfl rfl rfl (by decide) (by decide) (by decide) (by decide) ?_
      refine Own.if_eq 225 at_158 (by decide) rfl (fun q => absurd q (by decide)) (fun _ => ?_)
      refine Own.aload at_161 rfl rfl ?_
      refine Own.iconst (2 : Int32) at_163 rfl ?_
      refine Own.iload at_164 rfl ?_
      refine Own.iloadN at_166 rfl ?_
      refine Own.iload at_167 rfl ?_
      refine Own.iload at_169 rfl ?_
      refine Own.iload at_171 rfl ?_
      refine Own.iload at_173 rfl ?_
      refine Own.callSP [(.ref s285), (.int (2 : Int32)), (.int (1 : Int32)), (.int (1 : Int32)), (.int d0), (.int d1), (.int e0), (.int e1)] [] 0 (rmOK2_1_1 l Z a0 hw [] s285 d0 d1 e0 e1 h284 n0 hn) (hw _ (mg 57 rfl)) (hw _ (mg 58 rfl)) (hw _ (mg 3 rfl)) (hw _ (mg 59 rfl)) (by decide) at_175 pd_19 rfl rfl rfl rfl (by decide) (by decide) (by decide) (by decide) ?_
      refine Own.if_eq 225 at_178 (by decide) rfl (fun q => absurd q (by decide)) (fun _ => ?_)
      refine Own.aload at_181 rfl rfl ?_
      refine Own.iconst (3 : Int32) at_183 rfl ?_
      refine Own.iload at_184 rfl ?_
      refine Own.iloadN at_186 rfl ?_
      refine Own.iload at_187 rfl ?_
      refine Own.iload at_189 rfl ?_
      refine Own.iload at_191 rfl ?_
      refine Own.iload at_193 rfl ?_
      refine Own.callSP [(.ref s285), (.int (3 : Int32)), (.int (1 : Int32)), (.int (1 : Int32)), (.int d0), (.int d1), (.int e0), (.int e1)] [] 0 (rmOK3_1_1 l Z a0 hw [] s285 d0 d1 e0 e1 h284 n0 hn) (hw _ (mg 57 rfl)) (hw _ (mg 58 rfl)) (hw _ (mg 3 rfl)) (hw _ (mg 59 rfl)) (by decide) at_195 pd_19 rfl rfl rfl rfl (by decide) (by decide) (by decide) (by decide) ?_
      refine Own.if_eq 225 at_198 (by decide) rfl (fun q => absurd q (by decide)) (fun _ => ?_)
      refine Own.aload at_201 rfl rfl ?_
      refine Own.iconst (4 : Int32) at_203 rfl ?_
      refine Own.iload at_204 rfl ?_
      refine Own.iloadN at_206 rfl ?_
      refine Own.iload at_207 rfl ?_
      refine Own.iload at_209 rfl ?_
      refine Own.iload at_211 rfl ?_
      refine Own.iload at_213 rfl ?_
      refine Own.callSP [(.ref s285), (.int (4 : Int32)), (.int (1 : Int32)), (.int (1 : Int32)), (.int d0), (.int d1), (.int e0), (.int e1)] [] 0 (rmOK4_1_1 l Z a0 hw [] s285 d0 d1 e0 e1 h284 n0 hn) (hw _ (mg 57 rfl)) (hw _ (mg 58 rfl)) (hw _ (mg 3 rfl)) (hw _ (mg 59 rfl)) (by decide) at_215 pd_19 rfl rfl rfl rfl (by decide) (by decide) (by decide) (by decide) ?_
      refine Own.if_eq 225 at_218 (by decide) rfl (fun q => absurd q (by decide)) (fun _ => ?_)
      refine Own.iconst (1 : Int32) at_221 rfl ?_
      refine Own.goto_ 226 at_222 (by decide) rfl ?_
      refine Own.ret_nar (t := .boolean) (by simp) rfl at_226 (by decide) (by decide) (fun Sf hSf => ?_)
      exact rfl
    · refine Own.iloadN at_55 rfl ?_
      refine Own.iload at_56 rfl ?_
      refine Own.iload at_58 rfl ?_
      refine Own.callS_ [(.int (1 : Int32)), (.int d0), (.int d1)] [] 0 (rmMk1 l Z a0 hw [] d0 d1 zc h0 n0 hn S_C hz hd0 hd1) all0 (hw _ (mg 1 rfl)) (hw _ (mg 2 rfl)) (hw _ (mg 3 rfl)) (hw _ (mg 4 rfl)) (by decide) at_60 pd_8 rfl rfl rfl rfl (by decide) (by decide) (by decide) (by decide) (fun v286 h286 S286 hq286 => ?_)
      obtain ⟨K287, s287, t287, kt287, rfl, X_s287, F_value_s287, F_coder_s287, V_t287⟩ := hq286
      have hn := Nat.le_trans hn K287.1
      replace S_C := sta_keep S_C K287 ns0
      replace S_F := sta_keep S_F K287 ns0
      refine ⟨[], all0, ?_⟩
      refine OAt.cast (st' := [(.ref s287)]) rfl ?_
      refine Own.astore #[.val (.int p0), .val (.int p1), .val (.int p2), .val (.int (1 : Int32)), .val (.int (1 : Int32)), .val (.int d0), .val (.int d1), .val (.int e0), .val (.int e1), .val (.ref s287), .unset, .unset, .unset] at_63 rfl rfl ?_
      refine Own.iload at_65 rfl ?_
      refine Own.iload at_67 rfl ?_
      refine Own.iload at_69 rfl ?_
      refine Own.callS_ [(.int (1 : Int32)), (.int e0), (.int e1)] [] 0 (rmMk1 l Z a0 hw [] e0 e1 zc h286 n0 hn S_C hz he0 he1) all0 (hw _ (mg 1 rfl)) (hw _ (mg 2 rfl)) (hw _ (mg 3 rfl)) (hw _ (mg 4 rfl)) (by decide) at_71 pd_8 rfl rfl rfl rfl (by decide) (by decide) (by decide) (by decide) (fun v288 h288 S288 hq288 => ?_)
      obtain ⟨K289, s289, t289, kt289, rfl, X_s289, F_value_s289, F_coder_s289, V_t289⟩ := hq288
      have hn := Nat.le_trans hn K289.1
      replace S_C := sta_keep S_C K289 ns0
      replace S_F := sta_keep S_F K289 ns0
      replace X_s287 := X_s287.keep K289
      replace F_value_s287 := F_value_s287.keep K289 nin0
      replace F_coder_s287 := F_coder_s287.keep K289 nin0
      replace V_t287 := V_t287.keep K289 nin0
      refine ⟨[], all0, ?_⟩
      refine OAt.cast (st' := [(.ref s289)]) rfl ?_
      refine Own.astore #[.val (.int p0), .val (.int p1), .val (.int p2), .val (.int (1 : Int32)), .val (.int (1 : Int32)), .val (.int d0), .val (.int d1), .val (.int e0), .val (.int e1), .val (.ref s287), .val (.ref s289), .unset, .unset] at_74 rfl rfl ?_
      refine Own.aload at_76 rfl rfl ?_
      refine Own.aload at_78 rfl rfl ?_
      refine Own.callS_ [(.ref s287), (.ref s289)] [] 0 (rmSL1_1 l Z a0 hw [] s287 t287 kt287 s289 t289 kt289 zc (.int (nar .byte ((nar .char d0).toInt8.toInt32))) (.int (nar .byte ((nar .char e0).toInt8.toInt32))) h288 n0 hn X_s287 F_value_s287 F_coder_s287 V_t287 X_s289 F_value_s289 F_coder_s289 V_t289 S_C hz) all0 (hw _ (mg 38 rfl)) (hw _ (mg 39 rfl)) (hw _ (mg 40 rfl)) (hw _ (mg 41 rfl)) (by decide) at_80 pd_20 rfl rfl rfl rfl (by decide) (by decide) (by decide) (by decide) (fun v290 h290 S290 hq290 => ?_)
      obtain ⟨K291, s291, t291, kt291, rfl, X_s291, F_value_s291, F_coder_s291, V_t291⟩ := hq290
      have hn := Nat.le_trans hn K291.1
      replace S_C := sta_keep S_C K291 ns0
      replace S_F := sta_keep S_F K291 ns0
      refine ⟨[], all0, ?_⟩
      refine OAt.cast (st' := [(.ref s291)]) rfl ?_
      refine Own.astore #[.val (.int p0), .val (.int p1), .val (.int p2), .val (.int (1 : Int32)), .val (.int (1 : Int32)), .val (.int d0), .val (.int d1), .val (.int e0), .val (.int e1), .val (.ref s287), .val (.ref s289), .val (.ref s291), .unset] at_83 rfl rfl ?_
      refine Own.aload at_85 rfl rfl ?_
      refine Own.ifnonnullYes 92 at_87 (by decide) rfl ?_
      refine Own.iload at_92 rfl ?_
      refine Own.if_ne 101 at_94 (by decide) rfl (fun _ => ?_) (fun q => absurd q (by decide))
      refine Own.iloadN at_101 rfl ?_
      refine Own.iconst (1 : Int32) at_102 rfl ?_
      refine Own.iadd at_103 ?_
      refine OAt.cast (st' := [(.int (2 : Int32))]) rfl ?_
      refine Own.iload at_104 rfl ?_
      refine Own.iadd at_106 ?_
      refine OAt.cast (st' := [(.int (3 : Int32))]) rfl ?_
      refine Own.istore #[.val (.int p0), .val (.int p1), .val (.int p2), .val (.int (1 : Int32)), .val (.int (1 : Int32)), .val (.int d0), .val (.int d1), .val (.int e0), .val (.int e1), .val (.ref s287), .val (.ref s289), .val (.ref s291), .val (.int (3 : Int32))] at_107 rfl ?_
      refine Own.aload at_109 rfl rfl ?_
      refine Own.callVP s291 [] [] 0 (rm_len_3 l Z a0 hw [] s291 t291 kt291 _ zc h290 n0 hn X_s291 F_value_s291 F_coder_s291 V_t291 rfl S_C hz) (hw _ (mg 47 rfl)) (hw _ (mg 48 rfl)) (fun s hZ => notFace_of_selects (args := #[]) (mvT hZ (hw _ (mg 50 rfl)))) (hw _ (mg 50 rfl)) (hw _ (mg 49 rfl)) (hw _ (mg 7 rfl)) (hw _ (mg 51 rfl)) (by decide) X_s291 at_111 pd_1 rfl rfl rfl rfl (by decide) (by decide) (by decide) (by decide) ?_
      refine Own.iload at_114 rfl ?_
      refine Own.icmp_eq 121 at_116 (by decide) rfl (fun _ => ?_) (fun q => absurd (by decide) q)
      refine Own.aload at_121 rfl rfl ?_
      refine Own.iconst (0 : Int32) at_123 rfl ?_
      refine Own.iload at_124 rfl ?_
      refine Own.iloadN at_126 rfl ?_
      refine Own.iload at_127 rfl ?_
      refine Own.iload at_129 rfl ?_
      refine Own.iload at_131 rfl ?_
      refine Own.iload at_133 rfl ?_
      refine Own.callSP [(.ref s291), Z0, (.int (3 : Int32)), (.int (1 : Int32)), (.int d0), (.int d1), (.int e0), (.int e1)] [] 0 (rmOK0_3_1 l Z a0 hw [] s291 d0 d1 e0 e1 t291 kt291 _ zc vf h290 n0 hn X_s291 F_value_s291 F_coder_s291 V_t291 rfl rfl S_C S_F hz hvf hd0) (hw _ (mg 57 rfl)) (hw _ (mg 58 rfl)) (hw _ (mg 3 rfl)) (hw _ (mg 59 rfl)) (by decide) at_135 pd_19 rfl rfl rfl rfl (by decide) (by decide) (by decide) (by decide) ?_
      refine Own.if_eq 225 at_138 (by decide) rfl (fun q => absurd q (by decide)) (fun _ => ?_)
      refine Own.aload at_141 rfl rfl ?_
      refine Own.iconst (1 : Int32) at_143 rfl ?_
      refine Own.iload at_144 rfl ?_
      refine Own.iloadN at_146 rfl ?_
      refine Own.iload at_147 rfl ?_
      refine Own.iload at_149 rfl ?_
      refine Own.iload at_151 rfl ?_
      refine Own.iload at_153 rfl ?_
      refine Own.callSP [(.ref s291), (.int (1 : Int32)), (.int (3 : Int32)), (.int (1 : Int32)), (.int d0), (.int d1), (.int e0), (.int e1)] [] 0 (rmOK1_3_1 l Z a0 hw [] s291 d0 d1 e0 e1 t291 kt291 _ zc vf h290 n0 hn X_s291 F_value_s291 F_coder_s291 V_t291 rfl (by rw [own_b35]; rfl) S_C S_F hz hvf ) (hw _ (mg 57 rfl)) (hw _ (mg 58 rfl)) (hw _ (mg 3 rfl)) (hw _ (mg 59 rfl)) (by decide) at_155 pd_19 rfl rfl rfl rfl (by decide) (by decide) (by decide) (by decide) ?_
      refine Own.if_eq 225 at_158 (by decide) rfl (fun q => absurd q (by decide)) (fun _ => ?_)
      refine Own.aload at_161 rfl rfl ?_
      refine Own.iconst (2 : Int32) at_163 rfl ?_
      refine Own.iload at_164 rfl ?_
      refine Own.iloadN at_166 rfl ?_
      refine Own.iload at_167 rfl ?_
      refine Own.iload at_169 rfl ?_
      refine Own.iload at_171 rfl ?_
      refine Own.iload at_173 rfl ?_
      refine Own.callSP [(.ref s291), (.int (2 : Int32)), (.int (3 : Int32)), (.int (1 : Int32)), (.int d0), (.int d1), (.int e0), (.int e1)] [] 0 (rmOK2_3_1 l Z a0 hw [] s291 d0 d1 e0 e1 t291 kt291 _ zc vf h290 n0 hn X_s291 F_value_s291 F_coder_s291 V_t291 rfl rfl S_C S_F hz hvf he0) (hw _ (mg 57 rfl)) (hw _ (mg 58 rfl)) (hw _ (mg 3 rfl)) (hw _ (mg 59 rfl)) (by decide) at_175 pd_19 rfl rfl rfl rfl (by decide) (by decide) (by decide) (by decide) ?_
      refine Own.if_eq 225 at_178 (by decide) rfl (fun q => absurd q (by decide)) (fun _ => ?_)
      refine Own.aload at_181 rfl rfl ?_
      refine Own.iconst (3 : Int32) at_183 rfl ?_
      refine Own.iload at_184 rfl ?_
      refine Own.iloadN at_186 rfl ?_
      refine Own.iload at_187 rfl ?_
      refine Own.iload at_189 rfl ?_
      refine Own.iload at_191 rfl ?_
      refine Own.iload at_193 rfl ?_
      refine Own.callSP [(.ref s291), (.int (3 : Int32)), (.int (3 : Int32)), (.int (1 : Int32)), (.int d0), (.int d1), (.int e0), (.int e1)] [] 0 (rmOK3_3_1 l Z a0 hw [] s291 d0 d1 e0 e1 h290 n0 hn) (hw _ (mg 57 rfl)) (hw _ (mg 58 rfl)) (hw _ (mg 3 rfl)) (hw _ (mg 59 rfl)) (by decide) at_195 pd_19 rfl rfl rfl rfl (by decide) (by decide) (by decide) (by decide) ?_
      refine Own.if_eq 225 at_198 (by decide) rfl (fun q => absurd q (by decide)) (fun _ => ?_)
      refine Own.aload at_201 rfl rfl ?_
      refine Own.iconst (4 : Int32) at_203 rfl ?_
      refine Own.iload at_204 rfl ?_
      refine Own.iloadN at_206 rfl ?_
      refine Own.iload at_207 rfl ?_
      refine Own.iload at_209 rfl ?_
      refine Own.iload at_211 rfl ?_
      refine Own.iload at_213 rfl ?_
      refine Own.callSP [(.ref s291), (.int (4 : Int32)), (.int (3 : Int32)), (.int (1 : Int32)), (.int d0), (.int d1), (.int e0), (.int e1)] [] 0 (rmOK4_3_1 l Z a0 hw [] s291 d0 d1 e0 e1 h290 n0 hn) (hw _ (mg 57 rfl)) (hw _ (mg 58 rfl)) (hw _ (mg 3 rfl)) (hw _ (mg 59 rfl)) (by decide) at_215 pd_19 rfl rfl rfl rfl (by decide) (by decide) (by decide) (by decide) ?_
      refine Own.if_eq 225 at_218 (by decide) rfl (fun q => absurd q (by decide)) (fun _ => ?_)
      refine Own.iconst (1 : Int32) at_221 rfl ?_
      refine Own.goto_ 226 at_222 (by decide) rfl ?_
      refine Own.ret_nar (t := .boolean) (by simp) rfl at_226 (by decide) (by decide) (fun Sf hSf => ?_)
      exact rfl
    · refine Own.iloadN at_55 rfl ?_
      refine Own.iload at_56 rfl ?_
      refine Own.iload at_58 rfl ?_
      refine Own.callS_ [(.int (1 : Int32)), (.int d0), (.int d1)] [] 0 (rmMk1 l Z a0 hw [] d0 d1 zc h0 n0 hn S_C hz hd0 hd1) all0 (hw _ (mg 1 rfl)) (hw _ (mg 2 rfl)) (hw _ (mg 3 rfl)) (hw _ (mg 4 rfl)) (by decide) at_60 pd_8 rfl rfl rfl rfl (by decide) (by decide) (by decide) (by decide) (fun v292 h292 S292 hq292 => ?_)
      obtain ⟨K293, s293, t293, kt293, rfl, X_s293, F_value_s293, F_coder_s293, V_t293⟩ := hq292
      have hn := Nat.le_trans hn K293.1
      replace S_C := sta_keep S_C K293 ns0
      replace S_F := sta_keep S_F K293 ns0
      refine ⟨[], all0, ?_⟩
      refine OAt.cast (st' := [(.ref s293)]) rfl ?_
      refine Own.astore #[.val (.int p0), .val (.int p1), .val (.int p2), .val (.int (1 : Int32)), .val (.int (2 : Int32)), .val (.int d0), .val (.int d1), .val (.int e0), .val (.int e1), .val (.ref s293), .unset, .unset, .unset] at_63 rfl rfl ?_
      refine Own.iload at_65 rfl ?_
      refine Own.iload at_67 rfl ?_
      refine Own.iload at_69 rfl ?_
      refine Own.callS_ [(.int (2 : Int32)), (.int e0), (.int e1)] [] 0 (rmMk2 l Z a0 hw [] e0 e1 zc h292 n0 hn S_C hz he0 he1) all0 (hw _ (mg 1 rfl)) (hw _ (mg 2 rfl)) (hw _ (mg 3 rfl)) (hw _ (mg 4 rfl)) (by decide) at_71 pd_8 rfl rfl rfl rfl (by decide) (by decide) (by decide) (by decide) (fun v294 h294 S294 hq294 => ?_)
      obtain ⟨K295, s295, t295, kt295, rfl, X_s295, F_value_s295, F_coder_s295, V_t295⟩ := hq294
      have hn := Nat.le_trans hn K295.1
      replace S_C := sta_keep S_C K295 ns0
      replace S_F := sta_keep S_F K295 ns0
      replace X_s293 := X_s293.keep K295
      replace F_value_s293 := F_value_s293.keep K295 nin0
      replace F_coder_s293 := F_coder_s293.keep K295 nin0
      replace V_t293 := V_t293.keep K295 nin0
      refine ⟨[], all0, ?_⟩
      refine OAt.cast (st' := [(.ref s295)]) rfl ?_
      refine Own.astore #[.val (.int p0), .val (.int p1), .val (.int p2), .val (.int (1 : Int32)), .val (.int (2 : Int32)), .val (.int d0), .val (.int d1), .val (.int e0), .val (.int e1), .val (.ref s293), .val (.ref s295), .unset, .unset] at_74 rfl rfl ?_
      refine Own.aload at_76 rfl rfl ?_
      refine Own.aload at_78 rfl rfl ?_
      refine Own.callS_ [(.ref s293), (.ref s295)] [] 0 (rmSL1_2 l Z a0 hw [] s293 t293 kt293 s295 t295 kt295 zc (.int (nar .byte ((nar .char d0).toInt8.toInt32))) (.int (nar .byte ((nar .char e0).toInt8.toInt32))) (.int (nar .byte ((nar .char e1).toInt8.toInt32))) h294 n0 hn X_s293 F_value_s293 F_coder_s293 V_t293 X_s295 F_value_s295 F_coder_s295 V_t295 S_C hz) all0 (hw _ (mg 38 rfl)) (hw _ (mg 39 rfl)) (hw _ (mg 40 rfl)) (hw _ (mg 41 rfl)) (by decide) at_80 pd_20 rfl rfl rfl rfl (by decide) (by decide) (by decide) (by decide) (fun v296 h296 S296 hq296 => ?_)
      obtain ⟨K297, s297, t297, kt297, rfl, X_s297, F_value_s297, F_coder_s297, V_t297⟩ := hq296
      have hn := Nat.le_trans hn K297.1
      replace S_C := sta_keep S_C K297 ns0
      replace S_F := sta_keep S_F K297 ns0
      refine ⟨[], all0, ?_⟩
      refine OAt.cast (st' := [(.ref s297)]) rfl ?_
      refine Own.astore #[.val (.int p0), .val (.int p1), .val (.int p2), .val (.int (1 : Int32)), .val (.int (2 : Int32)), .val (.int d0), .val (.int d1), .val (.int e0), .val (.int e1), .val (.ref s293), .val (.ref s295), .val (.ref s297), .unset] at_83 rfl rfl ?_
      refine Own.aload at_85 rfl rfl ?_
      refine Own.ifnonnullYes 92 at_87 (by decide) rfl ?_
      refine Own.iload at_92 rfl ?_
      refine Own.if_ne 101 at_94 (by decide) rfl (fun _ => ?_) (fun q => absurd q (by decide))
      refine Own.iloadN at_101 rfl ?_
      refine Own.iconst (1 : Int32) at_102 rfl ?_
      refine Own.iadd at_103 ?_
      refine OAt.cast (st' := [(.int (2 : Int32))]) rfl ?_
      refine Own.iload at_104 rfl ?_
      refine Own.iadd at_106 ?_
      refine OAt.cast (st' := [(.int (4 : Int32))]) rfl ?_
      refine Own.istore #[.val (.int p0), .val (.int p1), .val (.int p2), .val (.int (1 : Int32)), .val (.int (2 : Int32)), .val (.int d0), .val (.int d1), .val (.int e0), .val (.int e1), .val (.ref s293), .val (.ref s295), .val (.ref s297), .val (.int (4 : Int32))] at_107 rfl ?_
      refine Own.aload at_109 rfl rfl ?_
      refine Own.callVP s297 [] [] 0 (rm_len_4 l Z a0 hw [] s297 t297 kt297 _ zc h296 n0 hn X_s297 F_value_s297 F_coder_s297 V_t297 rfl S_C hz) (hw _ (mg 47 rfl)) (hw _ (mg 48 rfl)) (fun s hZ => notFace_of_selects (args := #[]) (mvT hZ (hw _ (mg 50 rfl)))) (hw _ (mg 50 rfl)) (hw _ (mg 49 rfl)) (hw _ (mg 7 rfl)) (hw _ (mg 51 rfl)) (by decide) X_s297 at_111 pd_1 rfl rfl rfl rfl (by decide) (by decide) (by decide) (by decide) ?_
      refine Own.iload at_114 rfl ?_
      refine Own.icmp_eq 121 at_116 (by decide) rfl (fun _ => ?_) (fun q => absurd (by decide) q)
      refine Own.aload at_121 rfl rfl ?_
      refine Own.iconst (0 : Int32) at_123 rfl ?_
      refine Own.iload at_124 rfl ?_
      refine Own.iloadN at_126 rfl ?_
      refine Own.iload at_127 rfl ?_
      refine Own.iload at_129 rfl ?_
      refine Own.iload at_131 rfl ?_
      refine Own.iload at_133 rfl ?_
      refine Own.callSP [(.ref s297), Z0, (.int (4 : Int32)), (.int (1 : Int32)), (.int d0), (.int d1), (.int e0), (.int e1)] [] 0 (rmOK0_4_1 l Z a0 hw [] s297 d0 d1 e0 e1 t297 kt297 _ zc vf h296 n0 hn X_s297 F_value_s297 F_coder_s297 V_t297 rfl rfl S_C S_F hz hvf hd0) (hw _ (mg 57 rfl)) (hw _ (mg 58 rfl)) (hw _ (mg 3 rfl)) (hw _ (mg 59 rfl)) (by decide) at_135 pd_19 rfl rfl rfl rfl (by decide) (by decide) (by decide) (by decide) ?_
      refine Own.if_eq 225 at_138 (by decide) rfl (fun q => absurd q (by decide)) (fun _ => ?_)
      refine Own.aload at_141 rfl rfl ?_
      refine Own.iconst (1 : Int32) at_143 rfl ?_
      refine Own.iload at_144 rfl ?_
      refine Own.iloadN at_146 rfl ?_
      refine Own.iload at_147 rfl ?_
      refine Own.iload at_149 rfl ?_
      refine Own.iload at_151 rfl ?_
      refine Own.iload at_153 rfl ?_
      refine Own.callSP [(.ref s297), (.int (1 : Int32)), (.int (4 : Int32)), (.int (1 : Int32)), (.int d0), (.int d1), (.int e0), (.int e1)] [] 0 (rmOK1_4_1 l Z a0 hw [] s297 d0 d1 e0 e1 t297 kt297 _ zc vf h296 n0 hn X_s297 F_value_s297 F_coder_s297 V_t297 rfl (by rw [own_b35]; rfl) S_C S_F hz hvf ) (hw _ (mg 57 rfl)) (hw _ (mg 58 rfl)) (hw _ (mg 3 rfl)) (hw _ (mg 59 rfl)) (by decide) at_155 pd_19 rfl rfl rfl rfl (by decide) (by decide) (by decide) (by decide) ?_
      refine Own.if_eq 225 at_158 (by decide) rfl (fun q => absurd q (by decide)) (fun _ => ?_)
      refine Own.aload at_161 rfl rfl ?_
      refine Own.iconst (2 : Int32) at_163 rfl ?_
      refine Own.iload at_164 rfl ?_
      refine Own.iloadN at_166 rfl ?_
      refine Own.iload at_167 rfl ?_
      refine Own.iload at_169 rfl ?_
      refine Own.iload at_171 rfl ?_
      refine Own.iload at_173 rfl ?_
      refine Own.callSP [(.ref s297), (.int (2 : Int32)), (.int (4 : Int32)), (.int (1 : Int32)), (.int d0), (.int d1), (.int e0), (.int e1)] [] 0 (rmOK2_4_1 l Z a0 hw [] s297 d0 d1 e0 e1 t297 kt297 _ zc vf h296 n0 hn X_s297 F_value_s297 F_coder_s297 V_t297 rfl rfl S_C S_F hz hvf he0) (hw _ (mg 57 rfl)) (hw _ (mg 58 rfl)) (hw _ (mg 3 rfl)) (hw _ (mg 59 rfl)) (by decide) at_175 pd_19 rfl rfl rfl rfl (by decide) (by decide) (by decide) (by decide) ?_
      refine Own.if_eq 225 at_178 (by decide) rfl (fun q => absurd q (by decide)) (fun _ => ?_)
      refine Own.aload at_181 rfl rfl ?_
      refine Own.iconst (3 : Int32) at_183 rfl ?_
      refine Own.iload at_184 rfl ?_
      refine Own.iloadN at_186 rfl ?_
      refine Own.iload at_187 rfl ?_
      refine Own.iload at_189 rfl ?_
      refine Own.iload at_191 rfl ?_
      refine Own.iload at_193 rfl ?_
      refine Own.callSP [(.ref s297), (.int (3 : Int32)), (.int (4 : Int32)), (.int (1 : Int32)), (.int d0), (.int d1), (.int e0), (.int e1)] [] 0 (rmOK3_4_1 l Z a0 hw [] s297 d0 d1 e0 e1 t297 kt297 _ zc vf h296 n0 hn X_s297 F_value_s297 F_coder_s297 V_t297 rfl rfl S_C S_F hz hvf he1) (hw _ (mg 57 rfl)) (hw _ (mg 58 rfl)) (hw _ (mg 3 rfl)) (hw _ (mg 59 rfl)) (by decide) at_195 pd_19 rfl rfl rfl rfl (by decide) (by decide) (by decide) (by decide) ?_
      refine Own.if_eq 225 at_198 (by decide) rfl (fun q => absurd q (by decide)) (fun _ => ?_)
      refine Own.aload at_201 rfl rfl ?_
      refine Own.iconst (4 : Int32) at_203 rfl ?_
      refine Own.iload at_204 rfl ?_
      refine Own.iloadN at_206 rfl ?_
      refine Own.iload at_207 rfl ?_
      refine Own.iload at_209 rfl ?_
      refine Own.iload at_211 rfl ?_
      refine Own.iload at_213 rfl ?_
      refine Own.callSP [(.ref s297), (.int (4 : Int32)), (.int (4 : Int32)), (.int (1 : Int32)), (.int d0), (.int d1), (.int e0), (.int e1)] [] 0 (rmOK4_4_1 l Z a0 hw [] s297 d0 d1 e0 e1 h296 n0 hn) (hw _ (mg 57 rfl)) (hw _ (mg 58 rfl)) (hw _ (mg 3 rfl)) (hw _ (mg 59 rfl)) (by decide) at_215 pd_19 rfl rfl rfl rfl (by decide) (by decide) (by decide) (by decide) ?_
      refine Own.if_eq 225 at_218 (by decide) rfl (fun q => absurd q (by decide)) (fun _ => ?_)
      refine Own.iconst (1 : Int32) at_221 rfl ?_
      refine Own.goto_ 226 at_222 (by decide) rfl ?_
      refine Own.ret_nar (t := .boolean) (by simp) rfl at_226 (by decide) (by decide) (fun Sf hSf => ?_)
      exact rfl
  · rcases hal with rfl | rfl | rfl
    · refine Own.iloadN at_55 rfl ?_
      refine Own.iload at_56 rfl ?_
      refine Own.iload at_58 rfl ?_
      refine Own.callS_ [(.int (2 : Int32)), (.int d0), (.int d1)] [] 0 (rmMk2 l Z a0 hw [] d0 d1 zc h0 n0 hn S_C hz hd0 hd1) all0 (hw _ (mg 1 rfl)) (hw _ (mg 2 rfl)) (hw _ (mg 3 rfl)) (hw _ (mg 4 rfl)) (by decide) at_60 pd_8 rfl rfl rfl rfl (by decide) (by decide) (by decide) (by decide) (fun v298 h298 S298 hq298 => ?_)
      obtain ⟨K299, s299, t299, kt299, rfl, X_s299, F_value_s299, F_coder_s299, V_t299⟩ := hq298
      have hn := Nat.le_trans hn K299.1
      replace S_C := sta_keep S_C K299 ns0
      replace S_F := sta_keep S_F K299 ns0
      refine ⟨[], all0, ?_⟩
      refine OAt.cast (st' := [(.ref s299)]) rfl ?_
      refine Own.astore #[.val (.int p0), .val (.int p1), .val (.int p2), .val (.int (2 : Int32)), .val Z0, .val (.int d0), .val (.int d1), .val (.int e0), .val (.int e1), .val (.ref s299), .unset, .unset, .unset] at_63 rfl rfl ?_
      refine Own.iload at_65 rfl ?_
      refine Own.iload at_67 rfl ?_
      refine Own.iload at_69 rfl ?_
      refine Own.callS_ [Z0, (.int e0), (.int e1)] [] 0 (rmMk0 l Z a0 hw [] e0 e1 zc h298 n0 hn S_C hz he0 he1) all0 (hw _ (mg 1 rfl)) (hw _ (mg 2 rfl)) (hw _ (mg 3 rfl)) (hw _ (mg 4 rfl)) (by decide) at_71 pd_8 rfl rfl rfl rfl (by decide) (by decide) (by decide) (by decide) (fun v300 h300 S300 hq300 => ?_)
      obtain ⟨K301, s301, t301, kt301, rfl, X_s301, F_value_s301, F_coder_s301, V_t301⟩ := hq300
      have hn := Nat.le_trans hn K301.1
      replace S_C := sta_keep S_C K301 ns0
      replace S_F := sta_keep S_F K301 ns0
      replace X_s299 := X_s299.keep K301
      replace F_value_s299 := F_value_s299.keep K301 nin0
      replace F_coder_s299 := F_coder_s299.keep K301 nin0
      replace V_t299 := V_t299.keep K301 nin0
      refine ⟨[], all0, ?_⟩
      refine OAt.cast (st' := [(.ref s301)]) rfl ?_
      refine Own.astore #[.val (.int p0), .val (.int p1), .val (.int p2), .val (.int (2 : Int32)), .val Z0, .val (.int d0), .val (.int d1), .val (.int e0), .val (.int e1), .val (.ref s299), .val (.ref s301), .unset, .unset] at_74 rfl rfl ?_
      refine Own.aload at_76 rfl rfl ?_
      refine Own.aload at_78 rfl rfl ?_
      refine Own.callS_ [(.ref s299), (.ref s301)] [] 0 (rmSL2_0 l Z a0 hw [] s299 t299 kt299 s301 t301 kt301 zc (.int (nar .byte ((nar .char d0).toInt8.toInt32))) (.int (nar .byte ((nar .char d1).toInt8.toInt32))) h300 n0 hn X_s299 F_value_s299 F_coder_s299 V_t299 X_s301 F_value_s301 F_coder_s301 V_t301 S_C hz) all0 (hw _ (mg 38 rfl)) (hw _ (mg 39 rfl)) (hw _ (mg 40 rfl)) (hw _ (mg 41 rfl)) (by decide) at_80 pd_20 rfl rfl rfl rfl (by decide) (by decide) (by decide) (by decide) (fun v302 h302 S302 hq302 => ?_)
      obtain ⟨K303, s303, t303, kt303, rfl, X_s303, F_value_s303, F_coder_s303, V_t303⟩ := hq302
      have hn := Nat.le_trans hn K303.1
      replace S_C := sta_keep S_C K303 ns0
      replace S_F := sta_keep S_F K303 ns0
      refine ⟨[], all0, ?_⟩
      refine OAt.cast (st' := [(.ref s303)]) rfl ?_
      refine Own.astore #[.val (.int p0), .val (.int p1), .val (.int p2), .val (.int (2 : Int32)), .val Z0, .val (.int d0), .val (.int d1), .val (.int e0), .val (.int e1), .val (.ref s299), .val (.ref s301), .val (.ref s303), .unset] at_83 rfl rfl ?_
      refine Own.aload at_85 rfl rfl ?_
      refine Own.ifnonnullYes 92 at_87 (by decide) rfl ?_
      refine Own.iload at_92 rfl ?_
      refine Own.if_ne 101 at_94 (by decide) rfl (fun q => absurd (by decide) q) (fun _ => ?_)
      refine Own.iloadN at_97 rfl ?_
      refine Own.goto_ 107 at_98 (by decide) rfl ?_
      refine Own.istore #[.val (.int p0), .val (.int p1), .val (.int p2), .val (.int (2 : Int32)), .val Z0, .val (.int d0), .val (.int d1), .val (.int e0), .val (.int e1), .val (.ref s299), .val (.ref s301), .val (.ref s303), .val (.int (2 : Int32))] at_107 rfl ?_
      refine Own.aload at_109 rfl rfl ?_
      refine Own.callVP s303 [] [] 0 (rm_len_2 l Z a0 hw [] s303 t303 kt303 _ zc h302 n0 hn X_s303 F_value_s303 F_coder_s303 V_t303 rfl S_C hz) (hw _ (mg 47 rfl)) (hw _ (mg 48 rfl)) (fun s hZ => notFace_of_selects (args := #[]) (mvT hZ (hw _ (mg 50 rfl)))) (hw _ (mg 50 rfl)) (hw _ (mg 49 rfl)) (hw _ (mg 7 rfl)) (hw _ (mg 51 rfl)) (by decide) X_s303 at_111 pd_1 rfl rfl rfl rfl (by decide) (by decide) (by decide) (by decide) ?_
      refine Own.iload at_114 rfl ?_
      refine Own.icmp_eq 121 at_116 (by decide) rfl (fun _ => ?_) (fun q => absurd (by decide) q)
      refine Own.aload at_121 rfl rfl ?_
      refine Own.iconst (0 : Int32) at_123 rfl ?_
      refine Own.iload at_124 rfl ?_
      refine Own.iloadN at_126 rfl ?_
      refine Own.iload at_127 rfl ?_
      refine Own.iload at_129 rfl ?_
      refine Own.iload at_131 rfl ?_
      refine Own.iload at_133 rfl ?_
      refine Own.callSP [(.ref s303), Z0, (.int (2 : Int32)), (.int (2 : Int32)), (.int d0), (.int d1), (.int e0), (.int e1)] [] 0 (rmOK0_2_2 l Z a0 hw [] s303 d0 d1 e0 e1 t303 kt303 _ zc vf h302 n0 hn X_s303 F_value_s303 F_coder_s303 V_t303 rfl rfl S_C S_F hz hvf hd0) (hw _ (mg 57 rfl)) (hw _ (mg 58 rfl)) (hw _ (mg 3 rfl)) (hw _ (mg 59 rfl)) (by decide) at_135 pd_19 rfl rfl rfl rfl (by decide) (by decide) (by decide) (by decide) ?_
      refine Own.if_eq 225 at_138 (by decide) rfl (fun q => absurd q (by decide)) (fun _ => ?_)
      refine Own.aload at_141 rfl rfl ?_
      refine Own.iconst (1 : Int32) at_143 rfl ?_
      refine Own.iload at_144 rfl ?_
      refine Own.iloadN at_146 rfl ?_
      refine Own.iload at_147 rfl ?_
      refine Own.iload at_149 rfl ?_
      refine Own.iload at_151 rfl ?_
      refine Own.iload at_153 rfl ?_
      refine Own.callSP [(.ref s303), (.int (1 : Int32)), (.int (2 : Int32)), (.int (2 : Int32)), (.int d0), (.int d1), (.int e0), (.int e1)] [] 0 (rmOK1_2_2 l Z a0 hw [] s303 d0 d1 e0 e1 t303 kt303 _ zc vf h302 n0 hn X_s303 F_value_s303 F_coder_s303 V_t303 rfl rfl S_C S_F hz hvf hd1) (hw _ (mg 57 rfl)) (hw _ (mg 58 rfl)) (hw _ (mg 3 rfl)) (hw _ (mg 59 rfl)) (by decide) at_155 pd_19 rfl rfl rfl rfl (by decide) (by decide) (by decide) (by decide) ?_
      refine Own.if_eq 225 at_158 (by decide) rfl (fun q => absurd q (by decide)) (fun _ => ?_)
      refine Own.aload at_161 rfl rfl ?_
      refine Own.iconst (2 : Int32) at_163 rfl ?_
      refine Own.iload at_164 rfl ?_
      refine Own.iloadN at_166 rfl ?_
      refine Own.iload at_167 rfl ?_
      refine Own.iload at_169 rfl ?_
      refine Own.iload at_171 rfl ?_
      refine Own.iload at_173 rfl ?_
      refine Own.callSP [(.ref s303), (.int (2 : Int32)), (.int (2 : Int32)), (.int (2 : Int32)), (.int d0), (.int d1), (.int e0), (.int e1)] [] 0 (rmOK2_2_2 l Z a0 hw [] s303 d0 d1 e0 e1 h302 n0 hn) (hw _ (mg 57 rfl)) (hw _ (mg 58 rfl)) (hw _ (mg 3 rfl)) (hw _ (mg 59 rfl)) (by decide) at_175 pd_19 rfl rfl rfl rfl (by decide) (by decide) (by decide) (by decide) ?_
      refine Own.if_eq 225 at_178 (by decide) rfl (fun q => absurd q (by decide)) (fun _ => ?_)
      refine Own.aload at_181 rfl rfl ?_
      refine Own.iconst (3 : Int32) at_183 rfl ?_
      refine Own.iload at_184 rfl ?_
      refine Own.iloadN at_186 rfl ?_
      refine Own.iload at_187 rfl ?_
      refine Own.iload at_189 rfl ?_
      refine Own.iload at_191 rfl ?_
      refine Own.iload at_193 rfl ?_
      refine Own.callSP [(.ref s303), (.int (3 : Int32)), (.int (2 : Int32)), (.int (2 : Int32)), (.int d0), (.int d1), (.int e0), (.int e1)] [] 0 (rmOK3_2_2 l Z a0 hw [] s303 d0 d1 e0 e1 h302 n0 hn) (hw _ (mg 57 rfl)) (hw _ (mg 58 rfl)) (hw _ (mg 3 rfl)) (hw _ (mg 59 rfl)) (by decide) at_195 pd_19 rfl rfl rfl rfl (by decide) (by decide) (by decide) (by decide) ?_
      refine Own.if_eq 225 at_198 (by decide) rfl (fun q => absurd q (by decide)) (fun _ => ?_)
      refine Own.aload at_201 rfl rfl ?_
      refine Own.iconst (4 : Int32) at_203 rfl ?_
      refine Own.iload at_204 rfl ?_
      refine Own.iloadN at_206 rfl ?_
      refine Own.iload at_207 rfl ?_
      refine Own.iload at_209 rfl ?_
      refine Own.iload at_211 rfl ?_
      refine Own.iload at_213 rfl ?_
      refine Own.callSP [(.ref s303), (.int (4 : Int32)), (.int (2 : Int32)), (.int (2 : Int32)), (.int d0), (.int d1), (.int e0), (.int e1)] [] 0 (rmOK4_2_2 l Z a0 hw [] s303 d0 d1 e0 e1 h302 n0 hn) (hw _ (mg 57 rfl)) (hw _ (mg 58 rfl)) (hw _ (mg 3 rfl)) (hw _ (mg 59 rfl)) (by decide) at_215 pd_19 rfl rfl rfl rfl (by decide) (by decide) (by decide) (by decide) ?_
      refine Own.if_eq 225 at_218 (by decide) rfl (fun q => absurd q (by decide)) (fun _ => ?_)
      refine Own.iconst (1 : Int32) at_221 rfl ?_
      refine Own.goto_ 226 at_222 (by decide) rfl ?_
      refine Own.ret_nar (t := .boolean) (by simp) rfl at_226 (by decide) (by decide) (fun Sf hSf => ?_)
      exact rfl
    · refine Own.iloadN at_55 rfl ?_
      refine Own.iload at_56 rfl ?_
      refine Own.iload at_58 rfl ?_
      refine Own.callS_ [(.int (2 : Int32)), (.int d0), (.int d1)] [] 0 (rmMk2 l Z a0 hw [] d0 d1 zc h0 n0 hn S_C hz hd0 hd1) all0 (hw _ (mg 1 rfl)) (hw _ (mg 2 rfl)) (hw _ (mg 3 rfl)) (hw _ (mg 4 rfl)) (by decide) at_60 pd_8 rfl rfl rfl rfl (by decide) (by decide) (by decide) (by decide) (fun v304 h304 S304 hq304 => ?_)
      obtain ⟨K305, s305, t305, kt305, rfl, X_s305, F_value_s305, F_coder_s305, V_t305⟩ := hq304
      have hn := Nat.le_trans hn K305.1
      replace S_C := sta_keep S_C K305 ns0
      replace S_F := sta_keep S_F K305 ns0
      refine ⟨[], all0, ?_⟩
      refine OAt.cast (st' := [(.ref s305)]) rfl ?_
      refine Own.astore #[.val (.int p0), .val (.int p1), .val (.int p2), .val (.int (2 : Int32)), .val (.int (1 : Int32)), .val (.int d0), .val (.int d1), .val (.int e0), .val (.int e1), .val (.ref s305), .unset, .unset, .unset] at_63 rfl rfl ?_
      refine Own.iload at_65 rfl ?_
      refine Own.iload at_67 rfl ?_
      refine Own.iload at_69 rfl ?_
      refine Own.callS_ [(.int (1 : Int32)), (.int e0), (.int e1)] [] 0 (rmMk1 l Z a0 hw [] e0 e1 zc h304 n0 hn S_C hz he0 he1) all0 (hw _ (mg 1 rfl)) (hw _ (mg 2 rfl)) (hw _ (mg 3 rfl)) (hw _ (mg 4 rfl)) (by decide) at_71 pd_8 rfl rfl rfl rfl (by decide) (by decide) (by decide) (by decide) (fun v306 h306 S306 hq306 => ?_)
      obtain ⟨K307, s307, t307, kt307, rfl, X_s307, F_value_s307, F_coder_s307, V_t307⟩ := hq306
      have hn := Nat.le_trans hn K307.1
      replace S_C := sta_keep S_C K307 ns0
      replace S_F := sta_keep S_F K307 ns0
      replace X_s305 := X_s305.keep K307
      replace F_value_s305 := F_value_s305.keep K307 nin0
      replace F_coder_s305 := F_coder_s305.keep K307 nin0
      replace V_t305 := V_t305.keep K307 nin0
      refine ⟨[], all0, ?_⟩
      refine OAt.cast (st' := [(.ref s307)]) rfl ?_
      refine Own.astore #[.val (.int p0), .val (.int p1), .val (.int p2), .val (.int (2 : Int32)), .val (.int (1 : Int32)), .val (.int d0), .val (.int d1), .val (.int e0), .val (.int e1), .val (.ref s305), .val (.ref s307), .unset, .unset] at_74 rfl rfl ?_
      refine Own.aload at_76 rfl rfl ?_
      refine Own.aload at_78 rfl rfl ?_
      refine Own.callS_ [(.ref s305), (.ref s307)] [] 0 (rmSL2_1 l Z a0 hw [] s305 t305 kt305 s307 t307 kt307 zc (.int (nar .byte ((nar .char d0).toInt8.toInt32))) (.int (nar .byte ((nar .char d1).toInt8.toInt32))) (.int (nar .byte ((nar .char e0).toInt8.toInt32))) h306 n0 hn X_s305 F_value_s305 F_coder_s305 V_t305 X_s307 F_value_s307 F_coder_s307 V_t307 S_C hz) all0 (hw _ (mg 38 rfl)) (hw _ (mg 39 rfl)) (hw _ (mg 40 rfl)) (hw _ (mg 41 rfl)) (by decide) at_80 pd_20 rfl rfl rfl rfl (by decide) (by decide) (by decide) (by decide) (fun v308 h308 S308 hq308 => ?_)
      obtain ⟨K309, s309, t309, kt309, rfl, X_s309, F_value_s309, F_coder_s309, V_t309⟩ := hq308
      have hn := Nat.le_trans hn K309.1
      replace S_C := sta_keep S_C K309 ns0
      replace S_F := sta_keep S_F K309 ns0
      refine ⟨[], all0, ?_⟩
      refine OAt.cast (st' := [(.ref s309)]) rfl ?_
      refine Own.astore #[.val (.int p0), .val (.int p1), .val (.int p2), .val (.int (2 : Int32)), .val (.int (1 : Int32)), .val (.int d0), .val (.int d1), .val (.int e0), .val (.int e1), .val (.ref s305), .val (.ref s307), .val (.ref s309), .unset] at_83 rfl rfl ?_
      refine Own.aload at_85 rfl rfl ?_
      refine Own.ifnonnullYes 92 at_87 (by decide) rfl ?_
      refine Own.iload at_92 rfl ?_
      refine Own.if_ne 101 at_94 (by decide) rfl (fun _ => ?_) (fun q => absurd q (by decide))
      refine Own.iloadN at_101 rfl ?_
      refine Own.iconst (1 : Int32) at_102 rfl ?_
      refine Own.iadd at_103 ?_
      refine OAt.cast (st' := [(.int (3 : Int32))]) rfl ?_
      refine Own.iload at_104 rfl ?_
      refine Own.iadd at_106 ?_
      refine OAt.cast (st' := [(.int (4 : Int32))]) rfl ?_
      refine Own.istore #[.val (.int p0), .val (.int p1), .val (.int p2), .val (.int (2 : Int32)), .val (.int (1 : Int32)), .val (.int d0), .val (.int d1), .val (.int e0), .val (.int e1), .val (.ref s305), .val (.ref s307), .val (.ref s309), .val (.int (4 : Int32))] at_107 rfl ?_
      refine Own.aload at_109 rfl rfl ?_
      refine Own.callVP s309 [] [] 0 (rm_len_4 l Z a0 hw [] s309 t309 kt309 _ zc h308 n0 hn X_s309 F_value_s309 F_coder_s309 V_t309 rfl S_C hz) (hw _ (mg 47 rfl)) (hw _ (mg 48 rfl)) (fun s hZ => notFace_of_selects (args := #[]) (mvT hZ (hw _ (mg 50 rfl)))) (hw _ (mg 50 rfl)) (hw _ (mg 49 rfl)) (hw _ (mg 7 rfl)) (hw _ (mg 51 rfl)) (by decide) X_s309 at_111 pd_1 rfl rfl rfl rfl (by decide) (by decide) (by decide) (by decide) ?_
      refine Own.iload at_114 rfl ?_
      refine Own.icmp_eq 121 at_116 (by decide) rfl (fun _ => ?_) (fun q => absurd (by decide) q)
      refine Own.aload at_121 rfl rfl ?_
      refine Own.iconst (0 : Int32) at_123 rfl ?_
      refine Own.iload at_124 rfl ?_
      refine Own.iloadN at_126 rfl ?_
      refine Own.iload at_127 rfl ?_
      refine Own.iload at_129 rfl ?_
      refine Own.iload at_131 rfl ?_
      refine Own.iload at_133 rfl ?_
      refine Own.callSP [(.ref s309), Z0, (.int (4 : Int32)), (.int (2 : Int32)), (.int d0), (.int d1), (.int e0), (.int e1)] [] 0 (rmOK0_4_2 l Z a0 hw [] s309 d0 d1 e0 e1 t309 kt309 _ zc vf h308 n0 hn X_s309 F_value_s309 F_coder_s309 V_t309 rfl rfl S_C S_F hz hvf hd0) (hw _ (mg 57 rfl)) (hw _ (mg 58 rfl)) (hw _ (mg 3 rfl)) (hw _ (mg 59 rfl)) (by decide) at_135 pd_19 rfl rfl rfl rfl (by decide) (by decide) (by decide) (by decide) ?_
      refine Own.if_eq 225 at_138 (by decide) rfl (fun q => absurd q (by decide)) (fun _ => ?_)
      refine Own.aload at_141 rfl rfl ?_
      refine Own.iconst (1 : Int32) at_143 rfl ?_
      refine Own.iload at_144 rfl ?_
      refine Own.iloadN at_146 rfl ?_
      refine Own.iload at_147 rfl ?_
      refine Own.iload at_149 rfl ?_
      refine Own.iload at_151 rfl ?_
      refine Own.iload at_153 rfl ?_
      refine Own.callSP [(.ref s309), (.int (1 : Int32)), (.int (4 : Int32)), (.int (2 : Int32)), (.int d0), (.int d1), (.int e0), (.int e1)] [] 0 (rmOK1_4_2 l Z a0 hw [] s309 d0 d1 e0 e1 t309 kt309 _ zc vf h308 n0 hn X_s309 F_value_s309 F_coder_s309 V_t309 rfl rfl S_C S_F hz hvf hd1) (hw _ (mg 57 rfl)) (hw _ (mg 58 rfl)) (hw _ (mg 3 rfl)) (hw _ (mg 59 rfl)) (by decide) at_155 pd_19 rfl rfl rfl rfl (by decide) (by decide) (by decide) (by decide) ?_
      refine Own.if_eq 225 at_158 (by decide) rfl (fun q => absurd q (by decide)) (fun _ => ?_)
      refine Own.aload at_161 rfl rfl ?_
      refine Own.iconst (2 : Int32) at_163 rfl ?_
      refine Own.iload at_164 rfl ?_
      refine Own.iloadN at_166 rfl ?_
      refine Own.iload at_167 rfl ?_
      refine Own.iload at_169 rfl ?_
      refine Own.iload at_171 rfl ?_
      refine Own.iload at_173 rfl ?_
      refine Own.callSP [(.ref s309), (.int (2 : Int32)), (.int (4 : Int32)), (.int (2 : Int32)), (.int d0), (.int d1), (.int e0), (.int e1)] [] 0 (rmOK2_4_2 l Z a0 hw [] s309 d0 d1 e0 e1 t309 kt309 _ zc vf h308 n0 hn X_s309 F_value_s309 F_coder_s309 V_t309 rfl (by rw [own_b35]; rfl) S_C S_F hz hvf ) (hw _ (mg 57 rfl)) (hw _ (mg 58 rfl)) (hw _ (mg 3 rfl)) (hw _ (mg 59 rfl)) (by decide) at_175 pd_19 rfl rfl rfl rfl (by decide) (by decide) (by decide) (by decide) ?_
      refine Own.if_eq 225 at_178 (by decide) rfl (fun q => absurd q (by decide)) (fun _ => ?_)
      refine Own.aload at_181 rfl rfl ?_
      refine Own.iconst (3 : Int32) at_183 rfl ?_
      refine Own.iload at_184 rfl ?_
      refine Own.iloadN at_186 rfl ?_
      refine Own.iload at_187 rfl ?_
      refine Own.iload at_189 rfl ?_
      refine Own.iload at_191 rfl ?_
      refine Own.iload at_193 rfl ?_
      refine Own.callSP [(.ref s309), (.int (3 : Int32)), (.int (4 : Int32)), (.int (2 : Int32)), (.int d0), (.int d1), (.int e0), (.int e1)] [] 0 (rmOK3_4_2 l Z a0 hw [] s309 d0 d1 e0 e1 t309 kt309 _ zc vf h308 n0 hn X_s309 F_value_s309 F_coder_s309 V_t309 rfl rfl S_C S_F hz hvf he0) (hw _ (mg 57 rfl)) (hw _ (mg 58 rfl)) (hw _ (mg 3 rfl)) (hw _ (mg 59 rfl)) (by decide) at_195 pd_19 rfl rfl rfl rfl (by decide) (by decide) (by decide) (by decide) ?_
      refine Own.if_eq 225 at_198 (by decide) rfl (fun q => absurd q (by decide)) (fun _ => ?_)
      refine Own.aload at_201 rfl rfl ?_
      refine Own.iconst (4 : Int32) at_203 rfl ?_
      refine Own.iload at_204 rfl ?_
      refine Own.iloadN at_206 rfl ?_
      refine Own.iload at_207 rfl ?_
      refine Own.iload at_209 rfl ?_
      refine Own.iload at_211 rfl ?_
      refine Own.iload at_213 rfl ?_
      refine Own.callSP [(.ref s309), (.int (4 : Int32)), (.int (4 : Int32)), (.int (2 : Int32)), (.int d0), (.int d1), (.int e0), (.int e1)] [] 0 (rmOK4_4_2 l Z a0 hw [] s309 d0 d1 e0 e1 h308 n0 hn) (hw _ (mg 57 rfl)) (hw _ (mg 58 rfl)) (hw _ (mg 3 rfl)) (hw _ (mg 59 rfl)) (by decide) at_215 pd_19 rfl rfl rfl rfl (by decide) (by decide) (by decide) (by decide) ?_
      refine Own.if_eq 225 at_218 (by decide) rfl (fun q => absurd q (by decide)) (fun _ => ?_)
      refine Own.iconst (1 : Int32) at_221 rfl ?_
      refine Own.goto_ 226 at_222 (by decide) rfl ?_
      refine Own.ret_nar (t := .boolean) (by simp) rfl at_226 (by decide) (by decide) (fun Sf hSf => ?_)
      exact rfl
    · refine Own.iloadN at_55 rfl ?_
      refine Own.iload at_56 rfl ?_
      refine Own.iload at_58 rfl ?_
      refine Own.callS_ [(.int (2 : Int32)), (.int d0), (.int d1)] [] 0 (rmMk2 l Z a0 hw [] d0 d1 zc h0 n0 hn S_C hz hd0 hd1) all0 (hw _ (mg 1 rfl)) (hw _ (mg 2 rfl)) (hw _ (mg 3 rfl)) (hw _ (mg 4 rfl)) (by decide) at_60 pd_8 rfl rfl rfl rfl (by decide) (by decide) (by decide) (by decide) (fun v310 h310 S310 hq310 => ?_)
      obtain ⟨K311, s311, t311, kt311, rfl, X_s311, F_value_s311, F_coder_s311, V_t311⟩ := hq310
      have hn := Nat.le_trans hn K311.1
      replace S_C := sta_keep S_C K311 ns0
      replace S_F := sta_keep S_F K311 ns0
      refine ⟨[], all0, ?_⟩
      refine OAt.cast (st' := [(.ref s311)]) rfl ?_
      refine Own.astore #[.val (.int p0), .val (.int p1), .val (.int p2), .val (.int (2 : Int32)), .val (.int (2 : Int32)), .val (.int d0), .val (.int d1), .val (.int e0), .val (.int e1), .val (.ref s311), .unset, .unset, .unset] at_63 rfl rfl ?_
      refine Own.iload at_65 rfl ?_
      refine Own.iload at_67 rfl ?_
      refine Own.iload at_69 rfl ?_
      refine Own.callS_ [(.int (2 : Int32)), (.int e0), (.int e1)] [] 0 (rmMk2 l Z a0 hw [] e0 e1 zc h310 n0 hn S_C hz he0 he1) all0 (hw _ (mg 1 rfl)) (hw _ (mg 2 rfl)) (hw _ (mg 3 rfl)) (hw _ (mg 4 rfl)) (by decide) at_71 pd_8 rfl rfl rfl rfl (by decide) (by decide) (by decide) (by decide) (fun v312 h312 S312 hq312 => ?_)
      obtain ⟨K313, s313, t313, kt313, rfl, X_s313, F_value_s313, F_coder_s313, V_t313⟩ := hq312
      have hn := Nat.le_trans hn K313.1
      replace S_C := sta_keep S_C K313 ns0
      replace S_F := sta_keep S_F K313 ns0
      replace X_s311 := X_s311.keep K313
      replace F_value_s311 := F_value_s311.keep K313 nin0
      replace F_coder_s311 := F_coder_s311.keep K313 nin0
      replace V_t311 := V_t311.keep K313 nin0
      refine ⟨[], all0, ?_⟩
      refine OAt.cast (st' := [(.ref s313)]) rfl ?_
      refine Own.astore #[.val (.int p0), .val (.int p1), .val (.int p2), .val (.int (2 : Int32)), .val (.int (2 : Int32)), .val (.int d0), .val (.int d1), .val (.int e0), .val (.int e1), .val (.ref s311), .val (.ref s313), .unset, .unset] at_74 rfl rfl ?_
      refine Own.aload at_76 rfl rfl ?_
      refine Own.aload at_78 rfl rfl ?_
      refine Own.callS_ [(.ref s311), (.ref s313)] [] 0 (rmSL2_2 l Z a0 hw [] s311 t311 kt311 s313 t313 kt313 zc (.int (nar .byte ((nar .char d0).toInt8.toInt32))) (.int (nar .byte ((nar .char d1).toInt8.toInt32))) (.int (nar .byte ((nar .char e0).toInt8.toInt32))) (.int (nar .byte ((nar .char e1).toInt8.toInt32))) h312 n0 hn X_s311 F_value_s311 F_coder_s311 V_t311 X_s313 F_value_s313 F_coder_s313 V_t313 S_C hz) all0 (hw _ (mg 38 rfl)) (hw _ (mg 39 rfl)) (hw _ (mg 40 rfl)) (hw _ (mg 41 rfl)) (by decide) at_80 pd_20 rfl rfl rfl rfl (by decide) (by decide) (by decide) (by decide) (fun v314 h314 S314 hq314 => ?_)
      obtain ⟨K315, s315, t315, kt315, rfl, X_s315, F_value_s315, F_coder_s315, V_t315⟩ := hq314
      have hn := Nat.le_trans hn K315.1
      replace S_C := sta_keep S_C K315 ns0
      replace S_F := sta_keep S_F K315 ns0
      refine ⟨[], all0, ?_⟩
      refine OAt.cast (st' := [(.ref s315)]) rfl ?_
      refine Own.astore #[.val (.int p0), .val (.int p1), .val (.int p2), .val (.int (2 : Int32)), .val (.int (2 : Int32)), .val (.int d0), .val (.int d1), .val (.int e0), .val (.int e1), .val (.ref s311), .val (.ref s313), .val (.ref s315), .unset] at_83 rfl rfl ?_
      refine Own.aload at_85 rfl rfl ?_
      refine Own.ifnonnullYes 92 at_87 (by decide) rfl ?_
      refine Own.iload at_92 rfl ?_
      refine Own.if_ne 101 at_94 (by decide) rfl (fun _ => ?_) (fun q => absurd q (by decide))
      refine Own.iloadN at_101 rfl ?_
      refine Own.iconst (1 : Int32) at_102 rfl ?_
      refine Own.iadd at_103 ?_
      refine OAt.cast (st' := [(.int (3 : Int32))]) rfl ?_
      refine Own.iload at_104 rfl ?_
      refine Own.iadd at_106 ?_
      refine OAt.cast (st' := [(.int (5 : Int32))]) rfl ?_
      refine Own.istore #[.val (.int p0), .val (.int p1), .val (.int p2), .val (.int (2 : Int32)), .val (.int (2 : Int32)), .val (.int d0), .val (.int d1), .val (.int e0), .val (.int e1), .val (.ref s311), .val (.ref s313), .val (.ref s315), .val (.int (5 : Int32))] at_107 rfl ?_
      refine Own.aload at_109 rfl rfl ?_
      refine Own.callVP s315 [] [] 0 (rm_len_5 l Z a0 hw [] s315 t315 kt315 _ zc h314 n0 hn X_s315 F_value_s315 F_coder_s315 V_t315 rfl S_C hz) (hw _ (mg 47 rfl)) (hw _ (mg 48 rfl)) (fun s hZ => notFace_of_selects (args := #[]) (mvT hZ (hw _ (mg 50 rfl)))) (hw _ (mg 50 rfl)) (hw _ (mg 49 rfl)) (hw _ (mg 7 rfl)) (hw _ (mg 51 rfl)) (by decide) X_s315 at_111 pd_1 rfl rfl rfl rfl (by decide) (by decide) (by decide) (by decide) ?_
      refine Own.iload at_114 rfl ?_
      refine Own.icmp_eq 121 at_116 (by decide) rfl (fun _ => ?_) (fun q => absurd (by decide) q)
      refine Own.aload at_121 rfl rfl ?_
      refine Own.iconst (0 : Int32) at_123 rfl ?_
      refine Own.iload at_124 rfl ?_
      refine Own.iloadN at_126 rfl ?_
      refine Own.iload at_127 rfl ?_
      refine Own.iload at_129 rfl ?_
      refine Own.iload at_131 rfl ?_
      refine Own.iload at_133 rfl ?_
      refine Own.callSP [(.ref s315), Z0, (.int (5 : Int32)), (.int (2 : Int32)), (.int d0), (.int d1), (.int e0), (.int e1)] [] 0 (rmOK0_5_2 l Z a0 hw [] s315 d0 d1 e0 e1 t315 kt315 _ zc vf h314 n0 hn X_s315 F_value_s315 F_coder_s315 V_t315 rfl rfl S_C S_F hz hvf hd0) (hw _ (mg 57 rfl)) (hw _ (mg 58 rfl)) (hw _ (mg 3 rfl)) (hw _ (mg 59 rfl)) (by decide) at_135 pd_19 rfl rfl rfl rfl (by decide) (by decide) (by decide) (by decide) ?_
      refine Own.if_eq 225 at_138 (by decide) rfl (fun q => absurd q (by decide)) (fun _ => ?_)
      refine Own.aload at_141 rfl rfl ?_
      refine Own.iconst (1 : Int32) at_143 rfl ?_
      refine Own.iload at_144 rfl ?_
      refine Own.iloadN at_146 rfl ?_
      refine Own.iload at_147 rfl ?_
      refine Own.iload at_149 rfl ?_
      refine Own.iload at_151 rfl ?_
      refine Own.iload at_153 rfl ?_
      refine Own.callSP [(.ref s315), (.int (1 : Int32)), (.int (5 : Int32)), (.int (2 : Int32)), (.int d0), (.int d1), (.int e0), (.int e1)] [] 0 (rmOK1_5_2 l Z a0 hw [] s315 d0 d1 e0 e1 t315 kt315 _ zc vf h314 n0 hn X_s315 F_value_s315 F_coder_s315 V_t315 rfl rfl S_C S_F hz hvf hd1) (hw _ (mg 57 rfl)) (hw _ (mg 58 rfl)) (hw _ (mg 3 rfl)) (hw _ (mg 59 rfl)) (by decide) at_155 pd_19 rfl rfl rfl rfl (by decide) (by decide) (by decide) (by decide) ?_
      refine Own.if_eq 225 at_158 (by decide) rfl (fun q => absurd q (by decide)) (fun _ => ?_)
      refine Own.aload at_161 rfl rfl ?_
      refine Own.iconst (2 : Int32) at_163 rfl ?_
      refine Own.iload at_164 rfl ?_
      refine Own.iloadN at_166 rfl ?_
      refine Own.iload at_167 rfl ?_
      refine Own.iload at_169 rfl ?_
      refine Own.iload at_171 rfl ?_
      refine Own.iload at_173 rfl ?_
      refine Own.callSP [(.ref s315), (.int (2 : Int32)), (.int (5 : Int32)), (.int (2 : Int32)), (.int d0), (.int d1), (.int e0), (.int e1)] [] 0 (rmOK2_5_2 l Z a0 hw [] s315 d0 d1 e0 e1 t315 kt315 _ zc vf h314 n0 hn X_s315 F_value_s315 F_coder_s315 V_t315 rfl (by rw [own_b35]; rfl) S_C S_F hz hvf ) (hw _ (mg 57 rfl)) (hw _ (mg 58 rfl)) (hw _ (mg 3 rfl)) (hw _ (mg 59 rfl)) (by decide) at_175 pd_19 rfl rfl rfl rfl (by decide) (by decide) (by decide) (by decide) ?_
      refine Own.if_eq 225 at_178 (by decide) rfl (fun q => absurd q (by decide)) (fun _ => ?_)
      refine Own.aload at_181 rfl rfl ?_
      refine Own.iconst (3 : Int32) at_183 rfl ?_
      refine Own.iload at_184 rfl ?_
      refine Own.iloadN at_186 rfl ?_
      refine Own.iload at_187 rfl ?_
      refine Own.iload at_189 rfl ?_
      refine Own.iload at_191 rfl ?_
      refine Own.iload at_193 rfl ?_
      refine Own.callSP [(.ref s315), (.int (3 : Int32)), (.int (5 : Int32)), (.int (2 : Int32)), (.int d0), (.int d1), (.int e0), (.int e1)] [] 0 (rmOK3_5_2 l Z a0 hw [] s315 d0 d1 e0 e1 t315 kt315 _ zc vf h314 n0 hn X_s315 F_value_s315 F_coder_s315 V_t315 rfl rfl S_C S_F hz hvf he0) (hw _ (mg 57 rfl)) (hw _ (mg 58 rfl)) (hw _ (mg 3 rfl)) (hw _ (mg 59 rfl)) (by decide) at_195 pd_19 rfl rfl rfl rfl (by decide) (by decide) (by decide) (by decide) ?_
      refine Own.if_eq 225 at_198 (by decide) rfl (fun q => absurd q (by decide)) (fun _ => ?_)
      refine Own.aload at_201 rfl rfl ?_
      refine Own.iconst (4 : Int32) at_203 rfl ?_
      refine Own.iload at_204 rfl ?_
      refine Own.iloadN at_206 rfl ?_
      refine Own.iload at_207 rfl ?_
      refine Own.iload at_209 rfl ?_
      refine Own.iload at_211 rfl ?_
      refine Own.iload at_213 rfl ?_
      refine Own.callSP [(.ref s315), (.int (4 : Int32)), (.int (5 : Int32)), (.int (2 : Int32)), (.int d0), (.int d1), (.int e0), (.int e1)] [] 0 (rmOK4_5_2 l Z a0 hw [] s315 d0 d1 e0 e1 t315 kt315 _ zc vf h314 n0 hn X_s315 F_value_s315 F_coder_s315 V_t315 rfl rfl S_C S_F hz hvf he1) (hw _ (mg 57 rfl)) (hw _ (mg 58 rfl)) (hw _ (mg 3 rfl)) (hw _ (mg 59 rfl)) (by decide) at_215 pd_19 rfl rfl rfl rfl (by decide) (by decide) (by decide) (by decide) ?_
      refine Own.if_eq 225 at_218 (by decide) rfl (fun q => absurd q (by decide)) (fun _ => ?_)
      refine Own.iconst (1 : Int32) at_221 rfl ?_
      refine Own.goto_ 226 at_222 (by decide) rfl ?_
      refine Own.ret_nar (t := .boolean) (by simp) rfl at_226 (by decide) (by decide) (fun Sf hSf => ?_)
      exact rfl
theorem comes_1 {Post : Tables → Env → Array Value → State → Outcome → State → Prop} (hpost : ∀ tb e args s v u, (limb_1_1.after args s (.returned v) u = true ∧ limb_1_2.after args s (.returned v) u = true ∧ True) → ReturnedEndW s (.returned v) u (Jvm.fieldLocs frame_1_writes args s ++ Jvm.arrayLocs frame_1_arrays args s ++ Jvm.staticLocs frame_1_statics s) 32 2240 → Post tb e args s (.returned v) u) :
    ArmFor flags0 classFile x code maxLocals ret World_1 tables_1 room_1 Calls_1 rest_1 Pre_1 Post := by
  intro l hfl _ _ p e ha hc hk s m args below hf hA hF happ hP
  obtain ⟨hcalls, hrest, hpre⟩ := hP
  obtain ⟨-, -, -, hnamed, -, -, -, hat⟩ := (Spec.applies_iff hf).mp happ
  obtain ⟨hg, hn⟩ := and_e (Cond.before_iff.mp (show (Jvm.Cond.and given_1 narrow_1).before args s = true from hpre))
  obtain ⟨gc, ga0⟩ := and_e hg
  obtain ⟨g0, ga1⟩ := and_e ga0
  obtain ⟨g1, ga2⟩ := and_e ga1
  have g2 := ga2
  obtain ⟨w0, w1, w2, rfl⟩ : ∃ w0 w1 w2 : Value, args = #[w0, w1, w2] := by
    have hs : args.size = 3 := by simpa [Cond.value, given_1] using gc
    obtain ⟨L⟩ := args
    match L, hs with
    | [w0, w1, w2], _ => exact ⟨w0, w1, w2, rfl⟩
  have hw := fun d (hd : d ∈ tables_1) => atoms_spec (ws := Jvm.Cond.code x code maxLocals ret :: tables_1) hat d (List.mem_cons_of_mem _ hd)
  have hfit : Fit s := fun {y c} hc i hi => by
    obtain ⟨ha, rfl⟩ := Array.getElem?_eq_some_iff.mp hc
    have q := List.all_eq_true.mp ((Array.all_eq_true_iff_forall_mem.mp hF) _ (Array.getElem_mem ha)) i (List.mem_range.mpr hi)
    simpa [Array.getElem?_eq_getElem hi] using q
  obtain ⟨i0, ei0⟩ := is_v g0
  obtain rfl : w0 = (.int i0) := Option.some.inj ei0
  obtain ⟨i1, ei1⟩ := is_v g1
  obtain rfl : w1 = (.int i1) := Option.some.inj ei1
  obtain ⟨i2, ei2⟩ := is_v g2
  obtain rfl : w2 = (.int i2) := Option.some.inj ei2
  obtain ⟨hsets, hown0⟩ := atoms_of _ (rest_1_c_eq ▸ (show rest_1_c.before _ s = true from hrest))
  obtain ⟨zc, ezc⟩ := is_v (Cond.before_iff.mp (hsets _ (mg 1 rfl)))
  have S_C := Sta.start ezc (Or.inl (hsets _ (mg 0 rfl)))
  have hz : ¬ zc = 0 := fun q => by
    have hq := Cond.before_iff.mp (hsets _ (mg 2 rfl))
    have h0 := not_v hq
    have h1 := eq_i ezc (Term.int_eval (0 : Int32)) (congrArg Value.int q) (idx := []) (o := none) (first := s)
    rw [h1] at h0; cases h0
  obtain ⟨vf, evf, hvf⟩ := isR_v (Cond.before_iff.mp (hsets _ (mg 8 rfl)))
  have S_F := Sta.start evf (Or.inl (hsets _ (mg 7 rfl)))
  have hCH : CHv s own_EL s.vm s.heap := CHv.start (own_EW hw) (fun p hp => hcalls.1 p hp) (show Jvm.Lit.compactW.before _ s = true from (hsets _ (mg 2 rfl))) (hw _ (mg 24 rfl)) (hw _ (mg 6 rfl))
  obtain ⟨n, o, h1, h2, h3, _, L, rfl, ⟨N, -, -, rfl⟩, hq⟩ := rm0 l s _ hw tables_1 i0 i1 i2 zc vf s.heap s.heap.size (Nat.le_refl _) S_C S_F hz hvf p e ha hc hk s m _ below hf ((Spec.applies_iff_loose hf).mp happ).1 ⟨rfl, State.Warmed39.refl s, rfl, hCH, all0, _, own_EW hw⟩ trivial
  refine ⟨n, _, h1, h2, h3, hpost _ _ _ _ _ _ ⟨Cond.after_iff.mpr rfl, Cond.after_iff.mpr (eq_i res_at (Term.int_eval (1)) rfl), trivial⟩ ⟨hq.1, hq.2.1, hq.2.2.1, (hq.2.2.2.sift fun y hy => Or.inr (N y hy)).mono (by decide) (by decide)⟩⟩
theorem main_1_1 : Claimed_1_1 := comes_1 fun _ _ _ _ _ _ h hF => ⟨h.1, hF⟩
theorem main_1_2 : Claimed_1_2 := comes_1 fun _ _ _ _ _ _ h hF => ⟨h.2.1, hF⟩
end Jvm.Pilot.@@N@@
namespace Jvm.Pilot.@@N@@
open Jvm Jvm.ClassFile Sem Op Lib Jvm.Free Jvm.Stand Jvm.Pilot.@@N@@.Jvm.D
/-! MADE BY PROGRAM (witnessworld.py) out of the Statement's table words and the real class files: 26 classes; the members and pool entries that the words name. The judged class is class 1, her method 1. -/
namespace start1
open Jvm.ClassFile
def u (s : String) : CpInfo := .utf8 (stringToUtf16 s)
/-- a pool by its gaps: so many unusable entries, then the entry; so many at the end -/
def gap : Nat → List CpInfo → List CpInfo
  | 0, r => r
  | n + 1, r => .unusable :: gap n r
def poolList (es : List (Nat × CpInfo)) (last : Nat) : List CpInfo := es.foldr (fun e r => gap e.1 (e.2 :: r)) (gap last [])
def pool (es : List (Nat × CpInfo)) (last : Nat) : Array CpInfo := ⟨poolList es last⟩
def fileOf (pool : Array CpInfo) (this : Nat) (attrs : Array Attribute := #[]) (ms : Array MethodInfo := #[]) (fl : Nat := 33) (sup : Nat := 0) (ifs : Array Nat := #[]) (fds : Array FieldInfo := #[]) : ClassFile where
  minorVersion := 0
  majorVersion := 65
  constantPool := pool
  accessFlags := fl
  thisClass := this
  superClass := sup
  interfaces := ifs
  fields := fds
  methods := ms
  attributes := attrs
def plain (name : String) (sup : Option ClassId) : Class where
  name := name
  kind := .ordinary
  loader := none
  accessFlags := 33
  super := sup
  interfaces := #[]
  cf := none
  fields := #[]
  methods := #[]
  instanceTypes := #[]
  staticTypes := #[]
  resolved := #[]
  callSites := []
  init := .initialized
  statics := none
  mirror := none

def pool0 : Array CpInfo := pool [(5, u "<init>"), (0, u "()V"), (1, .class_ 10), (1, u "java/lang/Object")] 113

def k0c0 : Code := { maxStack := 0, maxLocals := 1, code := object_method_1_code, exceptionTable := #[], attributes := #[] }
def k0m0 : Method := { name := "<init>", desc := "()V", sig := { parameters := [], returnType := none }, accessFlags := 1, code := some k0c0 }
/-- java/lang/Object -/
def k0 : Class := { plain "java/lang/Object" none with
  accessFlags := 33
  interfaces := #[]
  cf := some (fileOf pool0 8 #[] #[{ accessFlags := 1, nameIndex := 5, descriptorIndex := 6, attributes := #[] }] 33 0 #[] #[])
  fields := #[]
  methods := #[k0m0]
  instanceTypes := #[]
  staticTypes := #[]
  resolved := Array.replicate 124 none
  statics := none }

def pool1 : Array CpInfo := pool [(2, .class_ 4), (1, u "java/lang/Object"), (0, u "<init>"), (0, u "()V"), (0, .integer 2147483647), (0, .methodref 9 10), (0, .class_ 11), (0, .nameAndType 12 13), (0, u "com/example/hits_by_heading/hitsbyheading/document/DocumentSectionLocationPinLaw"), (0, u "make"), (0, u "(ICC)Ljava/lang/String;"), (0, .methodref 15 16), (0, .class_ 17), (0, .nameAndType 18 19), (0, u "com/example/hits_by_heading/hitsbyheading/document/Document"), (0, u "sectionLocation"), (0, u "(Ljava/lang/String;Ljava/lang/String;)Ljava/lang/String;"), (0, .methodref 21 22), (0, .class_ 23), (0, .nameAndType 24 25), (0, u "java/lang/String"), (0, u "length"), (0, u "()I"), (0, .methodref 9 27), (0, .nameAndType 28 29), (0, u "ok"), (0, u "(Ljava/lang/String;IIICCCC)Z"), (0, .methodref 21 31), (0, .nameAndType 5 32), (0, u "([C)V"), (0, .methodref 21 34), (0, .nameAndType 35 36), (0, u "charAt"), (0, u "(I)C"), (0, .methodref 9 38), (0, .nameAndType 39 40), (0, u "expected"), (0, u "(IICCCC)C"), (2, u "law"), (0, u "(III)Z")] 3

def k1m0 : Method := { name := "<init>", desc := "()V", sig := { parameters := [], returnType := none }, accessFlags := 1, code := none }
def k1c1 : Code := { maxStack := 8, maxLocals := 13, code := code, exceptionTable := #[], attributes := #[] }
def k1m1 : Method := { name := "law", desc := "(III)Z", sig := { parameters := [.int, .int, .int], returnType := some .boolean }, accessFlags := 9, code := some k1c1 }
def k1c2 : Code := { maxStack := 6, maxLocals := 3, code := method_3_code, exceptionTable := #[], attributes := #[] }
def k1m2 : Method := { name := "make", desc := "(ICC)Ljava/lang/String;", sig := { parameters := [.int, .char, .char], returnType := some (.object "java/lang/String") }, accessFlags := 10, code := some k1c2 }
def k1c3 : Code := { maxStack := 7, maxLocals := 8, code := method_4_code, exceptionTable := #[], attributes := #[] }
def k1m3 : Method := { name := "ok", desc := "(Ljava/lang/String;IIICCCC)Z", sig := { parameters := [(.object "java/lang/String"), .int, .int, .int, .char, .char, .char, .char], returnType := some .boolean }, accessFlags := 10, code := some k1c3 }
def k1c4 : Code := { maxStack := 2, maxLocals := 7, code := method_5_code, exceptionTable := #[], attributes := #[] }
def k1m4 : Method := { name := "expected", desc := "(IICCCC)C", sig := { parameters := [.int, .int, .char, .char, .char, .char], returnType := some .char }, accessFlags := 10, code := some k1c4 }
/-- com/example/hits_by_heading/hitsbyheading/document/DocumentSectionLocationPinLaw -/
def k1 : Class := { plain "com/example/hits_by_heading/hitsbyheading/document/DocumentSectionLocationPinLaw" (some 0) with
  accessFlags := 49
  interfaces := #[]
  cf := some (fileOf pool1 9 #[] #[{ accessFlags := 1, nameIndex := 5, descriptorIndex := 6, attributes := #[] }, { accessFlags := 9, nameIndex := 43, descriptorIndex := 44, attributes := #[] }, { accessFlags := 10, nameIndex := 12, descriptorIndex := 13, attributes := #[] }, { accessFlags := 10, nameIndex := 28, descriptorIndex := 29, attributes := #[] }, { accessFlags := 10, nameIndex := 39, descriptorIndex := 40, attributes := #[] }] 49 2 #[] #[])
  fields := #[]
  methods := #[k1m0, k1m1, k1m2, k1m3, k1m4]
  instanceTypes := #[]
  staticTypes := #[]
  resolved := Array.replicate 48 none
  statics := none }

def pool2 : Array CpInfo := pool [(1, .class_ 2), (0, u "java/io/Serializable"), (0, .class_ 4), (0, u "java/lang/Object")] 2

/-- java/io/Serializable -/
def k2 : Class := { plain "java/io/Serializable" (some 0) with
  accessFlags := 1537
  interfaces := #[]
  cf := some (fileOf pool2 1 #[] #[] 1537 3 #[] #[])
  fields := #[]
  methods := #[]
  instanceTypes := #[]
  staticTypes := #[]
  resolved := Array.replicate 7 none
  statics := none }

def pool3 : Array CpInfo := pool [(1, .class_ 2), (0, u "java/lang/Comparable"), (0, .class_ 4), (0, u "java/lang/Object")] 7

/-- java/lang/Comparable -/
def k3 : Class := { plain "java/lang/Comparable" (some 0) with
  accessFlags := 1537
  interfaces := #[]
  cf := some (fileOf pool3 1 #[] #[] 1537 3 #[] #[])
  fields := #[]
  methods := #[]
  instanceTypes := #[]
  staticTypes := #[]
  resolved := Array.replicate 12 none
  statics := none }

def pool4 : Array CpInfo := pool [(2, .class_ 4), (1, u "java/lang/CharSequence"), (42, .class_ 48), (0, u "java/lang/CharSequence$1CodePointIterator"), (10, .class_ 60), (0, u "java/lang/CharSequence$1CharIterator"), (5, .class_ 67), (0, u "java/lang/Object")] 63

/-- java/lang/CharSequence -/
def k4 : Class := { plain "java/lang/CharSequence" (some 0) with
  accessFlags := 1537
  interfaces := #[]
  cf := some (fileOf pool4 2 #[.nestMembers #[47, 59]] #[] 1537 66 #[] #[])
  fields := #[]
  methods := #[]
  instanceTypes := #[]
  staticTypes := #[]
  resolved := Array.replicate 131 none
  statics := none }

def pool5 : Array CpInfo := pool [(1, .class_ 2), (0, u "java/lang/constant/Constable"), (0, .class_ 4), (0, u "java/lang/Object")] 6

/-- java/lang/constant/Constable -/
def k5 : Class := { plain "java/lang/constant/Constable" (some 0) with
  accessFlags := 1537
  interfaces := #[]
  cf := some (fileOf pool5 1 #[] #[] 1537 3 #[] #[])
  fields := #[]
  methods := #[]
  instanceTypes := #[]
  staticTypes := #[]
  resolved := Array.replicate 11 none
  statics := none }

def pool6 : Array CpInfo := pool [(1, .class_ 2), (0, u "java/lang/constant/ConstantDesc"), (0, .class_ 4), (0, u "java/lang/Object")] 32

/-- java/lang/constant/ConstantDesc -/
def k6 : Class := { plain "java/lang/constant/ConstantDesc" (some 0) with
  accessFlags := 1537
  interfaces := #[]
  cf := some (fileOf pool6 1 #[] #[] 1537 3 #[] #[])
  fields := #[]
  methods := #[]
  instanceTypes := #[]
  staticTypes := #[]
  resolved := Array.replicate 37 none
  statics := none }

def pool7 : Array CpInfo := pool [(1, .methodref 2 3), (0, .class_ 4), (0, .nameAndType 5 6), (0, u "java/lang/Object"), (0, u "<init>"), (0, u "()V"), (0, .string 8), (0, u ""), (0, .fieldref 10 11), (0, .class_ 12), (0, .nameAndType 13 14), (0, u "java/lang/String"), (0, u "value"), (0, u "[B"), (0, .fieldref 10 16), (0, .nameAndType 17 18), (0, u "coder"), (0, u "B"), (2, u "hash"), (0, u "I"), (2, u "hashIsZero"), (0, u "Z"), (0, .methodref 10 28), (0, .nameAndType 5 29), (0, u "([CIILjava/lang/Void;)V"), (8, .fieldref 10 39), (0, .nameAndType 40 26), (0, u "COMPACT_STRINGS"), (1, .class_ 44), (1, u "java/lang/StringUTF16"), (0, u "compress"), (1, .methodref 42 48), (0, .nameAndType 49 50), (0, u "coderFromArrayLen"), (0, u "([BI)B"), (3, .methodref 55 56), (0, .class_ 57), (0, .nameAndType 58 59), (0, u "java/util/Arrays"), (0, u "copyOfRange"), (0, u "([BII)[B"), (47, .class_ 109), (1, u "java/lang/StringLatin1"), (32, u "()Z"), (34, .methodref 42 178), (0, .nameAndType 45 179), (0, u "([CII)[B"), (13, .class_ 195), (1, u "java/lang/System"), (16, .methodref 193 213), (0, .nameAndType 214 215), (0, u "arraycopy"), (0, u "(Ljava/lang/Object;ILjava/lang/Object;II)V"), (118, u "()I"), (0, .methodref 10 336), (0, .nameAndType 17 337), (0, u "()B"), (2, u "()[B"), (22, u "([BI)C"), (27, u "(II)V"), (35, u "(I)C"), (61, .methodref 10 490), (0, .nameAndType 5 491), (0, u "(Ljava/lang/AbstractStringBuilder;Ljava/lang/Void;)V"), (0, .methodref 10 493), (0, .nameAndType 494 142), (0, u "isLatin1"), (0, .methodref 107 496), (0, .nameAndType 497 363), (0, u "charAt"), (3, u "checkIndex"), (4, .nameAndType 507 334), (0, u "length"), (24, u "getBytes"), (16, .methodref 550 506), (0, .class_ 551), (0, u "java/lang/AbstractStringBuilder"), (0, .methodref 550 553), (0, .nameAndType 554 340), (0, u "getValue"), (20, .class_ 576), (0, u "java/lang/CharSequence"), (22, u "CASE_INSENSITIVE_ORDER"), (0, u "Ljava/util/Comparator;"), (91, u "isEmpty"), (128, u "([BIB)V"), (188, u "([C)V"), (36, .methodref 550 493), (5, .fieldref 1054 1055), (0, .class_ 1056), (0, .nameAndType 1057 1058), (0, u "jdk/internal/util/Preconditions"), (0, u "SIOOBE_FORMATTER"), (0, u "Ljava/util/function/BiFunction;"), (0, .methodref 1054 1060), (0, .nameAndType 501 1061), (0, u "(IILjava/util/function/BiFunction;)I"), (39, u "serialPersistentFields"), (0, u "[Ljava/io/ObjectStreamField;"), (0, .class_ 1104), (0, u "java/lang/String$CaseInsensitiveComparator"), (1, .class_ 1107), (0, u "java/io/Serializable"), (0, .class_ 1109), (0, u "java/lang/Comparable"), (0, .class_ 1111), (0, u "java/lang/constant/Constable"), (0, .class_ 1113), (0, u "java/lang/constant/ConstantDesc"), (2, u "serialVersionUID"), (0, u "J"), (3, u "REPL"), (0, u "C"), (2, u "LATIN1"), (1, u "UTF16"), (105, u "(Ljava/lang/StringBuilder;)V")] 217

def k7m0 : Method := { name := "<init>", desc := "()V", sig := { parameters := [], returnType := none }, accessFlags := 1, code := none }
def k7c1 : Code := { maxStack := 5, maxLocals := 2, code := jdk_42_method_3_code, exceptionTable := #[], attributes := #[] }
def k7m1 : Method := { name := "<init>", desc := "([C)V", sig := { parameters := [(.array .char)], returnType := none }, accessFlags := 1, code := some k7c1 }
def k7c2 : Code := { maxStack := 3, maxLocals := 2, code := jdk_42_method_53_code, exceptionTable := #[], attributes := #[] }
def k7m2 : Method := { name := "<init>", desc := "(Ljava/lang/StringBuilder;)V", sig := { parameters := [(.object "java/lang/StringBuilder")], returnType := none }, accessFlags := 1, code := some k7c2 }
def k7c3 : Code := { maxStack := 2, maxLocals := 1, code := jdk_42_method_54_code, exceptionTable := #[], attributes := #[] }
def k7m3 : Method := { name := "length", desc := "()I", sig := { parameters := [], returnType := some .int }, accessFlags := 1, code := some k7c3 }
def k7c4 : Code := { maxStack := 1, maxLocals := 1, code := jdk_42_method_55_code, exceptionTable := #[], attributes := #[] }
def k7m4 : Method := { name := "isEmpty", desc := "()Z", sig := { parameters := [], returnType := some .boolean }, accessFlags := 1, code := some k7c4 }
def k7c5 : Code := { maxStack := 2, maxLocals := 2, code := jdk_42_method_56_code, exceptionTable := #[], attributes := #[] }
def k7m5 : Method := { name := "charAt", desc := "(I)C", sig := { parameters := [.int], returnType := some .char }, accessFlags := 1, code := some k7c5 }
def k7c6 : Code := { maxStack := 5, maxLocals := 4, code := jdk_42_method_147_code, exceptionTable := #[], attributes := #[] }
def k7m6 : Method := { name := "getBytes", desc := "([BIB)V", sig := { parameters := [(.array .byte), .int, .byte], returnType := none }, accessFlags := 0, code := some k7c6 }
def k7c7 : Code := { maxStack := 4, maxLocals := 6, code := jdk_42_method_149_code, exceptionTable := #[], attributes := #[] }
def k7m7 : Method := { name := "<init>", desc := "([CIILjava/lang/Void;)V", sig := { parameters := [(.array .char), .int, .int, (.object "java/lang/Void")], returnType := none }, accessFlags := 2, code := some k7c7 }
def k7c8 : Code := { maxStack := 5, maxLocals := 5, code := jdk_42_method_150_code, exceptionTable := #[], attributes := #[] }
def k7m8 : Method := { name := "<init>", desc := "(Ljava/lang/AbstractStringBuilder;Ljava/lang/Void;)V", sig := { parameters := [(.object "java/lang/AbstractStringBuilder"), (.object "java/lang/Void")], returnType := none }, accessFlags := 0, code := some k7c8 }
def k7c9 : Code := { maxStack := 1, maxLocals := 1, code := jdk_42_method_152_code, exceptionTable := #[], attributes := #[] }
def k7m9 : Method := { name := "coder", desc := "()B", sig := { parameters := [], returnType := some .byte }, accessFlags := 0, code := some k7c9 }
def k7c10 : Code := { maxStack := 1, maxLocals := 1, code := jdk_42_method_154_code, exceptionTable := #[], attributes := #[] }
def k7m10 : Method := { name := "isLatin1", desc := "()Z", sig := { parameters := [], returnType := some .boolean }, accessFlags := 0, code := some k7c10 }
def k7c11 : Code := { maxStack := 3, maxLocals := 2, code := jdk_42_method_155_code, exceptionTable := #[], attributes := #[] }
def k7m11 : Method := { name := "checkIndex", desc := "(II)V", sig := { parameters := [.int, .int], returnType := none }, accessFlags := 8, code := some k7c11 }
/-- java/lang/String -/
def k7 : Class := { plain "java/lang/String" (some 0) with
  accessFlags := 49
  interfaces := #[2, 3, 4, 5, 6]
  cf := some (fileOf pool7 10 #[.nestMembers #[1103]] #[{ accessFlags := 1, nameIndex := 5, descriptorIndex := 6, attributes := #[] }, { accessFlags := 1, nameIndex := 5, descriptorIndex := 1010, attributes := #[] }, { accessFlags := 1, nameIndex := 5, descriptorIndex := 1233, attributes := #[] }, { accessFlags := 1, nameIndex := 507, descriptorIndex := 334, attributes := #[] }, { accessFlags := 1, nameIndex := 692, descriptorIndex := 142, attributes := #[] }, { accessFlags := 1, nameIndex := 497, descriptorIndex := 427, attributes := #[] }, { accessFlags := 0, nameIndex := 532, descriptorIndex := 821, attributes := #[] }, { accessFlags := 2, nameIndex := 5, descriptorIndex := 29, attributes := #[] }, { accessFlags := 0, nameIndex := 5, descriptorIndex := 491, attributes := #[] }, { accessFlags := 0, nameIndex := 17, descriptorIndex := 337, attributes := #[] }, { accessFlags := 0, nameIndex := 494, descriptorIndex := 142, attributes := #[] }, { accessFlags := 8, nameIndex := 501, descriptorIndex := 391, attributes := #[] }] 49 2 #[1106, 1108, 575, 1110, 1112] #[{ accessFlags := 18, nameIndex := 13, descriptorIndex := 14, attributes := #[] }, { accessFlags := 18, nameIndex := 17, descriptorIndex := 18, attributes := #[] }, { accessFlags := 2, nameIndex := 21, descriptorIndex := 22, attributes := #[] }, { accessFlags := 2, nameIndex := 25, descriptorIndex := 26, attributes := #[] }, { accessFlags := 26, nameIndex := 1116, descriptorIndex := 1117, attributes := #[] }, { accessFlags := 24, nameIndex := 40, descriptorIndex := 26, attributes := #[] }, { accessFlags := 26, nameIndex := 1101, descriptorIndex := 1102, attributes := #[] }, { accessFlags := 26, nameIndex := 1121, descriptorIndex := 1122, attributes := #[] }, { accessFlags := 25, nameIndex := 599, descriptorIndex := 600, attributes := #[] }, { accessFlags := 24, nameIndex := 1125, descriptorIndex := 18, attributes := #[] }, { accessFlags := 24, nameIndex := 1127, descriptorIndex := 18, attributes := #[] }])
  fields := #[{ name := "value", type := (.array .byte), accessFlags := 18, slot := 0, constantValue := 0 }, { name := "coder", type := .byte, accessFlags := 18, slot := 1, constantValue := 0 }, { name := "hash", type := .int, accessFlags := 2, slot := 2, constantValue := 0 }, { name := "hashIsZero", type := .boolean, accessFlags := 2, slot := 3, constantValue := 0 }, { name := "serialVersionUID", type := .long, accessFlags := 26, slot := 0, constantValue := 0 }, { name := "COMPACT_STRINGS", type := .boolean, accessFlags := 24, slot := 1, constantValue := 0 }, { name := "serialPersistentFields", type := (.array (.object "java/io/ObjectStreamField")), accessFlags := 26, slot := 2, constantValue := 0 }, { name := "REPL", type := .char, accessFlags := 26, slot := 3, constantValue := 0 }, { name := "CASE_INSENSITIVE_ORDER", type := (.object "java/util/Comparator"), accessFlags := 25, slot := 4, constantValue := 0 }, { name := "LATIN1", type := .byte, accessFlags := 24, slot := 5, constantValue := 0 }, { name := "UTF16", type := .byte, accessFlags := 24, slot := 6, constantValue := 0 }]
  methods := #[k7m0, k7m1, k7m2, k7m3, k7m4, k7m5, k7m6, k7m7, k7m8, k7m9, k7m10, k7m11]
  instanceTypes := #[(.array .byte), .byte, .int, .boolean]
  staticTypes := #[.long, .boolean, (.array (.object "java/io/ObjectStreamField")), .char, (.object "java/util/Comparator"), .byte, .byte]
  resolved := Array.replicate 1451 none
  statics := some 0 }

def pool8 : Array CpInfo := pool [(6, .class_ 8), (1, u "java/lang/Object"), (0, u "<init>"), (0, u "()V"), (1, .class_ 14), (1, u "java/lang/StringUTF16"), (31, u "$assertionsDisabled"), (0, u "Z"), (13, u "HI_BYTE_SHIFT"), (0, u "I"), (2, u "LO_BYTE_SHIFT"), (49, .methodref 12 116), (0, .nameAndType 117 118), (0, u "compress"), (0, u "([CI[BII)I"), (3, u "([CII)[B"), (138, u "coderFromArrayLen"), (0, u "([BI)B"), (106, .class_ 371), (1, u "java/lang/StringUTF16$LinesSpliterator"), (58, u "MAX_LENGTH"), (196, .class_ 628), (0, u "java/lang/StringUTF16$CodePointsSpliterator"), (0, .class_ 630), (0, u "java/lang/StringUTF16$CharsSpliterator")] 4

def k8m0 : Method := { name := "<init>", desc := "()V", sig := { parameters := [], returnType := none }, accessFlags := 0, code := none }
def k8c1 : Code := { maxStack := 2, maxLocals := 2, code := jdk_52_method_15_code, exceptionTable := #[], attributes := #[] }
def k8m1 : Method := { name := "coderFromArrayLen", desc := "([BI)B", sig := { parameters := [(.array .byte), .int], returnType := some .byte }, accessFlags := 8, code := some k8c1 }
def k8c2 : Code := { maxStack := 5, maxLocals := 6, code := jdk_52_method_16_code, exceptionTable := #[], attributes := #[] }
def k8m2 : Method := { name := "compress", desc := "([CII)[B", sig := { parameters := [(.array .char), .int, .int], returnType := some (.array .byte) }, accessFlags := 9, code := some k8c2 }
def k8c3 : Code := { maxStack := 3, maxLocals := 7, code := jdk_52_method_21_code, exceptionTable := #[], attributes := #[] }
def k8m3 : Method := { name := "compress", desc := "([CI[BII)I", sig := { parameters := [(.array .char), .int, (.array .byte), .int, .int], returnType := some .int }, accessFlags := 9, code := some k8c3 }
/-- java/lang/StringUTF16 -/
def k8 : Class := { plain "java/lang/StringUTF16" (some 0) with
  accessFlags := 48
  interfaces := #[]
  cf := some (fileOf pool8 12 #[.nestMembers #[627, 629, 369]] #[{ accessFlags := 0, nameIndex := 9, descriptorIndex := 10, attributes := #[] }, { accessFlags := 8, nameIndex := 261, descriptorIndex := 262, attributes := #[] }, { accessFlags := 9, nameIndex := 117, descriptorIndex := 122, attributes := #[] }, { accessFlags := 9, nameIndex := 117, descriptorIndex := 118, attributes := #[] }] 48 6 #[] #[{ accessFlags := 26, nameIndex := 61, descriptorIndex := 62, attributes := #[] }, { accessFlags := 26, nameIndex := 65, descriptorIndex := 62, attributes := #[] }, { accessFlags := 24, nameIndex := 430, descriptorIndex := 62, attributes := #[] }, { accessFlags := 4120, nameIndex := 46, descriptorIndex := 47, attributes := #[] }])
  fields := #[{ name := "HI_BYTE_SHIFT", type := .int, accessFlags := 26, slot := 0, constantValue := 0 }, { name := "LO_BYTE_SHIFT", type := .int, accessFlags := 26, slot := 1, constantValue := 0 }, { name := "MAX_LENGTH", type := .int, accessFlags := 24, slot := 2, constantValue := 0 }, { name := "$assertionsDisabled", type := .boolean, accessFlags := 4120, slot := 3, constantValue := 0 }]
  methods := #[k8m0, k8m1, k8m2, k8m3]
  instanceTypes := #[]
  staticTypes := #[.int, .int, .int, .boolean]
  resolved := Array.replicate 635 none
  statics := none }

def pool9 : Array CpInfo := pool [(2, .class_ 4), (0, .nameAndType 5 6), (0, u "java/lang/Object"), (0, u "<init>"), (0, u "()V"), (1, u "location"), (6, .class_ 16), (0, u "java/lang/String"), (1, .class_ 20), (1, u "com/example/hits_by_heading/hitsbyheading/document/Document"), (0, u "Ljava/lang/String;"), (1, u "title"), (10, u "sections"), (0, u "Ljava/util/List;"), (15, .class_ 52), (0, u "java/lang/StringBuilder"), (0, .methodref 51 3), (2, .methodref 51 57), (0, .nameAndType 58 59), (0, u "append"), (0, u "(Ljava/lang/String;)Ljava/lang/StringBuilder;"), (5, .methodref 51 66), (0, .nameAndType 67 68), (0, u "toString"), (0, u "()Ljava/lang/String;"), (5, u "headingPaths"), (8, u "sectionLocation"), (0, u "(Ljava/lang/String;Ljava/lang/String;)Ljava/lang/String;"), (0, .methodref 15 86), (0, .nameAndType 87 88), (0, u "isEmpty"), (0, u "()Z"), (0, .string 90), (0, u "#")] 55

def k9c0 : Code := { maxStack := 2, maxLocals := 2, code := prog_1_method_7_code, exceptionTable := #[], attributes := #[] }
def k9m0 : Method := { name := "sectionLocation", desc := "(Ljava/lang/String;Ljava/lang/String;)Ljava/lang/String;", sig := { parameters := [(.object "java/lang/String"), (.object "java/lang/String")], returnType := some (.object "java/lang/String") }, accessFlags := 9, code := some k9c0 }
/-- com/example/hits_by_heading/hitsbyheading/document/Document -/
def k9 : Class := { plain "com/example/hits_by_heading/hitsbyheading/document/Document" (some 0) with
  accessFlags := 33
  interfaces := #[]
  cf := some (fileOf pool9 18 #[] #[{ accessFlags := 9, nameIndex := 83, descriptorIndex := 84, attributes := #[] }] 33 2 #[] #[{ accessFlags := 18, nameIndex := 8, descriptorIndex := 21, attributes := #[] }, { accessFlags := 18, nameIndex := 23, descriptorIndex := 21, attributes := #[] }, { accessFlags := 18, nameIndex := 34, descriptorIndex := 35, attributes := #[] }, { accessFlags := 18, nameIndex := 74, descriptorIndex := 35, attributes := #[] }])
  fields := #[{ name := "location", type := (.object "java/lang/String"), accessFlags := 18, slot := 0, constantValue := 0 }, { name := "title", type := (.object "java/lang/String"), accessFlags := 18, slot := 1, constantValue := 0 }, { name := "sections", type := (.object "java/util/List"), accessFlags := 18, slot := 2, constantValue := 0 }, { name := "headingPaths", type := (.object "java/util/List"), accessFlags := 18, slot := 3, constantValue := 0 }]
  methods := #[k9m0]
  instanceTypes := #[(.object "java/lang/String"), (.object "java/lang/String"), (.object "java/util/List"), (.object "java/util/List")]
  staticTypes := #[]
  resolved := Array.replicate 146 none
  statics := none }

def pool10 : Array CpInfo := pool [(1, .class_ 2), (0, u "java/lang/String"), (1, .class_ 6), (1, u "java/lang/Object"), (0, u "<init>"), (0, u "()V"), (0, .methodref 1 10), (0, .nameAndType 11 12), (0, u "checkIndex"), (0, u "(II)V"), (1, .class_ 16), (1, u "java/lang/StringLatin1"), (36, u "([BI)C"), (67, u "$assertionsDisabled"), (0, u "Z"), (98, .class_ 223), (1, u "java/lang/StringLatin1$LinesSpliterator"), (28, u "charAt"), (137, .class_ 391), (0, u "java/lang/StringLatin1$CharsSpliterator")] 3

def k10m0 : Method := { name := "<init>", desc := "()V", sig := { parameters := [], returnType := none }, accessFlags := 0, code := none }
def k10c1 : Code := { maxStack := 2, maxLocals := 2, code := jdk_43_method_2_code, exceptionTable := #[], attributes := #[] }
def k10m1 : Method := { name := "charAt", desc := "([BI)C", sig := { parameters := [(.array .byte), .int], returnType := some .char }, accessFlags := 9, code := some k10c1 }
/-- java/lang/StringLatin1 -/
def k10 : Class := { plain "java/lang/StringLatin1" (some 0) with
  accessFlags := 48
  interfaces := #[]
  cf := some (fileOf pool10 14 #[.nestMembers #[390, 221]] #[{ accessFlags := 0, nameIndex := 7, descriptorIndex := 8, attributes := #[] }, { accessFlags := 9, nameIndex := 252, descriptorIndex := 53, attributes := #[] }] 48 4 #[] #[{ accessFlags := 4120, nameIndex := 121, descriptorIndex := 122, attributes := #[] }])
  fields := #[{ name := "$assertionsDisabled", type := .boolean, accessFlags := 4120, slot := 0, constantValue := 0 }]
  methods := #[k10m0, k10m1]
  instanceTypes := #[]
  staticTypes := #[.boolean]
  resolved := Array.replicate 395 none
  statics := none }

def pool11 : Array CpInfo := pool [(2, .class_ 4), (1, u "java/lang/Object"), (0, u "<init>"), (0, u "()V"), (17, .class_ 26), (1, u "jdk/internal/util/Preconditions"), (6, u "checkIndex"), (21, .class_ 56), (0, u "jdk/internal/util/Preconditions$4"), (57, .class_ 115), (0, u "jdk/internal/util/Preconditions$1"), (7, u "SIOOBE_FORMATTER"), (0, u "Ljava/util/function/BiFunction;"), (0, .class_ 126), (0, u "jdk/internal/util/Preconditions$2"), (3, u "AIOOBE_FORMATTER"), (0, .class_ 132), (0, u "jdk/internal/util/Preconditions$3"), (3, u "IOOBE_FORMATTER"), (41, u "(IILjava/util/function/BiFunction;)I")] 15

def k11m0 : Method := { name := "<init>", desc := "()V", sig := { parameters := [], returnType := none }, accessFlags := 1, code := none }
def k11c1 : Code := { maxStack := 3, maxLocals := 3, code := jdk_41_method_11_code, exceptionTable := #[], attributes := #[] }
def k11m1 : Method := { name := "checkIndex", desc := "(IILjava/util/function/BiFunction;)I", sig := { parameters := [.int, .int, (.object "java/util/function/BiFunction")], returnType := some .int }, accessFlags := 9, code := some k11c1 }
/-- jdk/internal/util/Preconditions -/
def k11 : Class := { plain "jdk/internal/util/Preconditions" (some 0) with
  accessFlags := 33
  interfaces := #[]
  cf := some (fileOf pool11 24 #[.nestMembers #[55, 131, 125, 114]] #[{ accessFlags := 1, nameIndex := 5, descriptorIndex := 6, attributes := #[] }, { accessFlags := 9, nameIndex := 33, descriptorIndex := 178, attributes := #[] }] 33 2 #[] #[{ accessFlags := 25, nameIndex := 123, descriptorIndex := 124, attributes := #[] }, { accessFlags := 25, nameIndex := 130, descriptorIndex := 124, attributes := #[] }, { accessFlags := 25, nameIndex := 136, descriptorIndex := 124, attributes := #[] }])
  fields := #[{ name := "SIOOBE_FORMATTER", type := (.object "java/util/function/BiFunction"), accessFlags := 25, slot := 0, constantValue := 0 }, { name := "AIOOBE_FORMATTER", type := (.object "java/util/function/BiFunction"), accessFlags := 25, slot := 1, constantValue := 0 }, { name := "IOOBE_FORMATTER", type := (.object "java/util/function/BiFunction"), accessFlags := 25, slot := 2, constantValue := 0 }]
  methods := #[k11m0, k11m1]
  instanceTypes := #[]
  staticTypes := #[(.object "java/util/function/BiFunction"), (.object "java/util/function/BiFunction"), (.object "java/util/function/BiFunction")]
  resolved := Array.replicate 194 none
  statics := some 1 }

def pool12 : Array CpInfo := pool [(1, .class_ 2), (0, u "java/lang/Appendable"), (0, .class_ 4), (0, u "java/lang/Object")] 9

/-- java/lang/Appendable -/
def k12 : Class := { plain "java/lang/Appendable" (some 0) with
  accessFlags := 1537
  interfaces := #[]
  cf := some (fileOf pool12 1 #[] #[] 1537 3 #[] #[])
  fields := #[]
  methods := #[]
  instanceTypes := #[]
  staticTypes := #[]
  resolved := Array.replicate 14 none
  statics := none }

def pool13 : Array CpInfo := pool [(1, .class_ 2), (0, u "java/lang/String"), (0, .methodref 4 5), (0, .class_ 6), (0, .nameAndType 7 8), (0, u "java/lang/Object"), (0, u "<init>"), (0, u "()V"), (1, .class_ 12), (1, u "java/lang/AbstractStringBuilder"), (0, u "EMPTYVALUE"), (0, u "[B"), (0, .fieldref 10 16), (0, .nameAndType 17 14), (0, u "value"), (0, .fieldref 1 19), (0, .nameAndType 20 21), (0, u "COMPACT_STRINGS"), (0, u "Z"), (0, .fieldref 10 23), (0, .nameAndType 24 25), (0, u "coder"), (0, u "B"), (6, .methodref 1 33), (0, .nameAndType 34 35), (0, u "length"), (0, u "()I"), (4, .methodref 1 41), (0, .nameAndType 24 42), (0, u "()B"), (2, u "append"), (0, u "(Ljava/lang/String;)Ljava/lang/AbstractStringBuilder;"), (1, .class_ 49), (0, u "java/lang/CharSequence"), (19, u "(Ljava/lang/String;)V"), (5, u "maybeLatin1"), (3, .fieldref 10 80), (0, .nameAndType 81 82), (0, u "count"), (0, u "I"), (2, u "isLatin1"), (0, u "()Z"), (13, .methodref 10 101), (0, .nameAndType 102 103), (0, u "ensureCapacityInternal"), (0, u "(I)V"), (104, .methodref 10 209), (0, .nameAndType 210 211), (0, u "putStringAt"), (0, u "(ILjava/lang/String;)V"), (5, u "inflateIfNeededFor"), (2, .nameAndType 221 222), (0, u "getBytes"), (0, u "([BIB)V"), (174, .methodref 10 398), (0, .nameAndType 217 69), (0, .methodref 1 220), (3, u "()[B"), (40, .class_ 445), (0, u "java/lang/Appendable"), (106, u "getValue")] 56

def k13m0 : Method := { name := "<init>", desc := "()V", sig := { parameters := [], returnType := none }, accessFlags := 0, code := none }
def k13c1 : Code := { maxStack := 2, maxLocals := 2, code := jdk_68_method_2_code, exceptionTable := #[], attributes := #[] }
def k13m1 : Method := { name := "<init>", desc := "(I)V", sig := { parameters := [.int], returnType := none }, accessFlags := 0, code := some k13c1 }
def k13c2 : Code := { maxStack := 1, maxLocals := 1, code := jdk_68_method_6_code, exceptionTable := #[], attributes := #[] }
def k13m2 : Method := { name := "length", desc := "()I", sig := { parameters := [], returnType := some .int }, accessFlags := 1, code := some k13c2 }
def k13c3 : Code := { maxStack := 4, maxLocals := 3, code := jdk_68_method_9_code, exceptionTable := #[], attributes := #[] }
def k13m3 : Method := { name := "ensureCapacityInternal", desc := "(I)V", sig := { parameters := [.int], returnType := none }, accessFlags := 2, code := some k13c3 }
def k13c4 : Code := { maxStack := 3, maxLocals := 3, code := jdk_68_method_22_code, exceptionTable := #[], attributes := #[] }
def k13m4 : Method := { name := "append", desc := "(Ljava/lang/String;)Ljava/lang/AbstractStringBuilder;", sig := { parameters := [(.object "java/lang/String")], returnType := some (.object "java/lang/AbstractStringBuilder") }, accessFlags := 1, code := some k13c4 }
def k13c5 : Code := { maxStack := 1, maxLocals := 1, code := jdk_68_method_64_code, exceptionTable := #[], attributes := #[] }
def k13m5 : Method := { name := "getValue", desc := "()[B", sig := { parameters := [], returnType := some (.array .byte) }, accessFlags := 16, code := some k13c5 }
def k13c6 : Code := { maxStack := 1, maxLocals := 1, code := jdk_68_method_68_code, exceptionTable := #[], attributes := #[] }
def k13m6 : Method := { name := "isLatin1", desc := "()Z", sig := { parameters := [], returnType := some .boolean }, accessFlags := 16, code := some k13c6 }
def k13c7 : Code := { maxStack := 2, maxLocals := 2, code := jdk_68_method_71_code, exceptionTable := #[], attributes := #[] }
def k13m7 : Method := { name := "inflateIfNeededFor", desc := "(Ljava/lang/String;)V", sig := { parameters := [(.object "java/lang/String")], returnType := none }, accessFlags := 2, code := some k13c7 }
def k13c8 : Code := { maxStack := 4, maxLocals := 3, code := jdk_68_method_73_code, exceptionTable := #[], attributes := #[] }
def k13m8 : Method := { name := "putStringAt", desc := "(ILjava/lang/String;)V", sig := { parameters := [.int, (.object "java/lang/String")], returnType := none }, accessFlags := 2, code := some k13c8 }
/-- java/lang/AbstractStringBuilder -/
def k13 : Class := { plain "java/lang/AbstractStringBuilder" (some 0) with
  accessFlags := 1056
  interfaces := #[12, 4]
  cf := some (fileOf pool13 10 #[] #[{ accessFlags := 0, nameIndex := 7, descriptorIndex := 8, attributes := #[] }, { accessFlags := 0, nameIndex := 7, descriptorIndex := 103, attributes := #[] }, { accessFlags := 1, nameIndex := 34, descriptorIndex := 35, attributes := #[] }, { accessFlags := 2, nameIndex := 102, descriptorIndex := 103, attributes := #[] }, { accessFlags := 1, nameIndex := 45, descriptorIndex := 46, attributes := #[] }, { accessFlags := 16, nameIndex := 552, descriptorIndex := 403, attributes := #[] }, { accessFlags := 16, nameIndex := 85, descriptorIndex := 86, attributes := #[] }, { accessFlags := 2, nameIndex := 217, descriptorIndex := 69, attributes := #[] }, { accessFlags := 2, nameIndex := 210, descriptorIndex := 211, attributes := #[] }] 1056 4 #[444, 48] #[{ accessFlags := 0, nameIndex := 17, descriptorIndex := 14, attributes := #[] }, { accessFlags := 0, nameIndex := 24, descriptorIndex := 25, attributes := #[] }, { accessFlags := 0, nameIndex := 75, descriptorIndex := 21, attributes := #[] }, { accessFlags := 0, nameIndex := 81, descriptorIndex := 82, attributes := #[] }, { accessFlags := 26, nameIndex := 13, descriptorIndex := 14, attributes := #[] }])
  fields := #[{ name := "value", type := (.array .byte), accessFlags := 0, slot := 0, constantValue := 0 }, { name := "coder", type := .byte, accessFlags := 0, slot := 1, constantValue := 0 }, { name := "maybeLatin1", type := .boolean, accessFlags := 0, slot := 2, constantValue := 0 }, { name := "count", type := .int, accessFlags := 0, slot := 3, constantValue := 0 }, { name := "EMPTYVALUE", type := (.array .byte), accessFlags := 26, slot := 0, constantValue := 0 }]
  methods := #[k13m0, k13m1, k13m2, k13m3, k13m4, k13m5, k13m6, k13m7, k13m8]
  instanceTypes := #[(.array .byte), .byte, .boolean, .int]
  staticTypes := #[(.array .byte)]
  resolved := Array.replicate 609 none
  statics := none }

def pool14 : Array CpInfo := pool [(1, .methodref 2 3), (0, .class_ 4), (0, .nameAndType 5 6), (0, u "java/lang/AbstractStringBuilder"), (0, u "<init>"), (0, u "(I)V"), (11, .class_ 20), (1, u "java/lang/String"), (3, .class_ 26), (1, u "java/lang/StringBuilder"), (0, u "append"), (0, u "(Ljava/lang/String;)Ljava/lang/StringBuilder;"), (0, .methodref 2 30), (0, .nameAndType 27 31), (0, u "(Ljava/lang/String;)Ljava/lang/AbstractStringBuilder;"), (105, .methodref 18 138), (0, .nameAndType 5 139), (0, u "(Ljava/lang/StringBuilder;)V"), (5, u "()V"), (10, u "()I"), (186, .methodref 2 344), (0, .nameAndType 345 156), (0, u "length"), (3, .class_ 350), (0, u "java/lang/Appendable"), (0, .class_ 352), (0, u "java/io/Serializable"), (0, .class_ 354), (0, u "java/lang/Comparable"), (0, .class_ 356), (0, u "java/lang/CharSequence"), (0, u "serialVersionUID"), (0, u "J"), (40, u "toString"), (0, u "()Ljava/lang/String;")] 21

def k14c0 : Code := { maxStack := 2, maxLocals := 1, code := jdk_67_method_1_code, exceptionTable := #[], attributes := #[] }
def k14m0 : Method := { name := "<init>", desc := "()V", sig := { parameters := [], returnType := none }, accessFlags := 1, code := some k14c0 }
def k14c1 : Code := { maxStack := 2, maxLocals := 2, code := jdk_67_method_7_code, exceptionTable := #[], attributes := #[] }
def k14m1 : Method := { name := "append", desc := "(Ljava/lang/String;)Ljava/lang/StringBuilder;", sig := { parameters := [(.object "java/lang/String")], returnType := some (.object "java/lang/StringBuilder") }, accessFlags := 1, code := some k14c1 }
def k14c2 : Code := { maxStack := 3, maxLocals := 1, code := jdk_67_method_42_code, exceptionTable := #[], attributes := #[] }
def k14m2 : Method := { name := "toString", desc := "()Ljava/lang/String;", sig := { parameters := [], returnType := some (.object "java/lang/String") }, accessFlags := 1, code := some k14c2 }
def k14c3 : Code := { maxStack := 1, maxLocals := 1, code := jdk_67_method_93_code, exceptionTable := #[], attributes := #[] }
def k14m3 : Method := { name := "length", desc := "()I", sig := { parameters := [], returnType := some .int }, accessFlags := 4161, code := some k14c3 }
/-- java/lang/StringBuilder -/
def k14 : Class := { plain "java/lang/StringBuilder" (some 13) with
  accessFlags := 49
  interfaces := #[12, 2, 3, 4]
  cf := some (fileOf pool14 24 #[] #[{ accessFlags := 1, nameIndex := 5, descriptorIndex := 145, attributes := #[] }, { accessFlags := 1, nameIndex := 27, descriptorIndex := 28, attributes := #[] }, { accessFlags := 1, nameIndex := 399, descriptorIndex := 400, attributes := #[] }, { accessFlags := 4161, nameIndex := 345, descriptorIndex := 156, attributes := #[] }] 49 2 #[349, 351, 353, 355] #[{ accessFlags := 24, nameIndex := 357, descriptorIndex := 358, attributes := #[] }])
  fields := #[{ name := "serialVersionUID", type := .long, accessFlags := 24, slot := 0, constantValue := 0 }]
  methods := #[k14m0, k14m1, k14m2, k14m3]
  instanceTypes := #[(.array .byte), .byte, .boolean, .int]
  staticTypes := #[.long]
  resolved := Array.replicate 422 none
  statics := none }

def pool15 : Array CpInfo := pool [(2, .class_ 4), (1, u "java/lang/Object"), (0, u "<init>"), (0, u "()V"), (1, .class_ 10), (1, u "java/lang/System"), (0, u "allowSecurityManager"), (0, u "I"), (16, u "cons"), (0, u "Ljava/io/Console;"), (77, .class_ 110), (1, u "java/lang/System$CallersHolder"), (43, u "initialErrStream"), (0, u "Ljava/io/PrintStream;"), (19, u "security"), (0, u "Ljava/lang/SecurityManager;"), (31, .class_ 209), (0, u "java/lang/System$1"), (7, u "props"), (0, u "Ljava/util/Properties;"), (2, u "lineSeparator"), (0, u "Ljava/lang/String;"), (96, .class_ 321), (1, u "java/lang/System$LoggerFinder"), (5, .class_ 328), (0, u "java/lang/System$Logger"), (67, u "err"), (2, u "out"), (91, u "notSupportedJnuEncoding"), (15, u "in"), (17, u "initialIn"), (0, u "Ljava/io/InputStream;"), (35, u "bootLayer"), (0, u "Ljava/lang/ModuleLayer;"), (99, .class_ 664), (0, u "java/lang/System$2"), (9, u "NEVER"), (2, u "MAYBE"), (49, u "arraycopy"), (0, u "(Ljava/lang/Object;ILjava/lang/Object;II)V"), (72, .class_ 802), (0, u "java/lang/System$Logger$Level")] 31

def k15m0 : Method := { name := "<init>", desc := "()V", sig := { parameters := [], returnType := none }, accessFlags := 2, code := none }
def k15m1 : Method := { name := "arraycopy", desc := "(Ljava/lang/Object;ILjava/lang/Object;II)V", sig := { parameters := [(.object "java/lang/Object"), .int, (.object "java/lang/Object"), .int, .int], returnType := none }, accessFlags := 265, code := none }
/-- java/lang/System -/
def k15 : Class := { plain "java/lang/System" (some 0) with
  accessFlags := 49
  interfaces := #[]
  cf := some (fileOf pool15 8 #[.nestMembers #[319, 327, 801, 108, 663, 208]] #[{ accessFlags := 2, nameIndex := 5, descriptorIndex := 6, attributes := #[] }, { accessFlags := 265, nameIndex := 727, descriptorIndex := 728, attributes := #[] }] 49 2 #[] #[{ accessFlags := 25, nameIndex := 507, descriptorIndex := 526, attributes := #[] }, { accessFlags := 25, nameIndex := 399, descriptorIndex := 155, attributes := #[] }, { accessFlags := 25, nameIndex := 396, descriptorIndex := 155, attributes := #[] }, { accessFlags := 10, nameIndex := 525, descriptorIndex := 526, attributes := #[] }, { accessFlags := 26, nameIndex := 674, descriptorIndex := 12, attributes := #[] }, { accessFlags := 26, nameIndex := 677, descriptorIndex := 12, attributes := #[] }, { accessFlags := 10, nameIndex := 11, descriptorIndex := 12, attributes := #[] }, { accessFlags := 74, nameIndex := 175, descriptorIndex := 176, attributes := #[] }, { accessFlags := 10, nameIndex := 491, descriptorIndex := 222, attributes := #[] }, { accessFlags := 74, nameIndex := 29, descriptorIndex := 30, attributes := #[] }, { accessFlags := 74, nameIndex := 154, descriptorIndex := 155, attributes := #[] }, { accessFlags := 10, nameIndex := 217, descriptorIndex := 218, attributes := #[] }, { accessFlags := 10, nameIndex := 221, descriptorIndex := 222, attributes := #[] }, { accessFlags := 8, nameIndex := 562, descriptorIndex := 563, attributes := #[] }])
  fields := #[{ name := "in", type := (.object "java/io/InputStream"), accessFlags := 25, slot := 0, constantValue := 0 }, { name := "out", type := (.object "java/io/PrintStream"), accessFlags := 25, slot := 1, constantValue := 0 }, { name := "err", type := (.object "java/io/PrintStream"), accessFlags := 25, slot := 2, constantValue := 0 }, { name := "initialIn", type := (.object "java/io/InputStream"), accessFlags := 10, slot := 3, constantValue := 0 }, { name := "NEVER", type := .int, accessFlags := 26, slot := 4, constantValue := 0 }, { name := "MAYBE", type := .int, accessFlags := 26, slot := 5, constantValue := 0 }, { name := "allowSecurityManager", type := .int, accessFlags := 10, slot := 6, constantValue := 0 }, { name := "security", type := (.object "java/lang/SecurityManager"), accessFlags := 74, slot := 7, constantValue := 0 }, { name := "notSupportedJnuEncoding", type := (.object "java/lang/String"), accessFlags := 10, slot := 8, constantValue := 0 }, { name := "cons", type := (.object "java/io/Console"), accessFlags := 74, slot := 9, constantValue := 0 }, { name := "initialErrStream", type := (.object "java/io/PrintStream"), accessFlags := 74, slot := 10, constantValue := 0 }, { name := "props", type := (.object "java/util/Properties"), accessFlags := 10, slot := 11, constantValue := 0 }, { name := "lineSeparator", type := (.object "java/lang/String"), accessFlags := 10, slot := 12, constantValue := 0 }, { name := "bootLayer", type := (.object "java/lang/ModuleLayer"), accessFlags := 8, slot := 13, constantValue := 0 }]
  methods := #[k15m0, k15m1]
  instanceTypes := #[]
  staticTypes := #[(.object "java/io/InputStream"), (.object "java/io/PrintStream"), (.object "java/io/PrintStream"), (.object "java/io/InputStream"), .int, .int, .int, (.object "java/lang/SecurityManager"), (.object "java/lang/String"), (.object "java/io/Console"), (.object "java/io/PrintStream"), (.object "java/util/Properties"), (.object "java/lang/String"), (.object "java/lang/ModuleLayer")]
  resolved := Array.replicate 834 none
  statics := none }

def pool16 : Array CpInfo := pool [(2, .class_ 4), (1, u "java/lang/Object"), (0, u "<init>"), (0, u "()V"), (7, .class_ 16), (1, u "java/util/Arrays"), (57, .class_ 76), (1, u "java/util/Arrays$NaturalOrder"), (36, .class_ 115), (1, u "java/util/Arrays$LegacyMergeSort"), (1, u "Z"), (21, u "copyOfRange"), (10, .methodref 151 152), (0, .class_ 153), (0, .nameAndType 154 155), (0, u "java/lang/System"), (0, u "arraycopy"), (0, u "(Ljava/lang/Object;ILjava/lang/Object;II)V"), (148, .methodref 305 306), (0, .class_ 307), (0, .nameAndType 308 309), (0, u "java/lang/Math"), (0, u "min"), (0, u "(II)I"), (29, .methodref 14 340), (0, .nameAndType 341 342), (0, u "copyOfRangeByte"), (0, u "([BII)[B"), (0, .methodref 14 344), (0, .nameAndType 345 346), (0, u "checkLength"), (0, u "(II)V"), (28, .class_ 376), (0, u "java/util/Arrays$ArrayList"), (68, u "$assertionsDisabled"), (269, u "MIN_ARRAY_SORT_GRAN"), (0, u "I"), (2, u "INSERTIONSORT_THRESHOLD"), (255, .class_ 976), (0, u "java/util/Arrays$ArrayItr")] 52

def k16m0 : Method := { name := "<init>", desc := "()V", sig := { parameters := [], returnType := none }, accessFlags := 2, code := none }
def k16c1 : Code := { maxStack := 4, maxLocals := 2, code := jdk_65_method_131_code, exceptionTable := #[], attributes := #[] }
def k16m1 : Method := { name := "checkLength", desc := "(II)V", sig := { parameters := [.int, .int], returnType := none }, accessFlags := 10, code := some k16c1 }
def k16c2 : Code := { maxStack := 3, maxLocals := 3, code := jdk_65_method_132_code, exceptionTable := #[], attributes := #[] }
def k16m2 : Method := { name := "copyOfRange", desc := "([BII)[B", sig := { parameters := [(.array .byte), .int, .int], returnType := some (.array .byte) }, accessFlags := 9, code := some k16c2 }
def k16c3 : Code := { maxStack := 6, maxLocals := 5, code := jdk_65_method_133_code, exceptionTable := #[], attributes := #[] }
def k16m3 : Method := { name := "copyOfRangeByte", desc := "([BII)[B", sig := { parameters := [(.array .byte), .int, .int], returnType := some (.array .byte) }, accessFlags := 10, code := some k16c3 }
/-- java/util/Arrays -/
def k16 : Class := { plain "java/util/Arrays" (some 0) with
  accessFlags := 49
  interfaces := #[]
  cf := some (fileOf pool16 14 #[.nestMembers #[975, 375, 113, 74]] #[{ accessFlags := 2, nameIndex := 5, descriptorIndex := 6, attributes := #[] }, { accessFlags := 10, nameIndex := 345, descriptorIndex := 346, attributes := #[] }, { accessFlags := 9, nameIndex := 139, descriptorIndex := 342, attributes := #[] }, { accessFlags := 10, nameIndex := 341, descriptorIndex := 342, attributes := #[] }] 49 2 #[] #[{ accessFlags := 26, nameIndex := 715, descriptorIndex := 716, attributes := #[] }, { accessFlags := 26, nameIndex := 719, descriptorIndex := 716, attributes := #[] }, { accessFlags := 4120, nameIndex := 445, descriptorIndex := 117, attributes := #[] }])
  fields := #[{ name := "MIN_ARRAY_SORT_GRAN", type := .int, accessFlags := 26, slot := 0, constantValue := 0 }, { name := "INSERTIONSORT_THRESHOLD", type := .int, accessFlags := 26, slot := 1, constantValue := 0 }, { name := "$assertionsDisabled", type := .boolean, accessFlags := 4120, slot := 2, constantValue := 0 }]
  methods := #[k16m0, k16m1, k16m2, k16m3]
  instanceTypes := #[]
  staticTypes := #[.int, .int, .boolean]
  resolved := Array.replicate 1029 none
  statics := none }

def pool17 : Array CpInfo := pool [(1, .class_ 2), (0, u "java/lang/Math"), (1, .class_ 6), (1, u "java/lang/Object"), (0, u "<init>"), (0, u "()V"), (89, .class_ 100), (1, u "java/lang/Math$RandomNumberGeneratorHolder"), (71, u "negativeZeroFloatBits"), (0, u "J"), (2, u "negativeZeroDoubleBits"), (24, u "min"), (43, u "$assertionsDisabled"), (0, u "Z"), (88, u "(II)I"), (2, u "twoToTheDoubleScaleDown"), (0, u "D"), (4, u "twoToTheDoubleScaleUp"), (9, u "E"), (3, u "PI"), (2, u "TAU"), (2, u "DEGREES_TO_RADIANS"), (0, u "RADIANS_TO_DEGREES")] 94

def k17m0 : Method := { name := "<init>", desc := "()V", sig := { parameters := [], returnType := none }, accessFlags := 2, code := none }
def k17c1 : Code := { maxStack := 2, maxLocals := 2, code := jdk_29_method_69_code, exceptionTable := #[], attributes := #[] }
def k17m1 : Method := { name := "min", desc := "(II)I", sig := { parameters := [.int, .int], returnType := some .int }, accessFlags := 9, code := some k17c1 }
/-- java/lang/Math -/
def k17 : Class := { plain "java/lang/Math" (some 0) with
  accessFlags := 49
  interfaces := #[]
  cf := some (fileOf pool17 1 #[.nestMembers #[98]] #[{ accessFlags := 2, nameIndex := 7, descriptorIndex := 8, attributes := #[] }, { accessFlags := 9, nameIndex := 201, descriptorIndex := 335, attributes := #[] }] 49 4 #[] #[{ accessFlags := 25, nameIndex := 354, descriptorIndex := 339, attributes := #[] }, { accessFlags := 25, nameIndex := 358, descriptorIndex := 339, attributes := #[] }, { accessFlags := 25, nameIndex := 361, descriptorIndex := 339, attributes := #[] }, { accessFlags := 26, nameIndex := 364, descriptorIndex := 339, attributes := #[] }, { accessFlags := 26, nameIndex := 365, descriptorIndex := 339, attributes := #[] }, { accessFlags := 26, nameIndex := 172, descriptorIndex := 173, attributes := #[] }, { accessFlags := 26, nameIndex := 176, descriptorIndex := 173, attributes := #[] }, { accessFlags := 8, nameIndex := 344, descriptorIndex := 339, attributes := #[] }, { accessFlags := 8, nameIndex := 338, descriptorIndex := 339, attributes := #[] }, { accessFlags := 4120, nameIndex := 245, descriptorIndex := 246, attributes := #[] }])
  fields := #[{ name := "E", type := .double, accessFlags := 25, slot := 0, constantValue := 0 }, { name := "PI", type := .double, accessFlags := 25, slot := 1, constantValue := 0 }, { name := "TAU", type := .double, accessFlags := 25, slot := 2, constantValue := 0 }, { name := "DEGREES_TO_RADIANS", type := .double, accessFlags := 26, slot := 3, constantValue := 0 }, { name := "RADIANS_TO_DEGREES", type := .double, accessFlags := 26, slot := 4, constantValue := 0 }, { name := "negativeZeroFloatBits", type := .long, accessFlags := 26, slot := 5, constantValue := 0 }, { name := "negativeZeroDoubleBits", type := .long, accessFlags := 26, slot := 6, constantValue := 0 }, { name := "twoToTheDoubleScaleUp", type := .double, accessFlags := 8, slot := 7, constantValue := 0 }, { name := "twoToTheDoubleScaleDown", type := .double, accessFlags := 8, slot := 8, constantValue := 0 }, { name := "$assertionsDisabled", type := .boolean, accessFlags := 4120, slot := 9, constantValue := 0 }]
  methods := #[k17m0, k17m1]
  instanceTypes := #[]
  staticTypes := #[.double, .double, .double, .double, .double, .long, .long, .double, .double, .boolean]
  resolved := Array.replicate 460 none
  statics := none }

def pool18 : Array CpInfo := pool [(9, u "<init>"), (6, .class_ 18), (1, u "java/lang/Object"), (0, u "()V"), (1, .class_ 23), (1, u "jdk/internal/util/ArraysSupport"), (0, u "LOG2_ARRAY_LONG_INDEX_SCALE"), (0, u "I"), (2, u "U"), (0, u "Ljdk/internal/misc/Unsafe;"), (8, u "BIG_ENDIAN"), (0, u "Z"), (8, u "LOG2_BYTE_BIT_SIZE"), (4, u "LOG2_ARRAY_INT_INDEX_SCALE"), (54, u "JLA"), (0, u "Ljdk/internal/access/JavaLangAccess;"), (11, u "LOG2_ARRAY_BOOLEAN_INDEX_SCALE"), (9, u "LOG2_ARRAY_BYTE_INDEX_SCALE"), (5, u "LOG2_ARRAY_CHAR_INDEX_SCALE"), (5, u "LOG2_ARRAY_SHORT_INDEX_SCALE"), (18, u "LOG2_ARRAY_FLOAT_INDEX_SCALE"), (24, u "LOG2_ARRAY_DOUBLE_INDEX_SCALE"), (89, u "T_BOOLEAN"), (2, u "T_CHAR"), (1, u "T_FLOAT"), (1, u "T_DOUBLE"), (1, u "T_BYTE"), (1, u "T_SHORT"), (1, u "T_INT"), (1, u "T_LONG"), (1, u "SOFT_MAX_ARRAY_LENGTH")] 83

def k18m0 : Method := { name := "<init>", desc := "()V", sig := { parameters := [], returnType := none }, accessFlags := 2, code := none }
/-- jdk/internal/util/ArraysSupport -/
def k18 : Class := { plain "jdk/internal/util/ArraysSupport" (some 0) with
  accessFlags := 33
  interfaces := #[]
  cf := some (fileOf pool18 21 #[] #[{ accessFlags := 2, nameIndex := 9, descriptorIndex := 19, attributes := #[] }] 33 16 #[] #[{ accessFlags := 24, nameIndex := 28, descriptorIndex := 29, attributes := #[] }, { accessFlags := 26, nameIndex := 38, descriptorIndex := 39, attributes := #[] }, { accessFlags := 25, nameIndex := 121, descriptorIndex := 25, attributes := #[] }, { accessFlags := 25, nameIndex := 131, descriptorIndex := 25, attributes := #[] }, { accessFlags := 25, nameIndex := 137, descriptorIndex := 25, attributes := #[] }, { accessFlags := 25, nameIndex := 143, descriptorIndex := 25, attributes := #[] }, { accessFlags := 25, nameIndex := 53, descriptorIndex := 25, attributes := #[] }, { accessFlags := 25, nameIndex := 24, descriptorIndex := 25, attributes := #[] }, { accessFlags := 25, nameIndex := 162, descriptorIndex := 25, attributes := #[] }, { accessFlags := 25, nameIndex := 187, descriptorIndex := 25, attributes := #[] }, { accessFlags := 26, nameIndex := 48, descriptorIndex := 25, attributes := #[] }, { accessFlags := 25, nameIndex := 277, descriptorIndex := 25, attributes := #[] }, { accessFlags := 25, nameIndex := 280, descriptorIndex := 25, attributes := #[] }, { accessFlags := 25, nameIndex := 282, descriptorIndex := 25, attributes := #[] }, { accessFlags := 25, nameIndex := 284, descriptorIndex := 25, attributes := #[] }, { accessFlags := 25, nameIndex := 286, descriptorIndex := 25, attributes := #[] }, { accessFlags := 25, nameIndex := 288, descriptorIndex := 25, attributes := #[] }, { accessFlags := 25, nameIndex := 290, descriptorIndex := 25, attributes := #[] }, { accessFlags := 25, nameIndex := 292, descriptorIndex := 25, attributes := #[] }, { accessFlags := 26, nameIndex := 108, descriptorIndex := 109, attributes := #[] }, { accessFlags := 25, nameIndex := 294, descriptorIndex := 25, attributes := #[] }])
  fields := #[{ name := "U", type := (.object "jdk/internal/misc/Unsafe"), accessFlags := 24, slot := 0, constantValue := 0 }, { name := "BIG_ENDIAN", type := .boolean, accessFlags := 26, slot := 1, constantValue := 0 }, { name := "LOG2_ARRAY_BOOLEAN_INDEX_SCALE", type := .int, accessFlags := 25, slot := 2, constantValue := 0 }, { name := "LOG2_ARRAY_BYTE_INDEX_SCALE", type := .int, accessFlags := 25, slot := 3, constantValue := 0 }, { name := "LOG2_ARRAY_CHAR_INDEX_SCALE", type := .int, accessFlags := 25, slot := 4, constantValue := 0 }, { name := "LOG2_ARRAY_SHORT_INDEX_SCALE", type := .int, accessFlags := 25, slot := 5, constantValue := 0 }, { name := "LOG2_ARRAY_INT_INDEX_SCALE", type := .int, accessFlags := 25, slot := 6, constantValue := 0 }, { name := "LOG2_ARRAY_LONG_INDEX_SCALE", type := .int, accessFlags := 25, slot := 7, constantValue := 0 }, { name := "LOG2_ARRAY_FLOAT_INDEX_SCALE", type := .int, accessFlags := 25, slot := 8, constantValue := 0 }, { name := "LOG2_ARRAY_DOUBLE_INDEX_SCALE", type := .int, accessFlags := 25, slot := 9, constantValue := 0 }, { name := "LOG2_BYTE_BIT_SIZE", type := .int, accessFlags := 26, slot := 10, constantValue := 0 }, { name := "T_BOOLEAN", type := .int, accessFlags := 25, slot := 11, constantValue := 0 }, { name := "T_CHAR", type := .int, accessFlags := 25, slot := 12, constantValue := 0 }, { name := "T_FLOAT", type := .int, accessFlags := 25, slot := 13, constantValue := 0 }, { name := "T_DOUBLE", type := .int, accessFlags := 25, slot := 14, constantValue := 0 }, { name := "T_BYTE", type := .int, accessFlags := 25, slot := 15, constantValue := 0 }, { name := "T_SHORT", type := .int, accessFlags := 25, slot := 16, constantValue := 0 }, { name := "T_INT", type := .int, accessFlags := 25, slot := 17, constantValue := 0 }, { name := "T_LONG", type := .int, accessFlags := 25, slot := 18, constantValue := 0 }, { name := "JLA", type := (.object "jdk/internal/access/JavaLangAccess"), accessFlags := 26, slot := 19, constantValue := 0 }, { name := "SOFT_MAX_ARRAY_LENGTH", type := .int, accessFlags := 25, slot := 20, constantValue := 0 }]
  methods := #[k18m0]
  instanceTypes := #[]
  staticTypes := #[(.object "jdk/internal/misc/Unsafe"), .boolean, .int, .int, .int, .int, .int, .int, .int, .int, .int, .int, .int, .int, .int, .int, .int, .int, .int, (.object "jdk/internal/access/JavaLangAccess"), .int]
  resolved := Array.replicate 378 none
  statics := none }

def pool19 : Array CpInfo := pool [(1, u "java/lang/Cloneable"), (0, .class_ 1), (0, u "java/lang/Object"), (0, .class_ 3)] 3

/-- java/lang/Cloneable -/
def k19 : Class := { plain "java/lang/Cloneable" (some 0) with
  accessFlags := 1537
  interfaces := #[]
  cf := some (fileOf pool19 2 #[] #[] 1537 4 #[] #[])
  fields := #[]
  methods := #[]
  instanceTypes := #[]
  staticTypes := #[]
  resolved := Array.replicate 8 none
  statics := none }

/-- the primitive byte -/
def k20 : Class := { plain "byte" none with kind := .primitive 'B', accessFlags := 0x411 }
/-- [B -/
def k21 : Class := { plain "[B" (some 0) with kind := .array 20 .byte, interfaces := #[19, 2], accessFlags := 1041 }

/-- the primitive char -/
def k22 : Class := { plain "char" none with kind := .primitive 'C', accessFlags := 0x411 }
/-- [C -/
def k23 : Class := { plain "[C" (some 0) with kind := .array 22 .char, interfaces := #[19, 2], accessFlags := 1041 }

/-- the primitive int -/
def k24 : Class := { plain "int" none with kind := .primitive 'I', accessFlags := 0x411 }
/-- [I -/
def k25 : Class := { plain "[I" (some 0) with kind := .array 24 .int, interfaces := #[19, 2], accessFlags := 1041 }

def heap : Heap := #[{ cls := 7, slots := #[.long 0, .int 1, .null, .int 0, .null, .int 0, .int 0], vm := .statics 7 },
  { cls := 11, slots := #[.null, .null, .null], vm := .statics 11 }]
def classes : Array Class := #[k0, k1, k2, k3, k4, k5, k6, k7, k8, k9, k10, k11, k12, k13, k14, k15, k16, k17, k18, k19, k20, k21, k22, k23, k24, k25]
def interned : List (Array UInt16 × Addr) := []
def slotsUsed : Nat := 10
def theMethod : MethodId := ⟨1, 1⟩
def args0 : Array Value := #[.int 25185, .int 25699, .int 5]
def aboutOver (below : List Frame) : State where
  vm := { classes := classes, interned := interned.toArray }
  heap := heap
  slotsUsed := slotsUsed
  threads := #[{ frames := .invoking theMethod args0 :: below }]
def below0 : List Frame := [.native { method := ⟨0, 0⟩, args := #[] }]
def about1 : State := aboutOver below0
def p0 : Program := .bare "" "" ""
def e0 : Env := launch0.env 0 0 0
theorem w_frames : about1.frames = Frame.invoking theMethod args0 :: below0 := rfl
set_option maxRecDepth 65536 in
theorem w_args : argsFit about1.vm theMethod args0 = true := by decide +kernel
set_option maxRecDepth 65536 in
theorem w_heap : heapFits about1 = true := by decide +kernel
set_option maxRecDepth 65536 in
theorem w_runnable : about1.curStatus? = some .runnable := by decide +kernel
set_option maxRecDepth 65536 in
theorem w_alone : about1.alone = true := by decide +kernel
set_option maxRecDepth 65536 in
theorem w_named : about1.methodNamed? x = some theMethod := by decide +kernel
set_option maxRecDepth 65536 in
theorem w_hears : about1.hears theMethod below0 = true := by decide +kernel
set_option maxRecDepth 65536 in
theorem w_ripe : about1.ripe theMethod args0 below0 = true := by decide +kernel
theorem w_running : about1.status = .running := rfl
set_option maxRecDepth 65536 in
theorem w_room : about1.hasRoom e0.platform room_1 = true :=
  launch0.hasRoom_least _ room_1 (by decide +kernel) (by decide +kernel) (by decide +kernel) (by decide +kernel) (by decide +kernel) (by decide +kernel)
theorem allAtoms_all (ts : List Jvm.Cond) (a : Array Jvm.Value) (st : Jvm.State) : (allAtoms ts).before a st = ts.all (fun c => c.before a st) := by
  induction ts with
  | nil => rfl
  | cons c t ih =>
    show (Jvm.Cond.and c (allAtoms t)).before a st = _
    rw [Jvm.Cond.before_and, ih, List.all_cons]
def words1 : List Jvm.Cond := Jvm.Cond.code x code maxLocals ret :: tables_1
/-- a 'code' word, met by the world's own term for the bytes: nothing is compared byte by byte -/
theorem code_word {y : MethodName} {bytes : ByteArray} {mx : Nat} {rt : Option FieldType} {a : Array Value} {s : State} {m : MethodId} {meth : Method} {c : Code} (h1 : s.methodNamed? y = some m) (h2 : s.vm.method? m = some meth) (h3 : meth.code = some c) (h4 : c.code = bytes)
    (h5 : (c.maxLocals == mx && c.exceptionTable.isEmpty && decide (c.maxStack ≤ mostOperands) && decide (meth.sig.returnType = rt) && !meth.locks && decide (parseMethodDescriptor y.desc = some meth.sig)) = true) : (Jvm.Cond.code y bytes mx rt).before a s = true := by
  simp only [Bool.and_eq_true, beq_iff_eq, Bool.not_eq_true', decide_eq_true_eq] at h5
  obtain ⟨⟨⟨⟨⟨g1, g2⟩, g3⟩, g4⟩, g5⟩, g6⟩ := h5
  simp [Cond.before, Cond.holds, Cond.value, h1, h2, h3, h4, g1, g2, g3, g4, g5, g6]
def isCode : Jvm.Cond → Bool
  | .code _ _ _ _ => true
  | _ => false
theorem all_split {L : List Jvm.Cond} {P : Jvm.Cond → Bool} (h1 : L.all (fun c => isCode c || P c) = true) (h2 : ∀ c ∈ L.filter isCode, P c = true) : L.all P = true := by
  refine List.all_eq_true.mpr fun c hc => ?_
  have h := List.all_eq_true.mp h1 c hc
  rcases Bool.eq_false_or_eq_true (isCode c) with hi | hi
  · exact h2 c (List.mem_filter.mpr ⟨hc, hi⟩)
  · simpa [hi] using h
set_option maxRecDepth 65536 in
theorem w_c0 : (Jvm.Cond.code x code maxLocals ret).before args0 about1 = true := code_word (m := ⟨1, 1⟩) (meth := k1m1) (c := k1c1) (by decide +kernel) rfl rfl rfl (by decide +kernel)
set_option maxRecDepth 65536 in
theorem w_c1 : (Jvm.Cond.code ({ cls := "com/example/hits_by_heading/hitsbyheading/document/DocumentSectionLocationPinLaw", name := "make", desc := "(ICC)Ljava/lang/String;" } : Jvm.MethodName) method_3_code (3 : Nat) (Option.some (Jvm.ClassFile.FieldType.object "java/lang/String"))).before args0 about1 = true := code_word (m := ⟨1, 2⟩) (meth := k1m2) (c := k1c2) (by decide +kernel) rfl rfl rfl (by decide +kernel)
set_option maxRecDepth 65536 in
theorem w_c2 : (Jvm.Cond.code ({ cls := "java/lang/String", name := "<init>", desc := "([C)V" } : Jvm.MethodName) jdk_42_method_3_code (2 : Nat) (Option.none : Option Jvm.ClassFile.FieldType)).before args0 about1 = true := code_word (m := ⟨7, 1⟩) (meth := k7m1) (c := k7c1) (by decide +kernel) rfl rfl rfl (by decide +kernel)
set_option maxRecDepth 65536 in
theorem w_c3 : (Jvm.Cond.code ({ cls := "java/lang/String", name := "<init>", desc := "([CIILjava/lang/Void;)V" } : Jvm.MethodName) jdk_42_method_149_code (6 : Nat) (Option.none : Option Jvm.ClassFile.FieldType)).before args0 about1 = true := code_word (m := ⟨7, 7⟩) (meth := k7m7) (c := k7c7) (by decide +kernel) rfl rfl rfl (by decide +kernel)
set_option maxRecDepth 65536 in
theorem w_c4 : (Jvm.Cond.code ({ cls := "java/lang/Object", name := "<init>", desc := "()V" } : Jvm.MethodName) object_method_1_code (1 : Nat) (Option.none : Option Jvm.ClassFile.FieldType)).before args0 about1 = true := code_word (m := ⟨0, 0⟩) (meth := k0m0) (c := k0c0) (by decide +kernel) rfl rfl rfl (by decide +kernel)
set_option maxRecDepth 65536 in
theorem w_c5 : (Jvm.Cond.code ({ cls := "java/lang/StringUTF16", name := "compress", desc := "([CII)[B" } : Jvm.MethodName) jdk_52_method_16_code (6 : Nat) (Option.some (Jvm.ClassFile.FieldType.array Jvm.ClassFile.FieldType.byte))).before args0 about1 = true := code_word (m := ⟨8, 2⟩) (meth := k8m2) (c := k8c2) (by decide +kernel) rfl rfl rfl (by decide +kernel)
set_option maxRecDepth 65536 in
theorem w_c6 : (Jvm.Cond.code ({ cls := "java/lang/StringUTF16", name := "compress", desc := "([CI[BII)I" } : Jvm.MethodName) jdk_52_method_21_code (7 : Nat) (Option.some Jvm.ClassFile.FieldType.int)).before args0 about1 = true := code_word (m := ⟨8, 3⟩) (meth := k8m3) (c := k8c3) (by decide +kernel) rfl rfl rfl (by decide +kernel)
set_option maxRecDepth 65536 in
theorem w_c7 : (Jvm.Cond.code ({ cls := "java/lang/StringUTF16", name := "coderFromArrayLen", desc := "([BI)B" } : Jvm.MethodName) jdk_52_method_15_code (2 : Nat) (Option.some Jvm.ClassFile.FieldType.byte)).before args0 about1 = true := code_word (m := ⟨8, 1⟩) (meth := k8m1) (c := k8c1) (by decide +kernel) rfl rfl rfl (by decide +kernel)
set_option maxRecDepth 65536 in
theorem w_c8 : (Jvm.Cond.code ({ cls := "com/example/hits_by_heading/hitsbyheading/document/Document", name := "sectionLocation", desc := "(Ljava/lang/String;Ljava/lang/String;)Ljava/lang/String;" } : Jvm.MethodName) prog_1_method_7_code (2 : Nat) (Option.some (Jvm.ClassFile.FieldType.object "java/lang/String"))).before args0 about1 = true := code_word (m := ⟨9, 0⟩) (meth := k9m0) (c := k9c0) (by decide +kernel) rfl rfl rfl (by decide +kernel)
set_option maxRecDepth 65536 in
theorem w_c9 : (Jvm.Cond.code ({ cls := "java/lang/String", name := "isEmpty", desc := "()Z" } : Jvm.MethodName) jdk_42_method_55_code (1 : Nat) (Option.some Jvm.ClassFile.FieldType.boolean)).before args0 about1 = true := code_word (m := ⟨7, 4⟩) (meth := k7m4) (c := k7c4) (by decide +kernel) rfl rfl rfl (by decide +kernel)
set_option maxRecDepth 65536 in
theorem w_c10 : (Jvm.Cond.code ({ cls := "java/lang/String", name := "length", desc := "()I" } : Jvm.MethodName) jdk_42_method_54_code (1 : Nat) (Option.some Jvm.ClassFile.FieldType.int)).before args0 about1 = true := code_word (m := ⟨7, 3⟩) (meth := k7m3) (c := k7c3) (by decide +kernel) rfl rfl rfl (by decide +kernel)
set_option maxRecDepth 65536 in
theorem w_c11 : (Jvm.Cond.code ({ cls := "java/lang/String", name := "coder", desc := "()B" } : Jvm.MethodName) jdk_42_method_152_code (1 : Nat) (Option.some Jvm.ClassFile.FieldType.byte)).before args0 about1 = true := code_word (m := ⟨7, 9⟩) (meth := k7m9) (c := k7c9) (by decide +kernel) rfl rfl rfl (by decide +kernel)
set_option maxRecDepth 65536 in
theorem w_c12 : (Jvm.Cond.code ({ cls := "com/example/hits_by_heading/hitsbyheading/document/DocumentSectionLocationPinLaw", name := "ok", desc := "(Ljava/lang/String;IIICCCC)Z" } : Jvm.MethodName) method_4_code (8 : Nat) (Option.some Jvm.ClassFile.FieldType.boolean)).before args0 about1 = true := code_word (m := ⟨1, 3⟩) (meth := k1m3) (c := k1c3) (by decide +kernel) rfl rfl rfl (by decide +kernel)
set_option maxRecDepth 65536 in
theorem w_c13 : (Jvm.Cond.code ({ cls := "java/lang/String", name := "charAt", desc := "(I)C" } : Jvm.MethodName) jdk_42_method_56_code (2 : Nat) (Option.some Jvm.ClassFile.FieldType.char)).before args0 about1 = true := code_word (m := ⟨7, 5⟩) (meth := k7m5) (c := k7c5) (by decide +kernel) rfl rfl rfl (by decide +kernel)
set_option maxRecDepth 65536 in
theorem w_c14 : (Jvm.Cond.code ({ cls := "java/lang/String", name := "isLatin1", desc := "()Z" } : Jvm.MethodName) jdk_42_method_154_code (1 : Nat) (Option.some Jvm.ClassFile.FieldType.boolean)).before args0 about1 = true := code_word (m := ⟨7, 10⟩) (meth := k7m10) (c := k7c10) (by decide +kernel) rfl rfl rfl (by decide +kernel)
set_option maxRecDepth 65536 in
theorem w_c15 : (Jvm.Cond.code ({ cls := "java/lang/StringLatin1", name := "charAt", desc := "([BI)C" } : Jvm.MethodName) jdk_43_method_2_code (2 : Nat) (Option.some Jvm.ClassFile.FieldType.char)).before args0 about1 = true := code_word (m := ⟨10, 1⟩) (meth := k10m1) (c := k10c1) (by decide +kernel) rfl rfl rfl (by decide +kernel)
set_option maxRecDepth 65536 in
theorem w_c16 : (Jvm.Cond.code ({ cls := "java/lang/String", name := "checkIndex", desc := "(II)V" } : Jvm.MethodName) jdk_42_method_155_code (2 : Nat) (Option.none : Option Jvm.ClassFile.FieldType)).before args0 about1 = true := code_word (m := ⟨7, 11⟩) (meth := k7m11) (c := k7c11) (by decide +kernel) rfl rfl rfl (by decide +kernel)
set_option maxRecDepth 65536 in
theorem w_c17 : (Jvm.Cond.code ({ cls := "jdk/internal/util/Preconditions", name := "checkIndex", desc := "(IILjava/util/function/BiFunction;)I" } : Jvm.MethodName) jdk_41_method_11_code (3 : Nat) (Option.some Jvm.ClassFile.FieldType.int)).before args0 about1 = true := code_word (m := ⟨11, 1⟩) (meth := k11m1) (c := k11c1) (by decide +kernel) rfl rfl rfl (by decide +kernel)
set_option maxRecDepth 65536 in
theorem w_c18 : (Jvm.Cond.code ({ cls := "com/example/hits_by_heading/hitsbyheading/document/DocumentSectionLocationPinLaw", name := "expected", desc := "(IICCCC)C" } : Jvm.MethodName) method_5_code (7 : Nat) (Option.some Jvm.ClassFile.FieldType.char)).before args0 about1 = true := code_word (m := ⟨1, 4⟩) (meth := k1m4) (c := k1c4) (by decide +kernel) rfl rfl rfl (by decide +kernel)
set_option maxRecDepth 65536 in
theorem w_c19 : (Jvm.Cond.code ({ cls := "java/lang/StringBuilder", name := "<init>", desc := "()V" } : Jvm.MethodName) jdk_67_method_1_code (1 : Nat) (Option.none : Option Jvm.ClassFile.FieldType)).before args0 about1 = true := code_word (m := ⟨14, 0⟩) (meth := k14m0) (c := k14c0) (by decide +kernel) rfl rfl rfl (by decide +kernel)
set_option maxRecDepth 65536 in
theorem w_c20 : (Jvm.Cond.code ({ cls := "java/lang/AbstractStringBuilder", name := "<init>", desc := "(I)V" } : Jvm.MethodName) jdk_68_method_2_code (2 : Nat) (Option.none : Option Jvm.ClassFile.FieldType)).before args0 about1 = true := code_word (m := ⟨13, 1⟩) (meth := k13m1) (c := k13c1) (by decide +kernel) rfl rfl rfl (by decide +kernel)
set_option maxRecDepth 65536 in
theorem w_c21 : (Jvm.Cond.code ({ cls := "java/lang/StringBuilder", name := "append", desc := "(Ljava/lang/String;)Ljava/lang/StringBuilder;" } : Jvm.MethodName) jdk_67_method_7_code (2 : Nat) (Option.some (Jvm.ClassFile.FieldType.object "java/lang/StringBuilder"))).before args0 about1 = true := code_word (m := ⟨14, 1⟩) (meth := k14m1) (c := k14c1) (by decide +kernel) rfl rfl rfl (by decide +kernel)
set_option maxRecDepth 65536 in
theorem w_c22 : (Jvm.Cond.code ({ cls := "java/lang/AbstractStringBuilder", name := "append", desc := "(Ljava/lang/String;)Ljava/lang/AbstractStringBuilder;" } : Jvm.MethodName) jdk_68_method_22_code (3 : Nat) (Option.some (Jvm.ClassFile.FieldType.object "java/lang/AbstractStringBuilder"))).before args0 about1 = true := code_word (m := ⟨13, 4⟩) (meth := k13m4) (c := k13c4) (by decide +kernel) rfl rfl rfl (by decide +kernel)
set_option maxRecDepth 65536 in
theorem w_c23 : (Jvm.Cond.code ({ cls := "java/lang/AbstractStringBuilder", name := "ensureCapacityInternal", desc := "(I)V" } : Jvm.MethodName) jdk_68_method_9_code (3 : Nat) (Option.none : Option Jvm.ClassFile.FieldType)).before args0 about1 = true := code_word (m := ⟨13, 3⟩) (meth := k13m3) (c := k13c3) (by decide +kernel) rfl rfl rfl (by decide +kernel)
set_option maxRecDepth 65536 in
theorem w_c24 : (Jvm.Cond.code ({ cls := "java/lang/AbstractStringBuilder", name := "putStringAt", desc := "(ILjava/lang/String;)V" } : Jvm.MethodName) jdk_68_method_73_code (3 : Nat) (Option.none : Option Jvm.ClassFile.FieldType)).before args0 about1 = true := code_word (m := ⟨13, 8⟩) (meth := k13m8) (c := k13c8) (by decide +kernel) rfl rfl rfl (by decide +kernel)
set_option maxRecDepth 65536 in
theorem w_c25 : (Jvm.Cond.code ({ cls := "java/lang/AbstractStringBuilder", name := "inflateIfNeededFor", desc := "(Ljava/lang/String;)V" } : Jvm.MethodName) jdk_68_method_71_code (2 : Nat) (Option.none : Option Jvm.ClassFile.FieldType)).before args0 about1 = true := code_word (m := ⟨13, 7⟩) (meth := k13m7) (c := k13c7) (by decide +kernel) rfl rfl rfl (by decide +kernel)
set_option maxRecDepth 65536 in
theorem w_c26 : (Jvm.Cond.code ({ cls := "java/lang/String", name := "getBytes", desc := "([BIB)V" } : Jvm.MethodName) jdk_42_method_147_code (4 : Nat) (Option.none : Option Jvm.ClassFile.FieldType)).before args0 about1 = true := code_word (m := ⟨7, 6⟩) (meth := k7m6) (c := k7c6) (by decide +kernel) rfl rfl rfl (by decide +kernel)
set_option maxRecDepth 65536 in
theorem w_c27 : (Jvm.Cond.code ({ cls := "java/lang/StringBuilder", name := "toString", desc := "()Ljava/lang/String;" } : Jvm.MethodName) jdk_67_method_42_code (1 : Nat) (Option.some (Jvm.ClassFile.FieldType.object "java/lang/String"))).before args0 about1 = true := code_word (m := ⟨14, 2⟩) (meth := k14m2) (c := k14c2) (by decide +kernel) rfl rfl rfl (by decide +kernel)
set_option maxRecDepth 65536 in
theorem w_c28 : (Jvm.Cond.code ({ cls := "java/lang/String", name := "<init>", desc := "(Ljava/lang/StringBuilder;)V" } : Jvm.MethodName) jdk_42_method_53_code (2 : Nat) (Option.none : Option Jvm.ClassFile.FieldType)).before args0 about1 = true := code_word (m := ⟨7, 2⟩) (meth := k7m2) (c := k7c2) (by decide +kernel) rfl rfl rfl (by decide +kernel)
set_option maxRecDepth 65536 in
theorem w_c29 : (Jvm.Cond.code ({ cls := "java/lang/String", name := "<init>", desc := "(Ljava/lang/AbstractStringBuilder;Ljava/lang/Void;)V" } : Jvm.MethodName) jdk_42_method_150_code (5 : Nat) (Option.none : Option Jvm.ClassFile.FieldType)).before args0 about1 = true := code_word (m := ⟨7, 8⟩) (meth := k7m8) (c := k7c8) (by decide +kernel) rfl rfl rfl (by decide +kernel)
set_option maxRecDepth 65536 in
theorem w_c30 : (Jvm.Cond.code ({ cls := "java/lang/AbstractStringBuilder", name := "getValue", desc := "()[B" } : Jvm.MethodName) jdk_68_method_64_code (1 : Nat) (Option.some (Jvm.ClassFile.FieldType.array Jvm.ClassFile.FieldType.byte))).before args0 about1 = true := code_word (m := ⟨13, 5⟩) (meth := k13m5) (c := k13c5) (by decide +kernel) rfl rfl rfl (by decide +kernel)
set_option maxRecDepth 65536 in
theorem w_c31 : (Jvm.Cond.code ({ cls := "java/lang/StringBuilder", name := "length", desc := "()I" } : Jvm.MethodName) jdk_67_method_93_code (1 : Nat) (Option.some Jvm.ClassFile.FieldType.int)).before args0 about1 = true := code_word (m := ⟨14, 3⟩) (meth := k14m3) (c := k14c3) (by decide +kernel) rfl rfl rfl (by decide +kernel)
set_option maxRecDepth 65536 in
theorem w_c32 : (Jvm.Cond.code ({ cls := "java/lang/AbstractStringBuilder", name := "length", desc := "()I" } : Jvm.MethodName) jdk_68_method_6_code (1 : Nat) (Option.some Jvm.ClassFile.FieldType.int)).before args0 about1 = true := code_word (m := ⟨13, 2⟩) (meth := k13m2) (c := k13c2) (by decide +kernel) rfl rfl rfl (by decide +kernel)
set_option maxRecDepth 65536 in
theorem w_c33 : (Jvm.Cond.code ({ cls := "java/lang/AbstractStringBuilder", name := "isLatin1", desc := "()Z" } : Jvm.MethodName) jdk_68_method_68_code (1 : Nat) (Option.some Jvm.ClassFile.FieldType.boolean)).before args0 about1 = true := code_word (m := ⟨13, 6⟩) (meth := k13m6) (c := k13c6) (by decide +kernel) rfl rfl rfl (by decide +kernel)
set_option maxRecDepth 65536 in
theorem w_c34 : (Jvm.Cond.code ({ cls := "java/util/Arrays", name := "copyOfRange", desc := "([BII)[B" } : Jvm.MethodName) jdk_65_method_132_code (3 : Nat) (Option.some (Jvm.ClassFile.FieldType.array Jvm.ClassFile.FieldType.byte))).before args0 about1 = true := code_word (m := ⟨16, 2⟩) (meth := k16m2) (c := k16c2) (by decide +kernel) rfl rfl rfl (by decide +kernel)
set_option maxRecDepth 65536 in
theorem w_c35 : (Jvm.Cond.code ({ cls := "java/util/Arrays", name := "copyOfRangeByte", desc := "([BII)[B" } : Jvm.MethodName) jdk_65_method_133_code (5 : Nat) (Option.some (Jvm.ClassFile.FieldType.array Jvm.ClassFile.FieldType.byte))).before args0 about1 = true := code_word (m := ⟨16, 3⟩) (meth := k16m3) (c := k16c3) (by decide +kernel) rfl rfl rfl (by decide +kernel)
set_option maxRecDepth 65536 in
theorem w_c36 : (Jvm.Cond.code ({ cls := "java/util/Arrays", name := "checkLength", desc := "(II)V" } : Jvm.MethodName) jdk_65_method_131_code (2 : Nat) (Option.none : Option Jvm.ClassFile.FieldType)).before args0 about1 = true := code_word (m := ⟨16, 1⟩) (meth := k16m1) (c := k16c1) (by decide +kernel) rfl rfl rfl (by decide +kernel)
set_option maxRecDepth 65536 in
theorem w_c37 : (Jvm.Cond.code ({ cls := "java/lang/Math", name := "min", desc := "(II)I" } : Jvm.MethodName) jdk_29_method_69_code (2 : Nat) (Option.some Jvm.ClassFile.FieldType.int)).before args0 about1 = true := code_word (m := ⟨17, 1⟩) (meth := k17m1) (c := k17c1) (by decide +kernel) rfl rfl rfl (by decide +kernel)
def codes1 : List Jvm.Cond := [Jvm.Cond.code x code maxLocals ret, Jvm.Cond.code ({ cls := "com/example/hits_by_heading/hitsbyheading/document/DocumentSectionLocationPinLaw", name := "make", desc := "(ICC)Ljava/lang/String;" } : Jvm.MethodName) method_3_code (3 : Nat) (Option.some (Jvm.ClassFile.FieldType.object "java/lang/String")), Jvm.Cond.code ({ cls := "java/lang/String", name := "<init>", desc := "([C)V" } : Jvm.MethodName) jdk_42_method_3_code (2 : Nat) (Option.none : Option Jvm.ClassFile.FieldType), Jvm.Cond.code ({ cls := "java/lang/String", name := "<init>", desc := "([CIILjava/lang/Void;)V" } : Jvm.MethodName) jdk_42_method_149_code (6 : Nat) (Option.none : Option Jvm.ClassFile.FieldType), Jvm.Cond.code ({ cls := "java/lang/Object", name := "<init>", desc := "()V" } : Jvm.MethodName) object_method_1_code (1 : Nat) (Option.none : Option Jvm.ClassFile.FieldType), Jvm.Cond.code ({ cls := "java/lang/StringUTF16", name := "compress", desc := "([CII)[B" } : Jvm.MethodName) jdk_52_method_16_code (6 : Nat) (Option.some (Jvm.ClassFile.FieldType.array Jvm.ClassFile.FieldType.byte)), Jvm.Cond.code ({ cls := "java/lang/StringUTF16", name := "compress", desc := "([CI[BII)I" } : Jvm.MethodName) jdk_52_method_21_code (7 : Nat) (Option.some Jvm.ClassFile.FieldType.int), Jvm.Cond.code ({ cls := "java/lang/StringUTF16", name := "coderFromArrayLen", desc := "([BI)B" } : Jvm.MethodName) jdk_52_method_15_code (2 : Nat) (Option.some Jvm.ClassFile.FieldType.byte), Jvm.Cond.code ({ cls := "com/example/hits_by_heading/hitsbyheading/document/Document", name := "sectionLocation", desc := "(Ljava/lang/String;Ljava/lang/String;)Ljava/lang/String;" } : Jvm.MethodName) prog_1_method_7_code (2 : Nat) (Option.some (Jvm.ClassFile.FieldType.object "java/lang/String")), Jvm.Cond.code ({ cls := "java/lang/String", name := "isEmpty", desc := "()Z" } : Jvm.MethodName) jdk_42_method_55_code (1 : Nat) (Option.some Jvm.ClassFile.FieldType.boolean), Jvm.Cond.code ({ cls := "java/lang/String", name := "length", desc := "()I" } : Jvm.MethodName) jdk_42_method_54_code (1 : Nat) (Option.some Jvm.ClassFile.FieldType.int), Jvm.Cond.code ({ cls := "java/lang/String", name := "coder", desc := "()B" } : Jvm.MethodName) jdk_42_method_152_code (1 : Nat) (Option.some Jvm.ClassFile.FieldType.byte), Jvm.Cond.code ({ cls := "com/example/hits_by_heading/hitsbyheading/document/DocumentSectionLocationPinLaw", name := "ok", desc := "(Ljava/lang/String;IIICCCC)Z" } : Jvm.MethodName) method_4_code (8 : Nat) (Option.some Jvm.ClassFile.FieldType.boolean), Jvm.Cond.code ({ cls := "java/lang/String", name := "charAt", desc := "(I)C" } : Jvm.MethodName) jdk_42_method_56_code (2 : Nat) (Option.some Jvm.ClassFile.FieldType.char), Jvm.Cond.code ({ cls := "java/lang/String", name := "isLatin1", desc := "()Z" } : Jvm.MethodName) jdk_42_method_154_code (1 : Nat) (Option.some Jvm.ClassFile.FieldType.boolean), Jvm.Cond.code ({ cls := "java/lang/StringLatin1", name := "charAt", desc := "([BI)C" } : Jvm.MethodName) jdk_43_method_2_code (2 : Nat) (Option.some Jvm.ClassFile.FieldType.char), Jvm.Cond.code ({ cls := "java/lang/String", name := "checkIndex", desc := "(II)V" } : Jvm.MethodName) jdk_42_method_155_code (2 : Nat) (Option.none : Option Jvm.ClassFile.FieldType), Jvm.Cond.code ({ cls := "jdk/internal/util/Preconditions", name := "checkIndex", desc := "(IILjava/util/function/BiFunction;)I" } : Jvm.MethodName) jdk_41_method_11_code (3 : Nat) (Option.some Jvm.ClassFile.FieldType.int), Jvm.Cond.code ({ cls := "com/example/hits_by_heading/hitsbyheading/document/DocumentSectionLocationPinLaw", name := "expected", desc := "(IICCCC)C" } : Jvm.MethodName) method_5_code (7 : Nat) (Option.some Jvm.ClassFile.FieldType.char), Jvm.Cond.code ({ cls := "java/lang/StringBuilder", name := "<init>", desc := "()V" } : Jvm.MethodName) jdk_67_method_1_code (1 : Nat) (Option.none : Option Jvm.ClassFile.FieldType), Jvm.Cond.code ({ cls := "java/lang/AbstractStringBuilder", name := "<init>", desc := "(I)V" } : Jvm.MethodName) jdk_68_method_2_code (2 : Nat) (Option.none : Option Jvm.ClassFile.FieldType), Jvm.Cond.code ({ cls := "java/lang/StringBuilder", name := "append", desc := "(Ljava/lang/String;)Ljava/lang/StringBuilder;" } : Jvm.MethodName) jdk_67_method_7_code (2 : Nat) (Option.some (Jvm.ClassFile.FieldType.object "java/lang/StringBuilder")), Jvm.Cond.code ({ cls := "java/lang/AbstractStringBuilder", name := "append", desc := "(Ljava/lang/String;)Ljava/lang/AbstractStringBuilder;" } : Jvm.MethodName) jdk_68_method_22_code (3 : Nat) (Option.some (Jvm.ClassFile.FieldType.object "java/lang/AbstractStringBuilder")), Jvm.Cond.code ({ cls := "java/lang/AbstractStringBuilder", name := "ensureCapacityInternal", desc := "(I)V" } : Jvm.MethodName) jdk_68_method_9_code (3 : Nat) (Option.none : Option Jvm.ClassFile.FieldType), Jvm.Cond.code ({ cls := "java/lang/AbstractStringBuilder", name := "putStringAt", desc := "(ILjava/lang/String;)V" } : Jvm.MethodName) jdk_68_method_73_code (3 : Nat) (Option.none : Option Jvm.ClassFile.FieldType), Jvm.Cond.code ({ cls := "java/lang/AbstractStringBuilder", name := "inflateIfNeededFor", desc := "(Ljava/lang/String;)V" } : Jvm.MethodName) jdk_68_method_71_code (2 : Nat) (Option.none : Option Jvm.ClassFile.FieldType), Jvm.Cond.code ({ cls := "java/lang/String", name := "getBytes", desc := "([BIB)V" } : Jvm.MethodName) jdk_42_method_147_code (4 : Nat) (Option.none : Option Jvm.ClassFile.FieldType), Jvm.Cond.code ({ cls := "java/lang/StringBuilder", name := "toString", desc := "()Ljava/lang/String;" } : Jvm.MethodName) jdk_67_method_42_code (1 : Nat) (Option.some (Jvm.ClassFile.FieldType.object "java/lang/String")), Jvm.Cond.code ({ cls := "java/lang/String", name := "<init>", desc := "(Ljava/lang/StringBuilder;)V" } : Jvm.MethodName) jdk_42_method_53_code (2 : Nat) (Option.none : Option Jvm.ClassFile.FieldType), Jvm.Cond.code ({ cls := "java/lang/String", name := "<init>", desc := "(Ljava/lang/AbstractStringBuilder;Ljava/lang/Void;)V" } : Jvm.MethodName) jdk_42_method_150_code (5 : Nat) (Option.none : Option Jvm.ClassFile.FieldType), Jvm.Cond.code ({ cls := "java/lang/AbstractStringBuilder", name := "getValue", desc := "()[B" } : Jvm.MethodName) jdk_68_method_64_code (1 : Nat) (Option.some (Jvm.ClassFile.FieldType.array Jvm.ClassFile.FieldType.byte)), Jvm.Cond.code ({ cls := "java/lang/StringBuilder", name := "length", desc := "()I" } : Jvm.MethodName) jdk_67_method_93_code (1 : Nat) (Option.some Jvm.ClassFile.FieldType.int), Jvm.Cond.code ({ cls := "java/lang/AbstractStringBuilder", name := "length", desc := "()I" } : Jvm.MethodName) jdk_68_method_6_code (1 : Nat) (Option.some Jvm.ClassFile.FieldType.int), Jvm.Cond.code ({ cls := "java/lang/AbstractStringBuilder", name := "isLatin1", desc := "()Z" } : Jvm.MethodName) jdk_68_method_68_code (1 : Nat) (Option.some Jvm.ClassFile.FieldType.boolean), Jvm.Cond.code ({ cls := "java/util/Arrays", name := "copyOfRange", desc := "([BII)[B" } : Jvm.MethodName) jdk_65_method_132_code (3 : Nat) (Option.some (Jvm.ClassFile.FieldType.array Jvm.ClassFile.FieldType.byte)), Jvm.Cond.code ({ cls := "java/util/Arrays", name := "copyOfRangeByte", desc := "([BII)[B" } : Jvm.MethodName) jdk_65_method_133_code (5 : Nat) (Option.some (Jvm.ClassFile.FieldType.array Jvm.ClassFile.FieldType.byte)), Jvm.Cond.code ({ cls := "java/util/Arrays", name := "checkLength", desc := "(II)V" } : Jvm.MethodName) jdk_65_method_131_code (2 : Nat) (Option.none : Option Jvm.ClassFile.FieldType), Jvm.Cond.code ({ cls := "java/lang/Math", name := "min", desc := "(II)I" } : Jvm.MethodName) jdk_29_method_69_code (2 : Nat) (Option.some Jvm.ClassFile.FieldType.int)]
set_option maxRecDepth 65536 in
theorem codes_eq : words1.filter isCode = codes1 := rfl
theorem w_codes : ∀ c ∈ words1.filter isCode, c.before args0 about1 = true := by
  rw [codes_eq]
  intro c hc
  simp only [codes1, List.mem_cons, List.not_mem_nil, or_false] at hc
  rcases hc with rfl | rfl | rfl | rfl | rfl | rfl | rfl | rfl | rfl | rfl | rfl | rfl | rfl | rfl | rfl | rfl | rfl | rfl | rfl | rfl | rfl | rfl | rfl | rfl | rfl | rfl | rfl | rfl | rfl | rfl | rfl | rfl | rfl | rfl | rfl | rfl | rfl | rfl
  · exact w_c0
  · exact w_c1
  · exact w_c2
  · exact w_c3
  · exact w_c4
  · exact w_c5
  · exact w_c6
  · exact w_c7
  · exact w_c8
  · exact w_c9
  · exact w_c10
  · exact w_c11
  · exact w_c12
  · exact w_c13
  · exact w_c14
  · exact w_c15
  · exact w_c16
  · exact w_c17
  · exact w_c18
  · exact w_c19
  · exact w_c20
  · exact w_c21
  · exact w_c22
  · exact w_c23
  · exact w_c24
  · exact w_c25
  · exact w_c26
  · exact w_c27
  · exact w_c28
  · exact w_c29
  · exact w_c30
  · exact w_c31
  · exact w_c32
  · exact w_c33
  · exact w_c34
  · exact w_c35
  · exact w_c36
  · exact w_c37
set_option maxRecDepth 65536 in
theorem w_t1 : (words1.take 24).all (fun c => isCode c || c.before args0 about1) = true := by decide +kernel
set_option maxRecDepth 65536 in
theorem w_t2 : ((words1.drop 24).take 24).all (fun c => isCode c || c.before args0 about1) = true := by decide +kernel
set_option maxRecDepth 65536 in
theorem w_t3 : (((words1.drop 24).drop 24).take 24).all (fun c => isCode c || c.before args0 about1) = true := by decide +kernel
set_option maxRecDepth 65536 in
theorem w_t4 : ((((words1.drop 24).drop 24).drop 24).take 24).all (fun c => isCode c || c.before args0 about1) = true := by decide +kernel
set_option maxRecDepth 65536 in
theorem w_t5 : (((((words1.drop 24).drop 24).drop 24).drop 24).take 24).all (fun c => isCode c || c.before args0 about1) = true := by decide +kernel
set_option maxRecDepth 65536 in
theorem w_t6 : ((((((words1.drop 24).drop 24).drop 24).drop 24).drop 24).take 24).all (fun c => isCode c || c.before args0 about1) = true := by decide +kernel
set_option maxRecDepth 65536 in
theorem w_t7 : (((((((words1.drop 24).drop 24).drop 24).drop 24).drop 24).drop 24).take 24).all (fun c => isCode c || c.before args0 about1) = true := by decide +kernel
set_option maxRecDepth 65536 in
theorem w_t8 : (((((((words1.drop 24).drop 24).drop 24).drop 24).drop 24).drop 24).drop 24).all (fun c => isCode c || c.before args0 about1) = true := by decide +kernel
theorem w_tables : (allAtoms (Jvm.Cond.code x code maxLocals ret :: tables_1)).before args0 about1 = true := by
  rw [allAtoms_all]
  show words1.all (fun c => c.before args0 about1) = true
  refine all_split ?_ w_codes
  rw [← List.take_append_drop 24 words1, List.all_append, w_t1, ← List.take_append_drop 24 (words1.drop 24), List.all_append, w_t2, ← List.take_append_drop 24 ((words1.drop 24).drop 24), List.all_append, w_t3, ← List.take_append_drop 24 (((words1.drop 24).drop 24).drop 24), List.all_append, w_t4, ← List.take_append_drop 24 ((((words1.drop 24).drop 24).drop 24).drop 24), List.all_append, w_t5, ← List.take_append_drop 24 (((((words1.drop 24).drop 24).drop 24).drop 24).drop 24), List.all_append, w_t6, ← List.take_append_drop 24 ((((((words1.drop 24).drop 24).drop 24).drop 24).drop 24).drop 24), List.all_append, w_t7, w_t8]
  rfl
set_option maxRecDepth 65536 in
theorem w_rest : rest_1_c.before args0 about1 = true := by decide +kernel
set_option maxRecDepth 65536 in
theorem w_case : (Jvm.Cond.and given_1 narrow_1).before args0 about1 = true := by decide +kernel
set_option maxRecDepth 65536 in
theorem w_consts : constsHeld consts_1 about1 := Jvm.Lit.constsHeldB_iff.mp (by decide +kernel)
theorem w_applies : (headSpec (Jvm.Cond.code x code maxLocals ret :: tables_1) room_1).applies x e0.platform about1 = true :=
  (Spec.applies_iff w_frames).mpr ⟨w_running, w_runnable, w_alone, w_named, w_hears, w_ripe, w_room, w_tables⟩
theorem atStart : AtStart classFile x code maxLocals ret World_1 tables_1 room_1 Calls_1 rest_1 Pre_1 launch0 p0 e0 about1 theMethod args0 below0 :=
  ⟨lists_1, trivial, launch0.admits_env _ _ _, launch0.least_env, fairChoices_fair.cas, fairChoices_fair.clock, w_frames, w_args, w_heap, w_applies, ⟨w_consts, trivial⟩, w_rest, w_case⟩
end start1
theorem witness_1 : WitnessClaimed_1 := ⟨start1.p0, start1.e0, start1.about1, start1.theMethod, start1.args0, start1.below0, start1.atStart⟩
end Jvm.Pilot.@@N@@
