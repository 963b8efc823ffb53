import JvmDerived
import JvmDerived.Pilot.@@N@@Statement
import JvmDerived.Pilot.@@N@@Code
set_option linter.unusedVariables false
set_option linter.unusedSimpArgs false
namespace Jvm.OwnW
open Sem ClassFile Op Lib Jvm.Stand Jvm.Free Jvm.LawKit Jvm.RoadKit Bundle
def Dec (b : ByteArray) (pc : Nat) (i : Instr) (len nx : Nat) : Prop := decode b pc = .ok (i, len) ∧ pc + len = nx
def DecJ (b : ByteArray) (pc : Nat) (i : Instr) (o : Int) (nx tgt : Nat) : Prop := decode b pc = .ok (i, 3) ∧ pc + 3 = nx ∧ 0 ≤ (pc : Int) + o ∧ ((pc : Int) + o).toNat = tgt
theorem le {a b : Nat} (h : Nat.ble a b = true) : a ≤ b := Nat.le_of_ble_eq_true h
theorem ext_refl (h : Heap) : Ext h h := ⟨Nat.le_refl _, fun _ _ q => q⟩
theorem ext_trans {h h' h2 : Heap} (A : Ext h h') (B : Ext h' h2) : Ext h h2 := ⟨Nat.le_trans A.1 B.1, fun a c q => B.2 a c (A.2 a c q)⟩
theorem keep_ext {h h' : Heap} (E : Ext h h') (ws : List Addr) : Keep h h' ws := (Keep.refl h ws).ext E
theorem ext_keep {h h' : Heap} (K : Keep h h' []) : Ext h h' := ⟨K.1, fun a c q => K.2.1 a c q nin0⟩
def Here (p : Program) (l : Launch) (e : Env) (R : Room) (s : State) (m : MethodId) (args : Array Value) (below : List Frame) (meth : Method) (c : Code) (Z : State) (EL : List (String × Nat)) (nw : Bool)
    (F : List Addr) (w : Nat) (h : Heap) (k n : Nat) (T : State) (vm0 : Vm) (locs : List Loc) (k0 : Nat) : Prop :=
  Stand p l e R (s.setVm vm0) m args below meth c T locs k n ∧ T.heap = h ∧ Fr Z.heap.size locs ∧ s.Since vm0 k0 ∧ k0 ≤ h.size ∧ Z.Warmed39 vm0 ∧ CHr Z EL s.vm s.heap vm0 h ∧ (nw = true → s.WarmedH vm0) ∧ (∀ x ∈ F, x < h.size ∧ Safe Z EL vm0 h x) ∧ Ext Z.heap h ∧ (∀ x, w ≤ x → Safe Z EL vm0 h x) ∧ (nw = true → ∀ y, Bk Z EL vm0 h y → Bk Z EL s.vm s.heap y)
def wm (nwc : Bool) (w : Nat) (h : Heap) : Nat := match nwc with | true => w | false => h.size
def Ends (p : Program) (e : Env) (R : Room) (s : State) (below : List Frame) (Z : State) (EL : List (String × Nat)) (nw : Bool) (Q : Option Value → Heap → Prop) (t0 : State) : Prop :=
  ∃ t v L, Steps p.tables e below t0 t ∧ t.status = .running ∧ Ended t below (.returned v) ∧ Q v t.heap ∧ Fr Z.heap.size L ∧ CHr Z EL s.vm s.heap t.vm t.heap ∧ (nw = true → s.WarmedH t.vm ∧ ∀ y, Bk Z EL t.vm t.heap y → Bk Z EL s.vm s.heap y) ∧ Ext Z.heap t.heap ∧ ReturnedEndW s (.returned v) t L R.cells R.slots
def Goes (p : Program) (l : Launch) (e : Env) (R : Room) (s : State) (m : MethodId) (args : Array Value) (below : List Frame) (meth : Method) (c : Code) (Z : State) (EL : List (String × Nat)) (nw : Bool)
    (Q : Option Value → Heap → Prop) (F : List Addr) (w : Nat) (h : Heap) (k n : Nat) (f : JFrame) : Prop :=
  ∀ T vm0 locs k0, Here p l e R s m args below meth c Z EL nw F w h k n T vm0 locs k0 → Ends p e R s below Z EL nw Q (T.setTop f)
def Cxt (p : Program) (m : MethodId) (meth : Method) (c : Code) (Z : State) (a0 : Array Value) (EL : List (String × Nat)) (own mn : String) (bytes : ByteArray) (ml : Nat) (ret : Option FieldType) (Ws : List Jvm.Cond) : Prop :=
  p.tables.exec = Jvm.exec ∧ c.code = bytes ∧ c.maxLocals = ml ∧ Z.vm.findClass own = some m.cls ∧ meth.sig.returnType = ret ∧ meth.locks = false ∧ meth.name = mn ∧ (∀ d ∈ Ws, d.before a0 Z = true) ∧ EW Z a0 EL
/-- who pays a call -/
def Pays (p : Program) (l : Launch) (e : Env) (R : Room) (s : State) (args : Array Value) (below : List Frame) (Z : State) (EL : List (String × Nat)) (nw : Bool)
    (y : MethodName) (len W : Nat) (F : List Addr) (as' : Array Value) (h : Heap) (rc rs : Nat) (Qc : Option Value → Heap → Prop) : Prop :=
  ∀ vm0, Z.Warmed39 vm0 → CHv Z EL vm0 h → (∀ x ∈ F, x < h.size ∧ Safe Z EL vm0 h x) → Ext Z.heap h →
    BackS l R p e below (s.setVm vm0) args y len W (fun A a => a = as' ∧ A.U.heap = h ∧ A.cells + rc ≤ R.cells ∧ A.slots + rs ≤ R.slots)
      (fun A _ v B => ∃ L, Qc v B.U.heap ∧ Fr Z.heap.size L ∧ B.locs = A.locs ++ L ∧ B.cells = A.cells + rc ∧ B.slots = A.slots + rs ∧ CHr Z EL vm0 h B.U.vm B.U.heap ∧ (nw = true → (s.setVm vm0).WarmedH B.U.vm ∧ ∀ y, Bk Z EL B.U.vm B.U.heap y → Bk Z EL vm0 h y) ∧ Ext Z.heap B.U.heap)
/-- a method's contract -/
def Con (l : Launch) (Z : State) (EL : List (String × Nat)) (nw : Bool) (y : MethodName) (bytes : ByteArray) (maxL : Nat) (ret : Option FieldType) (rm : Room) (F : List Addr) (as' : Array Value) (h : Heap) (Q : Option Value → Heap → Prop) : Prop :=
  ∀ ws : List Jvm.Cond, MetFree l y (head1 (Jvm.Cond.code y bytes maxL ret :: ws) rm) (fun a U => a = as' ∧ Z.Warmed39 U.vm ∧ U.heap = h ∧ CHv Z EL U.vm h ∧ (∀ x ∈ F, x < h.size ∧ Safe Z EL U.vm h x) ∧ Ext Z.heap h) (fun _ _ _ _ _ => True)
    (fun _ U o U' => ∃ v L, o = .returned v ∧ Q v U'.heap ∧ Fr Z.heap.size L ∧ CHr Z EL U.vm U.heap U'.vm U'.heap ∧ (nw = true → U.WarmedH U'.vm ∧ ∀ y, Bk Z EL U'.vm U'.heap y → Bk Z EL U.vm U.heap y) ∧ Ext Z.heap U'.heap ∧ ReturnedEndW U o U' L rm.cells rm.slots)
section
variable {p : Program} {l : Launch} {e : Env} {R : Room} {s : State} {m : MethodId} {args : Array Value} {below : List Frame} {meth : Method} {c : Code} {Z : State} {a0 : Array Value} {EL : List (String × Nat)} {nw : Bool} {own mn : String} {bytes : ByteArray} {ml : Nat} {ret : Option FieldType} {Ws : List Jvm.Cond} {Q : Option Value → Heap → Prop} {F : List Addr} {w : Nat} {h : Heap} {k n : Nat} {pc nx : Nat} {Ls : Array Slot} {st : List Value}
theorem Cxt.own_at (C : Cxt p m meth c Z a0 EL own mn bytes ml ret Ws) {vm0 : Vm} (hZ : Z.Warmed39 vm0) : (s.setVm vm0).vm.findClass own = some m.cls := by
  show vm0.findClass own = _
  rw [hZ.alike.findClass]; exact C.2.2.2.1
theorem Cxt.wrd (C : Cxt p m meth c Z a0 EL own mn bytes ml ret Ws) {d : Jvm.Cond} (hd : d ∈ Ws) : d.before a0 Z = true := C.2.2.2.2.2.2.2.1 d hd
theorem Here.step {T T' : State} {vm0 : Vm} {locs locs' : List Loc} {k0 k' n' : Nat} {h' : Heap} {ws : List Addr} (H : Here p l e R s m args below meth c Z EL nw F w h k n T vm0 locs k0) (X' : Stand p l e R (s.setVm vm0) m args below meth c T' locs' k' n') (e' : T'.heap = h') (N' : Fr Z.heap.size locs') (K : Keep h h' ws) (hs : ∀ x ∈ ws, Safe Z EL vm0 h x ∧ Z.heap.size ≤ x) :
    Here p l e R s m args below meth c Z EL nw F w h' k' n' T' vm0 locs' k0 := by
  obtain ⟨X, eT, N, S, hk0, hZ, H1, hw, hF, O, hwm, hbk⟩ := H
  have hs1 : ∀ x ∈ ws, Safe Z EL vm0 h x := fun x hx => (hs x hx).1
  exact ⟨X', e', N', S, Nat.le_trans hk0 K.1, hZ, H1.trans (CHr.keep K hs1 H1.1), hw, fun x hx => ⟨Nat.lt_of_lt_of_le (hF x hx).1 K.1, (hF x hx).2.keep K hs1 H1.1⟩, (Old.keep (n0 := Z.heap.size) ⟨rfl, O⟩ K fun x hx => (hs x hx).2).2, fun x hx => (hwm x hx).keep K hs1 H1.1, fun q y hy => hbk q y ((H1.1.keepStep K hs1).2 y hy)⟩
theorem Goes.pure {f f' : JFrame} (stp : ∀ T vm0 locs, Stand p l e R (s.setVm vm0) m args below meth c T locs k n → ∀ t, Steps p.tables e below (T.setTop f') t → Steps p.tables e below (T.setTop f) t) (g : Goes p l e R s m args below meth c Z EL nw Q F w h k n f') : Goes p l e R s m args below meth c Z EL nw Q F w h k n f := by
  intro T vm0 locs k0 H
  obtain ⟨t, v, L, h1, r⟩ := g T vm0 locs k0 H
  exact ⟨t, v, L, stp T vm0 locs H.1 t h1, r⟩
theorem Goes.old {f : JFrame} (g : Ext Z.heap h → Goes p l e R s m args below meth c Z EL nw Q F w h k n f) : Goes p l e R s m args below meth c Z EL nw Q F w h k n f := fun T vm0 locs k0 H => g H.2.2.2.2.2.2.2.2.2.1 T vm0 locs k0 H
theorem Goes.more {f : JFrame} {k' n' : Nat} (hk : k ≤ k') (hn : n ≤ n') (g : Goes p l e R s m args below meth c Z EL nw Q F w h k' n' f) : Goes p l e R s m args below meth c Z EL nw Q F w h k n f := fun T vm0 locs k0 H => g T vm0 locs k0 ⟨H.1.more hk hn, H.2⟩
theorem Goes.less {f : JFrame} {F' : List Addr} (hF : ∀ x ∈ F', x ∈ F) (g : Goes p l e R s m args below meth c Z EL nw Q F' w h k n f) : Goes p l e R s m args below meth c Z EL nw Q F w h k n f := fun T vm0 locs k0 H => by
  obtain ⟨X, eT, N, S, hk0, hZ, H1, hw, hF1, O, hwm, hbk⟩ := H
  exact g T vm0 locs k0 ⟨X, eT, N, S, hk0, hZ, H1, hw, fun x hx => hF1 x (hF x hx), O, hwm, hbk⟩
theorem Goes.safeOf {f : JFrame} {a : Addr} (hs : ∀ vm0, Z.Warmed39 vm0 → CHr Z EL s.vm s.heap vm0 h → a < h.size ∧ Safe Z EL vm0 h a) (g : Goes p l e R s m args below meth c Z EL nw Q (a :: F) w h k n f) : Goes p l e R s m args below meth c Z EL nw Q F w h k n f := fun T vm0 locs k0 H => by
  obtain ⟨X, eT, N, S, hk0, hZ, H1, hw, hF1, O, hwm, hbk⟩ := H
  exact g T vm0 locs k0 ⟨X, eT, N, S, hk0, hZ, H1, hw, fun x hx => (List.mem_cons.mp hx).elim (fun q => by subst q; exact hs vm0 hZ H1) (hF1 x), O, hwm, hbk⟩
theorem Goes.cast {f f' : JFrame} (q : f = f') (g : Goes p l e R s m args below meth c Z EL nw Q F w h k n f') : Goes p l e R s m args below meth c Z EL nw Q F w h k n f := q ▸ g

/-- (char) x -/
def c16 (x : Int32) : Int32 := x.toUInt32.toUInt16.toUInt32.toInt32
/-- (byte) x -/
def b8 (x : Int32) : Int32 := x.toInt8.toInt32
theorem Cxt.aloadN (C : Cxt p m meth c Z a0 EL own mn bytes ml ret Ws) {i : Fin 4} {v : Value} (d : Dec bytes pc (.aload_n i) 1 nx) (hl : Ls[i.val]? = some (.val v)) (hv : v.isRef = true) (g : Goes p l e R s m args below meth c Z EL nw Q F w h k n (mkF m nx Ls (v :: st))) : Goes p l e R s m args below meth c Z EL nw Q F w h k n (mkF m pc Ls st) := by
  obtain ⟨d1, rfl⟩ := d
  exact Goes.pure (fun T vm0 locs X t ht => XS.aloadN X.here C.1 rfl (hb C.2.1 d1) hl hv ht) g
theorem Cxt.aload (C : Cxt p m meth c Z a0 EL own mn bytes ml ret Ws) {i : Nat} {v : Value} (d : Dec bytes pc (.aload i) 2 nx) (hl : Ls[i]? = some (.val v)) (hv : v.isRef = true) (g : Goes p l e R s m args below meth c Z EL nw Q F w h k n (mkF m nx Ls (v :: st))) : Goes p l e R s m args below meth c Z EL nw Q F w h k n (mkF m pc Ls st) := by
  obtain ⟨d1, rfl⟩ := d
  exact Goes.pure (fun T vm0 locs X t ht => XS.aload X.here C.1 rfl (hb C.2.1 d1) hl hv ht) g
theorem Cxt.iloadN (C : Cxt p m meth c Z a0 EL own mn bytes ml ret Ws) {i : Fin 4} {v : Int32} (d : Dec bytes pc (.iload_n i) 1 nx) (hl : Ls[i.val]? = some (.val (.int v))) (g : Goes p l e R s m args below meth c Z EL nw Q F w h k n (mkF m nx Ls (.int v :: st))) : Goes p l e R s m args below meth c Z EL nw Q F w h k n (mkF m pc Ls st) := by
  obtain ⟨d1, rfl⟩ := d
  exact Goes.pure (fun T vm0 locs X t ht => XS.iloadN X.here C.1 rfl (hb C.2.1 d1) hl ht) g
theorem Cxt.iload (C : Cxt p m meth c Z a0 EL own mn bytes ml ret Ws) {i : Nat} {v : Int32} (d : Dec bytes pc (.iload i) 2 nx) (hl : Ls[i]? = some (.val (.int v))) (g : Goes p l e R s m args below meth c Z EL nw Q F w h k n (mkF m nx Ls (.int v :: st))) : Goes p l e R s m args below meth c Z EL nw Q F w h k n (mkF m pc Ls st) := by
  obtain ⟨d1, rfl⟩ := d
  exact Goes.pure (fun T vm0 locs X t ht => XS.iload X.here C.1 rfl (hb C.2.1 d1) hl ht) g
theorem Cxt.lloadN (C : Cxt p m meth c Z a0 EL own mn bytes ml ret Ws) {i : Fin 4} {v : Int64} (d : Dec bytes pc (.lload_n i) 1 nx) (hl : Ls[i.val]? = some (.val (.long v))) (g : Goes p l e R s m args below meth c Z EL nw Q F w h k n (mkF m nx Ls (.long v :: st))) : Goes p l e R s m args below meth c Z EL nw Q F w h k n (mkF m pc Ls st) := by
  obtain ⟨d1, rfl⟩ := d
  exact Goes.pure (fun T vm0 locs X t ht => XT.lloadN X.here C.1 rfl (hb C.2.1 d1) hl ht) g
theorem Cxt.lload (C : Cxt p m meth c Z a0 EL own mn bytes ml ret Ws) {i : Nat} {v : Int64} (d : Dec bytes pc (.lload i) 2 nx) (hl : Ls[i]? = some (.val (.long v))) (g : Goes p l e R s m args below meth c Z EL nw Q F w h k n (mkF m nx Ls (.long v :: st))) : Goes p l e R s m args below meth c Z EL nw Q F w h k n (mkF m pc Ls st) := by
  obtain ⟨d1, rfl⟩ := d
  exact Goes.pure (fun T vm0 locs X t ht => XT.lload X.here C.1 rfl (hb C.2.1 d1) hl ht) g
theorem Cxt.iconst (C : Cxt p m meth c Z a0 EL own mn bytes ml ret Ws) {i : Int} (v : Int32) (d : Dec bytes pc (.iconst i) 1 nx) (hv : Int32.ofInt i = v) (g : Goes p l e R s m args below meth c Z EL nw Q F w h k n (mkF m nx Ls (.int v :: st))) : Goes p l e R s m args below meth c Z EL nw Q F w h k n (mkF m pc Ls st) := by
  subst hv; obtain ⟨d1, rfl⟩ := d
  exact Goes.pure (fun T vm0 locs X t ht => XS.iconst X.here C.1 rfl (hb C.2.1 d1) ht) g
theorem Cxt.bipush (C : Cxt p m meth c Z a0 EL own mn bytes ml ret Ws) {i : Int} (v : Int32) (d : Dec bytes pc (.bipush i) 2 nx) (hv : (Int8.ofInt i).toInt32 = v) (g : Goes p l e R s m args below meth c Z EL nw Q F w h k n (mkF m nx Ls (.int v :: st))) : Goes p l e R s m args below meth c Z EL nw Q F w h k n (mkF m pc Ls st) := by
  subst hv; obtain ⟨d1, rfl⟩ := d
  exact Goes.pure (fun T vm0 locs X t ht => XS.bipush X.here C.1 rfl (hb C.2.1 d1) ht) g
theorem Cxt.sipush (C : Cxt p m meth c Z a0 EL own mn bytes ml ret Ws) {i : Int} (v : Int32) (d : Dec bytes pc (.sipush i) 3 nx) (hv : (Int16.ofInt i).toInt32 = v) (g : Goes p l e R s m args below meth c Z EL nw Q F w h k n (mkF m nx Ls (.int v :: st))) : Goes p l e R s m args below meth c Z EL nw Q F w h k n (mkF m pc Ls st) := by
  subst hv; obtain ⟨d1, rfl⟩ := d
  exact Goes.pure (fun T vm0 locs X t ht => XS.sipush X.here C.1 rfl (hb C.2.1 d1) ht) g
theorem Cxt.aconst_null (C : Cxt p m meth c Z a0 EL own mn bytes ml ret Ws)  (d : Dec bytes pc (.aconst_null) 1 nx)  (g : Goes p l e R s m args below meth c Z EL nw Q F w h k n (mkF m nx Ls (.null :: st))) : Goes p l e R s m args below meth c Z EL nw Q F w h k n (mkF m pc Ls st) := by
  obtain ⟨d1, rfl⟩ := d
  exact Goes.pure (fun T vm0 locs X t ht => XS.aconstNull X.here C.1 rfl (hb C.2.1 d1) ht) g
theorem Cxt.lconst (C : Cxt p m meth c Z a0 EL own mn bytes ml ret Ws) {i : Fin 2} (d : Dec bytes pc (.lconst i) 1 nx)  (g : Goes p l e R s m args below meth c Z EL nw Q F w h k n (mkF m nx Ls (.long (Int64.ofNat i) :: st))) : Goes p l e R s m args below meth c Z EL nw Q F w h k n (mkF m pc Ls st) := by
  obtain ⟨d1, rfl⟩ := d
  exact Goes.pure (fun T vm0 locs X t ht => XT.lconst X.here C.1 rfl (hb C.2.1 d1) ht) g
theorem Cxt.iadd (C : Cxt p m meth c Z a0 EL own mn bytes ml ret Ws) {x y : Int32} (d : Dec bytes pc (.iadd) 1 nx)  (g : Goes p l e R s m args below meth c Z EL nw Q F w h k n (mkF m nx Ls (.int (x + y) :: st))) : Goes p l e R s m args below meth c Z EL nw Q F w h k n (mkF m pc Ls (.int y :: .int x :: st)) := by
  obtain ⟨d1, rfl⟩ := d
  exact Goes.pure (fun T vm0 locs X t ht => XS.iadd X.here C.1 rfl (hb C.2.1 d1) rfl ht) g
theorem Cxt.isub (C : Cxt p m meth c Z a0 EL own mn bytes ml ret Ws) {x y : Int32} (d : Dec bytes pc (.isub) 1 nx)  (g : Goes p l e R s m args below meth c Z EL nw Q F w h k n (mkF m nx Ls (.int (x - y) :: st))) : Goes p l e R s m args below meth c Z EL nw Q F w h k n (mkF m pc Ls (.int y :: .int x :: st)) := by
  obtain ⟨d1, rfl⟩ := d
  exact Goes.pure (fun T vm0 locs X t ht => XS.isub X.here C.1 rfl (hb C.2.1 d1) rfl ht) g
theorem Cxt.imul (C : Cxt p m meth c Z a0 EL own mn bytes ml ret Ws) {x y : Int32} (d : Dec bytes pc (.imul) 1 nx)  (g : Goes p l e R s m args below meth c Z EL nw Q F w h k n (mkF m nx Ls (.int (x * y) :: st))) : Goes p l e R s m args below meth c Z EL nw Q F w h k n (mkF m pc Ls (.int y :: .int x :: st)) := by
  obtain ⟨d1, rfl⟩ := d
  exact Goes.pure (fun T vm0 locs X t ht => XS.imul X.here C.1 rfl (hb C.2.1 d1) rfl ht) g
theorem Cxt.iand (C : Cxt p m meth c Z a0 EL own mn bytes ml ret Ws) {x y : Int32} (d : Dec bytes pc (.iand) 1 nx)  (g : Goes p l e R s m args below meth c Z EL nw Q F w h k n (mkF m nx Ls (.int (x &&& y) :: st))) : Goes p l e R s m args below meth c Z EL nw Q F w h k n (mkF m pc Ls (.int y :: .int x :: st)) := by
  obtain ⟨d1, rfl⟩ := d
  exact Goes.pure (fun T vm0 locs X t ht => XS.iand X.here C.1 rfl (hb C.2.1 d1) rfl ht) g
theorem Cxt.ior (C : Cxt p m meth c Z a0 EL own mn bytes ml ret Ws) {x y : Int32} (d : Dec bytes pc (.ior) 1 nx)  (g : Goes p l e R s m args below meth c Z EL nw Q F w h k n (mkF m nx Ls (.int (x ||| y) :: st))) : Goes p l e R s m args below meth c Z EL nw Q F w h k n (mkF m pc Ls (.int y :: .int x :: st)) := by
  obtain ⟨d1, rfl⟩ := d
  exact Goes.pure (fun T vm0 locs X t ht => XT.ior X.here C.1 rfl (hb C.2.1 d1) rfl ht) g
theorem Cxt.ixor (C : Cxt p m meth c Z a0 EL own mn bytes ml ret Ws) {x y : Int32} (d : Dec bytes pc (.ixor) 1 nx)  (g : Goes p l e R s m args below meth c Z EL nw Q F w h k n (mkF m nx Ls (.int (x ^^^ y) :: st))) : Goes p l e R s m args below meth c Z EL nw Q F w h k n (mkF m pc Ls (.int y :: .int x :: st)) := by
  obtain ⟨d1, rfl⟩ := d
  exact Goes.pure (fun T vm0 locs X t ht => XT.ixor X.here C.1 rfl (hb C.2.1 d1) rfl ht) g
theorem Cxt.ishl (C : Cxt p m meth c Z a0 EL own mn bytes ml ret Ws) {x y : Int32} (d : Dec bytes pc (.ishl) 1 nx)  (g : Goes p l e R s m args below meth c Z EL nw Q F w h k n (mkF m nx Ls (.int (x <<< (y &&& 31)) :: st))) : Goes p l e R s m args below meth c Z EL nw Q F w h k n (mkF m pc Ls (.int y :: .int x :: st)) := by
  obtain ⟨d1, rfl⟩ := d
  exact Goes.pure (fun T vm0 locs X t ht => XT.ishl X.here C.1 rfl (hb C.2.1 d1) rfl ht) g
theorem Cxt.ishr (C : Cxt p m meth c Z a0 EL own mn bytes ml ret Ws) {x y : Int32} (d : Dec bytes pc (.ishr) 1 nx)  (g : Goes p l e R s m args below meth c Z EL nw Q F w h k n (mkF m nx Ls (.int (x >>> (y &&& 31)) :: st))) : Goes p l e R s m args below meth c Z EL nw Q F w h k n (mkF m pc Ls (.int y :: .int x :: st)) := by
  obtain ⟨d1, rfl⟩ := d
  exact Goes.pure (fun T vm0 locs X t ht => XT.ishr X.here C.1 rfl (hb C.2.1 d1) rfl ht) g
theorem Cxt.iushr (C : Cxt p m meth c Z a0 EL own mn bytes ml ret Ws) {x y : Int32} (d : Dec bytes pc (.iushr) 1 nx)  (g : Goes p l e R s m args below meth c Z EL nw Q F w h k n (mkF m nx Ls (.int (XT.ushr x y) :: st))) : Goes p l e R s m args below meth c Z EL nw Q F w h k n (mkF m pc Ls (.int y :: .int x :: st)) := by
  obtain ⟨d1, rfl⟩ := d
  exact Goes.pure (fun T vm0 locs X t ht => XT.iushr X.here C.1 rfl (hb C.2.1 d1) rfl ht) g
theorem Cxt.idiv (C : Cxt p m meth c Z a0 EL own mn bytes ml ret Ws) {x y : Int32} (d : Dec bytes pc (.idiv) 1 nx) (hy : y ≠ 0) (g : Goes p l e R s m args below meth c Z EL nw Q F w h k n (mkF m nx Ls (.int (x / y) :: st))) : Goes p l e R s m args below meth c Z EL nw Q F w h k n (mkF m pc Ls (.int y :: .int x :: st)) := by
  obtain ⟨d1, rfl⟩ := d
  exact Goes.pure (fun T vm0 locs X t ht => XS.idiv X.here C.1 rfl (hb C.2.1 d1) rfl hy ht) g
theorem Cxt.irem (C : Cxt p m meth c Z a0 EL own mn bytes ml ret Ws) {x y : Int32} (d : Dec bytes pc (.irem) 1 nx) (hy : y ≠ 0) (g : Goes p l e R s m args below meth c Z EL nw Q F w h k n (mkF m nx Ls (.int (x % y) :: st))) : Goes p l e R s m args below meth c Z EL nw Q F w h k n (mkF m pc Ls (.int y :: .int x :: st)) := by
  obtain ⟨d1, rfl⟩ := d
  exact Goes.pure (fun T vm0 locs X t ht => iremM X C.1 rfl (hb C.2.1 d1) rfl hy ht) g
theorem Cxt.ineg (C : Cxt p m meth c Z a0 EL own mn bytes ml ret Ws) {x : Int32} (d : Dec bytes pc (.ineg) 1 nx)  (g : Goes p l e R s m args below meth c Z EL nw Q F w h k n (mkF m nx Ls (.int (-x) :: st))) : Goes p l e R s m args below meth c Z EL nw Q F w h k n (mkF m pc Ls (.int x :: st)) := by
  obtain ⟨d1, rfl⟩ := d
  exact Goes.pure (fun T vm0 locs X t ht => XS.ineg X.here C.1 rfl (hb C.2.1 d1) rfl ht) g
theorem Cxt.ladd (C : Cxt p m meth c Z a0 EL own mn bytes ml ret Ws) {x y : Int64} (d : Dec bytes pc (.ladd) 1 nx)  (g : Goes p l e R s m args below meth c Z EL nw Q F w h k n (mkF m nx Ls (.long (x + y) :: st))) : Goes p l e R s m args below meth c Z EL nw Q F w h k n (mkF m pc Ls (.long y :: .long x :: st)) := by
  obtain ⟨d1, rfl⟩ := d
  exact Goes.pure (fun T vm0 locs X t ht => XT.ladd X.here C.1 rfl (hb C.2.1 d1) rfl ht) g
theorem Cxt.lsub (C : Cxt p m meth c Z a0 EL own mn bytes ml ret Ws) {x y : Int64} (d : Dec bytes pc (.lsub) 1 nx)  (g : Goes p l e R s m args below meth c Z EL nw Q F w h k n (mkF m nx Ls (.long (x - y) :: st))) : Goes p l e R s m args below meth c Z EL nw Q F w h k n (mkF m pc Ls (.long y :: .long x :: st)) := by
  obtain ⟨d1, rfl⟩ := d
  exact Goes.pure (fun T vm0 locs X t ht => XT.lsub X.here C.1 rfl (hb C.2.1 d1) rfl ht) g
theorem Cxt.lmul (C : Cxt p m meth c Z a0 EL own mn bytes ml ret Ws) {x y : Int64} (d : Dec bytes pc (.lmul) 1 nx)  (g : Goes p l e R s m args below meth c Z EL nw Q F w h k n (mkF m nx Ls (.long (x * y) :: st))) : Goes p l e R s m args below meth c Z EL nw Q F w h k n (mkF m pc Ls (.long y :: .long x :: st)) := by
  obtain ⟨d1, rfl⟩ := d
  exact Goes.pure (fun T vm0 locs X t ht => XT.lmul X.here C.1 rfl (hb C.2.1 d1) rfl ht) g
theorem Cxt.land (C : Cxt p m meth c Z a0 EL own mn bytes ml ret Ws) {x y : Int64} (d : Dec bytes pc (.land) 1 nx)  (g : Goes p l e R s m args below meth c Z EL nw Q F w h k n (mkF m nx Ls (.long (x &&& y) :: st))) : Goes p l e R s m args below meth c Z EL nw Q F w h k n (mkF m pc Ls (.long y :: .long x :: st)) := by
  obtain ⟨d1, rfl⟩ := d
  exact Goes.pure (fun T vm0 locs X t ht => XT.land X.here C.1 rfl (hb C.2.1 d1) rfl ht) g
theorem Cxt.lor (C : Cxt p m meth c Z a0 EL own mn bytes ml ret Ws) {x y : Int64} (d : Dec bytes pc (.lor) 1 nx)  (g : Goes p l e R s m args below meth c Z EL nw Q F w h k n (mkF m nx Ls (.long (x ||| y) :: st))) : Goes p l e R s m args below meth c Z EL nw Q F w h k n (mkF m pc Ls (.long y :: .long x :: st)) := by
  obtain ⟨d1, rfl⟩ := d
  exact Goes.pure (fun T vm0 locs X t ht => XT.lor X.here C.1 rfl (hb C.2.1 d1) rfl ht) g
theorem Cxt.lxor (C : Cxt p m meth c Z a0 EL own mn bytes ml ret Ws) {x y : Int64} (d : Dec bytes pc (.lxor) 1 nx)  (g : Goes p l e R s m args below meth c Z EL nw Q F w h k n (mkF m nx Ls (.long (x ^^^ y) :: st))) : Goes p l e R s m args below meth c Z EL nw Q F w h k n (mkF m pc Ls (.long y :: .long x :: st)) := by
  obtain ⟨d1, rfl⟩ := d
  exact Goes.pure (fun T vm0 locs X t ht => XT.lxor X.here C.1 rfl (hb C.2.1 d1) rfl ht) g
theorem Cxt.lushr (C : Cxt p m meth c Z a0 EL own mn bytes ml ret Ws) {x : Int64} {y : Int32} (d : Dec bytes pc (.lushr) 1 nx)  (g : Goes p l e R s m args below meth c Z EL nw Q F w h k n (mkF m nx Ls (.long (XT.ushrL x y) :: st))) : Goes p l e R s m args below meth c Z EL nw Q F w h k n (mkF m pc Ls (.int y :: .long x :: st)) := by
  obtain ⟨d1, rfl⟩ := d
  exact Goes.pure (fun T vm0 locs X t ht => XT.lushr X.here C.1 rfl (hb C.2.1 d1) rfl ht) g
theorem Cxt.l2i (C : Cxt p m meth c Z a0 EL own mn bytes ml ret Ws) {x : Int64} (d : Dec bytes pc (.l2i) 1 nx)  (g : Goes p l e R s m args below meth c Z EL nw Q F w h k n (mkF m nx Ls (.int x.toInt32 :: st))) : Goes p l e R s m args below meth c Z EL nw Q F w h k n (mkF m pc Ls (.long x :: st)) := by
  obtain ⟨d1, rfl⟩ := d
  exact Goes.pure (fun T vm0 locs X t ht => XT.l2i X.here C.1 rfl (hb C.2.1 d1) rfl ht) g
theorem Cxt.i2l (C : Cxt p m meth c Z a0 EL own mn bytes ml ret Ws) {x : Int32} (d : Dec bytes pc (.i2l) 1 nx)  (g : Goes p l e R s m args below meth c Z EL nw Q F w h k n (mkF m nx Ls (.long x.toInt64 :: st))) : Goes p l e R s m args below meth c Z EL nw Q F w h k n (mkF m pc Ls (.int x :: st)) := by
  obtain ⟨d1, rfl⟩ := d
  exact Goes.pure (fun T vm0 locs X t ht => XT.i2l X.here C.1 rfl (hb C.2.1 d1) rfl ht) g
theorem Cxt.i2c (C : Cxt p m meth c Z a0 EL own mn bytes ml ret Ws) {x : Int32} (d : Dec bytes pc (.i2c) 1 nx)  (g : Goes p l e R s m args below meth c Z EL nw Q F w h k n (mkF m nx Ls (.int (c16 x) :: st))) : Goes p l e R s m args below meth c Z EL nw Q F w h k n (mkF m pc Ls (.int x :: st)) := by
  obtain ⟨d1, rfl⟩ := d
  exact Goes.pure (fun T vm0 locs X t ht => XT.i2c X.here C.1 rfl (hb C.2.1 d1) rfl ht) g
theorem Cxt.i2b (C : Cxt p m meth c Z a0 EL own mn bytes ml ret Ws) {x : Int32} (d : Dec bytes pc (.i2b) 1 nx)  (g : Goes p l e R s m args below meth c Z EL nw Q F w h k n (mkF m nx Ls (.int (b8 x) :: st))) : Goes p l e R s m args below meth c Z EL nw Q F w h k n (mkF m pc Ls (.int x :: st)) := by
  obtain ⟨d1, rfl⟩ := d
  exact Goes.pure (fun T vm0 locs X t ht => XT.i2b X.here C.1 rfl (hb C.2.1 d1) rfl ht) g
theorem Cxt.lcmp (C : Cxt p m meth c Z a0 EL own mn bytes ml ret Ws) {x y : Int64} (d : Dec bytes pc (.lcmp) 1 nx)  (g : Goes p l e R s m args below meth c Z EL nw Q F w h k n (mkF m nx Ls (.int (XT.cmpL x y) :: st))) : Goes p l e R s m args below meth c Z EL nw Q F w h k n (mkF m pc Ls (.long y :: .long x :: st)) := by
  obtain ⟨d1, rfl⟩ := d
  exact Goes.pure (fun T vm0 locs X t ht => XT.lcmp X.here C.1 rfl (hb C.2.1 d1) rfl ht) g
theorem Cxt.dup (C : Cxt p m meth c Z a0 EL own mn bytes ml ret Ws) {x : Value} (d : Dec bytes pc (.dup) 1 nx) (hc : x.category = 1) (g : Goes p l e R s m args below meth c Z EL nw Q F w h k n (mkF m nx Ls (x :: x :: st))) : Goes p l e R s m args below meth c Z EL nw Q F w h k n (mkF m pc Ls (x :: st)) := by
  obtain ⟨d1, rfl⟩ := d
  exact Goes.pure (fun T vm0 locs X t ht => XS.dup X.here C.1 rfl (hb C.2.1 d1) rfl hc ht) g
theorem Cxt.pop (C : Cxt p m meth c Z a0 EL own mn bytes ml ret Ws) {x : Value} (d : Dec bytes pc (.pop) 1 nx) (hc : x.category = 1) (g : Goes p l e R s m args below meth c Z EL nw Q F w h k n (mkF m nx Ls st)) : Goes p l e R s m args below meth c Z EL nw Q F w h k n (mkF m pc Ls (x :: st)) := by
  obtain ⟨d1, rfl⟩ := d
  exact Goes.pure (fun T vm0 locs X t ht => XT.pop X.here C.1 rfl (hb C.2.1 d1) rfl hc ht) g
theorem Cxt.dup_x1 (C : Cxt p m meth c Z a0 EL own mn bytes ml ret Ws) {x y : Value} (d : Dec bytes pc (.dup_x1) 1 nx) (hc : x.category = 1) (hc' : y.category = 1) (g : Goes p l e R s m args below meth c Z EL nw Q F w h k n (mkF m nx Ls (x :: y :: x :: st))) : Goes p l e R s m args below meth c Z EL nw Q F w h k n (mkF m pc Ls (x :: y :: st)) := by
  obtain ⟨d1, rfl⟩ := d
  exact Goes.pure (fun T vm0 locs X t ht => XT.dupX1 X.here C.1 rfl (hb C.2.1 d1) rfl hc hc' ht) g
theorem Cxt.dup2 (C : Cxt p m meth c Z a0 EL own mn bytes ml ret Ws) {x y : Value} (d : Dec bytes pc (.dup2) 1 nx) (hc : x.category = 1) (hc' : y.category = 1) (g : Goes p l e R s m args below meth c Z EL nw Q F w h k n (mkF m nx Ls (x :: y :: x :: y :: st))) : Goes p l e R s m args below meth c Z EL nw Q F w h k n (mkF m pc Ls (x :: y :: st)) := by
  obtain ⟨d1, rfl⟩ := d
  exact Goes.pure (fun T vm0 locs X t ht => XT.dup2 X.here C.1 rfl (hb C.2.1 d1) rfl hc hc' ht) g
theorem Cxt.lstoreN (C : Cxt p m meth c Z a0 EL own mn bytes ml ret Ws) {i : Fin 4} {x : Int64} {l' : Array Slot} (d : Dec bytes pc (.lstore_n i) 1 nx) (hl : storeLocals Ls i.val (.long x) = some l') (g : Goes p l e R s m args below meth c Z EL nw Q F w h k n (mkF m nx l' st)) : Goes p l e R s m args below meth c Z EL nw Q F w h k n (mkF m pc Ls (.long x :: st)) := by
  obtain ⟨d1, rfl⟩ := d
  exact Goes.pure (fun T vm0 locs X t ht => XT.lstoreN X.here C.1 rfl (hb C.2.1 d1) rfl hl ht) g
theorem Cxt.lstore (C : Cxt p m meth c Z a0 EL own mn bytes ml ret Ws) {i : Nat} {x : Int64} {l' : Array Slot} (d : Dec bytes pc (.lstore i) 2 nx) (hl : storeLocals Ls i (.long x) = some l') (g : Goes p l e R s m args below meth c Z EL nw Q F w h k n (mkF m nx l' st)) : Goes p l e R s m args below meth c Z EL nw Q F w h k n (mkF m pc Ls (.long x :: st)) := by
  obtain ⟨d1, rfl⟩ := d
  exact Goes.pure (fun T vm0 locs X t ht => XT.lstore X.here C.1 rfl (hb C.2.1 d1) rfl hl ht) g
def okS : Slot → Bool | .unset => true | .val w => w.category == 1 | .second => false
theorem store_ok {L : List Slot} {i : Nat} {o : Slot} {v : Value} (hold : L[i]? = some o) (ho : okS o = true) (hv : v.category = 1) : storeLocals ⟨L⟩ i v = some ⟨L.set i (.val v)⟩ := by
  have h1 : (⟨L⟩ : Array Slot)[i]? = some o := by simpa using hold
  have h2 : o = .unset ∨ ∃ w, o = .val w ∧ w.category = 1 := by
    cases o with
    | unset => exact Or.inl rfl
    | val w => exact Or.inr ⟨w, rfl, by simpa [okS] using ho⟩
    | second => simp [okS] at ho
  rw [XS.store1 h1 h2 hv]
  simp
theorem Cxt.istoreN (C : Cxt p m meth c Z a0 EL own mn bytes ml ret Ws) {L : List Slot} {o : Slot} {i : Fin 4} {x : Int32} (d : Dec bytes pc (.istore_n i) 1 nx) (hold : L[i.val]? = some o) (ho : okS o = true) (g : Goes p l e R s m args below meth c Z EL nw Q F w h k n (mkF m nx ⟨L.set i.val (.val (.int x))⟩ st)) : Goes p l e R s m args below meth c Z EL nw Q F w h k n (mkF m pc ⟨L⟩ (.int x :: st)) := by
  obtain ⟨d1, rfl⟩ := d
  exact Goes.pure (fun T vm0 locs X t ht => XS.istoreN X.here C.1 rfl (hb C.2.1 d1) rfl (store_ok hold ho rfl) ht) g
theorem Cxt.istore (C : Cxt p m meth c Z a0 EL own mn bytes ml ret Ws) {L : List Slot} {o : Slot} {i : Nat} {x : Int32} (d : Dec bytes pc (.istore i) 2 nx) (hold : L[i]? = some o) (ho : okS o = true) (g : Goes p l e R s m args below meth c Z EL nw Q F w h k n (mkF m nx ⟨L.set i (.val (.int x))⟩ st)) : Goes p l e R s m args below meth c Z EL nw Q F w h k n (mkF m pc ⟨L⟩ (.int x :: st)) := by
  obtain ⟨d1, rfl⟩ := d
  exact Goes.pure (fun T vm0 locs X t ht => XS.istore X.here C.1 rfl (hb C.2.1 d1) rfl (store_ok hold ho rfl) ht) g
theorem ref_cat {v : Value} (h : v.isRef = true) : v.category = 1 := by cases v <;> simp [Value.isRef] at h <;> rfl
theorem Cxt.astoreN (C : Cxt p m meth c Z a0 EL own mn bytes ml ret Ws) {L : List Slot} {o : Slot} {i : Fin 4} {x : Value} (d : Dec bytes pc (.astore_n i) 1 nx) (hv : x.isRef = true) (hold : L[i.val]? = some o) (ho : okS o = true) (g : Goes p l e R s m args below meth c Z EL nw Q F w h k n (mkF m nx ⟨L.set i.val (.val x)⟩ st)) : Goes p l e R s m args below meth c Z EL nw Q F w h k n (mkF m pc ⟨L⟩ (x :: st)) := by
  obtain ⟨d1, rfl⟩ := d
  exact Goes.pure (fun T vm0 locs X t ht => XS.astoreN X.here C.1 rfl (hb C.2.1 d1) rfl hv (store_ok hold ho (ref_cat hv)) ht) g
theorem Cxt.astore (C : Cxt p m meth c Z a0 EL own mn bytes ml ret Ws) {L : List Slot} {o : Slot} {i : Nat} {x : Value} (d : Dec bytes pc (.astore i) 2 nx) (hv : x.isRef = true) (hold : L[i]? = some o) (ho : okS o = true) (g : Goes p l e R s m args below meth c Z EL nw Q F w h k n (mkF m nx ⟨L.set i (.val x)⟩ st)) : Goes p l e R s m args below meth c Z EL nw Q F w h k n (mkF m pc ⟨L⟩ (x :: st)) := by
  obtain ⟨d1, rfl⟩ := d
  exact Goes.pure (fun T vm0 locs X t ht => XS.astore X.here C.1 rfl (hb C.2.1 d1) rfl hv (store_ok hold ho (ref_cat hv)) ht) g
theorem Cxt.iinc (C : Cxt p m meth c Z a0 EL own mn bytes ml ret Ws) {L : List Slot} {i : Nat} {cst : Int} {x : Int32} (y : Int32) (d : Dec bytes pc (.iinc i cst) 3 nx) (hy : Int32.ofInt cst = y) (hl : L[i]? = some (.val (.int x))) (g : Goes p l e R s m args below meth c Z EL nw Q F w h k n (mkF m nx ⟨L.set i (.val (.int (x + y)))⟩ st)) : Goes p l e R s m args below meth c Z EL nw Q F w h k n (mkF m pc ⟨L⟩ st) := by
  subst hy; obtain ⟨d1, rfl⟩ := d
  exact Goes.pure (fun T vm0 locs X t ht => XS.iinc X.here C.1 rfl (hb C.2.1 d1) (by simpa using hl) (store_ok hl rfl rfl) ht) g
theorem Cxt.goto (C : Cxt p m meth c Z a0 EL own mn bytes ml ret Ws) {o : Int} {tgt : Nat} (d : DecJ bytes pc (.goto o) o nx tgt) (g : Goes p l e R s m args below meth c Z EL nw Q F w h k n (mkF m tgt Ls st)) : Goes p l e R s m args below meth c Z EL nw Q F w h k n (mkF m pc Ls st) :=
  Goes.pure (fun T vm0 locs X t ht => XS.goto X.here C.1 rfl rfl (hb C.2.1 d.1) d.2.2.1 d.2.2.2 ht) g
theorem Cxt.if_eq (C : Cxt p m meth c Z a0 EL own mn bytes ml ret Ws) {o : Int} {tgt : Nat} {x : Int32} (d : DecJ bytes pc (.ifCond .eq o) o nx tgt) (g1 : x = 0 → Goes p l e R s m args below meth c Z EL nw Q F w h k n (mkF m tgt Ls st)) (g2 : ¬ x = 0 → Goes p l e R s m args below meth c Z EL nw Q F w h k n (mkF m nx Ls st)) : Goes p l e R s m args below meth c Z EL nw Q F w h k n (mkF m pc Ls (.int x :: st)) := by
  obtain ⟨d1, rfl, d3, d4⟩ := d
  by_cases q : x = 0
  · exact Goes.pure (fun T vm0 locs X t ht => XS.ifYes X.here C.1 rfl rfl (hb C.2.1 d1) rfl (XT.i0_eq_t q) d3 d4 ht) (g1 q)
  · exact Goes.pure (fun T vm0 locs X t ht => XS.ifNo X.here C.1 rfl (hb C.2.1 d1) rfl (XT.i0_eq_f q) ht) (g2 q)
theorem Cxt.if_ne (C : Cxt p m meth c Z a0 EL own mn bytes ml ret Ws) {o : Int} {tgt : Nat} {x : Int32} (d : DecJ bytes pc (.ifCond .ne o) o nx tgt) (g1 : ¬ x = 0 → Goes p l e R s m args below meth c Z EL nw Q F w h k n (mkF m tgt Ls st)) (g2 : x = 0 → Goes p l e R s m args below meth c Z EL nw Q F w h k n (mkF m nx Ls st)) : Goes p l e R s m args below meth c Z EL nw Q F w h k n (mkF m pc Ls (.int x :: st)) := by
  obtain ⟨d1, rfl, d3, d4⟩ := d
  by_cases q : x = 0
  · exact Goes.pure (fun T vm0 locs X t ht => XS.ifNo X.here C.1 rfl (hb C.2.1 d1) rfl (XT.i0_ne_f q) ht) (g2 q)
  · exact Goes.pure (fun T vm0 locs X t ht => XS.ifYes X.here C.1 rfl rfl (hb C.2.1 d1) rfl (XT.i0_ne_t q) d3 d4 ht) (g1 q)
theorem Cxt.if_lt (C : Cxt p m meth c Z a0 EL own mn bytes ml ret Ws) {o : Int} {tgt : Nat} {x : Int32} (d : DecJ bytes pc (.ifCond .lt o) o nx tgt) (g1 : x < 0 → Goes p l e R s m args below meth c Z EL nw Q F w h k n (mkF m tgt Ls st)) (g2 : ¬ x < 0 → Goes p l e R s m args below meth c Z EL nw Q F w h k n (mkF m nx Ls st)) : Goes p l e R s m args below meth c Z EL nw Q F w h k n (mkF m pc Ls (.int x :: st)) := by
  obtain ⟨d1, rfl, d3, d4⟩ := d
  by_cases q : x < 0
  · exact Goes.pure (fun T vm0 locs X t ht => XS.ifYes X.here C.1 rfl rfl (hb C.2.1 d1) rfl (XT.i0_lt_t q) d3 d4 ht) (g1 q)
  · exact Goes.pure (fun T vm0 locs X t ht => XS.ifNo X.here C.1 rfl (hb C.2.1 d1) rfl (XT.i0_lt_f q) ht) (g2 q)
theorem Cxt.if_ge (C : Cxt p m meth c Z a0 EL own mn bytes ml ret Ws) {o : Int} {tgt : Nat} {x : Int32} (d : DecJ bytes pc (.ifCond .ge o) o nx tgt) (g1 : ¬ x < 0 → Goes p l e R s m args below meth c Z EL nw Q F w h k n (mkF m tgt Ls st)) (g2 : x < 0 → Goes p l e R s m args below meth c Z EL nw Q F w h k n (mkF m nx Ls st)) : Goes p l e R s m args below meth c Z EL nw Q F w h k n (mkF m pc Ls (.int x :: st)) := by
  obtain ⟨d1, rfl, d3, d4⟩ := d
  by_cases q : x < 0
  · exact Goes.pure (fun T vm0 locs X t ht => XS.ifNo X.here C.1 rfl (hb C.2.1 d1) rfl (XT.i0_ge_f q) ht) (g2 q)
  · exact Goes.pure (fun T vm0 locs X t ht => XS.ifYes X.here C.1 rfl rfl (hb C.2.1 d1) rfl (XT.i0_ge_t q) d3 d4 ht) (g1 q)
theorem Cxt.if_gt (C : Cxt p m meth c Z a0 EL own mn bytes ml ret Ws) {o : Int} {tgt : Nat} {x : Int32} (d : DecJ bytes pc (.ifCond .gt o) o nx tgt) (g1 : 0 < x → Goes p l e R s m args below meth c Z EL nw Q F w h k n (mkF m tgt Ls st)) (g2 : ¬ 0 < x → Goes p l e R s m args below meth c Z EL nw Q F w h k n (mkF m nx Ls st)) : Goes p l e R s m args below meth c Z EL nw Q F w h k n (mkF m pc Ls (.int x :: st)) := by
  obtain ⟨d1, rfl, d3, d4⟩ := d
  by_cases q : 0 < x
  · exact Goes.pure (fun T vm0 locs X t ht => XS.ifYes X.here C.1 rfl rfl (hb C.2.1 d1) rfl (XT.i0_gt_t q) d3 d4 ht) (g1 q)
  · exact Goes.pure (fun T vm0 locs X t ht => XS.ifNo X.here C.1 rfl (hb C.2.1 d1) rfl (XT.i0_gt_f q) ht) (g2 q)
theorem Cxt.if_le (C : Cxt p m meth c Z a0 EL own mn bytes ml ret Ws) {o : Int} {tgt : Nat} {x : Int32} (d : DecJ bytes pc (.ifCond .le o) o nx tgt) (g1 : ¬ 0 < x → Goes p l e R s m args below meth c Z EL nw Q F w h k n (mkF m tgt Ls st)) (g2 : 0 < x → Goes p l e R s m args below meth c Z EL nw Q F w h k n (mkF m nx Ls st)) : Goes p l e R s m args below meth c Z EL nw Q F w h k n (mkF m pc Ls (.int x :: st)) := by
  obtain ⟨d1, rfl, d3, d4⟩ := d
  by_cases q : 0 < x
  · exact Goes.pure (fun T vm0 locs X t ht => XS.ifNo X.here C.1 rfl (hb C.2.1 d1) rfl (XT.i0_le_f q) ht) (g2 q)
  · exact Goes.pure (fun T vm0 locs X t ht => XS.ifYes X.here C.1 rfl rfl (hb C.2.1 d1) rfl (XT.i0_le_t q) d3 d4 ht) (g1 q)
theorem Cxt.icmp_eq (C : Cxt p m meth c Z a0 EL own mn bytes ml ret Ws) {o : Int} {tgt : Nat} {x y : Int32} (d : DecJ bytes pc (.if_icmp .eq o) o nx tgt) (g1 : x = y → Goes p l e R s m args below meth c Z EL nw Q F w h k n (mkF m tgt Ls st)) (g2 : ¬ x = y → Goes p l e R s m args below meth c Z EL nw Q F w h k n (mkF m nx Ls st)) : Goes p l e R s m args below meth c Z EL nw Q F w h k n (mkF m pc Ls (.int y :: .int x :: st)) := by
  obtain ⟨d1, rfl, d3, d4⟩ := d
  by_cases q : x = y
  · exact Goes.pure (fun T vm0 locs X t ht => XS.icmpYes X.here C.1 rfl rfl (hb C.2.1 d1) rfl (XT.ii_eq_t q) d3 d4 ht) (g1 q)
  · exact Goes.pure (fun T vm0 locs X t ht => XS.icmpNo X.here C.1 rfl (hb C.2.1 d1) rfl (XT.ii_eq_f q) ht) (g2 q)
theorem Cxt.icmp_ne (C : Cxt p m meth c Z a0 EL own mn bytes ml ret Ws) {o : Int} {tgt : Nat} {x y : Int32} (d : DecJ bytes pc (.if_icmp .ne o) o nx tgt) (g1 : ¬ x = y → Goes p l e R s m args below meth c Z EL nw Q F w h k n (mkF m tgt Ls st)) (g2 : x = y → Goes p l e R s m args below meth c Z EL nw Q F w h k n (mkF m nx Ls st)) : Goes p l e R s m args below meth c Z EL nw Q F w h k n (mkF m pc Ls (.int y :: .int x :: st)) := by
  obtain ⟨d1, rfl, d3, d4⟩ := d
  by_cases q : x = y
  · exact Goes.pure (fun T vm0 locs X t ht => XS.icmpNo X.here C.1 rfl (hb C.2.1 d1) rfl (XT.ii_ne_f q) ht) (g2 q)
  · exact Goes.pure (fun T vm0 locs X t ht => XS.icmpYes X.here C.1 rfl rfl (hb C.2.1 d1) rfl (XT.ii_ne_t q) d3 d4 ht) (g1 q)
theorem Cxt.icmp_lt (C : Cxt p m meth c Z a0 EL own mn bytes ml ret Ws) {o : Int} {tgt : Nat} {x y : Int32} (d : DecJ bytes pc (.if_icmp .lt o) o nx tgt) (g1 : x < y → Goes p l e R s m args below meth c Z EL nw Q F w h k n (mkF m tgt Ls st)) (g2 : ¬ x < y → Goes p l e R s m args below meth c Z EL nw Q F w h k n (mkF m nx Ls st)) : Goes p l e R s m args below meth c Z EL nw Q F w h k n (mkF m pc Ls (.int y :: .int x :: st)) := by
  obtain ⟨d1, rfl, d3, d4⟩ := d
  by_cases q : x < y
  · exact Goes.pure (fun T vm0 locs X t ht => XS.icmpYes X.here C.1 rfl rfl (hb C.2.1 d1) rfl (XT.ii_lt_t q) d3 d4 ht) (g1 q)
  · exact Goes.pure (fun T vm0 locs X t ht => XS.icmpNo X.here C.1 rfl (hb C.2.1 d1) rfl (XT.ii_lt_f q) ht) (g2 q)
theorem Cxt.icmp_ge (C : Cxt p m meth c Z a0 EL own mn bytes ml ret Ws) {o : Int} {tgt : Nat} {x y : Int32} (d : DecJ bytes pc (.if_icmp .ge o) o nx tgt) (g1 : ¬ x < y → Goes p l e R s m args below meth c Z EL nw Q F w h k n (mkF m tgt Ls st)) (g2 : x < y → Goes p l e R s m args below meth c Z EL nw Q F w h k n (mkF m nx Ls st)) : Goes p l e R s m args below meth c Z EL nw Q F w h k n (mkF m pc Ls (.int y :: .int x :: st)) := by
  obtain ⟨d1, rfl, d3, d4⟩ := d
  by_cases q : x < y
  · exact Goes.pure (fun T vm0 locs X t ht => XS.icmpNo X.here C.1 rfl (hb C.2.1 d1) rfl (XT.ii_ge_f q) ht) (g2 q)
  · exact Goes.pure (fun T vm0 locs X t ht => XS.icmpYes X.here C.1 rfl rfl (hb C.2.1 d1) rfl (XT.ii_ge_t q) d3 d4 ht) (g1 q)
theorem Cxt.icmp_gt (C : Cxt p m meth c Z a0 EL own mn bytes ml ret Ws) {o : Int} {tgt : Nat} {x y : Int32} (d : DecJ bytes pc (.if_icmp .gt o) o nx tgt) (g1 : y < x → Goes p l e R s m args below meth c Z EL nw Q F w h k n (mkF m tgt Ls st)) (g2 : ¬ y < x → Goes p l e R s m args below meth c Z EL nw Q F w h k n (mkF m nx Ls st)) : Goes p l e R s m args below meth c Z EL nw Q F w h k n (mkF m pc Ls (.int y :: .int x :: st)) := by
  obtain ⟨d1, rfl, d3, d4⟩ := d
  by_cases q : y < x
  · exact Goes.pure (fun T vm0 locs X t ht => XS.icmpYes X.here C.1 rfl rfl (hb C.2.1 d1) rfl (XT.ii_gt_t q) d3 d4 ht) (g1 q)
  · exact Goes.pure (fun T vm0 locs X t ht => XS.icmpNo X.here C.1 rfl (hb C.2.1 d1) rfl (XT.ii_gt_f q) ht) (g2 q)
theorem Cxt.icmp_le (C : Cxt p m meth c Z a0 EL own mn bytes ml ret Ws) {o : Int} {tgt : Nat} {x y : Int32} (d : DecJ bytes pc (.if_icmp .le o) o nx tgt) (g1 : ¬ y < x → Goes p l e R s m args below meth c Z EL nw Q F w h k n (mkF m tgt Ls st)) (g2 : y < x → Goes p l e R s m args below meth c Z EL nw Q F w h k n (mkF m nx Ls st)) : Goes p l e R s m args below meth c Z EL nw Q F w h k n (mkF m pc Ls (.int y :: .int x :: st)) := by
  obtain ⟨d1, rfl, d3, d4⟩ := d
  by_cases q : y < x
  · exact Goes.pure (fun T vm0 locs X t ht => XS.icmpNo X.here C.1 rfl (hb C.2.1 d1) rfl (XT.ii_le_f q) ht) (g2 q)
  · exact Goes.pure (fun T vm0 locs X t ht => XS.icmpYes X.here C.1 rfl rfl (hb C.2.1 d1) rfl (XT.ii_le_t q) d3 d4 ht) (g1 q)
theorem Cxt.ifnullY (C : Cxt p m meth c Z a0 EL own mn bytes ml ret Ws) {o : Int} {tgt : Nat} (d : DecJ bytes pc (.ifnull o) o nx tgt) (g : Goes p l e R s m args below meth c Z EL nw Q F w h k n (mkF m tgt Ls st)) : Goes p l e R s m args below meth c Z EL nw Q F w h k n (mkF m pc Ls (.null :: st)) :=
  Goes.pure (fun T vm0 locs X t ht => XS.ifnullYes X.here C.1 rfl rfl (hb C.2.1 d.1) rfl d.2.2.1 d.2.2.2 ht) g
theorem Cxt.ifnullN (C : Cxt p m meth c Z a0 EL own mn bytes ml ret Ws) {o : Int} {tgt : Nat} {b : Addr} (d : DecJ bytes pc (.ifnull o) o nx tgt) (g : Goes p l e R s m args below meth c Z EL nw Q F w h k n (mkF m nx Ls st)) : Goes p l e R s m args below meth c Z EL nw Q F w h k n (mkF m pc Ls (.ref b :: st)) := by
  obtain ⟨d1, rfl, d3, d4⟩ := d
  exact Goes.pure (fun T vm0 locs X t ht => XS.ifnullNo X.here C.1 rfl (hb C.2.1 d1) rfl ht) g
theorem Cxt.ifnonnullY (C : Cxt p m meth c Z a0 EL own mn bytes ml ret Ws) {o : Int} {tgt : Nat} {b : Addr} (d : DecJ bytes pc (.ifnonnull o) o nx tgt) (g : Goes p l e R s m args below meth c Z EL nw Q F w h k n (mkF m tgt Ls st)) : Goes p l e R s m args below meth c Z EL nw Q F w h k n (mkF m pc Ls (.ref b :: st)) :=
  Goes.pure (fun T vm0 locs X t ht => XT.ifnonnullYes X.here C.1 rfl rfl (hb C.2.1 d.1) rfl d.2.2.1 d.2.2.2 ht) g
theorem Cxt.ifnonnullN (C : Cxt p m meth c Z a0 EL own mn bytes ml ret Ws) {o : Int} {tgt : Nat} (d : DecJ bytes pc (.ifnonnull o) o nx tgt) (g : Goes p l e R s m args below meth c Z EL nw Q F w h k n (mkF m nx Ls st)) : Goes p l e R s m args below meth c Z EL nw Q F w h k n (mkF m pc Ls (.null :: st)) := by
  obtain ⟨d1, rfl, d3, d4⟩ := d
  exact Goes.pure (fun T vm0 locs X t ht => XT.ifnonnullNo X.here C.1 rfl (hb C.2.1 d1) rfl ht) g
theorem Cxt.acmp_eq (C : Cxt p m meth c Z a0 EL own mn bytes ml ret Ws) {o : Int} {tgt : Nat} {x y : Value} (d : DecJ bytes pc (.if_acmp .eq o) o nx tgt) (hx : x.isRef = true) (hy : y.isRef = true) (g1 : x = y → Goes p l e R s m args below meth c Z EL nw Q F w h k n (mkF m tgt Ls st)) (g2 : ¬ x = y → Goes p l e R s m args below meth c Z EL nw Q F w h k n (mkF m nx Ls st)) : Goes p l e R s m args below meth c Z EL nw Q F w h k n (mkF m pc Ls (y :: x :: st)) := by
  obtain ⟨d1, rfl, d3, d4⟩ := d
  by_cases q : x = y
  · exact Goes.pure (fun T vm0 locs X t ht => XT.acmpYes X.here C.1 rfl rfl (hb C.2.1 d1) rfl hx hy (by simp [XT.acmp, q]) d3 d4 ht) (g1 q)
  · exact Goes.pure (fun T vm0 locs X t ht => XT.acmpNo X.here C.1 rfl (hb C.2.1 d1) rfl hx hy (by simp [XT.acmp, q]) ht) (g2 q)
theorem Cxt.acmp_ne (C : Cxt p m meth c Z a0 EL own mn bytes ml ret Ws) {o : Int} {tgt : Nat} {x y : Value} (d : DecJ bytes pc (.if_acmp .ne o) o nx tgt) (hx : x.isRef = true) (hy : y.isRef = true) (g1 : ¬ x = y → Goes p l e R s m args below meth c Z EL nw Q F w h k n (mkF m tgt Ls st)) (g2 : x = y → Goes p l e R s m args below meth c Z EL nw Q F w h k n (mkF m nx Ls st)) : Goes p l e R s m args below meth c Z EL nw Q F w h k n (mkF m pc Ls (y :: x :: st)) := by
  obtain ⟨d1, rfl, d3, d4⟩ := d
  by_cases q : x = y
  · exact Goes.pure (fun T vm0 locs X t ht => XT.acmpNo X.here C.1 rfl (hb C.2.1 d1) rfl hx hy (by simp [XT.acmp, q]) ht) (g2 q)
  · exact Goes.pure (fun T vm0 locs X t ht => XT.acmpYes X.here C.1 rfl rfl (hb C.2.1 d1) rfl hx hy (by simp [XT.acmp, q]) d3 d4 ht) (g1 q)
theorem Cxt.ends (C : Cxt p m meth c Z a0 EL own mn bytes ml ret Ws) {T : State} {vm0 : Vm} {locs : List Loc} {k0 : Nat} (H : Here p l e R s m args below meth c Z EL nw F w h k n T vm0 locs k0) {v : Option Value} (hv : ret = none → v = none) (hq : Q v h) (hk : k ≤ R.cells) (hn : n ≤ R.slots) {f : JFrame}
    (stp : ∀ fs, (∀ (f : JFrame) (acts : List Action), f.method = m → f.locked = none → f.entered = [] → (doReturn e (T.setTop f) acts v).1 = T.setFrames fs) → Steps p.tables e below (T.setTop f) (T.setFrames fs)) : Ends p e R s below Z EL nw Q (T.setTop f) := by
  obtain ⟨X, eT, N, S, hk0, hZ, H1, hw, hF, O, hwm, hbk⟩ := H
  obtain ⟨fs, h1, h2, h3, h4⟩ := X.leaveW S (by rw [eT]; exact hk0) (v := v) (fun q => hv (C.2.2.2.2.1 ▸ q)) C.2.2.2.2.2.1
  have A := CHv.at X hZ C.2.2.2.2.2.2.2.2 H1.1
  refine ⟨T.setFrames fs, v, locs, stp fs h1, h2, h3, ?_, N, ?_, fun q => ⟨State.WarmedH.trans (hw q) X.warmed, ?_⟩, ?_, ⟨h4.1, h4.2.1, h4.2.2.1, h4.2.2.2.mono hk hn⟩⟩
  · show Q v T.heap; rw [eT]; exact hq
  · show CHr Z EL s.vm s.heap T.vm T.heap; rw [eT]; exact H1.trans A
  · intro y hy
    have hy' : Bk Z EL T.vm h y := eT ▸ hy
    rcases A.2.2 y hy' with z | z
    · exact hbk q y z
    · obtain ⟨cell, hcell⟩ := hy'.there
      exact absurd (Array.getElem?_eq_some_iff.mp hcell).1 (Nat.not_lt.mpr z)
  · show Ext Z.heap T.heap; rw [eT]; exact O
theorem Cxt.return_ (C : Cxt p m meth c Z a0 EL own mn bytes ml ret Ws) (d : Dec bytes pc .return_ 1 nx) (hr : ret = none) (hq : Q none h) (hk : k ≤ R.cells) (hn : n ≤ R.slots) : Goes p l e R s m args below meth c Z EL nw Q F w h k n (mkF m pc Ls []) := fun T vm0 locs k0 H =>
  C.ends H (fun _ => rfl) hq hk hn fun fs hl => H.1.returnOut C.1 (C.2.2.2.2.1.trans hr) (hb C.2.1 d.1) hl
theorem Cxt.ireturn (C : Cxt p m meth c Z a0 EL own mn bytes ml ret Ws) {t : FieldType} {v : Int32} (d : Dec bytes pc .ireturn 1 nx) (hr : ret = some t) (ht : t = .int ∨ t = .boolean ∨ t = .byte ∨ t = .char ∨ t = .short) (hnv : narrow t (.int v) = .int v) (hq : Q (some (.int v)) h) (hk : k ≤ R.cells) (hn : n ≤ R.slots) : Goes p l e R s m args below meth c Z EL nw Q F w h k n (mkF m pc Ls (.int v :: st)) := fun T vm0 locs k0 H =>
  C.ends H (fun q => by rw [hr] at q; cases q) hq hk hn fun fs hl => retOut H.1 C.1 (C.2.2.2.2.1.trans hr) hnv (Or.inl ⟨rfl, ht, v, rfl⟩) (hb C.2.1 d.1) hl
theorem Cxt.areturn (C : Cxt p m meth c Z a0 EL own mn bytes ml ret Ws) {t : FieldType} {v : Value} (d : Dec bytes pc .areturn 1 nx) (hr : ret = some t) (ht : t.isReference = true) (hv : v.isRef = true) (hnv : narrow t v = v) (hq : Q (some v) h) (hk : k ≤ R.cells) (hn : n ≤ R.slots) : Goes p l e R s m args below meth c Z EL nw Q F w h k n (mkF m pc Ls (v :: st)) := fun T vm0 locs k0 H =>
  C.ends H (fun q => by rw [hr] at q; cases q) hq hk hn fun fs hl => retOut H.1 C.1 (C.2.2.2.2.1.trans hr) hnv (Or.inr (Or.inr (Or.inr (Or.inr ⟨rfl, ht, hv⟩)))) (hb C.2.1 d.1) hl
theorem Cxt.new (C : Cxt p m meth c Z a0 EL own mn bytes ml ret Ws) {idx q : Nat} {cls : String} (d : Dec bytes pc (.new idx) 3 nx) (ww : Jvm.Cond.classLink own idx cls ∈ Ws) (wi : Jvm.Cond.instantiable cls q ∈ Ws) (wz : Jvm.Cond.initialized cls ∈ Ws) (hk : k + 1 ≤ R.cells) (hn : n + q ≤ R.slots)
    (g : ∀ h' a, @Eq Nat a h.size → Ext h h' → Exa Z h' a cls → (∀ {O nm d : String} {ty : FieldType}, Laid Z a0 cls O nm d → parseFieldDescriptor d = some ty → Fld Z h' a O nm d (defaultValue ty)) → Goes p l e R s m args below meth c Z EL nw Q (a :: F) w h' (k + 1) (n + q) (mkF m nx Ls (.ref a :: st))) : Goes p l e R s m args below meth c Z EL nw Q F w h k n (mkF m pc Ls st) := by
  obtain ⟨d1, rfl⟩ := d
  intro T vm0 locs k0 H
  obtain ⟨X, eT, N, S, hk0, hZ, H1, hw, hF, O, hwm, hbk⟩ := id H
  obtain ⟨T', h', X', e', E', A', D', -, st'⟩ := RoadKit.newO X C.1 hZ (C.own_at hZ) (C.wrd ww) (C.wrd wi) (C.wrd wz) eT (g := mkF m pc Ls st) rfl (hb C.2.1 d1) hk hn
  obtain ⟨X2, eT2, N2, S2, hk2, hZ2, H2, hw2, hF2, O2, hwm2, hbk2⟩ := H.step X' e' N (keep_ext E' []) (fun x hx => nomatch hx)
  obtain ⟨t, v, L, h1, r⟩ := g h' h.size rfl E' A' D' T' vm0 locs k0 ⟨X2, eT2, N2, S2, hk2, hZ2, H2, hw2, fun x hx => (List.mem_cons.mp hx).elim (fun q => by subst q; exact ⟨A'.lt, (Safe.new (Nat.le_refl _)).ext E' H1.1⟩) (hF2 x), O2, hwm2, hbk2⟩
  exact ⟨t, v, L, st' _ h1, r⟩
theorem Cxt.getF (C : Cxt p m meth c Z a0 EL own mn bytes ml ret Ws) {idx : Nat} {O fn fd : String} {a : Addr} {v : Value} (d : Dec bytes pc (.getfield idx) 3 nx) (ww : Jvm.Cond.fieldLink own idx O fn fd ∈ Ws) (A : Fld Z h a O fn fd v) (g : Goes p l e R s m args below meth c Z EL nw Q F w h k n (mkF m nx Ls (v :: st))) : Goes p l e R s m args below meth c Z EL nw Q F w h k n (mkF m pc Ls (.ref a :: st)) := by
  obtain ⟨d1, rfl⟩ := d
  intro T vm0 locs k0 H
  obtain ⟨T', X', e', st'⟩ := RoadKit.getF H.1 C.1 H.2.2.2.2.2.1 (C.own_at H.2.2.2.2.2.1) (host := "") (Or.inl (C.wrd ww)) Via.refl H.2.1 A (g := mkF m pc Ls (.ref a :: st)) rfl rfl (hb C.2.1 d1)
  obtain ⟨t, v, L, h1, r⟩ := g T' vm0 locs k0 (H.step X' e' H.2.2.1 (Keep.refl _ []) (fun x hx => nomatch hx))
  exact ⟨t, v, L, st' _ h1, r⟩
theorem Cxt.getFV (C : Cxt p m meth c Z a0 EL own mn bytes ml ret Ws) {idx : Nat} {R0 O fn fd : String} {a : Addr} {v : Value} (d : Dec bytes pc (.getfield idx) 3 nx) (ww : Jvm.Cond.fieldLink own idx R0 fn fd ∈ Ws) (wv : Jvm.Cond.sameField R0 O fn fd ∈ Ws) (A : Fld Z h a O fn fd v) (g : Goes p l e R s m args below meth c Z EL nw Q F w h k n (mkF m nx Ls (v :: st))) : Goes p l e R s m args below meth c Z EL nw Q F w h k n (mkF m pc Ls (.ref a :: st)) := by
  obtain ⟨d1, rfl⟩ := d
  intro T vm0 locs k0 H
  obtain ⟨T', X', e', st'⟩ := RoadKit.getF H.1 C.1 H.2.2.2.2.2.1 (C.own_at H.2.2.2.2.2.1) (host := "") (Or.inl (C.wrd ww)) (Via.of (C.wrd wv)) H.2.1 A (g := mkF m pc Ls (.ref a :: st)) rfl rfl (hb C.2.1 d1)
  obtain ⟨t, v, L, h1, r⟩ := g T' vm0 locs k0 (H.step X' e' H.2.2.1 (Keep.refl _ []) (fun x hx => nomatch hx))
  exact ⟨t, v, L, st' _ h1, r⟩
theorem Cxt.getS (C : Cxt p m meth c Z a0 EL own mn bytes ml ret Ws) {idx : Nat} {O fn fd : String} {v : Value} (d : Dec bytes pc (.getstatic idx) 3 nx) (ww : Jvm.Cond.fieldLink own idx O fn fd ∈ Ws) (A : Sta Z Z.heap O fn fd v) (g : Goes p l e R s m args below meth c Z EL nw Q F w h k n (mkF m nx Ls (v :: st))) : Goes p l e R s m args below meth c Z EL nw Q F w h k n (mkF m pc Ls st) := by
  obtain ⟨d1, rfl⟩ := d
  intro T vm0 locs k0 H
  obtain ⟨T', X', e', st'⟩ := RoadKit.getS H.1 C.1 H.2.2.2.2.2.1 (C.own_at H.2.2.2.2.2.1) (host := "") (C.wrd ww) Via.refl H.2.1 (A.ext H.2.2.2.2.2.2.2.2.2.1) (g := mkF m pc Ls st) rfl (hb C.2.1 d1)
  obtain ⟨t, v, L, h1, r⟩ := g T' vm0 locs k0 (H.step X' e' H.2.2.1 (Keep.refl _ []) (fun x hx => nomatch hx))
  exact ⟨t, v, L, st' _ h1, r⟩
theorem Cxt.putF (C : Cxt p m meth c Z a0 EL own mn bytes ml ret Ws) {idx kk : Nat} {O cls fn fd : String} {ty : FieldType} {a : Addr} {v old : Value} (d : Dec bytes pc (.putfield idx) 3 nx) (ww : Jvm.Cond.fieldLink own idx O fn fd ∈ Ws) (A : Fld Z h a O fn fd old) (E : Exa Z h a cls)
    (Ly : Jvm.Cond.lays cls O fn fd ∈ Ws ∨ (Jvm.Cond.laysFinal cls O fn fd ∈ Ws ∧ own = O ∧ mn = "<init>")) (wi : Jvm.Cond.instantiable cls kk ∈ Ws) (hty : parseFieldDescriptor fd = some ty) (hnv : narrow ty v = v) (hf : fits ty v = true) (na : Z.heap.size ≤ a) (sf : a ∈ F ∨ w ≤ a ∨ (cls ≠ "java/lang/String" ∧ cls ≠ "[B"))
    (g : ∀ h', Wr h h' a (RoadKit.slotOf Z O fn fd) v → Goes p l e R s m args below meth c Z EL nw Q F w h' k n (mkF m nx Ls st)) : Goes p l e R s m args below meth c Z EL nw Q F w h k n (mkF m pc Ls (v :: .ref a :: st)) := by
  obtain ⟨d1, rfl⟩ := d
  intro T vm0 locs k0 H
  obtain ⟨X, eT, N, S, hk0, hZ, H1, hw, hF, O', hwm, hbk⟩ := id H
  obtain ⟨T', h', X', e', W', st'⟩ := RoadKit.putF X C.1 hZ (C.own_at hZ) (host := "") (Or.inl (C.wrd ww)) Via.refl eT A E (Ly.imp C.wrd fun q => ⟨C.wrd q.1, q.2.1, C.2.2.2.2.2.2.1.trans q.2.2⟩) (C.wrd wi) hty hnv hf (g := mkF m pc Ls (v :: .ref a :: st)) rfl rfl (hb C.2.1 d1)
  have sa : Safe Z EL vm0 h a := sf.elim (fun q => (hF a q).2) fun q => q.elim (hwm a) fun q => Safe.exa hZ.alike E q.1 q.2
  obtain ⟨t, v, L, h1, r⟩ := g h' W' T' vm0 _ k0 (H.step X' e' (Fr.snoc X' N na) (Keep.of_wr W') (fun x hx => by cases List.mem_singleton.mp hx; exact ⟨sa, na⟩))
  exact ⟨t, v, L, st' _ h1, r⟩
theorem Cxt.initO (C : Cxt p m meth c Z a0 EL own mn bytes ml ret Ws) {idx : Nat} {a : Addr} (d : Dec bytes pc (.invokespecial idx) 3 nx) (w1 : Jvm.Cond.methodLink own idx Lib.objectInit ∈ Ws) (w2 : Jvm.Cond.instanceMethod Lib.objectInit ∈ Ws) (w3 : Jvm.Cond.code Lib.objectInit ⟨#[0xb1]⟩ 1 none ∈ Ws) (hsz : Ls.size = ml) (hf : 1 ≤ R.frames) (hl : (st.map fun v => v.category).sum + 12 ≤ R.locals)
    (g : Goes p l e R s m args below meth c Z EL nw Q F w h k n (mkF m nx Ls st)) : Goes p l e R s m args below meth c Z EL nw Q F w h k n (mkF m pc Ls (.ref a :: st)) := by
  obtain ⟨d1, rfl⟩ := d
  intro T vm0 locs k0 H
  obtain ⟨T', X', e', st'⟩ := RoadKit.initO H.1 C.1 H.2.2.2.2.2.1 (C.own_at H.2.2.2.2.2.1) (C.wrd w1) (C.wrd w2) (C.wrd w3) H.2.1 (g := mkF m pc Ls (.ref a :: st)) rfl (hsz.trans C.2.2.1.symm) rfl (hb C.2.1 d1) hf (W := (st.map fun v => v.category).sum) (by show 2 * 0 + _ ≤ _; omega) hl
  obtain ⟨t, v, L, h1, r⟩ := g T' vm0 locs k0 (H.step X' e' H.2.2.1 (Keep.refl _ []) (fun x hx => nomatch hx))
  exact ⟨t, v, L, st' _ h1, r⟩
/-- the array at a holds just these values -/
def Arl (Z : State) (h : Heap) (a : Addr) (ty : FieldType) (vs : List Value) : Prop := ∃ cl : Cell, Arr Z h a cl ty ∧ cl.slots.toList = vs ∧ vs.length < 2 ^ 31 ∧ ∀ v ∈ vs, fits ty v = true
theorem Arl.lt {a : Addr} {ty : FieldType} {vs : List Value} (A : Arl Z h a ty vs) : a < h.size := by obtain ⟨cl, A, -⟩ := A; exact A.lt
theorem Arl.ext {h' : Heap} {a : Addr} {ty : FieldType} {vs : List Value} (A : Arl Z h a ty vs) (E : Ext h h') : Arl Z h' a ty vs := by obtain ⟨cl, A, r⟩ := A; exact ⟨cl, A.ext E, r⟩
theorem Arl.other {h' : Heap} {a b : Addr} {sl : Nat} {w : Value} {ty : FieldType} {vs : List Value} (A : Arl Z h a ty vs) (W : Wr h h' b sl w) (q : a ≠ b) : Arl Z h' a ty vs := by obtain ⟨cl, A, r⟩ := A; exact ⟨cl, A.other W q, r⟩
theorem Arl.keep {h' : Heap} {a : Addr} {ws : List Addr} {ty : FieldType} {vs : List Value} (A : Arl Z h a ty vs) (K : Keep h h' ws) (q : a ∉ ws) : Arl Z h' a ty vs := by obtain ⟨cl, A, r⟩ := A; exact ⟨cl, ⟨K.2.1 a cl A.1 q, A.2⟩, r⟩
theorem Arl.len {a : Addr} {ty : FieldType} {vs : List Value} (A : Arl Z h a ty vs) : vs.length < 2 ^ 31 := by obtain ⟨cl, A, r⟩ := A; exact r.2.1
theorem Arl.set {h' : Heap} {a : Addr} {i : Nat} {w : Value} {ty : FieldType} {vs : List Value} (A : Arl Z h a ty vs) (W : Wr h h' a i w) (hw : fits ty w = true) : Arl Z h' a ty (vs.set i w) := by
  obtain ⟨cl, A, rfl, r2, r3⟩ := A
  refine ⟨_, A.same W, ?_, ?_, ?_⟩
  · simp [Cell.setSlot]
  · simpa using r2
  · intro v hv
    rcases List.mem_or_eq_of_mem_set hv with q | rfl
    · exact r3 v q
    · exact hw
theorem Arl.safe {vm0 : Vm} {a : Addr} {ty : FieldType} {vs : List Value} (hal : Z.vm.Alike vm0) (A : Arl Z h a ty vs) (ht : ty ≠ .byte) : Safe Z EL vm0 h a := by obtain ⟨cl, A, -⟩ := A; exact Safe.arr hal A ht
theorem Cxt.newarray (C : Cxt p m meth c Z a0 EL own mn bytes ml ret Ws) {aty : ArrayType} {q : Nat} {z : Int32} (d : Dec bytes pc (.newarray aty) 2 nx) (ww : Jvm.Cond.arrayClass (newarray.typeOf aty) ∈ Ws) (hz : ¬ z < 0) (hzq : z.toNatClampNeg = q) (hq : q ≤ 60000000) (hk : k + 1 ≤ R.cells) (hn : n + q ≤ R.slots)
    (g : ∀ h' a, @Eq Nat a h.size → Ext h h' → a < h'.size → Arl Z h' a (newarray.typeOf aty) (List.replicate q (defaultValue (newarray.typeOf aty))) → Goes p l e R s m args below meth c Z EL nw Q (a :: F) w h' (k + 1) (n + q) (mkF m nx Ls (.ref a :: st))) : Goes p l e R s m args below meth c Z EL nw Q F w h k n (mkF m pc Ls (.int z :: st)) := by
  obtain ⟨d1, rfl⟩ := d
  intro T vm0 locs k0 H
  obtain ⟨X, eT, N, S, hk0, hZ, H1, hw, hF, O, hwm, hbk⟩ := id H
  obtain ⟨T', h', cA, X', e', E', A', st'⟩ := newP X C.1 hZ (C.wrd ww) eT (g := mkF m pc Ls (.int z :: st)) rfl (hb C.2.1 d1) rfl hz (cap := q) (Nat.le_of_eq hzq) (by omega) hk hn
  obtain ⟨X2, eT2, N2, S2, hk2, hZ2, H2, hw2, hF2, O2, hwm2, hbk2⟩ := H.step X' e' N (keep_ext E' []) (fun x hx => nomatch hx)
  have AL : Arl Z h' h.size (newarray.typeOf aty) (List.replicate q (defaultValue (newarray.typeOf aty))) := ⟨_, A', by simp [newA, hzq], by rw [List.length_replicate]; omega, fun v hv => by rw [List.eq_of_mem_replicate hv]; cases aty <;> rfl⟩
  obtain ⟨t, v, L, h1, r⟩ := g h' h.size rfl E' A'.lt AL T' vm0 locs k0 ⟨X2, eT2, N2, S2, hk2, hZ2, H2, hw2, fun x hx => (List.mem_cons.mp hx).elim (fun q => by subst q; exact ⟨A'.lt, (Safe.new (Nat.le_refl _)).ext E' H1.1⟩) (hF2 x), O2, hwm2, hbk2⟩
  exact ⟨t, v, L, st' _ h1, r⟩
theorem Cxt.cloneA (C : Cxt p m meth c Z a0 EL own mn bytes ml ret Ws) {idx q : Nat} {ad : String} {a : Addr} {ty : FieldType} {vs : List Value} (d : Dec bytes pc (.invokevirtual idx) 3 nx) (w1 : Jvm.Cond.methodLink own idx ⟨ad, "clone", "()Ljava/lang/Object;"⟩ ∈ Ws) (w2 : Jvm.Cond.sameMethod ad "java/lang/Object" "clone" "()Ljava/lang/Object;" ∈ Ws) (w3 : Jvm.Cond.native ⟨"java/lang/Object", "clone", "()Ljava/lang/Object;"⟩ ∈ Ws) (w4 : Jvm.Cond.instanceMethod ⟨"java/lang/Object", "clone", "()Ljava/lang/Object;"⟩ ∈ Ws) (w5 : Jvm.Cond.selects ad ⟨ad, "clone", "()Ljava/lang/Object;"⟩ ⟨"java/lang/Object", "clone", "()Ljava/lang/Object;"⟩ ∈ Ws) (w6 : Jvm.Cond.castable ad "java/lang/Cloneable" ∈ Ws)
    (A : Arl Z h a ty vs) (E : Exa Z h a ad) (hsz : Ls.size = ml) (hf : 1 ≤ R.frames) (hl : (st.map fun v => v.category).sum + 14 ≤ R.locals) (hq : vs.length = q) (hk : k + 1 ≤ R.cells) (hn : n + q ≤ R.slots)
    (g : ∀ h' b, @Eq Nat b h.size → Ext h h' → Arl Z h' b ty vs → Exa Z h' b ad → Goes p l e R s m args below meth c Z EL nw Q (b :: F) w h' (k + 1) (n + q) (mkF m nx Ls (.ref b :: st))) : Goes p l e R s m args below meth c Z EL nw Q F w h k n (mkF m pc Ls (.ref a :: st)) := by
  obtain ⟨d1, rfl⟩ := d
  intro T vm0 locs k0 H
  obtain ⟨X, eT, N, S, hk0, hZ, H1, hw, hF, O, hwm, hbk⟩ := id H
  obtain ⟨cl, A0, q1, q2, q3⟩ := id A
  obtain ⟨T', h', X', e', E', A', X2', st'⟩ := RoadKit.cloneA X C.1 hZ (C.own_at hZ) (C.wrd w1) (C.wrd w2) (C.wrd w3) (C.wrd w4) (C.wrd w5) (C.wrd w6) eT A0 E (fitC_of A0 fun i hi v hv => q3 v (by rw [← q1]; exact List.mem_of_getElem? (i := i) (by rw [Array.getElem?_toList]; exact hv))) (g := mkF m pc Ls (.ref a :: st)) rfl (hsz.trans C.2.2.1.symm) rfl (hb C.2.1 d1) hf (W := (st.map fun v => v.category).sum) (by show 2 * 0 + _ ≤ _; omega) hl (cap := q) (by rw [← hq, ← q1]; simp) hk hn
  obtain ⟨X2, eT2, N2, S2, hk2, hZ2, H2, hw2, hF2, O2, hwm2, hbk2⟩ := H.step X' e' N (keep_ext E' []) (fun x hx => nomatch hx)
  obtain ⟨t, v, L, h1, r⟩ := g h' h.size rfl E' ⟨_, A', q1, q2, q3⟩ X2' T' vm0 locs k0 ⟨X2, eT2, N2, S2, hk2, hZ2, H2, hw2, fun x hx => (List.mem_cons.mp hx).elim (fun q => by subst q; exact ⟨A'.lt, (Safe.new (Nat.le_refl _)).ext E' H1.1⟩) (hF2 x), O2, hwm2, hbk2⟩
  exact ⟨t, v, L, st' _ h1, r⟩
theorem inb {cl : Cell} {j : Int32} {i : Nat} (hi : j.toNatClampNeg = i) (hj : ¬ j < 0) (hlt : i < cl.slots.toList.length) : ¬ (j < 0 ∨ cl.slots.size ≤ j.toNatClampNeg) := by
  rw [hi]; intro q; rcases q with q | q
  · exact hj q
  · simp at hlt; omega
theorem Cxt.arraylength (C : Cxt p m meth c Z a0 EL own mn bytes ml ret Ws) {a : Addr} {ty : FieldType} {vs : List Value} (d : Dec bytes pc .arraylength 1 nx) (A : Arl Z h a ty vs) (g : Goes p l e R s m args below meth c Z EL nw Q F w h k n (mkF m nx Ls (.int (Int32.ofNat vs.length) :: st))) : Goes p l e R s m args below meth c Z EL nw Q F w h k n (mkF m pc Ls (.ref a :: st)) := by
  obtain ⟨d1, rfl⟩ := d
  intro T vm0 locs k0 H
  obtain ⟨t, v, L, h1, r⟩ := g T vm0 locs k0 H
  obtain ⟨cl, A, rfl, r2, r3⟩ := A
  refine ⟨t, v, L, H.1.arraylength C.1 (by rw [H.2.1]; exact A.1) (State.isArrayOf_alike H.2.2.2.2.2.1.alike A.2.1) (g := mkF m pc Ls (.ref a :: st)) rfl rfl (hb C.2.1 d1) _ ?_, r⟩
  have q : cl.slots.size.toInt32 = Int32.ofNat cl.slots.toList.length := by simp
  rw [q]; exact h1
theorem Cxt.caload (C : Cxt p m meth c Z a0 EL own mn bytes ml ret Ws) {a : Addr} {vs : List Value} {j : Int32} {i : Nat} {v : Value} (d : Dec bytes pc .caload 1 nx) (A : Arl Z h a .char vs) (hj : ¬ j < 0) (hi : j.toNatClampNeg = i) (hv : vs[i]? = some v) (g : Goes p l e R s m args below meth c Z EL nw Q F w h k n (mkF m nx Ls (v :: st))) : Goes p l e R s m args below meth c Z EL nw Q F w h k n (mkF m pc Ls (.int j :: .ref a :: st)) := by
  obtain ⟨d1, rfl⟩ := d
  intro T vm0 locs k0 H
  obtain ⟨t, v', L, h1, r⟩ := g T vm0 locs k0 H
  obtain ⟨cl, A, rfl, r2, r3⟩ := A
  exact ⟨t, v', L, H.1.caload C.1 (by rw [H.2.1]; exact A.1) (State.isArrayOf_alike H.2.2.2.2.2.1.alike A.2.1) A.2.2 (inb hi hj (List.getElem?_eq_some_iff.mp hv).1) (v := v) (by rw [hi]; simpa using hv) (g := mkF m pc Ls (.int j :: .ref a :: st)) rfl rfl (hb C.2.1 d1) _ h1, r⟩
theorem Cxt.baload (C : Cxt p m meth c Z a0 EL own mn bytes ml ret Ws) {a : Addr} {vs : List Value} {j : Int32} {i : Nat} {v : Value} (d : Dec bytes pc .baload 1 nx) (A : Arl Z h a .byte vs) (hj : ¬ j < 0) (hi : j.toNatClampNeg = i) (hv : vs[i]? = some v) (g : Goes p l e R s m args below meth c Z EL nw Q F w h k n (mkF m nx Ls (v :: st))) : Goes p l e R s m args below meth c Z EL nw Q F w h k n (mkF m pc Ls (.int j :: .ref a :: st)) := by
  obtain ⟨d1, rfl⟩ := d
  intro T vm0 locs k0 H
  obtain ⟨t, v', L, h1, r⟩ := g T vm0 locs k0 H
  obtain ⟨cl, A, rfl, r2, r3⟩ := A
  exact ⟨t, v', L, H.1.baloadBytes C.1 (by rw [H.2.1]; exact A.1) (State.isArrayOf_alike H.2.2.2.2.2.1.alike A.2.1) A.2.2 (inb hi hj (List.getElem?_eq_some_iff.mp hv).1) (v := v) (by rw [hi]; simpa using hv) (g := mkF m pc Ls (.int j :: .ref a :: st)) rfl rfl (hb C.2.1 d1) _ h1, r⟩
theorem Cxt.iaload (C : Cxt p m meth c Z a0 EL own mn bytes ml ret Ws) {a : Addr} {vs : List Value} {j : Int32} {i : Nat} {v : Value} (d : Dec bytes pc .iaload 1 nx) (A : Arl Z h a .int vs) (hj : ¬ j < 0) (hi : j.toNatClampNeg = i) (hv : vs[i]? = some v) (g : Goes p l e R s m args below meth c Z EL nw Q F w h k n (mkF m nx Ls (v :: st))) : Goes p l e R s m args below meth c Z EL nw Q F w h k n (mkF m pc Ls (.int j :: .ref a :: st)) := by
  obtain ⟨d1, rfl⟩ := d
  intro T vm0 locs k0 H
  obtain ⟨t, v', L, h1, r⟩ := g T vm0 locs k0 H
  obtain ⟨cl, A, rfl, r2, r3⟩ := A
  exact ⟨t, v', L, H.1.iaload C.1 (by rw [H.2.1]; exact A.1) (State.isArrayOf_alike H.2.2.2.2.2.1.alike A.2.1) A.2.2 (inb hi hj (List.getElem?_eq_some_iff.mp hv).1) (v := v) (by rw [hi]; simpa using hv) (g := mkF m pc Ls (.int j :: .ref a :: st)) rfl rfl (hb C.2.1 d1) _ h1, r⟩
theorem Cxt.aaload (C : Cxt p m meth c Z a0 EL own mn bytes ml ret Ws) {a : Addr} {ty : FieldType} {vs : List Value} {j : Int32} {i : Nat} {v : Value} (d : Dec bytes pc .aaload 1 nx) (A : Arl Z h a ty vs) (hty : ty.isReference = true) (hj : ¬ j < 0) (hi : j.toNatClampNeg = i) (hv : vs[i]? = some v) (g : Goes p l e R s m args below meth c Z EL nw Q F w h k n (mkF m nx Ls (v :: st))) : Goes p l e R s m args below meth c Z EL nw Q F w h k n (mkF m pc Ls (.int j :: .ref a :: st)) := by
  obtain ⟨d1, rfl⟩ := d
  intro T vm0 locs k0 H
  obtain ⟨t, v', L, h1, r⟩ := g T vm0 locs k0 H
  obtain ⟨cl, A, rfl, r2, r3⟩ := A
  exact ⟨t, v', L, H.1.aaload C.1 (by rw [H.2.1]; exact A.1) (State.isArrayOf_alike H.2.2.2.2.2.1.alike A.2.1) hty A.2.2 (inb hi hj (List.getElem?_eq_some_iff.mp hv).1) (v := v) (by rw [hi]; simpa using hv) (g := mkF m pc Ls (.int j :: .ref a :: st)) rfl rfl (hb C.2.1 d1) _ h1, r⟩
theorem Cxt.castore (C : Cxt p m meth c Z a0 EL own mn bytes ml ret Ws) {a : Addr} {vs : List Value} {j x : Int32} {i : Nat} (d : Dec bytes pc .castore 1 nx) (A : Arl Z h a .char vs) (hj : ¬ j < 0) (hi : j.toNatClampNeg = i) (hlt : i < vs.length) (na : Z.heap.size ≤ a) 
    (g : ∀ h', Wr h h' a i (.int (nar .char x)) → Arl Z h' a .char (vs.set i (.int (nar .char x))) → Goes p l e R s m args below meth c Z EL nw Q F w h' k n (mkF m nx Ls st)) : Goes p l e R s m args below meth c Z EL nw Q F w h k n (mkF m pc Ls (.int x :: .int j :: .ref a :: st)) := by
  obtain ⟨d1, rfl⟩ := d
  intro T vm0 locs k0 H
  obtain ⟨X, eT, N, S, hk0, hZ, H1, hw, hF, O', hwm, hbk⟩ := id H
  have sa : Safe Z EL vm0 h a := Arl.safe hZ.alike A (by simp)
  obtain ⟨cl, A', q1, q2, q3⟩ := id A
  subst hi
  obtain ⟨T', h', X', e', W', st'⟩ := stC X C.1 hZ eT A' (j := j) (x := x) (inb rfl hj (by rw [q1]; exact hlt)) (g := mkF m pc Ls (.int x :: .int j :: .ref a :: st)) rfl rfl (hb C.2.1 d1)
  obtain ⟨t, v, L, h1, r⟩ := g h' W' (A.set W' (fits_nar_char _)) T' vm0 _ k0 (H.step X' e' (Fr.snoc X' N na) (Keep.of_wr W') (fun x hx => by cases List.mem_singleton.mp hx; exact ⟨sa, na⟩))
  exact ⟨t, v, L, st' _ h1, r⟩
theorem fits_b8' (x : Int32) : fits .byte (.int (nar .byte x)) = true := fits_nar_byte x
theorem Cxt.bastore (C : Cxt p m meth c Z a0 EL own mn bytes ml ret Ws) {a : Addr} {vs : List Value} {j x : Int32} {i : Nat} (d : Dec bytes pc .bastore 1 nx) (A : Arl Z h a .byte vs) (hj : ¬ j < 0) (hi : j.toNatClampNeg = i) (hlt : i < vs.length) (na : Z.heap.size ≤ a) (sf : a ∈ F ∨ w ≤ a) 
    (g : ∀ h', Wr h h' a i (.int (nar .byte x)) → Arl Z h' a .byte (vs.set i (.int (nar .byte x))) → Goes p l e R s m args below meth c Z EL nw Q F w h' k n (mkF m nx Ls st)) : Goes p l e R s m args below meth c Z EL nw Q F w h k n (mkF m pc Ls (.int x :: .int j :: .ref a :: st)) := by
  obtain ⟨d1, rfl⟩ := d
  intro T vm0 locs k0 H
  obtain ⟨X, eT, N, S, hk0, hZ, H1, hw, hF, O', hwm, hbk⟩ := id H
  have sa : Safe Z EL vm0 h a := sf.elim (fun q => (hF a q).2) (hwm a)
  obtain ⟨cl, A', q1, q2, q3⟩ := id A
  subst hi
  obtain ⟨T', h', X', e', W', st'⟩ := stB X C.1 hZ eT A' (j := j) (x := x) (inb rfl hj (by rw [q1]; exact hlt)) (g := mkF m pc Ls (.int x :: .int j :: .ref a :: st)) rfl rfl (hb C.2.1 d1)
  obtain ⟨t, v, L, h1, r⟩ := g h' W' (A.set W' (fits_b8' _)) T' vm0 _ k0 (H.step X' e' (Fr.snoc X' N na) (Keep.of_wr W') (fun x hx => by cases List.mem_singleton.mp hx; exact ⟨sa, na⟩))
  exact ⟨t, v, L, st' _ h1, r⟩
theorem Cxt.iastore (C : Cxt p m meth c Z a0 EL own mn bytes ml ret Ws) {a : Addr} {vs : List Value} {j x : Int32} {i : Nat} (d : Dec bytes pc .iastore 1 nx) (A : Arl Z h a .int vs) (hj : ¬ j < 0) (hi : j.toNatClampNeg = i) (hlt : i < vs.length) (na : Z.heap.size ≤ a) 
    (g : ∀ h', Wr h h' a i (.int (x)) → Arl Z h' a .int (vs.set i (.int (x))) → Goes p l e R s m args below meth c Z EL nw Q F w h' k n (mkF m nx Ls st)) : Goes p l e R s m args below meth c Z EL nw Q F w h k n (mkF m pc Ls (.int x :: .int j :: .ref a :: st)) := by
  obtain ⟨d1, rfl⟩ := d
  intro T vm0 locs k0 H
  obtain ⟨X, eT, N, S, hk0, hZ, H1, hw, hF, O', hwm, hbk⟩ := id H
  have sa : Safe Z EL vm0 h a := Arl.safe hZ.alike A (by simp)
  obtain ⟨cl, A', q1, q2, q3⟩ := id A
  subst hi
  obtain ⟨T', h', X', e', W', st'⟩ := stI X C.1 hZ eT A' (j := j) (x := x) (inb rfl hj (by rw [q1]; exact hlt)) (g := mkF m pc Ls (.int x :: .int j :: .ref a :: st)) rfl rfl (hb C.2.1 d1)
  obtain ⟨t, v, L, h1, r⟩ := g h' W' (A.set W' (rfl)) T' vm0 _ k0 (H.step X' e' (Fr.snoc X' N na) (Keep.of_wr W') (fun x hx => by cases List.mem_singleton.mp hx; exact ⟨sa, na⟩))
  exact ⟨t, v, L, st' _ h1, r⟩
theorem ofNat_idx {i : Nat} (h : i < 2 ^ 31) : ¬ (Int32.ofNat i) < 0 ∧ (Int32.ofNat i).toNatClampNeg = i := by
  have q := idx_in (i := i) (n := i + 1) (Nat.lt_succ_self i)
  have e : (Int32.ofNat i).toInt = i := by
    rw [Int32.toInt_ofNat']
    simp only [Int.bmod_def]
    have z : (Int32.size : Int) = 4294967296 := rfl
    rw [z]
    omega
  constructor
  · intro z; rw [Int32.lt_iff_toInt_lt, e] at z; simp at z; omega
  · simp [Int32.toNatClampNeg, e]
theorem arl_of_arv {Z : State} {h : Heap} {a : Addr} {kb : ClassId} {ty : FieldType} {z : Int32} {vs : List Value} {dv : Value} (A : Arv Z h a kb ty z vs dv) (hz : z.toNatClampNeg = vs.length) (hl : vs.length < 2 ^ 31) : Arl Z h a ty vs := by
  obtain ⟨cl, A, -, q2, -, H, G⟩ := A
  have e : cl.slots.toList = vs := by
    apply List.ext_getElem?
    intro i
    by_cases hi : i < cl.slots.size
    · have := H i hi
      rw [Array.getElem?_toList, this]
      have hi' : i < vs.length := by omega
      simp [List.getD_eq_getElem?_getD, hi']
    · rw [List.getElem?_eq_none (by simpa using hi), List.getElem?_eq_none (by omega)]
  refine ⟨cl, A, e, hl, fun v hv => ?_⟩
  obtain ⟨i, hi, rfl⟩ := List.mem_iff_getElem.mp hv
  have := G i (by omega)
  simpa [List.getD_eq_getElem?_getD, hi] using this
theorem Con.of {y : MethodName} {rm : Room} {as' : Array Value} (hy : plainFor y = true) (hw : ∀ d ∈ Ws, d.before a0 Z = true) (hEL : EW Z a0 EL) (Ls : Array Slot) (hef : ∀ m, entryFrame m as' ml = mkF m 0 Ls [])
    (g : ∀ (p : Program) (e : Env) (s : State) (m : MethodId) (below : List Frame) (meth : Method) (c : Code), s.heap = h → Cxt p m meth c Z a0 EL y.cls y.name bytes ml ret Ws → Goes p l e rm s m as' below meth c Z EL nw Q F h.size h 0 0 (mkF m 0 Ls [])) : Con l Z EL nw y bytes ml ret rm F as' h Q := by
  intro ws
  refine MetFree.of_bodySF hy hisR ?_
  intro p e s m args below meth c s₁ Bd hml0 hP hK
  obtain ⟨rfl, hZ, hh, hC, hF, hO⟩ := hP
  have C : Cxt p m meth c Z a0 EL y.cls y.name bytes ml ret Ws := ⟨Bd.exec, Bd.bytes, hml0, (hZ.alike.findClass _ _).symm.trans (findClass_of_methodNamed Bd.named), Bd.returns, Bd.notSynchronized, (name_of_methodNamed Bd.named Bd.method).1, hw, hEL⟩
  have X0 : Stand p l e rm s m args below meth c s₁ [] 0 0 := Stand.of_body Bd
  have e0 : s₁.heap = h := by rw [← hh, Bd.state]; rfl
  subst hh
  obtain ⟨t, v, L, h1, h2, h3, h4, h5, h6, h7, h8, h9⟩ := g p e s m below meth c rfl C s₁ s.vm [] 0 ⟨X0, e0, Fr.nil _, (State.WarmedH.refl s).since 0, Nat.zero_le _, hZ, CHr.refl hC, fun _ => State.WarmedH.refl s, hF, hO, fun x hx => Safe.new hx, fun _ y hy => hy⟩
  exact ⟨t, .returned v, castTop (hef m) h1, h2, h3, v, L, rfl, h4, h5, h6, h7, h8, h9⟩
theorem Con.pays {y : MethodName} {yb : ByteArray} {yl : Nat} {yr : Option FieldType} {rm : Room} {as' : Array Value} {len W : Nat} (K : Con l Z EL nw y yb yl yr rm F as' h Q) (wc : (Jvm.Cond.code y yb yl yr).before a0 Z = true) (wz : (Jvm.Cond.initialized y.cls).before a0 Z = true) (hEL : EW Z a0 EL) (hf : rm.frames + 1 ≤ R.frames) (hl : W + (yl + 11) + rm.locals ≤ R.locals) :
    Pays p l e R s args below Z EL nw y len W F as' h rm.cells rm.slots Q := by
  intro vm0 hZ H hF hO
  refine BackS.of_freeW (bytes := yb) (maxL := yl) (ret := yr) (E := fun _ first o t L k n => k = rm.cells ∧ n = rm.slots ∧ (∃ v, o = .returned v ∧ Q v t.heap) ∧ Fr Z.heap.size L ∧ CHr Z EL first.vm first.heap t.vm t.heap ∧ (nw = true → first.WarmedH t.vm ∧ ∀ y, Bk Z EL t.vm t.heap y → Bk Z EL first.vm first.heap y) ∧ Ext Z.heap t.heap) (K []) hf hl
    (fun m meth c A a Y hp => have hU : Z.Warmed39 A.U.vm := wtrans (s := s.setVm vm0) hZ Y.warmed
      ⟨by show (Jvm.Cond.and _ .tt).before a A.U = true; rw [Cond.before_and, mv hU wc]; rfl, mv hU wc, mv hU wz, hp.2.2.1, hp.2.2.2⟩)
    (fun m meth c A a g mk Y hp => ⟨hp.1, wtrans (s := s.setVm vm0) hZ Y.warmed, hp.2.1, (CHv.at Y hZ hEL H).1, fun x hx => ⟨(hF x hx).1, (CHv.at Y hZ hEL H).safe (hF x hx).1 (hF x hx).2⟩, hO⟩) (fun _ _ _ _ _ _ _ _ _ => trivial)
    (fun _ _ _ _ ⟨v, L, h1, h2, h3, h4, h5, h6, h7⟩ => ⟨L, _, _, h7, rfl, rfl, ⟨v, h1, h2⟩, h3, h4, h5, h6⟩)
    (fun m meth c A a g mk v t L k n Y hp _ _ ⟨e1, e2, ⟨v', e3, e4⟩, e5, e6, e7, e8⟩ => by
      cases e3; subst e1 e2
      refine ⟨L, e4, e5, rfl, rfl, rfl, (CHv.at Y hZ hEL H).trans ?_, fun q => ⟨State.WarmedH.trans Y.warmed (e7 q).1, fun y hy => ?_⟩, e8⟩
      · rw [← hp.2.1]; exact e6
      · have z := (e7 q).2 y hy
        have z' : Bk Z EL A.U.vm h y := by rw [← hp.2.1]; exact z
        rcases (CHv.at Y hZ hEL H).2.2 y z' with z2 | z2
        · exact z2
        · obtain ⟨cell, hcell⟩ := z'.there
          exact absurd (Array.getElem?_eq_some_iff.mp hcell).1 (Nat.not_lt.mpr z2))
theorem Pays.mono {y : MethodName} {as' : Array Value} {len W rc rs : Nat} {Q' : Option Value → Heap → Prop} (K : Pays p l e R s args below Z EL nw y len W F as' h rc rs Q) (hq : ∀ v h', Q v h' → Q' v h') : Pays p l e R s args below Z EL nw y len W F as' h rc rs Q' := by
  intro vm0 hZ H hF hO m meth c A g ig mk a X hg hsize hdg hW hn hp
  obtain ⟨v, B, X', S, gr, ⟨L, h1, r⟩, stp⟩ := K vm0 hZ H hF hO m meth c A g ig mk a X hg hsize hdg hW hn hp
  exact ⟨v, B, X', S, gr, ⟨L, hq _ _ h1, r⟩, stp⟩
theorem after {nwc : Bool} (hnw : nw = true → nwc = true) {T : State} {vm0 : Vm} {locs : List Loc} {k0 rc rs : Nat} {B : Pt} {vm1 : Vm} (H : Here p l e R s m args below meth c Z EL nw F w h k n T vm0 locs k0) (X' : Stand p l e R (s.setVm B.U.vm) m args below meth c B.U B.locs B.cells B.slots) (S' : (s.setVm vm0).Since B.U.vm B.U.heap.size) (gr : T.heap.size ≤ B.U.heap.size)
    (post : ∃ L, Fr Z.heap.size L ∧ B.locs = locs ++ L ∧ B.cells = k + rc ∧ B.slots = n + rs ∧ CHr Z EL vm0 h B.U.vm B.U.heap ∧ (nwc = true → (s.setVm vm0).WarmedH B.U.vm ∧ ∀ y, Bk Z EL B.U.vm B.U.heap y → Bk Z EL vm0 h y) ∧ Ext Z.heap B.U.heap) : Here p l e R s m args below meth c Z EL nw F (wm nwc w B.U.heap) B.U.heap (k + rc) (n + rs) B.U B.U.vm B.locs B.U.heap.size := by
  obtain ⟨X, eT, N, S, hk0, hZ, H1, hw, hF, O, hwm, hbk⟩ := H
  obtain ⟨L, p1, p2, p3, p4, p5, p6, p7⟩ := post
  rw [p3, p4] at X'
  rw [eT] at gr
  refine ⟨X', rfl, by rw [p2]; exact N.app p1, S.trans S' (Nat.le_trans hk0 gr), Nat.le_refl _, State.Warmed39.trans (t := s.setVm vm0) hZ S'.1, H1.trans p5, fun q => State.WarmedH.trans (t := s.setVm vm0) (hw q) (p6 (hnw q)).1, fun x hx => ⟨Nat.lt_of_lt_of_le (hF x hx).1 gr, p5.safe (hF x hx).1 (hF x hx).2⟩, p7, fun x hx => ?_, fun q y hy => hbk q y ((p6 (hnw q)).2 y hy)⟩
  cases nwc with
  | true => exact fun hy => hwm x hx ((p6 rfl).2 x hy)
  | false => exact Safe.new hx
theorem Cxt.static (C : Cxt p m meth c Z a0 EL own mn bytes ml ret Ws) {nwc : Bool} (hnw : nw = true → nwc = true) {F' : List Addr} (hF' : ∀ x ∈ F', x ∈ F ∨ (w ≤ x ∧ x < h.size)) {idx W rc rs : Nat} {y : MethodName} {yb : ByteArray} {yl : Nat} {yr : Option FieldType} {Qc : Option Value → Heap → Prop} {argsL rest : List Value} (d : Dec bytes pc (.invokestatic idx) 3 nx) (w1 : Jvm.Cond.methodLink own idx y ∈ Ws) (w2 : Jvm.Cond.static y ∈ Ws) (w3 : Jvm.Cond.initialized y.cls ∈ Ws) (w4 : Jvm.Cond.code y yb yl yr ∈ Ws)
    (hy : y.cls ≠ "java/lang/invoke/MethodHandle" ∧ y.cls ≠ "java/lang/invoke/VarHandle") (hlen : ∀ sig, parseMethodDescriptor y.desc = some sig → argsL.length = sig.parameters.length) (hst : st = argsL.reverse ++ rest) (hsz : Ls.size = ml) (hk : k + rc ≤ R.cells) (hn : n + rs ≤ R.slots)
    (K : Pays p l e R s args below Z EL nwc y 3 W F' argsL.toArray h rc rs Qc) (hW : (rest.map fun v => v.category).sum ≤ W) (g : ∀ v h', Qc v h' → Goes p l e R s m args below meth c Z EL nw Q F (wm nwc w h') h' (k + rc) (n + rs) (mkF m nx Ls (v.toList ++ rest))) : Goes p l e R s m args below meth c Z EL nw Q F w h k n (mkF m pc Ls st) := by
  obtain ⟨d1, rfl⟩ := d
  intro T vm0 locs k0 H
  obtain ⟨X, eT, N, S, hk0, hZ, H1, hw, hF, O, hwm, hbk⟩ := id H
  obtain ⟨v, vm1, B, hW1, X', S', gr, ⟨L, q, post⟩, st'⟩ := callSS X C.1 (C.own_at hZ) (mv hZ (C.wrd w1)) (mv hZ (C.wrd w2)) (mv hZ (C.wrd w3)) (mv hZ (C.wrd w4)) hy (K vm0 hZ H1.1 (fun x hx => (hF' x hx).elim (hF x) fun q => ⟨q.2, hwm x q.1⟩) O) (g := mkF m pc Ls st) rfl (hsz.trans C.2.2.1.symm) hlen hst (by show 2 * 0 + _ ≤ _; omega) (hb C.2.1 d1) (fun vm1 _ => ⟨rfl, eT, hk, hn⟩)
  obtain ⟨t, v, L, h1, r⟩ := g v B.U.heap q B.U B.U.vm B.locs B.U.heap.size (after (nwc := nwc) hnw (vm1 := vm1) H X' S' gr ⟨L, post⟩)
  exact ⟨t, v, L, st'.trans h1, r⟩
theorem Cxt.special (C : Cxt p m meth c Z a0 EL own mn bytes ml ret Ws) {nwc : Bool} (hnw : nw = true → nwc = true) {F' : List Addr} (hF' : ∀ x ∈ F', x ∈ F ∨ (w ≤ x ∧ x < h.size)) {idx W rc rs : Nat} {y : MethodName} {yb : ByteArray} {yl : Nat} {Qc : Option Value → Heap → Prop} {a : Addr} {argsL rest : List Value} (d : Dec bytes pc (.invokespecial idx) 3 nx) (hy1 : y.name = "<init>") (w1 : Jvm.Cond.methodLink own idx y ∈ Ws) (w2 : Jvm.Cond.instanceMethod y ∈ Ws) (w4 : Jvm.Cond.code y yb yl none ∈ Ws)
    (hy : y.cls ≠ "java/lang/invoke/MethodHandle" ∧ y.cls ≠ "java/lang/invoke/VarHandle") (hlen : ∀ sig, parseMethodDescriptor y.desc = some sig → argsL.length = sig.parameters.length) (hst : st = argsL.reverse ++ .ref a :: rest) (hsz : Ls.size = ml) (hk : k + rc ≤ R.cells) (hn : n + rs ≤ R.slots)
    (K : Pays p l e R s args below Z EL nwc y 3 W F' (.ref a :: argsL).toArray h rc rs Qc) (hW : (rest.map fun v => v.category).sum ≤ W) (g : ∀ v h', Qc v h' → Goes p l e R s m args below meth c Z EL nw Q F (wm nwc w h') h' (k + rc) (n + rs) (mkF m nx Ls (v.toList ++ rest))) : Goes p l e R s m args below meth c Z EL nw Q F w h k n (mkF m pc Ls st) := by
  obtain ⟨d1, rfl⟩ := d
  intro T vm0 locs k0 H
  obtain ⟨X, eT, N, S, hk0, hZ, H1, hw, hF, O, hwm, hbk⟩ := id H
  obtain ⟨v, vm1, B, hW1, X', S', gr, ⟨L, q, post⟩, st'⟩ := X.specialBackS C.1 hy1 (C.own_at hZ) (mv hZ (C.wrd w1)) (mv hZ (C.wrd w2)) (mv hZ (C.wrd w4)) hy (K vm0 hZ H1.1 (fun x hx => (hF' x hx).elim (hF x) fun q => ⟨q.2, hwm x q.1⟩) O) (g := mkF m pc Ls st) rfl (hsz.trans C.2.2.1.symm) (Steps.refl _) hlen hst (by show 2 * 0 + _ ≤ _; omega) (hb C.2.1 d1) (fun vm1 _ => ⟨rfl, eT, hk, hn⟩)
  obtain ⟨t, v, L, h1, r⟩ := g v B.U.heap q B.U B.U.vm B.locs B.U.heap.size (after (nwc := nwc) hnw (vm1 := vm1) H X' S' gr ⟨L, post⟩)
  exact ⟨t, v, L, st'.trans h1, r⟩
theorem Cxt.virtual (C : Cxt p m meth c Z a0 EL own mn bytes ml ret Ws) {nwc : Bool} (hnw : nw = true → nwc = true) {F' : List Addr} (hF' : ∀ x ∈ F', x ∈ F ∨ (w ≤ x ∧ x < h.size)) {idx W rc rs : Nat} {y z : MethodName} {cls : String} {Qc : Option Value → Heap → Prop} {a : Addr} {argsL rest : List Value} (d : Dec bytes pc (.invokevirtual idx) 3 nx) (w1 : Jvm.Cond.methodLink own idx y ∈ Ws) (w2 : Jvm.Cond.declares y ∈ Ws) (w3 : Jvm.Cond.selects cls y z ∈ Ws) (w4 : Jvm.Cond.instanceMethod z ∈ Ws)
    (hy : y.cls ≠ "java/lang/invoke/MethodHandle" ∧ y.cls ≠ "java/lang/invoke/VarHandle") (hlen : ∀ sig, parseMethodDescriptor y.desc = some sig → argsL.length = sig.parameters.length) (hst : st = argsL.reverse ++ .ref a :: rest) (hsz : Ls.size = ml) (hk : k + rc ≤ R.cells) (hn : n + rs ≤ R.slots) (E : Exa Z h a cls)
    (nf : ∀ vm0 : Vm, (Jvm.Cond.selects cls y z).before args (s.setVm vm0) = true → NotFace (s.setVm vm0) y)
    (K : Pays p l e R s args below Z EL nwc z 3 W F' (.ref a :: argsL).toArray h rc rs Qc) (hW : (rest.map fun v => v.category).sum ≤ W) (g : ∀ v h', Qc v h' → Goes p l e R s m args below meth c Z EL nw Q F (wm nwc w h') h' (k + rc) (n + rs) (mkF m nx Ls (v.toList ++ rest))) : Goes p l e R s m args below meth c Z EL nw Q F w h k n (mkF m pc Ls st) := by
  obtain ⟨d1, rfl⟩ := d
  intro T vm0 locs k0 H
  obtain ⟨X, eT, N, S, hk0, hZ, H1, hw, hF, O, hwm, hbk⟩ := id H
  obtain ⟨cq, kq, qa, qb, qc⟩ := isOf (s := s.setVm vm0) hZ eT E
  obtain ⟨v, vm1, B, hW1, X', S', gr, ⟨L, q, post⟩, st'⟩ := X.virtualBackS C.1 (C.own_at hZ) (mv hZ (C.wrd w1)) (mv hZ (C.wrd w2)) (nf vm0 (mv hZ (C.wrd w3))) (mv hZ (C.wrd w3)) (mv hZ (C.wrd w4)) hy (K vm0 hZ H1.1 (fun x hx => (hF' x hx).elim (hF x) fun q => ⟨q.2, hwm x q.1⟩) O) qa qc (g := mkF m pc Ls st) rfl (hsz.trans C.2.2.1.symm) (Steps.refl _) hlen hst (by show 2 * 0 + _ ≤ _; omega) (hb C.2.1 d1) (fun vm1 _ => ⟨rfl, eT, hk, hn⟩)
  obtain ⟨t, v, L, h1, r⟩ := g v B.U.heap q B.U B.U.vm B.locs B.U.heap.size (after (nwc := nwc) hnw (vm1 := vm1) H X' S' gr ⟨L, post⟩)
  exact ⟨t, v, L, st'.trans h1, r⟩
def rV (Q : Heap → Prop) : Option Value → Heap → Prop := fun o h => o = none ∧ Q h
def rR (Q : Value → Heap → Prop) : Option Value → Heap → Prop := fun o h => ∃ v, o = some v ∧ Q v h
theorem Pays.less {y : MethodName} {as' : Array Value} {len W rc rs : Nat} {F' : List Addr} (hF : ∀ x ∈ F', x ∈ F) (K : Pays p l e R s args below Z EL nw y len W F' as' h rc rs Q) : Pays p l e R s args below Z EL nw y len W F as' h rc rs Q := fun vm0 hZ H hF1 hO => K vm0 hZ H (fun x hx => hF1 x (hF x hx)) hO
theorem Con.weaken {y : MethodName} {yb : ByteArray} {yl : Nat} {yr : Option FieldType} {rm : Room} {as' : Array Value} {Q' : Option Value → Heap → Prop} (hq : ∀ v h', Q v h' → Q' v h') (K : Con l Z EL nw y yb yl yr rm F as' h Q) : Con l Z EL nw y yb yl yr rm F as' h Q' := by
  intro ws p e ha hc hk s m args below hf happ hP hK
  obtain ⟨n, o, h1, h2, h3, v, L, h4, h5, r⟩ := K ws p e ha hc hk s m args below hf happ hP hK
  exact ⟨n, o, h1, h2, h3, v, L, h4, hq _ _ h5, r⟩
theorem len_par {d : String} {k : Nat} (h : (parseMethodDescriptor d).map (fun sg => sg.parameters.length) = some k) {L : List Value} (hl : L.length = k) : ∀ sig, parseMethodDescriptor d = some sig → L.length = sig.parameters.length := fun sig hs => by
  rw [hs] at h; simp at h; omega
theorem Cxt.s0V (C : Cxt p m meth c Z a0 EL own mn bytes ml ret Ws) {idx : Nat} {y : MethodName} {yb : ByteArray} {yl : Nat} {yr : Option FieldType} {rm : Room} {F' : List Addr}  {Qc : Heap → Prop} {nwc : Bool} (d : Dec bytes pc (.invokestatic idx) 3 nx) (w1 : Jvm.Cond.methodLink own idx y ∈ Ws) (w2 : Jvm.Cond.static y ∈ Ws) (w3 : Jvm.Cond.initialized y.cls ∈ Ws) (w4 : Jvm.Cond.code y yb yl yr ∈ Ws) (hy : y.cls ≠ "java/lang/invoke/MethodHandle" ∧ y.cls ≠ "java/lang/invoke/VarHandle") (hpar : (parseMethodDescriptor y.desc).map (fun sg => sg.parameters.length) = some 0) (hsz : Ls.size = ml) (hF : ∀ x ∈ F', x ∈ F ∨ (w ≤ x ∧ x < h.size))
    (K : Con l Z EL nwc y yb yl yr rm F' #[] h (rV Qc)) (hf : rm.frames + 1 ≤ R.frames) (hl : (st.map fun v => v.category).sum + (yl + 11) + rm.locals ≤ R.locals) (hk : k + rm.cells ≤ R.cells) (hn : n + rm.slots ≤ R.slots) (g : ∀ h', Qc h' → Goes p l e R s m args below meth c Z EL nw Q F (wm nwc w h') h' (k + rm.cells) (n + rm.slots) (mkF m nx Ls st)) (hnw : nw = true → nwc = true := by first | exact id | exact fun _ => rfl) : Goes p l e R s m args below meth c Z EL nw Q F w h k n (mkF m pc Ls st) :=
  C.static hnw hF (argsL := []) (rest := st) d w1 w2 w3 w4 hy (len_par hpar rfl) rfl hsz hk hn (K.pays (C.wrd w4) (C.wrd w3) C.2.2.2.2.2.2.2.2 hf hl) (Nat.le_refl _) (fun v h' q => by obtain ⟨rfl, q⟩ := q; exact g h' q)
theorem Cxt.c0 (C : Cxt p m meth c Z a0 EL own mn bytes ml ret Ws) {idx : Nat} {y : MethodName} {yb : ByteArray} {yl : Nat} {rm : Room} {F' : List Addr} {a : Addr}  {Qc : Heap → Prop} {nwc : Bool} (d : Dec bytes pc (.invokespecial idx) 3 nx) (hy1 : y.name = "<init>") (w1 : Jvm.Cond.methodLink own idx y ∈ Ws) (w2 : Jvm.Cond.instanceMethod y ∈ Ws) (w3 : Jvm.Cond.initialized y.cls ∈ Ws) (w4 : Jvm.Cond.code y yb yl none ∈ Ws) (hy : y.cls ≠ "java/lang/invoke/MethodHandle" ∧ y.cls ≠ "java/lang/invoke/VarHandle") (hpar : (parseMethodDescriptor y.desc).map (fun sg => sg.parameters.length) = some 0) (hsz : Ls.size = ml) (hF : ∀ x ∈ F', x ∈ F ∨ (w ≤ x ∧ x < h.size))
    (K : Con l Z EL nwc y yb yl none rm F' #[.ref a] h (rV Qc)) (hf : rm.frames + 1 ≤ R.frames) (hl : (st.map fun v => v.category).sum + (yl + 11) + rm.locals ≤ R.locals) (hk : k + rm.cells ≤ R.cells) (hn : n + rm.slots ≤ R.slots) (g : ∀ h', Qc h' → Goes p l e R s m args below meth c Z EL nw Q F (wm nwc w h') h' (k + rm.cells) (n + rm.slots) (mkF m nx Ls st)) (hnw : nw = true → nwc = true := by first | exact id | exact fun _ => rfl) : Goes p l e R s m args below meth c Z EL nw Q F w h k n (mkF m pc Ls (.ref a :: st)) :=
  C.special hnw hF (argsL := []) (rest := st) d hy1 w1 w2 w4 hy (len_par hpar rfl) rfl hsz hk hn (K.pays (C.wrd w4) (C.wrd w3) C.2.2.2.2.2.2.2.2 hf hl) (Nat.le_refl _) (fun v h' q => by obtain ⟨rfl, q⟩ := q; exact g h' q)
theorem Cxt.v0V (C : Cxt p m meth c Z a0 EL own mn bytes ml ret Ws) {idx : Nat} {y z : MethodName} {yb : ByteArray} {yl : Nat} {yr : Option FieldType} {rm : Room} {F' : List Addr} {cls : String} {a : Addr}  {Qc : Heap → Prop} {nwc : Bool} (d : Dec bytes pc (.invokevirtual idx) 3 nx) (w1 : Jvm.Cond.methodLink own idx y ∈ Ws) (w2 : Jvm.Cond.declares y ∈ Ws) (w5 : Jvm.Cond.selects cls y z ∈ Ws) (w6 : Jvm.Cond.instanceMethod z ∈ Ws) (w3 : Jvm.Cond.initialized z.cls ∈ Ws) (w4 : Jvm.Cond.code z yb yl yr ∈ Ws) (hy : y.cls ≠ "java/lang/invoke/MethodHandle" ∧ y.cls ≠ "java/lang/invoke/VarHandle") (hpar : (parseMethodDescriptor y.desc).map (fun sg => sg.parameters.length) = some 0) (hsz : Ls.size = ml) (hF : ∀ x ∈ F', x ∈ F ∨ (w ≤ x ∧ x < h.size)) (E : Exa Z h a cls)
    (nf : ∀ vm0 : Vm, (Jvm.Cond.selects cls y z).before args (s.setVm vm0) = true → NotFace (s.setVm vm0) y)
    (K : Con l Z EL nwc z yb yl yr rm F' #[.ref a] h (rV Qc)) (hf : rm.frames + 1 ≤ R.frames) (hl : (st.map fun v => v.category).sum + (yl + 11) + rm.locals ≤ R.locals) (hk : k + rm.cells ≤ R.cells) (hn : n + rm.slots ≤ R.slots) (g : ∀ h', Qc h' → Goes p l e R s m args below meth c Z EL nw Q F (wm nwc w h') h' (k + rm.cells) (n + rm.slots) (mkF m nx Ls st)) (hnw : nw = true → nwc = true := by first | exact id | exact fun _ => rfl) : Goes p l e R s m args below meth c Z EL nw Q F w h k n (mkF m pc Ls (.ref a :: st)) :=
  C.virtual hnw hF (argsL := []) (rest := st) d w1 w2 w5 w6 hy (len_par hpar rfl) rfl hsz hk hn E nf (K.pays (C.wrd w4) (C.wrd w3) C.2.2.2.2.2.2.2.2 hf hl) (Nat.le_refl _) (fun v h' q => by obtain ⟨rfl, q⟩ := q; exact g h' q)
theorem Cxt.s0R (C : Cxt p m meth c Z a0 EL own mn bytes ml ret Ws) {idx : Nat} {y : MethodName} {yb : ByteArray} {yl : Nat} {yr : Option FieldType} {rm : Room} {F' : List Addr}  {Qc : Value → Heap → Prop} {nwc : Bool} (d : Dec bytes pc (.invokestatic idx) 3 nx) (w1 : Jvm.Cond.methodLink own idx y ∈ Ws) (w2 : Jvm.Cond.static y ∈ Ws) (w3 : Jvm.Cond.initialized y.cls ∈ Ws) (w4 : Jvm.Cond.code y yb yl yr ∈ Ws) (hy : y.cls ≠ "java/lang/invoke/MethodHandle" ∧ y.cls ≠ "java/lang/invoke/VarHandle") (hpar : (parseMethodDescriptor y.desc).map (fun sg => sg.parameters.length) = some 0) (hsz : Ls.size = ml) (hF : ∀ x ∈ F', x ∈ F ∨ (w ≤ x ∧ x < h.size))
    (K : Con l Z EL nwc y yb yl yr rm F' #[] h (rR Qc)) (hf : rm.frames + 1 ≤ R.frames) (hl : (st.map fun v => v.category).sum + (yl + 11) + rm.locals ≤ R.locals) (hk : k + rm.cells ≤ R.cells) (hn : n + rm.slots ≤ R.slots) (g : ∀ v h', Qc v h' → Goes p l e R s m args below meth c Z EL nw Q F (wm nwc w h') h' (k + rm.cells) (n + rm.slots) (mkF m nx Ls (v :: st))) (hnw : nw = true → nwc = true := by first | exact id | exact fun _ => rfl) : Goes p l e R s m args below meth c Z EL nw Q F w h k n (mkF m pc Ls st) :=
  C.static hnw hF (argsL := []) (rest := st) d w1 w2 w3 w4 hy (len_par hpar rfl) rfl hsz hk hn (K.pays (C.wrd w4) (C.wrd w3) C.2.2.2.2.2.2.2.2 hf hl) (Nat.le_refl _) (fun v h' q => by obtain ⟨v, rfl, q⟩ := q; exact g v h' q)
theorem Cxt.v0R (C : Cxt p m meth c Z a0 EL own mn bytes ml ret Ws) {idx : Nat} {y z : MethodName} {yb : ByteArray} {yl : Nat} {yr : Option FieldType} {rm : Room} {F' : List Addr} {cls : String} {a : Addr}  {Qc : Value → Heap → Prop} {nwc : Bool} (d : Dec bytes pc (.invokevirtual idx) 3 nx) (w1 : Jvm.Cond.methodLink own idx y ∈ Ws) (w2 : Jvm.Cond.declares y ∈ Ws) (w5 : Jvm.Cond.selects cls y z ∈ Ws) (w6 : Jvm.Cond.instanceMethod z ∈ Ws) (w3 : Jvm.Cond.initialized z.cls ∈ Ws) (w4 : Jvm.Cond.code z yb yl yr ∈ Ws) (hy : y.cls ≠ "java/lang/invoke/MethodHandle" ∧ y.cls ≠ "java/lang/invoke/VarHandle") (hpar : (parseMethodDescriptor y.desc).map (fun sg => sg.parameters.length) = some 0) (hsz : Ls.size = ml) (hF : ∀ x ∈ F', x ∈ F ∨ (w ≤ x ∧ x < h.size)) (E : Exa Z h a cls)
    (nf : ∀ vm0 : Vm, (Jvm.Cond.selects cls y z).before args (s.setVm vm0) = true → NotFace (s.setVm vm0) y)
    (K : Con l Z EL nwc z yb yl yr rm F' #[.ref a] h (rR Qc)) (hf : rm.frames + 1 ≤ R.frames) (hl : (st.map fun v => v.category).sum + (yl + 11) + rm.locals ≤ R.locals) (hk : k + rm.cells ≤ R.cells) (hn : n + rm.slots ≤ R.slots) (g : ∀ v h', Qc v h' → Goes p l e R s m args below meth c Z EL nw Q F (wm nwc w h') h' (k + rm.cells) (n + rm.slots) (mkF m nx Ls (v :: st))) (hnw : nw = true → nwc = true := by first | exact id | exact fun _ => rfl) : Goes p l e R s m args below meth c Z EL nw Q F w h k n (mkF m pc Ls (.ref a :: st)) :=
  C.virtual hnw hF (argsL := []) (rest := st) d w1 w2 w5 w6 hy (len_par hpar rfl) rfl hsz hk hn E nf (K.pays (C.wrd w4) (C.wrd w3) C.2.2.2.2.2.2.2.2 hf hl) (Nat.le_refl _) (fun v h' q => by obtain ⟨v, rfl, q⟩ := q; exact g v h' q)
theorem Cxt.s1V (C : Cxt p m meth c Z a0 EL own mn bytes ml ret Ws) {idx : Nat} {y : MethodName} {yb : ByteArray} {yl : Nat} {yr : Option FieldType} {rm : Room} {F' : List Addr} {x1 : Value} {Qc : Heap → Prop} {nwc : Bool} (d : Dec bytes pc (.invokestatic idx) 3 nx) (w1 : Jvm.Cond.methodLink own idx y ∈ Ws) (w2 : Jvm.Cond.static y ∈ Ws) (w3 : Jvm.Cond.initialized y.cls ∈ Ws) (w4 : Jvm.Cond.code y yb yl yr ∈ Ws) (hy : y.cls ≠ "java/lang/invoke/MethodHandle" ∧ y.cls ≠ "java/lang/invoke/VarHandle") (hpar : (parseMethodDescriptor y.desc).map (fun sg => sg.parameters.length) = some 1) (hsz : Ls.size = ml) (hF : ∀ x ∈ F', x ∈ F ∨ (w ≤ x ∧ x < h.size))
    (K : Con l Z EL nwc y yb yl yr rm F' #[x1] h (rV Qc)) (hf : rm.frames + 1 ≤ R.frames) (hl : (st.map fun v => v.category).sum + (yl + 11) + rm.locals ≤ R.locals) (hk : k + rm.cells ≤ R.cells) (hn : n + rm.slots ≤ R.slots) (g : ∀ h', Qc h' → Goes p l e R s m args below meth c Z EL nw Q F (wm nwc w h') h' (k + rm.cells) (n + rm.slots) (mkF m nx Ls st)) (hnw : nw = true → nwc = true := by first | exact id | exact fun _ => rfl) : Goes p l e R s m args below meth c Z EL nw Q F w h k n (mkF m pc Ls (x1 :: st)) :=
  C.static hnw hF (argsL := [x1]) (rest := st) d w1 w2 w3 w4 hy (len_par hpar rfl) rfl hsz hk hn (K.pays (C.wrd w4) (C.wrd w3) C.2.2.2.2.2.2.2.2 hf hl) (Nat.le_refl _) (fun v h' q => by obtain ⟨rfl, q⟩ := q; exact g h' q)
theorem Cxt.c1 (C : Cxt p m meth c Z a0 EL own mn bytes ml ret Ws) {idx : Nat} {y : MethodName} {yb : ByteArray} {yl : Nat} {rm : Room} {F' : List Addr} {a : Addr} {x1 : Value} {Qc : Heap → Prop} {nwc : Bool} (d : Dec bytes pc (.invokespecial idx) 3 nx) (hy1 : y.name = "<init>") (w1 : Jvm.Cond.methodLink own idx y ∈ Ws) (w2 : Jvm.Cond.instanceMethod y ∈ Ws) (w3 : Jvm.Cond.initialized y.cls ∈ Ws) (w4 : Jvm.Cond.code y yb yl none ∈ Ws) (hy : y.cls ≠ "java/lang/invoke/MethodHandle" ∧ y.cls ≠ "java/lang/invoke/VarHandle") (hpar : (parseMethodDescriptor y.desc).map (fun sg => sg.parameters.length) = some 1) (hsz : Ls.size = ml) (hF : ∀ x ∈ F', x ∈ F ∨ (w ≤ x ∧ x < h.size))
    (K : Con l Z EL nwc y yb yl none rm F' #[.ref a, x1] h (rV Qc)) (hf : rm.frames + 1 ≤ R.frames) (hl : (st.map fun v => v.category).sum + (yl + 11) + rm.locals ≤ R.locals) (hk : k + rm.cells ≤ R.cells) (hn : n + rm.slots ≤ R.slots) (g : ∀ h', Qc h' → Goes p l e R s m args below meth c Z EL nw Q F (wm nwc w h') h' (k + rm.cells) (n + rm.slots) (mkF m nx Ls st)) (hnw : nw = true → nwc = true := by first | exact id | exact fun _ => rfl) : Goes p l e R s m args below meth c Z EL nw Q F w h k n (mkF m pc Ls (x1 :: .ref a :: st)) :=
  C.special hnw hF (argsL := [x1]) (rest := st) d hy1 w1 w2 w4 hy (len_par hpar rfl) rfl hsz hk hn (K.pays (C.wrd w4) (C.wrd w3) C.2.2.2.2.2.2.2.2 hf hl) (Nat.le_refl _) (fun v h' q => by obtain ⟨rfl, q⟩ := q; exact g h' q)
theorem Cxt.v1V (C : Cxt p m meth c Z a0 EL own mn bytes ml ret Ws) {idx : Nat} {y z : MethodName} {yb : ByteArray} {yl : Nat} {yr : Option FieldType} {rm : Room} {F' : List Addr} {cls : String} {a : Addr} {x1 : Value} {Qc : Heap → Prop} {nwc : Bool} (d : Dec bytes pc (.invokevirtual idx) 3 nx) (w1 : Jvm.Cond.methodLink own idx y ∈ Ws) (w2 : Jvm.Cond.declares y ∈ Ws) (w5 : Jvm.Cond.selects cls y z ∈ Ws) (w6 : Jvm.Cond.instanceMethod z ∈ Ws) (w3 : Jvm.Cond.initialized z.cls ∈ Ws) (w4 : Jvm.Cond.code z yb yl yr ∈ Ws) (hy : y.cls ≠ "java/lang/invoke/MethodHandle" ∧ y.cls ≠ "java/lang/invoke/VarHandle") (hpar : (parseMethodDescriptor y.desc).map (fun sg => sg.parameters.length) = some 1) (hsz : Ls.size = ml) (hF : ∀ x ∈ F', x ∈ F ∨ (w ≤ x ∧ x < h.size)) (E : Exa Z h a cls)
    (nf : ∀ vm0 : Vm, (Jvm.Cond.selects cls y z).before args (s.setVm vm0) = true → NotFace (s.setVm vm0) y)
    (K : Con l Z EL nwc z yb yl yr rm F' #[.ref a, x1] h (rV Qc)) (hf : rm.frames + 1 ≤ R.frames) (hl : (st.map fun v => v.category).sum + (yl + 11) + rm.locals ≤ R.locals) (hk : k + rm.cells ≤ R.cells) (hn : n + rm.slots ≤ R.slots) (g : ∀ h', Qc h' → Goes p l e R s m args below meth c Z EL nw Q F (wm nwc w h') h' (k + rm.cells) (n + rm.slots) (mkF m nx Ls st)) (hnw : nw = true → nwc = true := by first | exact id | exact fun _ => rfl) : Goes p l e R s m args below meth c Z EL nw Q F w h k n (mkF m pc Ls (x1 :: .ref a :: st)) :=
  C.virtual hnw hF (argsL := [x1]) (rest := st) d w1 w2 w5 w6 hy (len_par hpar rfl) rfl hsz hk hn E nf (K.pays (C.wrd w4) (C.wrd w3) C.2.2.2.2.2.2.2.2 hf hl) (Nat.le_refl _) (fun v h' q => by obtain ⟨rfl, q⟩ := q; exact g h' q)
theorem Cxt.s1R (C : Cxt p m meth c Z a0 EL own mn bytes ml ret Ws) {idx : Nat} {y : MethodName} {yb : ByteArray} {yl : Nat} {yr : Option FieldType} {rm : Room} {F' : List Addr} {x1 : Value} {Qc : Value → Heap → Prop} {nwc : Bool} (d : Dec bytes pc (.invokestatic idx) 3 nx) (w1 : Jvm.Cond.methodLink own idx y ∈ Ws) (w2 : Jvm.Cond.static y ∈ Ws) (w3 : Jvm.Cond.initialized y.cls ∈ Ws) (w4 : Jvm.Cond.code y yb yl yr ∈ Ws) (hy : y.cls ≠ "java/lang/invoke/MethodHandle" ∧ y.cls ≠ "java/lang/invoke/VarHandle") (hpar : (parseMethodDescriptor y.desc).map (fun sg => sg.parameters.length) = some 1) (hsz : Ls.size = ml) (hF : ∀ x ∈ F', x ∈ F ∨ (w ≤ x ∧ x < h.size))
    (K : Con l Z EL nwc y yb yl yr rm F' #[x1] h (rR Qc)) (hf : rm.frames + 1 ≤ R.frames) (hl : (st.map fun v => v.category).sum + (yl + 11) + rm.locals ≤ R.locals) (hk : k + rm.cells ≤ R.cells) (hn : n + rm.slots ≤ R.slots) (g : ∀ v h', Qc v h' → Goes p l e R s m args below meth c Z EL nw Q F (wm nwc w h') h' (k + rm.cells) (n + rm.slots) (mkF m nx Ls (v :: st))) (hnw : nw = true → nwc = true := by first | exact id | exact fun _ => rfl) : Goes p l e R s m args below meth c Z EL nw Q F w h k n (mkF m pc Ls (x1 :: st)) :=
  C.static hnw hF (argsL := [x1]) (rest := st) d w1 w2 w3 w4 hy (len_par hpar rfl) rfl hsz hk hn (K.pays (C.wrd w4) (C.wrd w3) C.2.2.2.2.2.2.2.2 hf hl) (Nat.le_refl _) (fun v h' q => by obtain ⟨v, rfl, q⟩ := q; exact g v h' q)
theorem Cxt.v1R (C : Cxt p m meth c Z a0 EL own mn bytes ml ret Ws) {idx : Nat} {y z : MethodName} {yb : ByteArray} {yl : Nat} {yr : Option FieldType} {rm : Room} {F' : List Addr} {cls : String} {a : Addr} {x1 : Value} {Qc : Value → Heap → Prop} {nwc : Bool} (d : Dec bytes pc (.invokevirtual idx) 3 nx) (w1 : Jvm.Cond.methodLink own idx y ∈ Ws) (w2 : Jvm.Cond.declares y ∈ Ws) (w5 : Jvm.Cond.selects cls y z ∈ Ws) (w6 : Jvm.Cond.instanceMethod z ∈ Ws) (w3 : Jvm.Cond.initialized z.cls ∈ Ws) (w4 : Jvm.Cond.code z yb yl yr ∈ Ws) (hy : y.cls ≠ "java/lang/invoke/MethodHandle" ∧ y.cls ≠ "java/lang/invoke/VarHandle") (hpar : (parseMethodDescriptor y.desc).map (fun sg => sg.parameters.length) = some 1) (hsz : Ls.size = ml) (hF : ∀ x ∈ F', x ∈ F ∨ (w ≤ x ∧ x < h.size)) (E : Exa Z h a cls)
    (nf : ∀ vm0 : Vm, (Jvm.Cond.selects cls y z).before args (s.setVm vm0) = true → NotFace (s.setVm vm0) y)
    (K : Con l Z EL nwc z yb yl yr rm F' #[.ref a, x1] h (rR Qc)) (hf : rm.frames + 1 ≤ R.frames) (hl : (st.map fun v => v.category).sum + (yl + 11) + rm.locals ≤ R.locals) (hk : k + rm.cells ≤ R.cells) (hn : n + rm.slots ≤ R.slots) (g : ∀ v h', Qc v h' → Goes p l e R s m args below meth c Z EL nw Q F (wm nwc w h') h' (k + rm.cells) (n + rm.slots) (mkF m nx Ls (v :: st))) (hnw : nw = true → nwc = true := by first | exact id | exact fun _ => rfl) : Goes p l e R s m args below meth c Z EL nw Q F w h k n (mkF m pc Ls (x1 :: .ref a :: st)) :=
  C.virtual hnw hF (argsL := [x1]) (rest := st) d w1 w2 w5 w6 hy (len_par hpar rfl) rfl hsz hk hn E nf (K.pays (C.wrd w4) (C.wrd w3) C.2.2.2.2.2.2.2.2 hf hl) (Nat.le_refl _) (fun v h' q => by obtain ⟨v, rfl, q⟩ := q; exact g v h' q)
theorem Cxt.s2V (C : Cxt p m meth c Z a0 EL own mn bytes ml ret Ws) {idx : Nat} {y : MethodName} {yb : ByteArray} {yl : Nat} {yr : Option FieldType} {rm : Room} {F' : List Addr} {x1 x2 : Value} {Qc : Heap → Prop} {nwc : Bool} (d : Dec bytes pc (.invokestatic idx) 3 nx) (w1 : Jvm.Cond.methodLink own idx y ∈ Ws) (w2 : Jvm.Cond.static y ∈ Ws) (w3 : Jvm.Cond.initialized y.cls ∈ Ws) (w4 : Jvm.Cond.code y yb yl yr ∈ Ws) (hy : y.cls ≠ "java/lang/invoke/MethodHandle" ∧ y.cls ≠ "java/lang/invoke/VarHandle") (hpar : (parseMethodDescriptor y.desc).map (fun sg => sg.parameters.length) = some 2) (hsz : Ls.size = ml) (hF : ∀ x ∈ F', x ∈ F ∨ (w ≤ x ∧ x < h.size))
    (K : Con l Z EL nwc y yb yl yr rm F' #[x1, x2] h (rV Qc)) (hf : rm.frames + 1 ≤ R.frames) (hl : (st.map fun v => v.category).sum + (yl + 11) + rm.locals ≤ R.locals) (hk : k + rm.cells ≤ R.cells) (hn : n + rm.slots ≤ R.slots) (g : ∀ h', Qc h' → Goes p l e R s m args below meth c Z EL nw Q F (wm nwc w h') h' (k + rm.cells) (n + rm.slots) (mkF m nx Ls st)) (hnw : nw = true → nwc = true := by first | exact id | exact fun _ => rfl) : Goes p l e R s m args below meth c Z EL nw Q F w h k n (mkF m pc Ls (x2 :: x1 :: st)) :=
  C.static hnw hF (argsL := [x1, x2]) (rest := st) d w1 w2 w3 w4 hy (len_par hpar rfl) rfl hsz hk hn (K.pays (C.wrd w4) (C.wrd w3) C.2.2.2.2.2.2.2.2 hf hl) (Nat.le_refl _) (fun v h' q => by obtain ⟨rfl, q⟩ := q; exact g h' q)
theorem Cxt.c2 (C : Cxt p m meth c Z a0 EL own mn bytes ml ret Ws) {idx : Nat} {y : MethodName} {yb : ByteArray} {yl : Nat} {rm : Room} {F' : List Addr} {a : Addr} {x1 x2 : Value} {Qc : Heap → Prop} {nwc : Bool} (d : Dec bytes pc (.invokespecial idx) 3 nx) (hy1 : y.name = "<init>") (w1 : Jvm.Cond.methodLink own idx y ∈ Ws) (w2 : Jvm.Cond.instanceMethod y ∈ Ws) (w3 : Jvm.Cond.initialized y.cls ∈ Ws) (w4 : Jvm.Cond.code y yb yl none ∈ Ws) (hy : y.cls ≠ "java/lang/invoke/MethodHandle" ∧ y.cls ≠ "java/lang/invoke/VarHandle") (hpar : (parseMethodDescriptor y.desc).map (fun sg => sg.parameters.length) = some 2) (hsz : Ls.size = ml) (hF : ∀ x ∈ F', x ∈ F ∨ (w ≤ x ∧ x < h.size))
    (K : Con l Z EL nwc y yb yl none rm F' #[.ref a, x1, x2] h (rV Qc)) (hf : rm.frames + 1 ≤ R.frames) (hl : (st.map fun v => v.category).sum + (yl + 11) + rm.locals ≤ R.locals) (hk : k + rm.cells ≤ R.cells) (hn : n + rm.slots ≤ R.slots) (g : ∀ h', Qc h' → Goes p l e R s m args below meth c Z EL nw Q F (wm nwc w h') h' (k + rm.cells) (n + rm.slots) (mkF m nx Ls st)) (hnw : nw = true → nwc = true := by first | exact id | exact fun _ => rfl) : Goes p l e R s m args below meth c Z EL nw Q F w h k n (mkF m pc Ls (x2 :: x1 :: .ref a :: st)) :=
  C.special hnw hF (argsL := [x1, x2]) (rest := st) d hy1 w1 w2 w4 hy (len_par hpar rfl) rfl hsz hk hn (K.pays (C.wrd w4) (C.wrd w3) C.2.2.2.2.2.2.2.2 hf hl) (Nat.le_refl _) (fun v h' q => by obtain ⟨rfl, q⟩ := q; exact g h' q)
theorem Cxt.v2V (C : Cxt p m meth c Z a0 EL own mn bytes ml ret Ws) {idx : Nat} {y z : MethodName} {yb : ByteArray} {yl : Nat} {yr : Option FieldType} {rm : Room} {F' : List Addr} {cls : String} {a : Addr} {x1 x2 : Value} {Qc : Heap → Prop} {nwc : Bool} (d : Dec bytes pc (.invokevirtual idx) 3 nx) (w1 : Jvm.Cond.methodLink own idx y ∈ Ws) (w2 : Jvm.Cond.declares y ∈ Ws) (w5 : Jvm.Cond.selects cls y z ∈ Ws) (w6 : Jvm.Cond.instanceMethod z ∈ Ws) (w3 : Jvm.Cond.initialized z.cls ∈ Ws) (w4 : Jvm.Cond.code z yb yl yr ∈ Ws) (hy : y.cls ≠ "java/lang/invoke/MethodHandle" ∧ y.cls ≠ "java/lang/invoke/VarHandle") (hpar : (parseMethodDescriptor y.desc).map (fun sg => sg.parameters.length) = some 2) (hsz : Ls.size = ml) (hF : ∀ x ∈ F', x ∈ F ∨ (w ≤ x ∧ x < h.size)) (E : Exa Z h a cls)
    (nf : ∀ vm0 : Vm, (Jvm.Cond.selects cls y z).before args (s.setVm vm0) = true → NotFace (s.setVm vm0) y)
    (K : Con l Z EL nwc z yb yl yr rm F' #[.ref a, x1, x2] h (rV Qc)) (hf : rm.frames + 1 ≤ R.frames) (hl : (st.map fun v => v.category).sum + (yl + 11) + rm.locals ≤ R.locals) (hk : k + rm.cells ≤ R.cells) (hn : n + rm.slots ≤ R.slots) (g : ∀ h', Qc h' → Goes p l e R s m args below meth c Z EL nw Q F (wm nwc w h') h' (k + rm.cells) (n + rm.slots) (mkF m nx Ls st)) (hnw : nw = true → nwc = true := by first | exact id | exact fun _ => rfl) : Goes p l e R s m args below meth c Z EL nw Q F w h k n (mkF m pc Ls (x2 :: x1 :: .ref a :: st)) :=
  C.virtual hnw hF (argsL := [x1, x2]) (rest := st) d w1 w2 w5 w6 hy (len_par hpar rfl) rfl hsz hk hn E nf (K.pays (C.wrd w4) (C.wrd w3) C.2.2.2.2.2.2.2.2 hf hl) (Nat.le_refl _) (fun v h' q => by obtain ⟨rfl, q⟩ := q; exact g h' q)
theorem Cxt.s2R (C : Cxt p m meth c Z a0 EL own mn bytes ml ret Ws) {idx : Nat} {y : MethodName} {yb : ByteArray} {yl : Nat} {yr : Option FieldType} {rm : Room} {F' : List Addr} {x1 x2 : Value} {Qc : Value → Heap → Prop} {nwc : Bool} (d : Dec bytes pc (.invokestatic idx) 3 nx) (w1 : Jvm.Cond.methodLink own idx y ∈ Ws) (w2 : Jvm.Cond.static y ∈ Ws) (w3 : Jvm.Cond.initialized y.cls ∈ Ws) (w4 : Jvm.Cond.code y yb yl yr ∈ Ws) (hy : y.cls ≠ "java/lang/invoke/MethodHandle" ∧ y.cls ≠ "java/lang/invoke/VarHandle") (hpar : (parseMethodDescriptor y.desc).map (fun sg => sg.parameters.length) = some 2) (hsz : Ls.size = ml) (hF : ∀ x ∈ F', x ∈ F ∨ (w ≤ x ∧ x < h.size))
    (K : Con l Z EL nwc y yb yl yr rm F' #[x1, x2] h (rR Qc)) (hf : rm.frames + 1 ≤ R.frames) (hl : (st.map fun v => v.category).sum + (yl + 11) + rm.locals ≤ R.locals) (hk : k + rm.cells ≤ R.cells) (hn : n + rm.slots ≤ R.slots) (g : ∀ v h', Qc v h' → Goes p l e R s m args below meth c Z EL nw Q F (wm nwc w h') h' (k + rm.cells) (n + rm.slots) (mkF m nx Ls (v :: st))) (hnw : nw = true → nwc = true := by first | exact id | exact fun _ => rfl) : Goes p l e R s m args below meth c Z EL nw Q F w h k n (mkF m pc Ls (x2 :: x1 :: st)) :=
  C.static hnw hF (argsL := [x1, x2]) (rest := st) d w1 w2 w3 w4 hy (len_par hpar rfl) rfl hsz hk hn (K.pays (C.wrd w4) (C.wrd w3) C.2.2.2.2.2.2.2.2 hf hl) (Nat.le_refl _) (fun v h' q => by obtain ⟨v, rfl, q⟩ := q; exact g v h' q)
theorem Cxt.v2R (C : Cxt p m meth c Z a0 EL own mn bytes ml ret Ws) {idx : Nat} {y z : MethodName} {yb : ByteArray} {yl : Nat} {yr : Option FieldType} {rm : Room} {F' : List Addr} {cls : String} {a : Addr} {x1 x2 : Value} {Qc : Value → Heap → Prop} {nwc : Bool} (d : Dec bytes pc (.invokevirtual idx) 3 nx) (w1 : Jvm.Cond.methodLink own idx y ∈ Ws) (w2 : Jvm.Cond.declares y ∈ Ws) (w5 : Jvm.Cond.selects cls y z ∈ Ws) (w6 : Jvm.Cond.instanceMethod z ∈ Ws) (w3 : Jvm.Cond.initialized z.cls ∈ Ws) (w4 : Jvm.Cond.code z yb yl yr ∈ Ws) (hy : y.cls ≠ "java/lang/invoke/MethodHandle" ∧ y.cls ≠ "java/lang/invoke/VarHandle") (hpar : (parseMethodDescriptor y.desc).map (fun sg => sg.parameters.length) = some 2) (hsz : Ls.size = ml) (hF : ∀ x ∈ F', x ∈ F ∨ (w ≤ x ∧ x < h.size)) (E : Exa Z h a cls)
    (nf : ∀ vm0 : Vm, (Jvm.Cond.selects cls y z).before args (s.setVm vm0) = true → NotFace (s.setVm vm0) y)
    (K : Con l Z EL nwc z yb yl yr rm F' #[.ref a, x1, x2] h (rR Qc)) (hf : rm.frames + 1 ≤ R.frames) (hl : (st.map fun v => v.category).sum + (yl + 11) + rm.locals ≤ R.locals) (hk : k + rm.cells ≤ R.cells) (hn : n + rm.slots ≤ R.slots) (g : ∀ v h', Qc v h' → Goes p l e R s m args below meth c Z EL nw Q F (wm nwc w h') h' (k + rm.cells) (n + rm.slots) (mkF m nx Ls (v :: st))) (hnw : nw = true → nwc = true := by first | exact id | exact fun _ => rfl) : Goes p l e R s m args below meth c Z EL nw Q F w h k n (mkF m pc Ls (x2 :: x1 :: .ref a :: st)) :=
  C.virtual hnw hF (argsL := [x1, x2]) (rest := st) d w1 w2 w5 w6 hy (len_par hpar rfl) rfl hsz hk hn E nf (K.pays (C.wrd w4) (C.wrd w3) C.2.2.2.2.2.2.2.2 hf hl) (Nat.le_refl _) (fun v h' q => by obtain ⟨v, rfl, q⟩ := q; exact g v h' q)
theorem Cxt.s3V (C : Cxt p m meth c Z a0 EL own mn bytes ml ret Ws) {idx : Nat} {y : MethodName} {yb : ByteArray} {yl : Nat} {yr : Option FieldType} {rm : Room} {F' : List Addr} {x1 x2 x3 : Value} {Qc : Heap → Prop} {nwc : Bool} (d : Dec bytes pc (.invokestatic idx) 3 nx) (w1 : Jvm.Cond.methodLink own idx y ∈ Ws) (w2 : Jvm.Cond.static y ∈ Ws) (w3 : Jvm.Cond.initialized y.cls ∈ Ws) (w4 : Jvm.Cond.code y yb yl yr ∈ Ws) (hy : y.cls ≠ "java/lang/invoke/MethodHandle" ∧ y.cls ≠ "java/lang/invoke/VarHandle") (hpar : (parseMethodDescriptor y.desc).map (fun sg => sg.parameters.length) = some 3) (hsz : Ls.size = ml) (hF : ∀ x ∈ F', x ∈ F ∨ (w ≤ x ∧ x < h.size))
    (K : Con l Z EL nwc y yb yl yr rm F' #[x1, x2, x3] h (rV Qc)) (hf : rm.frames + 1 ≤ R.frames) (hl : (st.map fun v => v.category).sum + (yl + 11) + rm.locals ≤ R.locals) (hk : k + rm.cells ≤ R.cells) (hn : n + rm.slots ≤ R.slots) (g : ∀ h', Qc h' → Goes p l e R s m args below meth c Z EL nw Q F (wm nwc w h') h' (k + rm.cells) (n + rm.slots) (mkF m nx Ls st)) (hnw : nw = true → nwc = true := by first | exact id | exact fun _ => rfl) : Goes p l e R s m args below meth c Z EL nw Q F w h k n (mkF m pc Ls (x3 :: x2 :: x1 :: st)) :=
  C.static hnw hF (argsL := [x1, x2, x3]) (rest := st) d w1 w2 w3 w4 hy (len_par hpar rfl) rfl hsz hk hn (K.pays (C.wrd w4) (C.wrd w3) C.2.2.2.2.2.2.2.2 hf hl) (Nat.le_refl _) (fun v h' q => by obtain ⟨rfl, q⟩ := q; exact g h' q)
theorem Cxt.c3 (C : Cxt p m meth c Z a0 EL own mn bytes ml ret Ws) {idx : Nat} {y : MethodName} {yb : ByteArray} {yl : Nat} {rm : Room} {F' : List Addr} {a : Addr} {x1 x2 x3 : Value} {Qc : Heap → Prop} {nwc : Bool} (d : Dec bytes pc (.invokespecial idx) 3 nx) (hy1 : y.name = "<init>") (w1 : Jvm.Cond.methodLink own idx y ∈ Ws) (w2 : Jvm.Cond.instanceMethod y ∈ Ws) (w3 : Jvm.Cond.initialized y.cls ∈ Ws) (w4 : Jvm.Cond.code y yb yl none ∈ Ws) (hy : y.cls ≠ "java/lang/invoke/MethodHandle" ∧ y.cls ≠ "java/lang/invoke/VarHandle") (hpar : (parseMethodDescriptor y.desc).map (fun sg => sg.parameters.length) = some 3) (hsz : Ls.size = ml) (hF : ∀ x ∈ F', x ∈ F ∨ (w ≤ x ∧ x < h.size))
    (K : Con l Z EL nwc y yb yl none rm F' #[.ref a, x1, x2, x3] h (rV Qc)) (hf : rm.frames + 1 ≤ R.frames) (hl : (st.map fun v => v.category).sum + (yl + 11) + rm.locals ≤ R.locals) (hk : k + rm.cells ≤ R.cells) (hn : n + rm.slots ≤ R.slots) (g : ∀ h', Qc h' → Goes p l e R s m args below meth c Z EL nw Q F (wm nwc w h') h' (k + rm.cells) (n + rm.slots) (mkF m nx Ls st)) (hnw : nw = true → nwc = true := by first | exact id | exact fun _ => rfl) : Goes p l e R s m args below meth c Z EL nw Q F w h k n (mkF m pc Ls (x3 :: x2 :: x1 :: .ref a :: st)) :=
  C.special hnw hF (argsL := [x1, x2, x3]) (rest := st) d hy1 w1 w2 w4 hy (len_par hpar rfl) rfl hsz hk hn (K.pays (C.wrd w4) (C.wrd w3) C.2.2.2.2.2.2.2.2 hf hl) (Nat.le_refl _) (fun v h' q => by obtain ⟨rfl, q⟩ := q; exact g h' q)
theorem Cxt.v3V (C : Cxt p m meth c Z a0 EL own mn bytes ml ret Ws) {idx : Nat} {y z : MethodName} {yb : ByteArray} {yl : Nat} {yr : Option FieldType} {rm : Room} {F' : List Addr} {cls : String} {a : Addr} {x1 x2 x3 : Value} {Qc : Heap → Prop} {nwc : Bool} (d : Dec bytes pc (.invokevirtual idx) 3 nx) (w1 : Jvm.Cond.methodLink own idx y ∈ Ws) (w2 : Jvm.Cond.declares y ∈ Ws) (w5 : Jvm.Cond.selects cls y z ∈ Ws) (w6 : Jvm.Cond.instanceMethod z ∈ Ws) (w3 : Jvm.Cond.initialized z.cls ∈ Ws) (w4 : Jvm.Cond.code z yb yl yr ∈ Ws) (hy : y.cls ≠ "java/lang/invoke/MethodHandle" ∧ y.cls ≠ "java/lang/invoke/VarHandle") (hpar : (parseMethodDescriptor y.desc).map (fun sg => sg.parameters.length) = some 3) (hsz : Ls.size = ml) (hF : ∀ x ∈ F', x ∈ F ∨ (w ≤ x ∧ x < h.size)) (E : Exa Z h a cls)
    (nf : ∀ vm0 : Vm, (Jvm.Cond.selects cls y z).before args (s.setVm vm0) = true → NotFace (s.setVm vm0) y)
    (K : Con l Z EL nwc z yb yl yr rm F' #[.ref a, x1, x2, x3] h (rV Qc)) (hf : rm.frames + 1 ≤ R.frames) (hl : (st.map fun v => v.category).sum + (yl + 11) + rm.locals ≤ R.locals) (hk : k + rm.cells ≤ R.cells) (hn : n + rm.slots ≤ R.slots) (g : ∀ h', Qc h' → Goes p l e R s m args below meth c Z EL nw Q F (wm nwc w h') h' (k + rm.cells) (n + rm.slots) (mkF m nx Ls st)) (hnw : nw = true → nwc = true := by first | exact id | exact fun _ => rfl) : Goes p l e R s m args below meth c Z EL nw Q F w h k n (mkF m pc Ls (x3 :: x2 :: x1 :: .ref a :: st)) :=
  C.virtual hnw hF (argsL := [x1, x2, x3]) (rest := st) d w1 w2 w5 w6 hy (len_par hpar rfl) rfl hsz hk hn E nf (K.pays (C.wrd w4) (C.wrd w3) C.2.2.2.2.2.2.2.2 hf hl) (Nat.le_refl _) (fun v h' q => by obtain ⟨rfl, q⟩ := q; exact g h' q)
theorem Cxt.s3R (C : Cxt p m meth c Z a0 EL own mn bytes ml ret Ws) {idx : Nat} {y : MethodName} {yb : ByteArray} {yl : Nat} {yr : Option FieldType} {rm : Room} {F' : List Addr} {x1 x2 x3 : Value} {Qc : Value → Heap → Prop} {nwc : Bool} (d : Dec bytes pc (.invokestatic idx) 3 nx) (w1 : Jvm.Cond.methodLink own idx y ∈ Ws) (w2 : Jvm.Cond.static y ∈ Ws) (w3 : Jvm.Cond.initialized y.cls ∈ Ws) (w4 : Jvm.Cond.code y yb yl yr ∈ Ws) (hy : y.cls ≠ "java/lang/invoke/MethodHandle" ∧ y.cls ≠ "java/lang/invoke/VarHandle") (hpar : (parseMethodDescriptor y.desc).map (fun sg => sg.parameters.length) = some 3) (hsz : Ls.size = ml) (hF : ∀ x ∈ F', x ∈ F ∨ (w ≤ x ∧ x < h.size))
    (K : Con l Z EL nwc y yb yl yr rm F' #[x1, x2, x3] h (rR Qc)) (hf : rm.frames + 1 ≤ R.frames) (hl : (st.map fun v => v.category).sum + (yl + 11) + rm.locals ≤ R.locals) (hk : k + rm.cells ≤ R.cells) (hn : n + rm.slots ≤ R.slots) (g : ∀ v h', Qc v h' → Goes p l e R s m args below meth c Z EL nw Q F (wm nwc w h') h' (k + rm.cells) (n + rm.slots) (mkF m nx Ls (v :: st))) (hnw : nw = true → nwc = true := by first | exact id | exact fun _ => rfl) : Goes p l e R s m args below meth c Z EL nw Q F w h k n (mkF m pc Ls (x3 :: x2 :: x1 :: st)) :=
  C.static hnw hF (argsL := [x1, x2, x3]) (rest := st) d w1 w2 w3 w4 hy (len_par hpar rfl) rfl hsz hk hn (K.pays (C.wrd w4) (C.wrd w3) C.2.2.2.2.2.2.2.2 hf hl) (Nat.le_refl _) (fun v h' q => by obtain ⟨v, rfl, q⟩ := q; exact g v h' q)
theorem Cxt.v3R (C : Cxt p m meth c Z a0 EL own mn bytes ml ret Ws) {idx : Nat} {y z : MethodName} {yb : ByteArray} {yl : Nat} {yr : Option FieldType} {rm : Room} {F' : List Addr} {cls : String} {a : Addr} {x1 x2 x3 : Value} {Qc : Value → Heap → Prop} {nwc : Bool} (d : Dec bytes pc (.invokevirtual idx) 3 nx) (w1 : Jvm.Cond.methodLink own idx y ∈ Ws) (w2 : Jvm.Cond.declares y ∈ Ws) (w5 : Jvm.Cond.selects cls y z ∈ Ws) (w6 : Jvm.Cond.instanceMethod z ∈ Ws) (w3 : Jvm.Cond.initialized z.cls ∈ Ws) (w4 : Jvm.Cond.code z yb yl yr ∈ Ws) (hy : y.cls ≠ "java/lang/invoke/MethodHandle" ∧ y.cls ≠ "java/lang/invoke/VarHandle") (hpar : (parseMethodDescriptor y.desc).map (fun sg => sg.parameters.length) = some 3) (hsz : Ls.size = ml) (hF : ∀ x ∈ F', x ∈ F ∨ (w ≤ x ∧ x < h.size)) (E : Exa Z h a cls)
    (nf : ∀ vm0 : Vm, (Jvm.Cond.selects cls y z).before args (s.setVm vm0) = true → NotFace (s.setVm vm0) y)
    (K : Con l Z EL nwc z yb yl yr rm F' #[.ref a, x1, x2, x3] h (rR Qc)) (hf : rm.frames + 1 ≤ R.frames) (hl : (st.map fun v => v.category).sum + (yl + 11) + rm.locals ≤ R.locals) (hk : k + rm.cells ≤ R.cells) (hn : n + rm.slots ≤ R.slots) (g : ∀ v h', Qc v h' → Goes p l e R s m args below meth c Z EL nw Q F (wm nwc w h') h' (k + rm.cells) (n + rm.slots) (mkF m nx Ls (v :: st))) (hnw : nw = true → nwc = true := by first | exact id | exact fun _ => rfl) : Goes p l e R s m args below meth c Z EL nw Q F w h k n (mkF m pc Ls (x3 :: x2 :: x1 :: .ref a :: st)) :=
  C.virtual hnw hF (argsL := [x1, x2, x3]) (rest := st) d w1 w2 w5 w6 hy (len_par hpar rfl) rfl hsz hk hn E nf (K.pays (C.wrd w4) (C.wrd w3) C.2.2.2.2.2.2.2.2 hf hl) (Nat.le_refl _) (fun v h' q => by obtain ⟨v, rfl, q⟩ := q; exact g v h' q)
theorem Cxt.s4V (C : Cxt p m meth c Z a0 EL own mn bytes ml ret Ws) {idx : Nat} {y : MethodName} {yb : ByteArray} {yl : Nat} {yr : Option FieldType} {rm : Room} {F' : List Addr} {x1 x2 x3 x4 : Value} {Qc : Heap → Prop} {nwc : Bool} (d : Dec bytes pc (.invokestatic idx) 3 nx) (w1 : Jvm.Cond.methodLink own idx y ∈ Ws) (w2 : Jvm.Cond.static y ∈ Ws) (w3 : Jvm.Cond.initialized y.cls ∈ Ws) (w4 : Jvm.Cond.code y yb yl yr ∈ Ws) (hy : y.cls ≠ "java/lang/invoke/MethodHandle" ∧ y.cls ≠ "java/lang/invoke/VarHandle") (hpar : (parseMethodDescriptor y.desc).map (fun sg => sg.parameters.length) = some 4) (hsz : Ls.size = ml) (hF : ∀ x ∈ F', x ∈ F ∨ (w ≤ x ∧ x < h.size))
    (K : Con l Z EL nwc y yb yl yr rm F' #[x1, x2, x3, x4] h (rV Qc)) (hf : rm.frames + 1 ≤ R.frames) (hl : (st.map fun v => v.category).sum + (yl + 11) + rm.locals ≤ R.locals) (hk : k + rm.cells ≤ R.cells) (hn : n + rm.slots ≤ R.slots) (g : ∀ h', Qc h' → Goes p l e R s m args below meth c Z EL nw Q F (wm nwc w h') h' (k + rm.cells) (n + rm.slots) (mkF m nx Ls st)) (hnw : nw = true → nwc = true := by first | exact id | exact fun _ => rfl) : Goes p l e R s m args below meth c Z EL nw Q F w h k n (mkF m pc Ls (x4 :: x3 :: x2 :: x1 :: st)) :=
  C.static hnw hF (argsL := [x1, x2, x3, x4]) (rest := st) d w1 w2 w3 w4 hy (len_par hpar rfl) rfl hsz hk hn (K.pays (C.wrd w4) (C.wrd w3) C.2.2.2.2.2.2.2.2 hf hl) (Nat.le_refl _) (fun v h' q => by obtain ⟨rfl, q⟩ := q; exact g h' q)
theorem Cxt.c4 (C : Cxt p m meth c Z a0 EL own mn bytes ml ret Ws) {idx : Nat} {y : MethodName} {yb : ByteArray} {yl : Nat} {rm : Room} {F' : List Addr} {a : Addr} {x1 x2 x3 x4 : Value} {Qc : Heap → Prop} {nwc : Bool} (d : Dec bytes pc (.invokespecial idx) 3 nx) (hy1 : y.name = "<init>") (w1 : Jvm.Cond.methodLink own idx y ∈ Ws) (w2 : Jvm.Cond.instanceMethod y ∈ Ws) (w3 : Jvm.Cond.initialized y.cls ∈ Ws) (w4 : Jvm.Cond.code y yb yl none ∈ Ws) (hy : y.cls ≠ "java/lang/invoke/MethodHandle" ∧ y.cls ≠ "java/lang/invoke/VarHandle") (hpar : (parseMethodDescriptor y.desc).map (fun sg => sg.parameters.length) = some 4) (hsz : Ls.size = ml) (hF : ∀ x ∈ F', x ∈ F ∨ (w ≤ x ∧ x < h.size))
    (K : Con l Z EL nwc y yb yl none rm F' #[.ref a, x1, x2, x3, x4] h (rV Qc)) (hf : rm.frames + 1 ≤ R.frames) (hl : (st.map fun v => v.category).sum + (yl + 11) + rm.locals ≤ R.locals) (hk : k + rm.cells ≤ R.cells) (hn : n + rm.slots ≤ R.slots) (g : ∀ h', Qc h' → Goes p l e R s m args below meth c Z EL nw Q F (wm nwc w h') h' (k + rm.cells) (n + rm.slots) (mkF m nx Ls st)) (hnw : nw = true → nwc = true := by first | exact id | exact fun _ => rfl) : Goes p l e R s m args below meth c Z EL nw Q F w h k n (mkF m pc Ls (x4 :: x3 :: x2 :: x1 :: .ref a :: st)) :=
  C.special hnw hF (argsL := [x1, x2, x3, x4]) (rest := st) d hy1 w1 w2 w4 hy (len_par hpar rfl) rfl hsz hk hn (K.pays (C.wrd w4) (C.wrd w3) C.2.2.2.2.2.2.2.2 hf hl) (Nat.le_refl _) (fun v h' q => by obtain ⟨rfl, q⟩ := q; exact g h' q)
theorem Cxt.v4V (C : Cxt p m meth c Z a0 EL own mn bytes ml ret Ws) {idx : Nat} {y z : MethodName} {yb : ByteArray} {yl : Nat} {yr : Option FieldType} {rm : Room} {F' : List Addr} {cls : String} {a : Addr} {x1 x2 x3 x4 : Value} {Qc : Heap → Prop} {nwc : Bool} (d : Dec bytes pc (.invokevirtual idx) 3 nx) (w1 : Jvm.Cond.methodLink own idx y ∈ Ws) (w2 : Jvm.Cond.declares y ∈ Ws) (w5 : Jvm.Cond.selects cls y z ∈ Ws) (w6 : Jvm.Cond.instanceMethod z ∈ Ws) (w3 : Jvm.Cond.initialized z.cls ∈ Ws) (w4 : Jvm.Cond.code z yb yl yr ∈ Ws) (hy : y.cls ≠ "java/lang/invoke/MethodHandle" ∧ y.cls ≠ "java/lang/invoke/VarHandle") (hpar : (parseMethodDescriptor y.desc).map (fun sg => sg.parameters.length) = some 4) (hsz : Ls.size = ml) (hF : ∀ x ∈ F', x ∈ F ∨ (w ≤ x ∧ x < h.size)) (E : Exa Z h a cls)
    (nf : ∀ vm0 : Vm, (Jvm.Cond.selects cls y z).before args (s.setVm vm0) = true → NotFace (s.setVm vm0) y)
    (K : Con l Z EL nwc z yb yl yr rm F' #[.ref a, x1, x2, x3, x4] h (rV Qc)) (hf : rm.frames + 1 ≤ R.frames) (hl : (st.map fun v => v.category).sum + (yl + 11) + rm.locals ≤ R.locals) (hk : k + rm.cells ≤ R.cells) (hn : n + rm.slots ≤ R.slots) (g : ∀ h', Qc h' → Goes p l e R s m args below meth c Z EL nw Q F (wm nwc w h') h' (k + rm.cells) (n + rm.slots) (mkF m nx Ls st)) (hnw : nw = true → nwc = true := by first | exact id | exact fun _ => rfl) : Goes p l e R s m args below meth c Z EL nw Q F w h k n (mkF m pc Ls (x4 :: x3 :: x2 :: x1 :: .ref a :: st)) :=
  C.virtual hnw hF (argsL := [x1, x2, x3, x4]) (rest := st) d w1 w2 w5 w6 hy (len_par hpar rfl) rfl hsz hk hn E nf (K.pays (C.wrd w4) (C.wrd w3) C.2.2.2.2.2.2.2.2 hf hl) (Nat.le_refl _) (fun v h' q => by obtain ⟨rfl, q⟩ := q; exact g h' q)
theorem Cxt.s4R (C : Cxt p m meth c Z a0 EL own mn bytes ml ret Ws) {idx : Nat} {y : MethodName} {yb : ByteArray} {yl : Nat} {yr : Option FieldType} {rm : Room} {F' : List Addr} {x1 x2 x3 x4 : Value} {Qc : Value → Heap → Prop} {nwc : Bool} (d : Dec bytes pc (.invokestatic idx) 3 nx) (w1 : Jvm.Cond.methodLink own idx y ∈ Ws) (w2 : Jvm.Cond.static y ∈ Ws) (w3 : Jvm.Cond.initialized y.cls ∈ Ws) (w4 : Jvm.Cond.code y yb yl yr ∈ Ws) (hy : y.cls ≠ "java/lang/invoke/MethodHandle" ∧ y.cls ≠ "java/lang/invoke/VarHandle") (hpar : (parseMethodDescriptor y.desc).map (fun sg => sg.parameters.length) = some 4) (hsz : Ls.size = ml) (hF : ∀ x ∈ F', x ∈ F ∨ (w ≤ x ∧ x < h.size))
    (K : Con l Z EL nwc y yb yl yr rm F' #[x1, x2, x3, x4] h (rR Qc)) (hf : rm.frames + 1 ≤ R.frames) (hl : (st.map fun v => v.category).sum + (yl + 11) + rm.locals ≤ R.locals) (hk : k + rm.cells ≤ R.cells) (hn : n + rm.slots ≤ R.slots) (g : ∀ v h', Qc v h' → Goes p l e R s m args below meth c Z EL nw Q F (wm nwc w h') h' (k + rm.cells) (n + rm.slots) (mkF m nx Ls (v :: st))) (hnw : nw = true → nwc = true := by first | exact id | exact fun _ => rfl) : Goes p l e R s m args below meth c Z EL nw Q F w h k n (mkF m pc Ls (x4 :: x3 :: x2 :: x1 :: st)) :=
  C.static hnw hF (argsL := [x1, x2, x3, x4]) (rest := st) d w1 w2 w3 w4 hy (len_par hpar rfl) rfl hsz hk hn (K.pays (C.wrd w4) (C.wrd w3) C.2.2.2.2.2.2.2.2 hf hl) (Nat.le_refl _) (fun v h' q => by obtain ⟨v, rfl, q⟩ := q; exact g v h' q)
theorem Cxt.v4R (C : Cxt p m meth c Z a0 EL own mn bytes ml ret Ws) {idx : Nat} {y z : MethodName} {yb : ByteArray} {yl : Nat} {yr : Option FieldType} {rm : Room} {F' : List Addr} {cls : String} {a : Addr} {x1 x2 x3 x4 : Value} {Qc : Value → Heap → Prop} {nwc : Bool} (d : Dec bytes pc (.invokevirtual idx) 3 nx) (w1 : Jvm.Cond.methodLink own idx y ∈ Ws) (w2 : Jvm.Cond.declares y ∈ Ws) (w5 : Jvm.Cond.selects cls y z ∈ Ws) (w6 : Jvm.Cond.instanceMethod z ∈ Ws) (w3 : Jvm.Cond.initialized z.cls ∈ Ws) (w4 : Jvm.Cond.code z yb yl yr ∈ Ws) (hy : y.cls ≠ "java/lang/invoke/MethodHandle" ∧ y.cls ≠ "java/lang/invoke/VarHandle") (hpar : (parseMethodDescriptor y.desc).map (fun sg => sg.parameters.length) = some 4) (hsz : Ls.size = ml) (hF : ∀ x ∈ F', x ∈ F ∨ (w ≤ x ∧ x < h.size)) (E : Exa Z h a cls)
    (nf : ∀ vm0 : Vm, (Jvm.Cond.selects cls y z).before args (s.setVm vm0) = true → NotFace (s.setVm vm0) y)
    (K : Con l Z EL nwc z yb yl yr rm F' #[.ref a, x1, x2, x3, x4] h (rR Qc)) (hf : rm.frames + 1 ≤ R.frames) (hl : (st.map fun v => v.category).sum + (yl + 11) + rm.locals ≤ R.locals) (hk : k + rm.cells ≤ R.cells) (hn : n + rm.slots ≤ R.slots) (g : ∀ v h', Qc v h' → Goes p l e R s m args below meth c Z EL nw Q F (wm nwc w h') h' (k + rm.cells) (n + rm.slots) (mkF m nx Ls (v :: st))) (hnw : nw = true → nwc = true := by first | exact id | exact fun _ => rfl) : Goes p l e R s m args below meth c Z EL nw Q F w h k n (mkF m pc Ls (x4 :: x3 :: x2 :: x1 :: .ref a :: st)) :=
  C.virtual hnw hF (argsL := [x1, x2, x3, x4]) (rest := st) d w1 w2 w5 w6 hy (len_par hpar rfl) rfl hsz hk hn E nf (K.pays (C.wrd w4) (C.wrd w3) C.2.2.2.2.2.2.2.2 hf hl) (Nat.le_refl _) (fun v h' q => by obtain ⟨v, rfl, q⟩ := q; exact g v h' q)
theorem Cxt.s5V (C : Cxt p m meth c Z a0 EL own mn bytes ml ret Ws) {idx : Nat} {y : MethodName} {yb : ByteArray} {yl : Nat} {yr : Option FieldType} {rm : Room} {F' : List Addr} {x1 x2 x3 x4 x5 : Value} {Qc : Heap → Prop} {nwc : Bool} (d : Dec bytes pc (.invokestatic idx) 3 nx) (w1 : Jvm.Cond.methodLink own idx y ∈ Ws) (w2 : Jvm.Cond.static y ∈ Ws) (w3 : Jvm.Cond.initialized y.cls ∈ Ws) (w4 : Jvm.Cond.code y yb yl yr ∈ Ws) (hy : y.cls ≠ "java/lang/invoke/MethodHandle" ∧ y.cls ≠ "java/lang/invoke/VarHandle") (hpar : (parseMethodDescriptor y.desc).map (fun sg => sg.parameters.length) = some 5) (hsz : Ls.size = ml) (hF : ∀ x ∈ F', x ∈ F ∨ (w ≤ x ∧ x < h.size))
    (K : Con l Z EL nwc y yb yl yr rm F' #[x1, x2, x3, x4, x5] h (rV Qc)) (hf : rm.frames + 1 ≤ R.frames) (hl : (st.map fun v => v.category).sum + (yl + 11) + rm.locals ≤ R.locals) (hk : k + rm.cells ≤ R.cells) (hn : n + rm.slots ≤ R.slots) (g : ∀ h', Qc h' → Goes p l e R s m args below meth c Z EL nw Q F (wm nwc w h') h' (k + rm.cells) (n + rm.slots) (mkF m nx Ls st)) (hnw : nw = true → nwc = true := by first | exact id | exact fun _ => rfl) : Goes p l e R s m args below meth c Z EL nw Q F w h k n (mkF m pc Ls (x5 :: x4 :: x3 :: x2 :: x1 :: st)) :=
  C.static hnw hF (argsL := [x1, x2, x3, x4, x5]) (rest := st) d w1 w2 w3 w4 hy (len_par hpar rfl) rfl hsz hk hn (K.pays (C.wrd w4) (C.wrd w3) C.2.2.2.2.2.2.2.2 hf hl) (Nat.le_refl _) (fun v h' q => by obtain ⟨rfl, q⟩ := q; exact g h' q)
theorem Cxt.c5 (C : Cxt p m meth c Z a0 EL own mn bytes ml ret Ws) {idx : Nat} {y : MethodName} {yb : ByteArray} {yl : Nat} {rm : Room} {F' : List Addr} {a : Addr} {x1 x2 x3 x4 x5 : Value} {Qc : Heap → Prop} {nwc : Bool} (d : Dec bytes pc (.invokespecial idx) 3 nx) (hy1 : y.name = "<init>") (w1 : Jvm.Cond.methodLink own idx y ∈ Ws) (w2 : Jvm.Cond.instanceMethod y ∈ Ws) (w3 : Jvm.Cond.initialized y.cls ∈ Ws) (w4 : Jvm.Cond.code y yb yl none ∈ Ws) (hy : y.cls ≠ "java/lang/invoke/MethodHandle" ∧ y.cls ≠ "java/lang/invoke/VarHandle") (hpar : (parseMethodDescriptor y.desc).map (fun sg => sg.parameters.length) = some 5) (hsz : Ls.size = ml) (hF : ∀ x ∈ F', x ∈ F ∨ (w ≤ x ∧ x < h.size))
    (K : Con l Z EL nwc y yb yl none rm F' #[.ref a, x1, x2, x3, x4, x5] h (rV Qc)) (hf : rm.frames + 1 ≤ R.frames) (hl : (st.map fun v => v.category).sum + (yl + 11) + rm.locals ≤ R.locals) (hk : k + rm.cells ≤ R.cells) (hn : n + rm.slots ≤ R.slots) (g : ∀ h', Qc h' → Goes p l e R s m args below meth c Z EL nw Q F (wm nwc w h') h' (k + rm.cells) (n + rm.slots) (mkF m nx Ls st)) (hnw : nw = true → nwc = true := by first | exact id | exact fun _ => rfl) : Goes p l e R s m args below meth c Z EL nw Q F w h k n (mkF m pc Ls (x5 :: x4 :: x3 :: x2 :: x1 :: .ref a :: st)) :=
  C.special hnw hF (argsL := [x1, x2, x3, x4, x5]) (rest := st) d hy1 w1 w2 w4 hy (len_par hpar rfl) rfl hsz hk hn (K.pays (C.wrd w4) (C.wrd w3) C.2.2.2.2.2.2.2.2 hf hl) (Nat.le_refl _) (fun v h' q => by obtain ⟨rfl, q⟩ := q; exact g h' q)
theorem Cxt.s5R (C : Cxt p m meth c Z a0 EL own mn bytes ml ret Ws) {idx : Nat} {y : MethodName} {yb : ByteArray} {yl : Nat} {yr : Option FieldType} {rm : Room} {F' : List Addr} {x1 x2 x3 x4 x5 : Value} {Qc : Value → Heap → Prop} {nwc : Bool} (d : Dec bytes pc (.invokestatic idx) 3 nx) (w1 : Jvm.Cond.methodLink own idx y ∈ Ws) (w2 : Jvm.Cond.static y ∈ Ws) (w3 : Jvm.Cond.initialized y.cls ∈ Ws) (w4 : Jvm.Cond.code y yb yl yr ∈ Ws) (hy : y.cls ≠ "java/lang/invoke/MethodHandle" ∧ y.cls ≠ "java/lang/invoke/VarHandle") (hpar : (parseMethodDescriptor y.desc).map (fun sg => sg.parameters.length) = some 5) (hsz : Ls.size = ml) (hF : ∀ x ∈ F', x ∈ F ∨ (w ≤ x ∧ x < h.size))
    (K : Con l Z EL nwc y yb yl yr rm F' #[x1, x2, x3, x4, x5] h (rR Qc)) (hf : rm.frames + 1 ≤ R.frames) (hl : (st.map fun v => v.category).sum + (yl + 11) + rm.locals ≤ R.locals) (hk : k + rm.cells ≤ R.cells) (hn : n + rm.slots ≤ R.slots) (g : ∀ v h', Qc v h' → Goes p l e R s m args below meth c Z EL nw Q F (wm nwc w h') h' (k + rm.cells) (n + rm.slots) (mkF m nx Ls (v :: st))) (hnw : nw = true → nwc = true := by first | exact id | exact fun _ => rfl) : Goes p l e R s m args below meth c Z EL nw Q F w h k n (mkF m pc Ls (x5 :: x4 :: x3 :: x2 :: x1 :: st)) :=
  C.static hnw hF (argsL := [x1, x2, x3, x4, x5]) (rest := st) d w1 w2 w3 w4 hy (len_par hpar rfl) rfl hsz hk hn (K.pays (C.wrd w4) (C.wrd w3) C.2.2.2.2.2.2.2.2 hf hl) (Nat.le_refl _) (fun v h' q => by obtain ⟨v, rfl, q⟩ := q; exact g v h' q)
theorem Cxt.s6V (C : Cxt p m meth c Z a0 EL own mn bytes ml ret Ws) {idx : Nat} {y : MethodName} {yb : ByteArray} {yl : Nat} {yr : Option FieldType} {rm : Room} {F' : List Addr} {x1 x2 x3 x4 x5 x6 : Value} {Qc : Heap → Prop} {nwc : Bool} (d : Dec bytes pc (.invokestatic idx) 3 nx) (w1 : Jvm.Cond.methodLink own idx y ∈ Ws) (w2 : Jvm.Cond.static y ∈ Ws) (w3 : Jvm.Cond.initialized y.cls ∈ Ws) (w4 : Jvm.Cond.code y yb yl yr ∈ Ws) (hy : y.cls ≠ "java/lang/invoke/MethodHandle" ∧ y.cls ≠ "java/lang/invoke/VarHandle") (hpar : (parseMethodDescriptor y.desc).map (fun sg => sg.parameters.length) = some 6) (hsz : Ls.size = ml) (hF : ∀ x ∈ F', x ∈ F ∨ (w ≤ x ∧ x < h.size))
    (K : Con l Z EL nwc y yb yl yr rm F' #[x1, x2, x3, x4, x5, x6] h (rV Qc)) (hf : rm.frames + 1 ≤ R.frames) (hl : (st.map fun v => v.category).sum + (yl + 11) + rm.locals ≤ R.locals) (hk : k + rm.cells ≤ R.cells) (hn : n + rm.slots ≤ R.slots) (g : ∀ h', Qc h' → Goes p l e R s m args below meth c Z EL nw Q F (wm nwc w h') h' (k + rm.cells) (n + rm.slots) (mkF m nx Ls st)) (hnw : nw = true → nwc = true := by first | exact id | exact fun _ => rfl) : Goes p l e R s m args below meth c Z EL nw Q F w h k n (mkF m pc Ls (x6 :: x5 :: x4 :: x3 :: x2 :: x1 :: st)) :=
  C.static hnw hF (argsL := [x1, x2, x3, x4, x5, x6]) (rest := st) d w1 w2 w3 w4 hy (len_par hpar rfl) rfl hsz hk hn (K.pays (C.wrd w4) (C.wrd w3) C.2.2.2.2.2.2.2.2 hf hl) (Nat.le_refl _) (fun v h' q => by obtain ⟨rfl, q⟩ := q; exact g h' q)
theorem Cxt.c6 (C : Cxt p m meth c Z a0 EL own mn bytes ml ret Ws) {idx : Nat} {y : MethodName} {yb : ByteArray} {yl : Nat} {rm : Room} {F' : List Addr} {a : Addr} {x1 x2 x3 x4 x5 x6 : Value} {Qc : Heap → Prop} {nwc : Bool} (d : Dec bytes pc (.invokespecial idx) 3 nx) (hy1 : y.name = "<init>") (w1 : Jvm.Cond.methodLink own idx y ∈ Ws) (w2 : Jvm.Cond.instanceMethod y ∈ Ws) (w3 : Jvm.Cond.initialized y.cls ∈ Ws) (w4 : Jvm.Cond.code y yb yl none ∈ Ws) (hy : y.cls ≠ "java/lang/invoke/MethodHandle" ∧ y.cls ≠ "java/lang/invoke/VarHandle") (hpar : (parseMethodDescriptor y.desc).map (fun sg => sg.parameters.length) = some 6) (hsz : Ls.size = ml) (hF : ∀ x ∈ F', x ∈ F ∨ (w ≤ x ∧ x < h.size))
    (K : Con l Z EL nwc y yb yl none rm F' #[.ref a, x1, x2, x3, x4, x5, x6] h (rV Qc)) (hf : rm.frames + 1 ≤ R.frames) (hl : (st.map fun v => v.category).sum + (yl + 11) + rm.locals ≤ R.locals) (hk : k + rm.cells ≤ R.cells) (hn : n + rm.slots ≤ R.slots) (g : ∀ h', Qc h' → Goes p l e R s m args below meth c Z EL nw Q F (wm nwc w h') h' (k + rm.cells) (n + rm.slots) (mkF m nx Ls st)) (hnw : nw = true → nwc = true := by first | exact id | exact fun _ => rfl) : Goes p l e R s m args below meth c Z EL nw Q F w h k n (mkF m pc Ls (x6 :: x5 :: x4 :: x3 :: x2 :: x1 :: .ref a :: st)) :=
  C.special hnw hF (argsL := [x1, x2, x3, x4, x5, x6]) (rest := st) d hy1 w1 w2 w4 hy (len_par hpar rfl) rfl hsz hk hn (K.pays (C.wrd w4) (C.wrd w3) C.2.2.2.2.2.2.2.2 hf hl) (Nat.le_refl _) (fun v h' q => by obtain ⟨rfl, q⟩ := q; exact g h' q)
theorem Cxt.s6R (C : Cxt p m meth c Z a0 EL own mn bytes ml ret Ws) {idx : Nat} {y : MethodName} {yb : ByteArray} {yl : Nat} {yr : Option FieldType} {rm : Room} {F' : List Addr} {x1 x2 x3 x4 x5 x6 : Value} {Qc : Value → Heap → Prop} {nwc : Bool} (d : Dec bytes pc (.invokestatic idx) 3 nx) (w1 : Jvm.Cond.methodLink own idx y ∈ Ws) (w2 : Jvm.Cond.static y ∈ Ws) (w3 : Jvm.Cond.initialized y.cls ∈ Ws) (w4 : Jvm.Cond.code y yb yl yr ∈ Ws) (hy : y.cls ≠ "java/lang/invoke/MethodHandle" ∧ y.cls ≠ "java/lang/invoke/VarHandle") (hpar : (parseMethodDescriptor y.desc).map (fun sg => sg.parameters.length) = some 6) (hsz : Ls.size = ml) (hF : ∀ x ∈ F', x ∈ F ∨ (w ≤ x ∧ x < h.size))
    (K : Con l Z EL nwc y yb yl yr rm F' #[x1, x2, x3, x4, x5, x6] h (rR Qc)) (hf : rm.frames + 1 ≤ R.frames) (hl : (st.map fun v => v.category).sum + (yl + 11) + rm.locals ≤ R.locals) (hk : k + rm.cells ≤ R.cells) (hn : n + rm.slots ≤ R.slots) (g : ∀ v h', Qc v h' → Goes p l e R s m args below meth c Z EL nw Q F (wm nwc w h') h' (k + rm.cells) (n + rm.slots) (mkF m nx Ls (v :: st))) (hnw : nw = true → nwc = true := by first | exact id | exact fun _ => rfl) : Goes p l e R s m args below meth c Z EL nw Q F w h k n (mkF m pc Ls (x6 :: x5 :: x4 :: x3 :: x2 :: x1 :: st)) :=
  C.static hnw hF (argsL := [x1, x2, x3, x4, x5, x6]) (rest := st) d w1 w2 w3 w4 hy (len_par hpar rfl) rfl hsz hk hn (K.pays (C.wrd w4) (C.wrd w3) C.2.2.2.2.2.2.2.2 hf hl) (Nat.le_refl _) (fun v h' q => by obtain ⟨v, rfl, q⟩ := q; exact g v h' q)
theorem Cxt.ldcInt (C : Cxt p m meth c Z a0 EL own mn bytes ml ret Ws) {idx : Nat} {v : Int32} (d : Dec bytes pc (.ldc idx) 2 nx) (ww : Jvm.Cond.constant own idx v ∈ Ws) (g : Goes p l e R s m args below meth c Z EL nw Q F w h k n (mkF m nx Ls (.int v :: st))) : Goes p l e R s m args below meth c Z EL nw Q F w h k n (mkF m pc Ls st) := by
  obtain ⟨d1, rfl⟩ := d
  intro T vm0 locs k0 H
  obtain ⟨t, v', L, h1, r⟩ := g T vm0 locs k0 H
  exact ⟨t, v', L, H.1.ldcInt C.1 (C.own_at H.2.2.2.2.2.1) (mv H.2.2.2.2.2.1 (C.wrd ww)) (g := mkF m pc Ls st) rfl (hb C.2.1 d1) _ h1, r⟩
theorem Cxt.ldc2Long (C : Cxt p m meth c Z a0 EL own mn bytes ml ret Ws) {idx : Nat} {v : Int64} (d : Dec bytes pc (.ldc2_w idx) 3 nx) (ww : Jvm.Cond.constantLong own idx v ∈ Ws) (g : Goes p l e R s m args below meth c Z EL nw Q F w h k n (mkF m nx Ls (.long v :: st))) : Goes p l e R s m args below meth c Z EL nw Q F w h k n (mkF m pc Ls st) := by
  obtain ⟨d1, rfl⟩ := d
  intro T vm0 locs k0 H
  obtain ⟨t, v', L, h1, r⟩ := g T vm0 locs k0 H
  exact ⟨t, v', L, H.1.ldc2Long C.1 (C.own_at H.2.2.2.2.2.1) (mv H.2.2.2.2.2.1 (C.wrd ww)) (g := mkF m pc Ls st) rfl (hb C.2.1 d1) _ h1, r⟩
theorem Cxt.checkcast (C : Cxt p m meth c Z a0 EL own mn bytes ml ret Ws) {idx : Nat} {K : String} {a : Addr} (d : Dec bytes pc (.checkcast idx) 3 nx) (ww : Jvm.Cond.classLink own idx K ∈ Ws) (I : Ins Z h a K true) (g : Goes p l e R s m args below meth c Z EL nw Q F w h k n (mkF m nx Ls (.ref a :: st))) : Goes p l e R s m args below meth c Z EL nw Q F w h k n (mkF m pc Ls (.ref a :: st)) := by
  obtain ⟨d1, rfl⟩ := d
  intro T vm0 locs k0 H
  obtain ⟨T', X', e', st'⟩ := castY H.1 C.1 H.2.2.2.2.2.1 (C.own_at H.2.2.2.2.2.1) (C.wrd ww) H.2.1 I (g := mkF m pc Ls (.ref a :: st)) rfl rfl (hb C.2.1 d1)
  obtain ⟨t, v, L, h1, r⟩ := g T' vm0 locs k0 (H.step X' e' H.2.2.1 (Keep.refl _ []) (fun x hx => nomatch hx))
  exact ⟨t, v, L, st' _ h1, r⟩
theorem Cxt.checkcastNull (C : Cxt p m meth c Z a0 EL own mn bytes ml ret Ws) {idx : Nat} (d : Dec bytes pc (.checkcast idx) 3 nx) (g : Goes p l e R s m args below meth c Z EL nw Q F w h k n (mkF m nx Ls (.null :: st))) : Goes p l e R s m args below meth c Z EL nw Q F w h k n (mkF m pc Ls (.null :: st)) := by
  obtain ⟨d1, rfl⟩ := d
  intro T vm0 locs k0 H
  obtain ⟨t, v', L, h1, r⟩ := g T vm0 locs k0 H
  exact ⟨t, v', L, H.1.checkcastNull C.1 (g := mkF m pc Ls (.null :: st)) rfl rfl (hb C.2.1 d1) _ h1, r⟩
theorem Cxt.instY (C : Cxt p m meth c Z a0 EL own mn bytes ml ret Ws) {idx : Nat} {K : String} {a : Addr} (d : Dec bytes pc (.instanceof idx) 3 nx) (ww : Jvm.Cond.classLink own idx K ∈ Ws) (I : Ins Z h a K true) (g : Goes p l e R s m args below meth c Z EL nw Q F w h k n (mkF m nx Ls (.int 1 :: st))) : Goes p l e R s m args below meth c Z EL nw Q F w h k n (mkF m pc Ls (.ref a :: st)) := by
  obtain ⟨d1, rfl⟩ := d
  intro T vm0 locs k0 H
  obtain ⟨T', X', e', st'⟩ := instY H.1 C.1 H.2.2.2.2.2.1 (C.own_at H.2.2.2.2.2.1) (C.wrd ww) H.2.1 I (g := mkF m pc Ls (.ref a :: st)) rfl rfl (hb C.2.1 d1)
  obtain ⟨t, v, L, h1, r⟩ := g T' vm0 locs k0 (H.step X' e' H.2.2.1 (Keep.refl _ []) (fun x hx => nomatch hx))
  exact ⟨t, v, L, st' _ h1, r⟩
theorem Cxt.instN (C : Cxt p m meth c Z a0 EL own mn bytes ml ret Ws) {idx : Nat} {K cls : String} {a : Addr} (d : Dec bytes pc (.instanceof idx) 3 nx) (ww : Jvm.Cond.classLink own idx K ∈ Ws) (I : Ins Z s.heap a K false) (E : Exa Z s.heap a cls) (g : Goes p l e R s m args below meth c Z EL nw Q F w h k n (mkF m nx Ls (.int 0 :: st))) : Goes p l e R s m args below meth c Z EL nw Q F w h k n (mkF m pc Ls (.ref a :: st)) := by
  obtain ⟨d1, rfl⟩ := d
  intro T vm0 locs k0 H
  obtain ⟨T', X', e', st'⟩ := instN (s := s.setVm vm0) H.1 C.1 H.2.2.2.2.2.1 (C.own_at H.2.2.2.2.2.1) (C.wrd ww) H.2.1 I E (g := mkF m pc Ls (.ref a :: st)) rfl rfl (hb C.2.1 d1)
  obtain ⟨t, v, L, h1, r⟩ := g T' vm0 locs k0 (H.step X' e' H.2.2.1 (Keep.refl _ []) (fun x hx => nomatch hx))
  exact ⟨t, v, L, st' _ h1, r⟩
theorem Cxt.instNo (C : Cxt p m meth c Z a0 EL own mn bytes ml ret Ws) {idx : Nat} {K cls : String} {a : Addr} (d : Dec bytes pc (.instanceof idx) 3 nx) (ww : Jvm.Cond.classLink own idx K ∈ Ws) (E : Exa Z h a cls) (I : ∃ c t, Z.vm.findClass cls = some c ∧ Z.vm.findClass K = some t ∧ Z.vm.assignable c t = false) (g : Goes p l e R s m args below meth c Z EL nw Q F w h k n (mkF m nx Ls (.int 0 :: st))) : Goes p l e R s m args below meth c Z EL nw Q F w h k n (mkF m pc Ls (.ref a :: st)) := by
  obtain ⟨d1, rfl⟩ := d
  intro T vm0 locs k0 H
  obtain ⟨T', X', e', st'⟩ := instNo H.1 C.1 H.2.2.2.2.2.1 (C.own_at H.2.2.2.2.2.1) (C.wrd ww) H.2.1 E I (g := mkF m pc Ls (.ref a :: st)) rfl rfl (hb C.2.1 d1)
  obtain ⟨t, v, L, h1, r⟩ := g T' vm0 locs k0 (H.step X' e' H.2.2.1 (Keep.refl _ []) (fun x hx => nomatch hx))
  exact ⟨t, v, L, st' _ h1, r⟩
theorem Cxt.instNull (C : Cxt p m meth c Z a0 EL own mn bytes ml ret Ws) {idx : Nat} (d : Dec bytes pc (.instanceof idx) 3 nx) (g : Goes p l e R s m args below meth c Z EL nw Q F w h k n (mkF m nx Ls (.int 0 :: st))) : Goes p l e R s m args below meth c Z EL nw Q F w h k n (mkF m pc Ls (.null :: st)) := by
  obtain ⟨d1, rfl⟩ := d
  intro T vm0 locs k0 H
  obtain ⟨t, v', L, h1, r⟩ := g T vm0 locs k0 H
  exact ⟨t, v', L, H.1.instanceofNull C.1 (g := mkF m pc Ls (.null :: st)) rfl rfl (hb C.2.1 d1) _ h1, r⟩
/-- a String constant, its text unread -/
theorem Cxt.ldcO (C : Cxt p m meth c Z a0 EL own mn bytes ml ret Ws) {idx : Nat} {text : String} (q : Nat) (d : Dec bytes pc (.ldc idx) 2 nx) (hnw : nw = false) (ww : Jvm.Cond.stringLink own idx text ∈ Ws) (wS : ∀ a ∈ Bundle.stringAtoms, a.before a0 Z = true) (hq : 4 * text.toList.length ≤ q) (hq2 : q ≤ 536870912) (hk : k + 2 ≤ R.cells) (hn : n + (q + 4) ≤ R.slots)
    (g : ∀ h' a, Ext h h' → Goes p l e R s m args below meth c Z EL nw Q F h'.size h' (k + 2) (n + (q + 4)) (mkF m nx Ls (.ref a :: st))) : Goes p l e R s m args below meth c Z EL nw Q F w h k n (mkF m pc Ls st) := by
  obtain ⟨d1, rfl⟩ := d
  intro T vm0 locs k0 H
  obtain ⟨X, eT, N, S, hk0, hZ, H1, hw, hF, O, hwm, hbk⟩ := id H
  obtain ⟨a, T', h', k1, X', e', E, S', hk1, hW, hf, hC, hL, st'⟩ := ldcOH X C.1 hZ (C.own_at (s := s) hZ) (C.wrd ww) wS eT S hk0 C.2.2.2.2.2.2.2.2 H1.1 (g := mkF m pc Ls st) rfl (hb C.2.1 d1) hq hq2 hk hn
  obtain ⟨t, v, L, h1, r⟩ := g h' a E T' T'.vm locs k1 ⟨X', e', N, S', hk1, hW, H1.trans hC, fun q => (by rw [hnw] at q; cases q), fun x hx => ⟨Nat.lt_of_lt_of_le (hF x hx).1 E.1, hC.safe (hF x hx).1 (hF x hx).2⟩, ext_trans O E, fun x hx => Safe.new hx, fun q => (by rw [hnw] at q; cases q)⟩
  exact ⟨t, v, L, st' _ h1, r⟩
/-- a String constant of EL, its text read -/
theorem Cxt.ldcS (C : Cxt p m meth c Z a0 EL own mn bytes ml ret Ws) {idx : Nat} {text : String} {vs : List Value} (q : Nat) (d : Dec bytes pc (.ldc idx) 2 nx) (hnw : nw = false) (ww : Jvm.Cond.stringLink own idx text ∈ Ws) (wS : ∀ a ∈ Bundle.stringAtoms, a.before a0 Z = true) (hmem : (own, idx) ∈ EL) (ht : (∀ c ∈ text.toList, c.toNat < 256) ∧ text.toList.map (fun c => Value.int (Jvm.Lit.byteI c.toNat.toUInt16)) = vs) (hlt : vs.length < 1000000)
    (hq : 4 * text.toList.length ≤ q) (hq2 : q ≤ 536870912) (hk : k + 2 ≤ R.cells) (hn : n + (q + 4) ≤ R.slots)
    (g : ∀ h' a b, Ext h h' → Exa Z h' a "java/lang/String" → Fld Z h' a "java/lang/String" "coder" "B" (.int 0) → Fld Z h' a "java/lang/String" "value" "[B" (.ref b) → Arl Z h' b .byte vs → (∀ x ∈ F, x ≠ a ∧ x ≠ b) → Goes p l e R s m args below meth c Z EL nw Q F h'.size h' (k + 2) (n + (q + 4)) (mkF m nx Ls (.ref a :: st))) : Goes p l e R s m args below meth c Z EL nw Q F w h k n (mkF m pc Ls st) := by
  obtain ⟨d1, rfl⟩ := d
  intro T vm0 locs k0 H
  obtain ⟨X, eT, N, S, hk0, hZ, H1, hw, hF, O, hwm, hbk⟩ := id H
  have hz : ¬ (Int32.ofNat vs.length) < 0 ∧ (Int32.ofNat vs.length).toNatClampNeg = vs.length := ofNat_idx (by omega)
  obtain ⟨a, T', h', k1, b, kb, X', e', E, S', hk1, hW, hf, hE, hc, hv, hA, la, lb, hC, hL, hS, st'⟩ := ldcCH X C.1 hZ (C.own_at (s := s) hZ) (C.wrd ww) wS eT S hk0 C.2.2.2.2.2.2.2.2 hmem H1.1 ht hz.1 hz.2 (g := mkF m pc Ls st) rfl (hb C.2.1 d1) hq hq2 hk hn
  have hF' : ∀ x ∈ F, x < h'.size ∧ Safe Z EL T'.vm h' x := fun x hx => ⟨Nat.lt_of_lt_of_le (hF x hx).1 E.1, hC.safe (hF x hx).1 (hF x hx).2⟩
  obtain ⟨t, v, L, h1, r⟩ := g h' a b E hE hc hv (arl_of_arv hA hz.2 (by omega)) (fun x hx => hS x (hF' x hx).2) T' T'.vm locs k1 ⟨X', e', N, S', hk1, hW, H1.trans hC, fun q => (by rw [hnw] at q; cases q), hF', ext_trans O E, fun x hx => Safe.new hx, fun q => (by rw [hnw] at q; cases q)⟩
  exact ⟨t, v, L, st' _ h1, r⟩
end
end Jvm.OwnW
namespace Jvm.OwnW
open Sem ClassFile Op Lib Jvm.Stand Jvm.Free Jvm.LawKit Jvm.RoadKit Bundle
abbrev ST : String := "java/lang/String"
def IsC (x : Int32) : Prop := ¬ x < 0 ∧ ¬ (65535 : Int32) < x
def IsL (x : Int32) : Prop := ¬ x < 0 ∧ ¬ (255 : Int32) < x
theorem nlt {x y : Int32} : ¬ x < y ↔ y.toInt ≤ x.toInt := by rw [Int32.lt_iff_toInt_lt]; omega
theorem ilt {x y : Int32} : x < y ↔ x.toInt < y.toInt := Int32.lt_iff_toInt_lt
theorem isC_iff {x : Int32} : IsC x ↔ 0 ≤ x.toInt ∧ x.toInt ≤ 65535 := by
  unfold IsC; rw [nlt, nlt]; exact Iff.rfl
theorem isL_iff {x : Int32} : IsL x ↔ 0 ≤ x.toInt ∧ x.toInt ≤ 255 := by
  unfold IsL; rw [nlt, nlt]; exact Iff.rfl
theorem IsL.isC {x : Int32} (h : IsL x) : IsC x := by rw [isL_iff] at h; rw [isC_iff]; omega
theorem isC_c16 (x : Int32) : IsC (c16 x) := by
  rw [isC_iff]; have := c_i2c x; unfold c16; omega
theorem c16_of {x : Int32} (h : IsC x) : c16 x = x := by
  rw [isC_iff] at h
  have q := c_i2c x
  apply Int32.toInt_inj.mp
  unfold c16; omega
theorem nar_c16 (x : Int32) : nar .char x = c16 x := rfl
theorem nar_char {x : Int32} (h : IsC x) : nar .char x = x := (nar_c16 x).trans (c16_of h)
theorem nar_b8 (x : Int32) : nar .byte x = b8 x := rfl
theorem narrow_char {x : Int32} (h : IsC x) : narrow .char (.int x) = .int x := by
  show Value.int (nar .char x) = _; rw [nar_char h]
theorem b8_bounds (x : Int32) : -128 ≤ (b8 x).toInt ∧ (b8 x).toInt ≤ 127 := by
  have h := rng_byte (fits_nar_byte x)
  rw [nlt, nlt] at h
  exact h
theorem b8_mod (x : Int32) : ((b8 x).toInt - x.toInt) % 256 = 0 := by
  have e : (b8 x).toInt = x.toInt.bmod 256 := by
    unfold b8
    rw [Int8.toInt_toInt32, Int32.toInt_toInt8]
  rw [e, Int.bmod_def]
  split <;> omega
theorem b8_b8 (x : Int32) : b8 (b8 x) = b8 x := by
  apply Int32.toInt_inj.mp
  have h1 := b8_bounds x; have h2 := b8_bounds (b8 x); have h3 := b8_mod (b8 x)
  omega
theorem narrow_byte (x : Int32) : narrow .byte (.int (b8 x)) = .int (b8 x) := by
  show Value.int (nar .byte (b8 x)) = _; rw [nar_b8, b8_b8]
theorem ofNat_toInt {i : Nat} (h : i < 2 ^ 31) : (Int32.ofNat i).toInt = i := by
  rw [Int32.toInt_ofNat']
  simp only [Int.bmod_def]
  have z : (Int32.size : Int) = 4294967296 := rfl
  rw [z]
  omega
theorem ofNat_succ (i : Nat) : Int32.ofNat i + 1 = Int32.ofNat (i + 1) := (Int32.ofNat_add i 1).symm
theorem ofNat_lt {i j : Nat} (hi : i < 2 ^ 31) (hj : j < 2 ^ 31) : Int32.ofNat i < Int32.ofNat j ↔ i < j := by
  rw [ilt, ofNat_toInt hi, ofNat_toInt hj]; omega
theorem ofNat_inj {i j : Nat} (hi : i < 2 ^ 31) (hj : j < 2 ^ 31) (h : Int32.ofNat i = Int32.ofNat j) : i = j := by
  have := congrArg Int32.toInt h; rw [ofNat_toInt hi, ofNat_toInt hj] at this; omega
def lat (cs : List Int32) : List Value := cs.map fun c => .int (b8 c)
def wid (cs : List Int32) : List Value := cs.flatMap fun c => [.int (b8 c), .int (b8 (c >>> 8))]
def ints (cs : List Int32) : List Value := cs.map Value.int
/-- the bytes vs under the coder cd spell the chars cs -/
def Txt (cs : List Int32) (cd : Int32) (vs : List Value) : Prop := (cd = 0 ∧ vs = lat cs ∧ ∀ c ∈ cs, ¬ (255 : Int32) < c) ∨ (cd = 1 ∧ vs = wid cs ∧ ∃ c ∈ cs, (255 : Int32) < c)
/-- the String at a spells cs -/
def StrAt (Z : State) (h : Heap) (a : Addr) (cs : List Int32) : Prop :=
  ∃ t cd vs, Exa Z h a ST ∧ Fld Z h a ST "value" "[B" (.ref t) ∧ Fld Z h a ST "coder" "B" (.int cd) ∧ Arl Z h t .byte vs ∧ Txt cs cd vs ∧ (∀ c ∈ cs, IsC c) ∧ cs.length ≤ 4000
theorem StrAt.ext {Z : State} {h h' : Heap} {a : Addr} {cs : List Int32} (S : StrAt Z h a cs) (E : Ext h h') : StrAt Z h' a cs := by
  obtain ⟨t, cd, vs, h1, h2, h3, h4, r⟩ := S
  exact ⟨t, cd, vs, h1.ext E, h2.ext E, h3.ext E, h4.ext E, r⟩
theorem StrAt.lt {Z : State} {h : Heap} {a : Addr} {cs : List Int32} (S : StrAt Z h a cs) : a < h.size := by
  obtain ⟨t, cd, vs, h1, -⟩ := S; exact h1.lt
theorem StrAt.exa {Z : State} {h : Heap} {a : Addr} {cs : List Int32} (S : StrAt Z h a cs) : Exa Z h a ST := by
  obtain ⟨t, cd, vs, h1, -⟩ := S; exact h1
/-- over a call that writes one object that is no String -/
theorem StrAt.keep {Z : State} {h h' : Heap} {a o : Addr} {cs : List Int32} {cls : String} {a0 : Array Value} {kk : Nat} (S : StrAt Z h a cs) (K : Keep h h' [o]) (E : Exa Z h o cls) (hn : cls ≠ ST) (wi : (Jvm.Cond.instantiable cls kk).before a0 Z = true) : StrAt Z h' a cs := by
  obtain ⟨t, cd, vs, h1, h2, h3, h4, r⟩ := S
  have n1 : a ∉ [o] := by
    intro q; cases List.mem_singleton.mp q; exact ne_exa E h1 hn rfl
  have n2 : t ∉ [o] := by
    intro q; cases List.mem_singleton.mp q
    obtain ⟨cl, A, -⟩ := h4
    exact ne_arr E wi A rfl
  exact ⟨t, cd, vs, h1.keep K, h2.keep K n1, h3.keep K n1, h4.keep K n2, r⟩
theorem ext_of_keep {h0 h h' : Heap} {ws : List Addr} (E : Ext h0 h) (K : Keep h h' ws) (q : ∀ w ∈ ws, h0.size ≤ w) : Ext h0 h' :=
  ⟨Nat.le_trans E.1 K.1, fun a c r => K.2.1 a c (E.2 a c r) fun z => absurd (Array.getElem?_eq_some_iff.mp r).1 (Nat.not_lt.mpr (q a z))⟩
theorem ext_of_wr {h0 h h' : Heap} {a : Addr} {sl : Nat} {v : Value} (E : Ext h0 h) (W : Wr h h' a sl v) (q : h0.size ≤ a) : Ext h0 h' :=
  ext_of_keep E (Keep.of_wr W) fun w hw => by cases List.mem_singleton.mp hw; exact q
theorem wid_length (cs : List Int32) : (wid cs).length = 2 * cs.length := by
  unfold wid; induction cs with
  | nil => rfl
  | cons c r ih => simp only [List.flatMap_cons, List.length_append, ih, List.length_cons, List.length_nil]; omega
theorem lat_length (cs : List Int32) : (lat cs).length = cs.length := by simp [lat]
theorem ints_length (cs : List Int32) : (ints cs).length = cs.length := by simp [ints]
theorem ints_get {cs : List Int32} {i : Nat} {c : Int32} (h : cs[i]? = some c) : (ints cs)[i]? = some (.int c) := by simp [ints, h]
theorem lat_get {cs : List Int32} {i : Nat} {c : Int32} (h : cs[i]? = some c) : (lat cs)[i]? = some (.int (b8 c)) := by simp [lat, h]
end Jvm.OwnW
namespace Jvm.OwnW
open Sem ClassFile Op Lib Jvm.Stand Jvm.Free Jvm.LawKit Jvm.RoadKit Bundle
abbrev RM (f lo c s : Nat) : Room := { frames := f, cells := c, slots := s, locals := lo }
theorem adr_ne {a b n : Nat} (h : a < n) (h2 : n ≤ b) : a ≠ b := by omega
theorem nof0 {F : List Addr} : ∀ x ∈ ([] : List Addr), x ∈ F := fun _ q => nomatch q
theorem nof {F : List Addr} {w : Nat} {h : Heap} : ∀ x ∈ ([] : List Addr), x ∈ F ∨ (w ≤ x ∧ x < h.size) := fun _ q => nomatch q
theorem fill_step {pre : List Value} {i r : Nat} {z v : Value} (h : pre.length = i) : (pre ++ List.replicate (r + 1) z).set i v = (pre ++ [v]) ++ List.replicate r z := by
  subst h
  rw [List.set_append_right _ _ (Nat.le_refl _)]
  simp [List.replicate_succ]
end Jvm.OwnW
namespace Jvm.OwnW
open Sem ClassFile Op Lib Jvm.Stand Jvm.Free Jvm.LawKit Jvm.RoadKit Bundle
theorem eq_stat {args : Array Value} {s : State} {C n d : String} {v : Int32} (h : (Jvm.Cond.eq (.static C n d) (.int v)).value args s none s [] = some true) : (Term.static C n d).eval args s none [] s = some (.int v) := by
  simp only [Cond.value, Term.int_eval] at h
  cases hv : (Term.static C n d).eval args s none [] s with
  | none => simp [hv] at h
  | some w => cases w <;> simp [hv] at h <;> simp [h]
theorem isL_and (x : Int32) : IsL (x &&& 255) := by
  rw [isL_iff]; have := c_and x 255 (by decide); exact this
theorem isC_isL {x : Int32} (h : IsL x) : c16 x = x := c16_of h.isC
end Jvm.OwnW
namespace Jvm.OwnW
open Sem ClassFile Op Lib Jvm.Stand Jvm.Free Jvm.LawKit Jvm.RoadKit Bundle
theorem st_exact {args : Array Value} {s : State} {C n d K : String} (h : (Jvm.Cond.exactly (.static C n d) K).value args s none s [] = some true) (wi : (Jvm.Cond.initialized C).before args s = true) (wl : (Jvm.Cond.laysStatic C n d).before args s = true) :
    ∃ a, (Term.static C n d).eval args s none [] s = some (.ref a) ∧ Sta s s.heap C n d (.ref a) ∧ Exa s s.heap a K := by
  obtain ⟨a, _, _, _, e, -⟩ := Cond.exactly_spec (Cond.before_iff.mpr h)
  exact ⟨a, e, Sta.start e (Or.inr ⟨wi, wl⟩), Exa.start e h⟩
theorem st_field {args : Array Value} {s : State} {t : Term} {O f fd : String} {a : Addr} {v : Int32} (ev : t.eval args s none [] s = some (.ref a)) (h : (Jvm.Cond.eq (.field t O f fd) (.int v)).value args s none s [] = some true) : Fld s s.heap a O f fd (.int v) := by
  apply Fld.start
  have e : (Term.field t O f fd).eval args s none [] s = s.fieldOf? a O f fd := by simp [Term.eval, ev]
  simp only [Cond.value, Term.int_eval, e] at h
  cases hv : s.fieldOf? a O f fd with
  | none => simp [hv] at h
  | some w => cases w <;> simp [hv] at h <;> simp [h]
end Jvm.OwnW
namespace Jvm.OwnW
open Sem ClassFile Op Lib Jvm.Stand Jvm.Free Jvm.LawKit Jvm.RoadKit Bundle
theorem pos30 (x : Int32) : ¬ ((x &&& 1073741823) + 1) < 1 := by
  have h := c_and x 1073741823 (by decide)
  have e : (1073741823 : Int32).toInt = 1073741823 := rfl
  rw [e] at h
  rw [nlt, Int32.toInt_add]
  have e1 : (1 : Int32).toInt = 1 := rfl
  rw [e1, Int.bmod_def]
  split <;> omega
end Jvm.OwnW
namespace Jvm.OwnW
open Sem ClassFile Op Lib Jvm.Stand Jvm.Free Jvm.LawKit Jvm.RoadKit Bundle
theorem Arl.intAt {Z : State} {h : Heap} {a : Addr} {vs : List Value} {v : Value} (A : Arl Z h a .byte vs) (hv : v ∈ vs) : ∃ x, v = .int x := by
  obtain ⟨cl, -, -, -, r⟩ := A
  exact fit_I (r v hv) (Or.inr (Or.inr (Or.inl rfl)))
theorem Txt.cd01 {cs : List Int32} {cd : Int32} {vs : List Value} (T : Txt cs cd vs) : cd = 0 ∨ cd = 1 := T.imp (·.1) (·.1)
theorem Txt.vlen {cs : List Int32} {cd : Int32} {vs : List Value} (T : Txt cs cd vs) : vs.length = cs.length ∨ vs.length = 2 * cs.length := by
  rcases T with ⟨-, rfl, -⟩ | ⟨-, rfl, -⟩
  · exact Or.inl (lat_length cs)
  · exact Or.inr (wid_length cs)
theorem Txt.len {cs : List Int32} {cd : Int32} {vs : List Value} (T : Txt cs cd vs) (hn : cs.length ≤ 4000) : Int32.ofNat vs.length >>> (cd &&& 31) = Int32.ofNat cs.length := by
  apply Int32.toInt_inj.mp
  rcases T with ⟨rfl, rfl, -⟩ | ⟨rfl, rfl, -⟩
  · rw [c_ishr _ _ 0 (by decide), lat_length]; simp
  · rw [c_ishr _ _ 1 (by decide), wid_length, ofNat_toInt (by omega), ofNat_toInt (by omega)]; omega
theorem Txt.coder {cs : List Int32} {cd ce : Int32} {vs ws : List Value} (T : Txt cs cd vs) (U : Txt cs ce ws) : cd = ce := by
  rcases T with ⟨rfl, -, q⟩ | ⟨rfl, -, c, q1, q2⟩ <;> rcases U with ⟨rfl, -, z⟩ | ⟨rfl, -, d, z1, z2⟩
  · rfl
  · exact absurd z2 (q d z1)
  · exact absurd q2 (z c q1)
  · rfl
theorem Txt.bytes {cs : List Int32} {cd ce : Int32} {vs ws : List Value} (T : Txt cs cd vs) (U : Txt cs ce ws) : vs = ws := by
  rcases T with ⟨rfl, rfl, q⟩ | ⟨rfl, rfl, c, q1, q2⟩ <;> rcases U with ⟨rfl, rfl, z⟩ | ⟨rfl, rfl, d, z1, z2⟩
  · rfl
  · exact absurd z2 (q d z1)
  · exact absurd q2 (z c q1)
  · rfl
theorem b8_inj_L {x y : Int32} (hx : IsL x) (hy : IsL y) (h : b8 x = b8 y) : x = y := by
  rw [isL_iff] at hx hy
  have h1 := b8_mod x; have h2 := b8_mod y
  rw [h] at h1
  apply Int32.toInt_inj.mp; omega
theorem shr8 (x : Int32) : (x >>> 8).toInt = x.toInt / 256 := by
  have := c_ishr x 8 8 (by decide)
  have e : (8 : Int32) &&& 31 = 8 := by decide
  rw [e] at this
  simpa using this
theorem b8_inj_W {x y : Int32} (hx : IsC x) (hy : IsC y) (h : b8 x = b8 y) (h' : b8 (x >>> 8) = b8 (y >>> 8)) : x = y := by
  rw [isC_iff] at hx hy
  have h1 := b8_mod x; have h2 := b8_mod y
  have h3 := b8_mod (x >>> 8); have h4 := b8_mod (y >>> 8)
  rw [h] at h1; rw [h'] at h3
  rw [shr8] at h3 h4
  apply Int32.toInt_inj.mp; omega
theorem lat_inj : ∀ {cs ds : List Int32}, (∀ c ∈ cs, IsL c) → (∀ c ∈ ds, IsL c) → lat cs = lat ds → cs = ds
  | [], [], _, _, _ => rfl
  | [], d :: ds, _, _, h => by simp [lat] at h
  | c :: cs, [], _, _, h => by simp [lat] at h
  | c :: cs, d :: ds, h1, h2, h => by
    simp only [lat, List.map_cons, List.cons.injEq, Value.int.injEq] at h
    rw [b8_inj_L (h1 c (List.mem_cons_self ..)) (h2 d (List.mem_cons_self ..)) h.1, lat_inj (fun x hx => h1 x (List.mem_cons_of_mem _ hx)) (fun x hx => h2 x (List.mem_cons_of_mem _ hx)) h.2]
theorem wid_inj : ∀ {cs ds : List Int32}, (∀ c ∈ cs, IsC c) → (∀ c ∈ ds, IsC c) → wid cs = wid ds → cs = ds
  | [], [], _, _, _ => rfl
  | [], d :: ds, _, _, h => by simp [wid] at h
  | c :: cs, [], _, _, h => by simp [wid] at h
  | c :: cs, d :: ds, h1, h2, h => by
    simp only [wid, List.flatMap_cons, List.cons_append, List.nil_append, List.cons.injEq, Value.int.injEq] at h
    rw [b8_inj_W (h1 c (List.mem_cons_self ..)) (h2 d (List.mem_cons_self ..)) h.1 h.2.1, wid_inj (fun x hx => h1 x (List.mem_cons_of_mem _ hx)) (fun x hx => h2 x (List.mem_cons_of_mem _ hx)) h.2.2]
theorem Txt.inj {cs ds : List Int32} {cd : Int32} {vs : List Value} (hC : ∀ c ∈ cs, IsC c) (hD : ∀ c ∈ ds, IsC c) (T : Txt cs cd vs) (U : Txt ds cd vs) : cs = ds := by
  rcases T with ⟨rfl, rfl, q⟩ | ⟨rfl, rfl, q⟩ <;> rcases U with ⟨e, e', z⟩ | ⟨e, e', z⟩
  · exact lat_inj (fun c hc => ⟨(hC c hc).1, q c hc⟩) (fun c hc => ⟨(hD c hc).1, z c hc⟩) e'
  · exact absurd e (by decide)
  · exact absurd e (by decide)
  · exact wid_inj hC hD e'
theorem fld_uniq {Z : State} {h : Heap} {a : Addr} {C n d : String} {v w : Value} (F : Fld Z h a C n d v) (G : Fld Z h a C n d w) : v = w := by
  obtain ⟨c1, cf, k, i, f, h1, h2, -, -, -, -, h7⟩ := F
  obtain ⟨c2, cf', k', i', f', g1, g2, -, -, -, -, g7⟩ := G
  cases h1.symm.trans g1
  cases h2.symm.trans g2
  exact Option.some.inj (h7.symm.trans g7)
theorem arl_uniq {Z : State} {h : Heap} {a : Addr} {ty : FieldType} {vs ws : List Value} (A : Arl Z h a ty vs) (D : Arl Z h a ty ws) : vs = ws := by
  obtain ⟨c1, A1, rfl, -⟩ := A
  obtain ⟨c2, A2, rfl, -⟩ := D
  cases A1.1.symm.trans A2.1
  rfl
theorem StrAt.uniq {Z : State} {h : Heap} {a : Addr} {cs ds : List Int32} (S : StrAt Z h a cs) (T : StrAt Z h a ds) : cs = ds := by
  obtain ⟨t, cd, vs, X, Fv, Fc, A, Tx, hC, hn⟩ := S
  obtain ⟨u, ce, ws, X', Fv', Fc', A', Tx', hC', hn'⟩ := T
  cases fld_uniq Fv Fv'
  cases fld_uniq Fc Fc'
  cases arl_uniq A A'
  exact Txt.inj hC hC' Tx Tx'
theorem unb8 {x : Int32} (h : IsL x) : c16 (b8 x &&& 255) = x := by
  have e : b8 x &&& 255 = x := by
    rw [isL_iff] at h
    apply Int32.toInt_inj.mp
    rw [c_mask _ 255 8 (by decide) (by decide)]
    have := b8_mod x
    omega
  rw [e, c16_of h.isC]
end Jvm.OwnW
namespace Jvm.OwnW
open Sem ClassFile Op Lib Jvm.Stand Jvm.Free Jvm.LawKit Jvm.RoadKit Bundle
theorem i32_bounds (x : Int32) : -2147483648 ≤ x.toInt ∧ x.toInt < 2147483648 := ⟨Int32.le_toInt x, Int32.toInt_lt x⟩
theorem shl1' {n : Nat} (hn : 2 * n < 2 ^ 31) : Int32.ofNat n <<< ((1 : Int32) &&& 31) = Int32.ofNat (2 * n) := by
  apply Int32.toInt_inj.mp
  have h := c_ishl (Int32.ofNat n) 1 1 (by decide)
  rw [ofNat_toInt (i := n) (by omega)] at h
  rw [ofNat_toInt hn]
  have b := i32_bounds (Int32.ofNat n <<< ((1 : Int32) &&& 31))
  have e : ((2 ^ 1 : Nat) : Int) = 2 := rfl
  rw [e] at h
  omega
theorem shl1 {n : Nat} (hn : n ≤ 4000) : Int32.ofNat n <<< ((1 : Int32) &&& 31) = Int32.ofNat (2 * n) := shl1' (by omega)
theorem shr0 (x : Int32) : x >>> ((0 : Int32) &&& 31) = x := by
  apply Int32.toInt_inj.mp
  rw [c_ishr x 0 0 (by decide)]; simp
theorem shr1 {cs : List Int32} (hn : cs.length ≤ 4000) : Int32.ofNat (wid cs).length >>> ((1 : Int32) &&& 31) = Int32.ofNat cs.length := by
  apply Int32.toInt_inj.mp
  rw [c_ishr _ _ 1 (by decide), wid_length, ofNat_toInt (by omega), ofNat_toInt (by omega)]; omega
theorem fill_step2 {pre : List Value} {i r : Nat} {z u v : Value} (h : pre.length = 2 * i) : ((pre ++ List.replicate (2 * (r + 1)) z).set (2 * i) u).set (2 * i + 1) v = (pre ++ [u, v]) ++ List.replicate (2 * r) z := by
  rw [← h, List.set_append_right _ _ (Nat.le_refl _), List.set_append_right _ _ (by omega)]
  have e : 2 * (r + 1) = 2 * r + 1 + 1 := by omega
  rw [e]
  simp [List.replicate_succ]
theorem wid_cons (c : Int32) (cs : List Int32) : wid (c :: cs) = .int (b8 c) :: .int (b8 (c >>> 8)) :: wid cs := rfl
theorem wid_lo : ∀ {cs : List Int32} {i : Nat} {c : Int32}, cs[i]? = some c → (wid cs)[2 * i]? = some (.int (b8 c))
  | [], i, c, h => by simp at h
  | d :: cs, 0, c, h => by simp at h; subst h; rfl
  | d :: cs, i + 1, c, h => by
    have e : 2 * (i + 1) = 2 * i + 1 + 1 := by omega
    rw [wid_cons, e, List.getElem?_cons_succ, List.getElem?_cons_succ]
    exact wid_lo (by simpa using h)
theorem wid_hi : ∀ {cs : List Int32} {i : Nat} {c : Int32}, cs[i]? = some c → (wid cs)[2 * i + 1]? = some (.int (b8 (c >>> 8)))
  | [], i, c, h => by simp at h
  | d :: cs, 0, c, h => by simp at h; subst h; rfl
  | d :: cs, i + 1, c, h => by
    have e : 2 * (i + 1) + 1 = (2 * i + 1) + 1 + 1 := by omega
    rw [wid_cons, e, List.getElem?_cons_succ, List.getElem?_cons_succ]
    exact wid_hi (by simpa using h)
theorem unwide {x : Int32} (h : IsC x) : c16 ((b8 x &&& 255) <<< ((0 : Int32) &&& 31) ||| (b8 (x >>> 8) &&& 255) <<< ((8 : Int32) &&& 31)) = x := by
  have hx := isC_iff.mp h
  have e1 : (b8 x &&& 255).toInt = x.toInt % 256 := by
    rw [c_mask _ 255 8 (by decide) (by decide)]; have := b8_mod x; omega
  have e2 : (b8 (x >>> 8) &&& 255).toInt = x.toInt / 256 := by
    rw [c_mask _ 255 8 (by decide) (by decide)]; have := b8_mod (x >>> 8); rw [shr8] at this; omega
  have e3 := c_ishl (b8 x &&& 255) 0 0 (by decide)
  have e4 := c_ishl (b8 (x >>> 8) &&& 255) 8 8 (by decide)
  generalize hA : (b8 x &&& 255) <<< ((0 : Int32) &&& 31) = A at *
  generalize hB : (b8 (x >>> 8) &&& 255) <<< ((8 : Int32) &&& 31) = D at *
  rw [e1] at e3; rw [e2] at e4
  have bA := i32_bounds A; have bD := i32_bounds D
  have p0 : ((2 ^ 0 : Nat) : Int) = 1 := rfl
  have p8 : ((2 ^ 8 : Nat) : Int) = 256 := rfl
  rw [p0] at e3; rw [p8] at e4
  have a1 : A.toInt = x.toInt % 256 := by omega
  have a2 : D.toInt = x.toInt / 256 * 256 := by omega
  have e5 := c_or' A D 8 (by decide) 256 rfl (by omega) (by omega) (by omega)
  have bO := i32_bounds (A ||| D)
  have e6 : A ||| D = x := by apply Int32.toInt_inj.mp; omega
  rw [e6, c16_of h]
theorem codU {n : Nat} (h0 : 0 < n) (hn : n ≤ 4000) : b8 (XT.ushr (Int32.ofNat n - Int32.ofNat (2 * n)) 31) = 1 := by
  have e := c_isub (Int32.ofNat n) (Int32.ofNat (2 * n))
  rw [ofNat_toInt (i := n) (by omega), ofNat_toInt (i := 2 * n) (by omega)] at e
  have b := i32_bounds (Int32.ofNat n - Int32.ofNat (2 * n))
  have u := c_iushr (Int32.ofNat n - Int32.ofNat (2 * n)) 31 31 (by decide) (by decide)
  have p : ((2 ^ 31 : Nat) : Int) = 2147483648 := rfl
  rw [p] at u
  have v : (XT.ushr (Int32.ofNat n - Int32.ofNat (2 * n)) 31).toInt = 1 := by unfold XT.ushr; omega
  have w : XT.ushr (Int32.ofNat n - Int32.ofNat (2 * n)) 31 = 1 := by apply Int32.toInt_inj.mp; rw [v]; rfl
  rw [w]; rfl
end Jvm.OwnW
namespace Jvm.OwnW
open Sem ClassFile Op Lib Jvm.Stand Jvm.Free Jvm.LawKit Jvm.RoadKit Bundle
theorem no_inst {Z : State} {a0 : Array Value} {C S K : String} {q : Nat} (w : (Jvm.Cond.superclass C S).before a0 Z = true) (wr : (Jvm.Cond.noSuperclass S).before a0 Z = true) (wi : (Jvm.Cond.instantiable K q).before a0 Z = true) (hn : C ≠ K) (hs : S ≠ K) : ∃ c t, Z.vm.findClass C = some c ∧ Z.vm.findClass K = some t ∧ Z.vm.assignable c t = false := by
  obtain ⟨t, kt, g0, g2, g5, g7, -⟩ := Cond.instantiable_spec wi
  obtain ⟨c, h0⟩ := found_sup w
  obtain ⟨p, k, kp, h1, h2, h3, h4, h5, -, h7⟩ := Cond.superclass_spec h0 w
  obtain ⟨r, kr, r1, r2, r3, -, -⟩ := Cond.noSuperclass_spec wr
  cases h1.symm.trans r1
  have ne := ids_ne h0 g0 hn
  have ne2 := ids_ne r1 g0 hs
  have n3 : ∀ fuel, Z.vm.isSubclassAux fuel p t = false := fun fuel => by
    cases fuel with
    | zero => rfl
    | succ f => simp [Vm.isSubclassAux, ne2, r2, r3]
  have n4 : ∀ fuel, Z.vm.isSubclassAux fuel c t = false := fun fuel => by
    cases fuel with
    | zero => rfl
    | succ f => simp [Vm.isSubclassAux, ne, h2, h4, n3]
  simp only [Bool.or_eq_false_iff] at g7
  refine ⟨c, t, h0, g0, ?_⟩
  show Z.vm.assignableAux (255 + 1) c t = false
  simp [Vm.assignableAux, ne, h2, g2, h5, g5, g7.1, Vm.isSubclass, n4]
end Jvm.OwnW
namespace Jvm.OwnW
open Sem ClassFile Op Lib Jvm.Stand Jvm.Free Jvm.LawKit Jvm.RoadKit Bundle
theorem codT {cs : List Int32} {cd : Int32} {vs : List Value} (T : Txt cs cd vs) (h0 : 0 < cs.length) (hn : cs.length ≤ 4000) : b8 (XT.ushr (Int32.ofNat cs.length - Int32.ofNat vs.length) 31) = cd := by
  rcases T with ⟨rfl, rfl, -⟩ | ⟨rfl, rfl, -⟩
  · rw [lat_length, Int32.sub_self]; rfl
  · rw [wid_length]; exact codU h0 hn
end Jvm.OwnW
namespace Jvm.OwnW
open Sem ClassFile Op Lib Jvm.Stand Jvm.Free Jvm.LawKit Jvm.RoadKit Bundle
theorem nar_ref {v : Value} {n : String} (h : v.isRef = true) : narrow (.object n) v = v := by rcases ref_cases h with rfl | ⟨_, rfl⟩ <;> rfl
theorem fits_ref' {v : Value} {n : String} (h : v.isRef = true) : fits (.object n) v = true := by rcases ref_cases h with rfl | ⟨_, rfl⟩ <;> rfl
theorem catle {v : Value} {st : List Value} {A D C : Nat} (h : v.isRef = true) (g : Nat.ble ((List.map (fun v : Value => v.category) (.null :: st)).sum + A + D) C = true) : (List.map (fun v : Value => v.category) (v :: st)).sum + A + D ≤ C := by
  rcases ref_cases h with rfl | ⟨_, rfl⟩ <;> exact le g
theorem catle2 {v x : Value} {st : List Value} {A D C : Nat} (h : v.isRef = true) (g : Nat.ble ((List.map (fun v : Value => v.category) (x :: .null :: st)).sum + A + D) C = true) : (List.map (fun v : Value => v.category) (x :: v :: st)).sum + A + D ≤ C := by
  rcases ref_cases h with rfl | ⟨_, rfl⟩ <;> exact le g
theorem catle3 {v u x : Value} {st : List Value} {A D C : Nat} (h : v.isRef = true) (h' : u.isRef = true) (g : Nat.ble ((List.map (fun v : Value => v.category) (.null :: x :: .null :: st)).sum + A + D) C = true) : (List.map (fun v : Value => v.category) (u :: x :: v :: st)).sum + A + D ≤ C := by
  rcases ref_cases h with rfl | ⟨_, rfl⟩ <;> rcases ref_cases h' with rfl | ⟨_, rfl⟩ <;> exact le g
end Jvm.OwnW
namespace Jvm.OwnW
open Sem ClassFile Op Lib Jvm.Stand Jvm.Free Jvm.LawKit Jvm.RoadKit Bundle
section
variable {args : Array Value} {s : State}
theorem ex_ev {t : Term} {K : String} (h : (Jvm.Cond.exactly t K).value args s none s [] = some true) : ∃ a, t.eval args s none [] s = some (.ref a) ∧ Exa s s.heap a K := by
  obtain ⟨a, _, _, _, e, -⟩ := Cond.exactly_spec (Cond.before_iff.mpr h)
  exact ⟨a, e, Exa.start e h⟩
theorem arr_ev {t : Term} {ty : FieldType} (h : (Jvm.Cond.arrayOf t ty).value args s none s [] = some true) : ∃ a, t.eval args s none [] s = some (.ref a) := by
  simp only [Cond.value] at h
  cases hv : t.eval args s none [] s with
  | none => simp [hv] at h
  | some w => cases w <;> simp [hv] at h <;> exact ⟨_, rfl⟩
theorem eq_int {t : Term} {v : Int32} (h : (Jvm.Cond.eq t (.int v)).value args s none s [] = some true) : t.eval args s none [] s = some (.int v) := by
  simp only [Cond.value, Term.int_eval] at h
  cases hv : t.eval args s none [] s with
  | none => simp [hv] at h
  | some w => cases w <;> simp [hv] at h <;> simp [h]
theorem eq_refR {t u : Term} {a : Addr} (eu : u.eval args s none [] s = some (.ref a)) (h : (Jvm.Cond.eq t u).value args s none s [] = some true) : t.eval args s none [] s = some (.ref a) := by
  simp only [Cond.value, eu] at h
  cases hv : t.eval args s none [] s with
  | none => simp [hv] at h
  | some w => cases w <;> simp [hv] at h <;> simp [h]
theorem fld_ev {t : Term} {O f fd : String} {a : Addr} {v : Value} (ev : t.eval args s none [] s = some (.ref a)) (e : (Term.field t O f fd).eval args s none [] s = some v) : Fld s s.heap a O f fd v := by
  apply Fld.start
  rw [← e]; simp [Term.eval, ev]
theorem arl_ev {t : Term} {a : Addr} {ty : FieldType} {vs : List Value} (hf : Fit s) (ev : t.eval args s none [] s = some (.ref a)) (ha : (Jvm.Cond.arrayOf t ty).value args s none s [] = some true) (hl : (Jvm.Cond.eq (.length t) (.int (Int32.ofNat vs.length))).value args s none s [] = some true) (hn : vs.length < 2 ^ 31)
    (he : ∀ i v, vs[i]? = some v → (Term.elem t (.int (Int32.ofNat i))).eval args s none [] s = some v) : Arl s s.heap a ty vs := by
  obtain ⟨cl, A⟩ := Arr.start ev ha
  have hat : s.arrayAt? a = some cl := A.fin (Vm.Alike.refl _)
  have e1 := eq_int hl
  have sz : cl.slots.size = vs.length := by
    simp only [Term.eval, ev, hat, Option.bind_eq_bind, Option.bind_some, Option.pure_def] at e1
    split at e1
    · rename_i q
      simp only [Option.some.injEq, Value.int.injEq] at e1
      exact ofNat_inj q hn e1
    · cases e1
  have key : ∀ i v, vs[i]? = some v → cl.slots[i]? = some v := fun i v hv => by
    have hi := (List.getElem?_eq_some_iff.mp hv).1
    have e2 := he i v hv
    have q := ofNat_idx (i := i) (by omega)
    simp only [Term.eval, ev, hat, Option.bind_eq_bind, Option.bind_some, q.1, if_false, q.2] at e2
    exact e2
  refine ⟨cl, A, ?_, hn, fun v hv => ?_⟩
  · apply List.ext_getElem?
    intro i
    rw [Array.getElem?_toList]
    cases hv : vs[i]? with
    | none => rw [List.getElem?_eq_none_iff] at hv; rw [Array.getElem?_eq_none_iff]; omega
    | some v => exact key i v hv
  · obtain ⟨i, hv⟩ := List.mem_iff_getElem?.mp hv
    have hi := (List.getElem?_eq_some_iff.mp hv).1
    have q := ofNat_idx (i := i) (by omega)
    exact elem_fits (j := Int32.ofNat i) hf A (by rw [q.2]; intro z; rcases z with z | z; exact q.1 z; omega) (by rw [q.2]; exact key i v hv)
theorem str_ev {t : Term} {cs : List Int32} (hf : Fit s) (hx : (Jvm.Cond.exactly t "java/lang/String").value args s none s [] = some true) (hc : (Jvm.Cond.eq (.field t "java/lang/String" "coder" "B") (.int 0)).value args s none s [] = some true)
    (ha : (Jvm.Cond.arrayOf (.field t "java/lang/String" "value" "[B") .byte).value args s none s [] = some true) (hl : (Jvm.Cond.eq (.length (.field t "java/lang/String" "value" "[B")) (.int (Int32.ofNat cs.length))).value args s none s [] = some true) (hn : cs.length ≤ 4000) (hL : ∀ c ∈ cs, b8 c = c ∧ IsL c)
    (he : ∀ i c, cs[i]? = some c → (Jvm.Cond.eq (.elem (.field t "java/lang/String" "value" "[B") (.int (Int32.ofNat i))) (.int c)).value args s none s [] = some true) : ∃ a, t.eval args s none [] s = some (.ref a) ∧ StrAt s s.heap a cs := by
  obtain ⟨a, ea, X⟩ := ex_ev hx
  obtain ⟨b, eb⟩ := arr_ev ha
  have hlat : lat cs = ints cs := by
    unfold lat ints; exact List.map_congr_left fun c hc => by rw [(hL c hc).1]
  have A : Arl s s.heap b .byte (lat cs) := by
    rw [hlat]
    refine arl_ev hf eb ha (by rw [ints_length]; exact hl) (by rw [ints_length]; omega) fun i v hv => ?_
    obtain ⟨c, hc1, rfl⟩ : ∃ c, cs[i]? = some c ∧ v = .int c := by
      unfold ints at hv; rw [List.getElem?_map] at hv
      cases hq : cs[i]? with
      | none => rw [hq] at hv; cases hv
      | some c => rw [hq] at hv; exact ⟨c, rfl, (Option.some.inj hv).symm⟩
    exact eq_int (he i c hc1)
  exact ⟨a, ea, b, 0, lat cs, X, fld_ev ea eb, fld_ev ea (eq_int hc), A, Or.inl ⟨rfl, rfl, fun c hc => (hL c hc).2.2⟩, fun c hc => (hL c hc).2.isC, hn⟩
end
end Jvm.OwnW
namespace Jvm.Pilot.@@N@@
open Jvm Jvm.ClassFile Sem Op Lib Jvm.Free Jvm.Stand Jvm.LawKit Jvm.RoadKit Bundle Jvm.Pilot.@@N@@.Jvm.D Jvm.OwnW
set_option maxRecDepth 65536
set_option maxHeartbeats 4000000
theorem tw0 : (Jvm.Cond.arrayClass Jvm.ClassFile.FieldType.char) ∈ tables_1 := List.mem_of_getElem? (i := 0) rfl
theorem tw1 : (Jvm.Cond.methodLink "com/example/dommel/dommel/DailyNumberFormatRequireTypePinLaw" (9 : Nat) ({ cls := "com/example/dommel/dommel/DailyNumberFormatRequireTypePinLaw", name := "ch", desc := "(JI)C" } : Jvm.MethodName)) ∈ tables_1 := List.mem_of_getElem? (i := 1) rfl
theorem tw2 : (Jvm.Cond.static ({ cls := "com/example/dommel/dommel/DailyNumberFormatRequireTypePinLaw", name := "ch", desc := "(JI)C" } : Jvm.MethodName)) ∈ tables_1 := List.mem_of_getElem? (i := 2) rfl
theorem tw3 : (Jvm.Cond.initialized "com/example/dommel/dommel/DailyNumberFormatRequireTypePinLaw") ∈ tables_1 := List.mem_of_getElem? (i := 3) rfl
theorem tw4 : (Jvm.Cond.code ({ cls := "com/example/dommel/dommel/DailyNumberFormatRequireTypePinLaw", name := "ch", desc := "(JI)C" } : Jvm.MethodName) method_2_code (4 : Nat) (Option.some Jvm.ClassFile.FieldType.char)) ∈ tables_1 := List.mem_of_getElem? (i := 4) rfl
theorem tw5 : (Jvm.Cond.constantLong "com/example/dommel/dommel/DailyNumberFormatRequireTypePinLaw" (7 : Nat) (255 : Int64)) ∈ tables_1 := List.mem_of_getElem? (i := 5) rfl
theorem tw6 : (Jvm.Cond.methodLink "com/example/dommel/dommel/DailyNumberFormatRequireTypePinLaw" (15 : Nat) ({ cls := "com/example/dommel/dommel/DailyNumberFormatRequireTypePinLaw", name := "put", desc := "([CIC)V" } : Jvm.MethodName)) ∈ tables_1 := List.mem_of_getElem? (i := 6) rfl
theorem tw7 : (Jvm.Cond.static ({ cls := "com/example/dommel/dommel/DailyNumberFormatRequireTypePinLaw", name := "put", desc := "([CIC)V" } : Jvm.MethodName)) ∈ tables_1 := List.mem_of_getElem? (i := 7) rfl
theorem tw8 : (Jvm.Cond.code ({ cls := "com/example/dommel/dommel/DailyNumberFormatRequireTypePinLaw", name := "put", desc := "([CIC)V" } : Jvm.MethodName) method_3_code (3 : Nat) (Option.none : Option Jvm.ClassFile.FieldType)) ∈ tables_1 := List.mem_of_getElem? (i := 8) rfl
theorem tw9 : (Jvm.Cond.classLink "com/example/dommel/dommel/DailyNumberFormatRequireTypePinLaw" (19 : Nat) "java/lang/String") ∈ tables_1 := List.mem_of_getElem? (i := 9) rfl
theorem tw10 : (Jvm.Cond.instantiable "java/lang/String" (4 : Nat)) ∈ tables_1 := List.mem_of_getElem? (i := 10) rfl
theorem tw11 : (Jvm.Cond.initialized "java/lang/String") ∈ tables_1 := List.mem_of_getElem? (i := 11) rfl
theorem tw12 : (Jvm.Cond.methodLink "com/example/dommel/dommel/DailyNumberFormatRequireTypePinLaw" (21 : Nat) ({ cls := "java/lang/String", name := "<init>", desc := "([C)V" } : Jvm.MethodName)) ∈ tables_1 := List.mem_of_getElem? (i := 12) rfl
theorem tw13 : (Jvm.Cond.instanceMethod ({ cls := "java/lang/String", name := "<init>", desc := "([C)V" } : Jvm.MethodName)) ∈ tables_1 := List.mem_of_getElem? (i := 13) rfl
theorem tw14 : (Jvm.Cond.code ({ cls := "java/lang/String", name := "<init>", desc := "([C)V" } : Jvm.MethodName) jdk_42_method_3_code (2 : Nat) (Option.none : Option Jvm.ClassFile.FieldType)) ∈ tables_1 := List.mem_of_getElem? (i := 14) rfl
theorem tw15 : (Jvm.Cond.methodLink "java/lang/String" (27 : Nat) ({ cls := "java/lang/String", name := "<init>", desc := "([CIILjava/lang/Void;)V" } : Jvm.MethodName)) ∈ tables_1 := List.mem_of_getElem? (i := 15) rfl
theorem tw16 : (Jvm.Cond.instanceMethod ({ cls := "java/lang/String", name := "<init>", desc := "([CIILjava/lang/Void;)V" } : Jvm.MethodName)) ∈ tables_1 := List.mem_of_getElem? (i := 16) rfl
theorem tw18 : (Jvm.Cond.code ({ cls := "java/lang/String", name := "<init>", desc := "([CIILjava/lang/Void;)V" } : Jvm.MethodName) jdk_42_method_149_code (6 : Nat) (Option.none : Option Jvm.ClassFile.FieldType)) ∈ tables_1 := List.mem_of_getElem? (i := 18) rfl
theorem tw19 : (Jvm.Cond.methodLink "java/lang/String" (1 : Nat) ({ cls := "java/lang/Object", name := "<init>", desc := "()V" } : Jvm.MethodName)) ∈ tables_1 := List.mem_of_getElem? (i := 19) rfl
theorem tw20 : (Jvm.Cond.instanceMethod ({ cls := "java/lang/Object", name := "<init>", desc := "()V" } : Jvm.MethodName)) ∈ tables_1 := List.mem_of_getElem? (i := 20) rfl
theorem tw21 : (Jvm.Cond.code ({ cls := "java/lang/Object", name := "<init>", desc := "()V" } : Jvm.MethodName) object_method_1_code (1 : Nat) (Option.none : Option Jvm.ClassFile.FieldType)) ∈ tables_1 := List.mem_of_getElem? (i := 21) rfl
theorem tw22 : (Jvm.Cond.fieldLink "java/lang/String" (38 : Nat) "java/lang/String" "COMPACT_STRINGS" "Z") ∈ tables_1 := List.mem_of_getElem? (i := 22) rfl
theorem tw23 : (Jvm.Cond.methodLink "java/lang/String" (177 : Nat) ({ cls := "java/lang/StringUTF16", name := "compress", desc := "([CII)[B" } : Jvm.MethodName)) ∈ tables_1 := List.mem_of_getElem? (i := 23) rfl
theorem tw24 : (Jvm.Cond.static ({ cls := "java/lang/StringUTF16", name := "compress", desc := "([CII)[B" } : Jvm.MethodName)) ∈ tables_1 := List.mem_of_getElem? (i := 24) rfl
theorem tw25 : (Jvm.Cond.initialized "java/lang/StringUTF16") ∈ tables_1 := List.mem_of_getElem? (i := 25) rfl
theorem tw26 : (Jvm.Cond.code ({ cls := "java/lang/StringUTF16", name := "compress", desc := "([CII)[B" } : Jvm.MethodName) jdk_52_method_16_code (6 : Nat) (Option.some (Jvm.ClassFile.FieldType.array Jvm.ClassFile.FieldType.byte))) ∈ tables_1 := List.mem_of_getElem? (i := 26) rfl
theorem tw27 : (Jvm.Cond.arrayClass Jvm.ClassFile.FieldType.byte) ∈ tables_1 := List.mem_of_getElem? (i := 27) rfl
theorem tw28 : (Jvm.Cond.methodLink "java/lang/StringUTF16" (115 : Nat) ({ cls := "java/lang/StringUTF16", name := "compress", desc := "([CI[BII)I" } : Jvm.MethodName)) ∈ tables_1 := List.mem_of_getElem? (i := 28) rfl
theorem tw29 : (Jvm.Cond.static ({ cls := "java/lang/StringUTF16", name := "compress", desc := "([CI[BII)I" } : Jvm.MethodName)) ∈ tables_1 := List.mem_of_getElem? (i := 29) rfl
theorem tw30 : (Jvm.Cond.code ({ cls := "java/lang/StringUTF16", name := "compress", desc := "([CI[BII)I" } : Jvm.MethodName) jdk_52_method_21_code (7 : Nat) (Option.some Jvm.ClassFile.FieldType.int)) ∈ tables_1 := List.mem_of_getElem? (i := 30) rfl
theorem tw31 : (Jvm.Cond.methodLink "java/lang/String" (47 : Nat) ({ cls := "java/lang/StringUTF16", name := "coderFromArrayLen", desc := "([BI)B" } : Jvm.MethodName)) ∈ tables_1 := List.mem_of_getElem? (i := 31) rfl
theorem tw32 : (Jvm.Cond.static ({ cls := "java/lang/StringUTF16", name := "coderFromArrayLen", desc := "([BI)B" } : Jvm.MethodName)) ∈ tables_1 := List.mem_of_getElem? (i := 32) rfl
theorem tw33 : (Jvm.Cond.code ({ cls := "java/lang/StringUTF16", name := "coderFromArrayLen", desc := "([BI)B" } : Jvm.MethodName) jdk_52_method_15_code (2 : Nat) (Option.some Jvm.ClassFile.FieldType.byte)) ∈ tables_1 := List.mem_of_getElem? (i := 33) rfl
theorem tw34 : (Jvm.Cond.fieldLink "java/lang/String" (15 : Nat) "java/lang/String" "coder" "B") ∈ tables_1 := List.mem_of_getElem? (i := 34) rfl
theorem tw35 : (Jvm.Cond.laysFinal "java/lang/String" "java/lang/String" "coder" "B") ∈ tables_1 := List.mem_of_getElem? (i := 35) rfl
theorem tw36 : (Jvm.Cond.fieldLink "java/lang/String" (9 : Nat) "java/lang/String" "value" "[B") ∈ tables_1 := List.mem_of_getElem? (i := 36) rfl
theorem tw37 : (Jvm.Cond.laysFinal "java/lang/String" "java/lang/String" "value" "[B") ∈ tables_1 := List.mem_of_getElem? (i := 37) rfl
theorem tw38 : (Jvm.Cond.methodLink "com/example/dommel/dommel/DailyNumberFormatRequireTypePinLaw" (24 : Nat) ({ cls := "com/example/dommel/dommel/DailyNumberFormat", name := "requireType", desc := "(Ljava/lang/String;)Ljava/lang/String;" } : Jvm.MethodName)) ∈ tables_1 := List.mem_of_getElem? (i := 38) rfl
theorem tw39 : (Jvm.Cond.static ({ cls := "com/example/dommel/dommel/DailyNumberFormat", name := "requireType", desc := "(Ljava/lang/String;)Ljava/lang/String;" } : Jvm.MethodName)) ∈ tables_1 := List.mem_of_getElem? (i := 39) rfl
theorem tw40 : (Jvm.Cond.initialized "com/example/dommel/dommel/DailyNumberFormat") ∈ tables_1 := List.mem_of_getElem? (i := 40) rfl
theorem tw41 : (Jvm.Cond.code ({ cls := "com/example/dommel/dommel/DailyNumberFormat", name := "requireType", desc := "(Ljava/lang/String;)Ljava/lang/String;" } : Jvm.MethodName) prog_1_method_2_code (2 : Nat) (Option.some (Jvm.ClassFile.FieldType.object "java/lang/String"))) ∈ tables_1 := List.mem_of_getElem? (i := 41) rfl
theorem tw42 : (Jvm.Cond.stringLink "com/example/dommel/dommel/DailyNumberFormat" (7 : Nat) "type") ∈ tables_1 := List.mem_of_getElem? (i := 42) rfl
theorem tw45 : (Jvm.Cond.methodLink "com/example/dommel/dommel/DailyNumberFormat" (9 : Nat) ({ cls := "java/util/Objects", name := "requireNonNull", desc := "(Ljava/lang/Object;Ljava/lang/String;)Ljava/lang/Object;" } : Jvm.MethodName)) ∈ tables_1 := List.mem_of_getElem? (i := 45) rfl
theorem tw46 : (Jvm.Cond.static ({ cls := "java/util/Objects", name := "requireNonNull", desc := "(Ljava/lang/Object;Ljava/lang/String;)Ljava/lang/Object;" } : Jvm.MethodName)) ∈ tables_1 := List.mem_of_getElem? (i := 46) rfl
theorem tw47 : (Jvm.Cond.initialized "java/util/Objects") ∈ tables_1 := List.mem_of_getElem? (i := 47) rfl
theorem tw48 : (Jvm.Cond.code ({ cls := "java/util/Objects", name := "requireNonNull", desc := "(Ljava/lang/Object;Ljava/lang/String;)Ljava/lang/Object;" } : Jvm.MethodName) jdk_31_method_11_code (2 : Nat) (Option.some (Jvm.ClassFile.FieldType.object "java/lang/Object"))) ∈ tables_1 := List.mem_of_getElem? (i := 48) rfl
theorem tw49 : (Jvm.Cond.methodLink "com/example/dommel/dommel/DailyNumberFormat" (15 : Nat) ({ cls := "java/lang/String", name := "isEmpty", desc := "()Z" } : Jvm.MethodName)) ∈ tables_1 := List.mem_of_getElem? (i := 49) rfl
theorem tw50 : (Jvm.Cond.declares ({ cls := "java/lang/String", name := "isEmpty", desc := "()Z" } : Jvm.MethodName)) ∈ tables_1 := List.mem_of_getElem? (i := 50) rfl
theorem tw51 : (Jvm.Cond.instanceMethod ({ cls := "java/lang/String", name := "isEmpty", desc := "()Z" } : Jvm.MethodName)) ∈ tables_1 := List.mem_of_getElem? (i := 51) rfl
theorem tw52 : (Jvm.Cond.selects "java/lang/String" ({ cls := "java/lang/String", name := "isEmpty", desc := "()Z" } : Jvm.MethodName) ({ cls := "java/lang/String", name := "isEmpty", desc := "()Z" } : Jvm.MethodName)) ∈ tables_1 := List.mem_of_getElem? (i := 52) rfl
theorem tw53 : (Jvm.Cond.code ({ cls := "java/lang/String", name := "isEmpty", desc := "()Z" } : Jvm.MethodName) jdk_42_method_55_code (1 : Nat) (Option.some Jvm.ClassFile.FieldType.boolean)) ∈ tables_1 := List.mem_of_getElem? (i := 53) rfl
theorem tw54 : (Jvm.Cond.methodLink "com/example/dommel/dommel/DailyNumberFormat" (21 : Nat) ({ cls := "java/lang/String", name := "length", desc := "()I" } : Jvm.MethodName)) ∈ tables_1 := List.mem_of_getElem? (i := 54) rfl
theorem tw55 : (Jvm.Cond.declares ({ cls := "java/lang/String", name := "length", desc := "()I" } : Jvm.MethodName)) ∈ tables_1 := List.mem_of_getElem? (i := 55) rfl
theorem tw56 : (Jvm.Cond.instanceMethod ({ cls := "java/lang/String", name := "length", desc := "()I" } : Jvm.MethodName)) ∈ tables_1 := List.mem_of_getElem? (i := 56) rfl
theorem tw57 : (Jvm.Cond.selects "java/lang/String" ({ cls := "java/lang/String", name := "length", desc := "()I" } : Jvm.MethodName) ({ cls := "java/lang/String", name := "length", desc := "()I" } : Jvm.MethodName)) ∈ tables_1 := List.mem_of_getElem? (i := 57) rfl
theorem tw58 : (Jvm.Cond.code ({ cls := "java/lang/String", name := "length", desc := "()I" } : Jvm.MethodName) jdk_42_method_54_code (1 : Nat) (Option.some Jvm.ClassFile.FieldType.int)) ∈ tables_1 := List.mem_of_getElem? (i := 58) rfl
theorem tw59 : (Jvm.Cond.methodLink "java/lang/String" (335 : Nat) ({ cls := "java/lang/String", name := "coder", desc := "()B" } : Jvm.MethodName)) ∈ tables_1 := List.mem_of_getElem? (i := 59) rfl
theorem tw60 : (Jvm.Cond.declares ({ cls := "java/lang/String", name := "coder", desc := "()B" } : Jvm.MethodName)) ∈ tables_1 := List.mem_of_getElem? (i := 60) rfl
theorem tw61 : (Jvm.Cond.instanceMethod ({ cls := "java/lang/String", name := "coder", desc := "()B" } : Jvm.MethodName)) ∈ tables_1 := List.mem_of_getElem? (i := 61) rfl
theorem tw62 : (Jvm.Cond.selects "java/lang/String" ({ cls := "java/lang/String", name := "coder", desc := "()B" } : Jvm.MethodName) ({ cls := "java/lang/String", name := "coder", desc := "()B" } : Jvm.MethodName)) ∈ tables_1 := List.mem_of_getElem? (i := 62) rfl
theorem tw63 : (Jvm.Cond.code ({ cls := "java/lang/String", name := "coder", desc := "()B" } : Jvm.MethodName) jdk_42_method_152_code (1 : Nat) (Option.some Jvm.ClassFile.FieldType.byte)) ∈ tables_1 := List.mem_of_getElem? (i := 63) rfl
theorem tw64 : (Jvm.Cond.methodLink "com/example/dommel/dommel/DailyNumberFormat" (31 : Nat) ({ cls := "java/lang/String", name := "charAt", desc := "(I)C" } : Jvm.MethodName)) ∈ tables_1 := List.mem_of_getElem? (i := 64) rfl
theorem tw65 : (Jvm.Cond.declares ({ cls := "java/lang/String", name := "charAt", desc := "(I)C" } : Jvm.MethodName)) ∈ tables_1 := List.mem_of_getElem? (i := 65) rfl
theorem tw66 : (Jvm.Cond.instanceMethod ({ cls := "java/lang/String", name := "charAt", desc := "(I)C" } : Jvm.MethodName)) ∈ tables_1 := List.mem_of_getElem? (i := 66) rfl
theorem tw67 : (Jvm.Cond.selects "java/lang/String" ({ cls := "java/lang/String", name := "charAt", desc := "(I)C" } : Jvm.MethodName) ({ cls := "java/lang/String", name := "charAt", desc := "(I)C" } : Jvm.MethodName)) ∈ tables_1 := List.mem_of_getElem? (i := 67) rfl
theorem tw68 : (Jvm.Cond.code ({ cls := "java/lang/String", name := "charAt", desc := "(I)C" } : Jvm.MethodName) jdk_42_method_56_code (2 : Nat) (Option.some Jvm.ClassFile.FieldType.char)) ∈ tables_1 := List.mem_of_getElem? (i := 68) rfl
theorem tw69 : (Jvm.Cond.methodLink "java/lang/String" (492 : Nat) ({ cls := "java/lang/String", name := "isLatin1", desc := "()Z" } : Jvm.MethodName)) ∈ tables_1 := List.mem_of_getElem? (i := 69) rfl
theorem tw70 : (Jvm.Cond.declares ({ cls := "java/lang/String", name := "isLatin1", desc := "()Z" } : Jvm.MethodName)) ∈ tables_1 := List.mem_of_getElem? (i := 70) rfl
theorem tw71 : (Jvm.Cond.instanceMethod ({ cls := "java/lang/String", name := "isLatin1", desc := "()Z" } : Jvm.MethodName)) ∈ tables_1 := List.mem_of_getElem? (i := 71) rfl
theorem tw72 : (Jvm.Cond.selects "java/lang/String" ({ cls := "java/lang/String", name := "isLatin1", desc := "()Z" } : Jvm.MethodName) ({ cls := "java/lang/String", name := "isLatin1", desc := "()Z" } : Jvm.MethodName)) ∈ tables_1 := List.mem_of_getElem? (i := 72) rfl
theorem tw73 : (Jvm.Cond.code ({ cls := "java/lang/String", name := "isLatin1", desc := "()Z" } : Jvm.MethodName) jdk_42_method_154_code (1 : Nat) (Option.some Jvm.ClassFile.FieldType.boolean)) ∈ tables_1 := List.mem_of_getElem? (i := 73) rfl
theorem tw74 : (Jvm.Cond.methodLink "java/lang/String" (495 : Nat) ({ cls := "java/lang/StringLatin1", name := "charAt", desc := "([BI)C" } : Jvm.MethodName)) ∈ tables_1 := List.mem_of_getElem? (i := 74) rfl
theorem tw75 : (Jvm.Cond.static ({ cls := "java/lang/StringLatin1", name := "charAt", desc := "([BI)C" } : Jvm.MethodName)) ∈ tables_1 := List.mem_of_getElem? (i := 75) rfl
theorem tw76 : (Jvm.Cond.initialized "java/lang/StringLatin1") ∈ tables_1 := List.mem_of_getElem? (i := 76) rfl
theorem tw77 : (Jvm.Cond.code ({ cls := "java/lang/StringLatin1", name := "charAt", desc := "([BI)C" } : Jvm.MethodName) jdk_43_method_2_code (2 : Nat) (Option.some Jvm.ClassFile.FieldType.char)) ∈ tables_1 := List.mem_of_getElem? (i := 77) rfl
theorem tw78 : (Jvm.Cond.methodLink "java/lang/StringLatin1" (9 : Nat) ({ cls := "java/lang/String", name := "checkIndex", desc := "(II)V" } : Jvm.MethodName)) ∈ tables_1 := List.mem_of_getElem? (i := 78) rfl
theorem tw79 : (Jvm.Cond.static ({ cls := "java/lang/String", name := "checkIndex", desc := "(II)V" } : Jvm.MethodName)) ∈ tables_1 := List.mem_of_getElem? (i := 79) rfl
theorem tw80 : (Jvm.Cond.code ({ cls := "java/lang/String", name := "checkIndex", desc := "(II)V" } : Jvm.MethodName) jdk_42_method_155_code (2 : Nat) (Option.none : Option Jvm.ClassFile.FieldType)) ∈ tables_1 := List.mem_of_getElem? (i := 80) rfl
theorem tw81 : (Jvm.Cond.fieldLink "java/lang/String" (1053 : Nat) "jdk/internal/util/Preconditions" "SIOOBE_FORMATTER" "Ljava/util/function/BiFunction;") ∈ tables_1 := List.mem_of_getElem? (i := 81) rfl
theorem tw82 : (Jvm.Cond.initialized "jdk/internal/util/Preconditions") ∈ tables_1 := List.mem_of_getElem? (i := 82) rfl
theorem tw83 : (Jvm.Cond.methodLink "java/lang/String" (1059 : Nat) ({ cls := "jdk/internal/util/Preconditions", name := "checkIndex", desc := "(IILjava/util/function/BiFunction;)I" } : Jvm.MethodName)) ∈ tables_1 := List.mem_of_getElem? (i := 83) rfl
theorem tw84 : (Jvm.Cond.static ({ cls := "jdk/internal/util/Preconditions", name := "checkIndex", desc := "(IILjava/util/function/BiFunction;)I" } : Jvm.MethodName)) ∈ tables_1 := List.mem_of_getElem? (i := 84) rfl
theorem tw85 : (Jvm.Cond.code ({ cls := "jdk/internal/util/Preconditions", name := "checkIndex", desc := "(IILjava/util/function/BiFunction;)I" } : Jvm.MethodName) jdk_41_method_11_code (3 : Nat) (Option.some Jvm.ClassFile.FieldType.int)) ∈ tables_1 := List.mem_of_getElem? (i := 85) rfl
theorem tw86 : (Jvm.Cond.methodLink "com/example/dommel/dommel/DailyNumberFormat" (35 : Nat) ({ cls := "com/example/dommel/dommel/DailyNumberFormat", name := "isAsciiLetterOrDigit", desc := "(C)Z" } : Jvm.MethodName)) ∈ tables_1 := List.mem_of_getElem? (i := 86) rfl
theorem tw87 : (Jvm.Cond.static ({ cls := "com/example/dommel/dommel/DailyNumberFormat", name := "isAsciiLetterOrDigit", desc := "(C)Z" } : Jvm.MethodName)) ∈ tables_1 := List.mem_of_getElem? (i := 87) rfl
theorem tw88 : (Jvm.Cond.code ({ cls := "com/example/dommel/dommel/DailyNumberFormat", name := "isAsciiLetterOrDigit", desc := "(C)Z" } : Jvm.MethodName) prog_1_method_5_code (1 : Nat) (Option.some Jvm.ClassFile.FieldType.boolean)) ∈ tables_1 := List.mem_of_getElem? (i := 88) rfl
theorem tw89 : (Jvm.Cond.methodLink "com/example/dommel/dommel/DailyNumberFormatRequireTypePinLaw" (30 : Nat) ({ cls := "java/lang/String", name := "equals", desc := "(Ljava/lang/Object;)Z" } : Jvm.MethodName)) ∈ tables_1 := List.mem_of_getElem? (i := 89) rfl
theorem tw90 : (Jvm.Cond.declares ({ cls := "java/lang/String", name := "equals", desc := "(Ljava/lang/Object;)Z" } : Jvm.MethodName)) ∈ tables_1 := List.mem_of_getElem? (i := 90) rfl
theorem tw91 : (Jvm.Cond.instanceMethod ({ cls := "java/lang/String", name := "equals", desc := "(Ljava/lang/Object;)Z" } : Jvm.MethodName)) ∈ tables_1 := List.mem_of_getElem? (i := 91) rfl
theorem tw92 : (Jvm.Cond.selects "java/lang/String" ({ cls := "java/lang/String", name := "equals", desc := "(Ljava/lang/Object;)Z" } : Jvm.MethodName) ({ cls := "java/lang/String", name := "equals", desc := "(Ljava/lang/Object;)Z" } : Jvm.MethodName)) ∈ tables_1 := List.mem_of_getElem? (i := 92) rfl
theorem tw93 : (Jvm.Cond.code ({ cls := "java/lang/String", name := "equals", desc := "(Ljava/lang/Object;)Z" } : Jvm.MethodName) jdk_42_method_66_code (3 : Nat) (Option.some Jvm.ClassFile.FieldType.boolean)) ∈ tables_1 := List.mem_of_getElem? (i := 93) rfl
theorem db0_3 : Dec jdk_52_method_21_code 3 (.iload 5) 2 5 := ⟨by decide +kernel, rfl⟩
theorem db0_5 : Dec jdk_52_method_21_code 5 (.iload 4) 2 7 := ⟨by decide +kernel, rfl⟩
theorem db0_7 : DecJ jdk_52_method_21_code 7 (.if_icmp .ge 37) (37) 10 44 := ⟨by decide +kernel, rfl, by decide, by decide⟩
theorem db0_44 : Dec jdk_52_method_21_code 44 (.iload 4) 2 46 := ⟨by decide +kernel, rfl⟩
theorem db0_46 : Dec jdk_52_method_21_code 46 (.ireturn) 1 47 := ⟨by decide +kernel, rfl⟩
theorem db0_10 : Dec jdk_52_method_21_code 10 (.aload_n 0) 1 11 := ⟨by decide +kernel, rfl⟩
theorem db0_11 : Dec jdk_52_method_21_code 11 (.iload_n 1) 1 12 := ⟨by decide +kernel, rfl⟩
theorem db0_12 : Dec jdk_52_method_21_code 12 (.caload) 1 13 := ⟨by decide +kernel, rfl⟩
theorem db0_13 : Dec jdk_52_method_21_code 13 (.istore 6) 2 15 := ⟨by decide +kernel, rfl⟩
theorem db0_15 : Dec jdk_52_method_21_code 15 (.iload 6) 2 17 := ⟨by decide +kernel, rfl⟩
theorem db0_17 : Dec jdk_52_method_21_code 17 (.sipush 255) 3 20 := ⟨by decide +kernel, rfl⟩
theorem db0_20 : DecJ jdk_52_method_21_code 20 (.if_icmp .le 6) (6) 23 26 := ⟨by decide +kernel, rfl, by decide, by decide⟩
theorem db0_26 : Dec jdk_52_method_21_code 26 (.aload_n 2) 1 27 := ⟨by decide +kernel, rfl⟩
theorem db0_27 : Dec jdk_52_method_21_code 27 (.iload_n 3) 1 28 := ⟨by decide +kernel, rfl⟩
theorem db0_28 : Dec jdk_52_method_21_code 28 (.iload 6) 2 30 := ⟨by decide +kernel, rfl⟩
theorem db0_30 : Dec jdk_52_method_21_code 30 (.i2b) 1 31 := ⟨by decide +kernel, rfl⟩
theorem db0_31 : Dec jdk_52_method_21_code 31 (.bastore) 1 32 := ⟨by decide +kernel, rfl⟩
theorem db0_32 : Dec jdk_52_method_21_code 32 (.iinc 1 1) 3 35 := ⟨by decide +kernel, rfl⟩
theorem db0_35 : Dec jdk_52_method_21_code 35 (.iinc 3 1) 3 38 := ⟨by decide +kernel, rfl⟩
theorem db0_38 : Dec jdk_52_method_21_code 38 (.iinc 5 1) 3 41 := ⟨by decide +kernel, rfl⟩
theorem db0_41 : DecJ jdk_52_method_21_code 41 (.goto (-38)) (-38) 44 3 := ⟨by decide +kernel, rfl, by decide, by decide⟩
theorem db0_23 : Dec jdk_52_method_21_code 23 (.iload 5) 2 25 := ⟨by decide +kernel, rfl⟩
theorem db0_25 : Dec jdk_52_method_21_code 25 (.ireturn) 1 26 := ⟨by decide +kernel, rfl⟩
theorem db0_0 : Dec jdk_52_method_21_code 0 (.iconst 0) 1 1 := ⟨by decide +kernel, rfl⟩
theorem db0_1 : Dec jdk_52_method_21_code 1 (.istore 5) 2 3 := ⟨by decide +kernel, rfl⟩
theorem db1_0 : Dec jdk_52_method_15_code 0 (.iload_n 1) 1 1 := ⟨by decide +kernel, rfl⟩
theorem db1_1 : Dec jdk_52_method_15_code 1 (.aload_n 0) 1 2 := ⟨by decide +kernel, rfl⟩
theorem db1_2 : Dec jdk_52_method_15_code 2 (.arraylength) 1 3 := ⟨by decide +kernel, rfl⟩
theorem db1_3 : Dec jdk_52_method_15_code 3 (.isub) 1 4 := ⟨by decide +kernel, rfl⟩
theorem db1_4 : Dec jdk_52_method_15_code 4 (.bipush 31) 2 6 := ⟨by decide +kernel, rfl⟩
theorem db1_6 : Dec jdk_52_method_15_code 6 (.iushr) 1 7 := ⟨by decide +kernel, rfl⟩
theorem db1_7 : Dec jdk_52_method_15_code 7 (.i2b) 1 8 := ⟨by decide +kernel, rfl⟩
theorem db1_8 : Dec jdk_52_method_15_code 8 (.ireturn) 1 9 := ⟨by decide +kernel, rfl⟩
theorem db2_0 : Dec jdk_52_method_16_code 0 (.iload_n 2) 1 1 := ⟨by decide +kernel, rfl⟩
theorem db2_1 : Dec jdk_52_method_16_code 1 (.newarray .byte) 2 3 := ⟨by decide +kernel, rfl⟩
theorem db2_3 : Dec jdk_52_method_16_code 3 (.astore_n 3) 1 4 := ⟨by decide +kernel, rfl⟩
theorem db2_4 : Dec jdk_52_method_16_code 4 (.aload_n 0) 1 5 := ⟨by decide +kernel, rfl⟩
theorem db2_5 : Dec jdk_52_method_16_code 5 (.iload_n 1) 1 6 := ⟨by decide +kernel, rfl⟩
theorem db2_6 : Dec jdk_52_method_16_code 6 (.aload_n 3) 1 7 := ⟨by decide +kernel, rfl⟩
theorem db2_7 : Dec jdk_52_method_16_code 7 (.iconst 0) 1 8 := ⟨by decide +kernel, rfl⟩
theorem db2_8 : Dec jdk_52_method_16_code 8 (.iload_n 2) 1 9 := ⟨by decide +kernel, rfl⟩
theorem db2_9 : Dec jdk_52_method_16_code 9 (.invokestatic 115) 3 12 := ⟨by decide +kernel, rfl⟩
theorem db2_12 : Dec jdk_52_method_16_code 12 (.istore 4) 2 14 := ⟨by decide +kernel, rfl⟩
theorem db2_14 : Dec jdk_52_method_16_code 14 (.iload 4) 2 16 := ⟨by decide +kernel, rfl⟩
theorem db2_16 : Dec jdk_52_method_16_code 16 (.iload_n 2) 1 17 := ⟨by decide +kernel, rfl⟩
theorem db2_17 : DecJ jdk_52_method_16_code 17 (.if_icmp .eq 40) (40) 20 57 := ⟨by decide +kernel, rfl, by decide, by decide⟩
theorem db2_57 : Dec jdk_52_method_16_code 57 (.aload_n 3) 1 58 := ⟨by decide +kernel, rfl⟩
theorem db2_58 : Dec jdk_52_method_16_code 58 (.areturn) 1 59 := ⟨by decide +kernel, rfl⟩
theorem db3_0 : Dec jdk_42_method_149_code 0 (.aload_n 0) 1 1 := ⟨by decide +kernel, rfl⟩
theorem db3_1 : Dec jdk_42_method_149_code 1 (.invokespecial 1) 3 4 := ⟨by decide +kernel, rfl⟩
theorem db3_4 : Dec jdk_42_method_149_code 4 (.iload_n 3) 1 5 := ⟨by decide +kernel, rfl⟩
theorem db3_5 : DecJ jdk_42_method_149_code 5 (.ifCond .ne 22) (22) 8 27 := ⟨by decide +kernel, rfl, by decide, by decide⟩
theorem db3_27 : Dec jdk_42_method_149_code 27 (.getstatic 38) 3 30 := ⟨by decide +kernel, rfl⟩
theorem db3_30 : DecJ jdk_42_method_149_code 30 (.ifCond .eq 28) (28) 33 58 := ⟨by decide +kernel, rfl, by decide, by decide⟩
theorem db3_33 : Dec jdk_42_method_149_code 33 (.aload_n 1) 1 34 := ⟨by decide +kernel, rfl⟩
theorem db3_34 : Dec jdk_42_method_149_code 34 (.iload_n 2) 1 35 := ⟨by decide +kernel, rfl⟩
theorem db3_35 : Dec jdk_42_method_149_code 35 (.iload_n 3) 1 36 := ⟨by decide +kernel, rfl⟩
theorem db3_36 : Dec jdk_42_method_149_code 36 (.invokestatic 177) 3 39 := ⟨by decide +kernel, rfl⟩
theorem db3_39 : Dec jdk_42_method_149_code 39 (.astore 5) 2 41 := ⟨by decide +kernel, rfl⟩
theorem db3_41 : Dec jdk_42_method_149_code 41 (.aload_n 0) 1 42 := ⟨by decide +kernel, rfl⟩
theorem db3_42 : Dec jdk_42_method_149_code 42 (.aload 5) 2 44 := ⟨by decide +kernel, rfl⟩
theorem db3_44 : Dec jdk_42_method_149_code 44 (.iload_n 3) 1 45 := ⟨by decide +kernel, rfl⟩
theorem db3_45 : Dec jdk_42_method_149_code 45 (.invokestatic 47) 3 48 := ⟨by decide +kernel, rfl⟩
theorem db3_48 : Dec jdk_42_method_149_code 48 (.putfield 15) 3 51 := ⟨by decide +kernel, rfl⟩
theorem db3_51 : Dec jdk_42_method_149_code 51 (.aload_n 0) 1 52 := ⟨by decide +kernel, rfl⟩
theorem db3_52 : Dec jdk_42_method_149_code 52 (.aload 5) 2 54 := ⟨by decide +kernel, rfl⟩
theorem db3_54 : Dec jdk_42_method_149_code 54 (.putfield 9) 3 57 := ⟨by decide +kernel, rfl⟩
theorem db3_57 : Dec jdk_42_method_149_code 57 (.return_) 1 58 := ⟨by decide +kernel, rfl⟩
theorem db4_0 : Dec jdk_42_method_3_code 0 (.aload_n 0) 1 1 := ⟨by decide +kernel, rfl⟩
theorem db4_1 : Dec jdk_42_method_3_code 1 (.aload_n 1) 1 2 := ⟨by decide +kernel, rfl⟩
theorem db4_2 : Dec jdk_42_method_3_code 2 (.iconst 0) 1 3 := ⟨by decide +kernel, rfl⟩
theorem db4_3 : Dec jdk_42_method_3_code 3 (.aload_n 1) 1 4 := ⟨by decide +kernel, rfl⟩
theorem db4_4 : Dec jdk_42_method_3_code 4 (.arraylength) 1 5 := ⟨by decide +kernel, rfl⟩
theorem db4_5 : Dec jdk_42_method_3_code 5 (.aconst_null) 1 6 := ⟨by decide +kernel, rfl⟩
theorem db4_6 : Dec jdk_42_method_3_code 6 (.invokespecial 27) 3 9 := ⟨by decide +kernel, rfl⟩
theorem db4_9 : Dec jdk_42_method_3_code 9 (.return_) 1 10 := ⟨by decide +kernel, rfl⟩
theorem db5_0 : Dec jdk_42_method_66_code 0 (.aload_n 0) 1 1 := ⟨by decide +kernel, rfl⟩
theorem db5_1 : Dec jdk_42_method_66_code 1 (.aload_n 1) 1 2 := ⟨by decide +kernel, rfl⟩
theorem db5_2 : DecJ jdk_42_method_66_code 2 (.if_acmp .ne 5) (5) 5 7 := ⟨by decide +kernel, rfl, by decide, by decide⟩
theorem db5_5 : Dec jdk_42_method_66_code 5 (.iconst 1) 1 6 := ⟨by decide +kernel, rfl⟩
theorem db5_6 : Dec jdk_42_method_66_code 6 (.ireturn) 1 7 := ⟨by decide +kernel, rfl⟩
theorem db6_0 : Dec jdk_31_method_11_code 0 (.aload_n 0) 1 1 := ⟨by decide +kernel, rfl⟩
theorem db6_1 : DecJ jdk_31_method_11_code 1 (.ifnonnull 12) (12) 4 13 := ⟨by decide +kernel, rfl, by decide, by decide⟩
theorem db6_13 : Dec jdk_31_method_11_code 13 (.aload_n 0) 1 14 := ⟨by decide +kernel, rfl⟩
theorem db6_14 : Dec jdk_31_method_11_code 14 (.areturn) 1 15 := ⟨by decide +kernel, rfl⟩
theorem db7_0 : Dec jdk_42_method_152_code 0 (.getstatic 38) 3 3 := ⟨by decide +kernel, rfl⟩
theorem db7_3 : DecJ jdk_42_method_152_code 3 (.ifCond .eq 10) (10) 6 13 := ⟨by decide +kernel, rfl, by decide, by decide⟩
theorem db7_6 : Dec jdk_42_method_152_code 6 (.aload_n 0) 1 7 := ⟨by decide +kernel, rfl⟩
theorem db7_7 : Dec jdk_42_method_152_code 7 (.getfield 15) 3 10 := ⟨by decide +kernel, rfl⟩
theorem db7_10 : DecJ jdk_42_method_152_code 10 (.goto 4) (4) 13 14 := ⟨by decide +kernel, rfl, by decide, by decide⟩
theorem db7_14 : Dec jdk_42_method_152_code 14 (.ireturn) 1 15 := ⟨by decide +kernel, rfl⟩
theorem db8_0 : Dec jdk_42_method_54_code 0 (.aload_n 0) 1 1 := ⟨by decide +kernel, rfl⟩
theorem db8_1 : Dec jdk_42_method_54_code 1 (.getfield 9) 3 4 := ⟨by decide +kernel, rfl⟩
theorem db8_4 : Dec jdk_42_method_54_code 4 (.arraylength) 1 5 := ⟨by decide +kernel, rfl⟩
theorem db8_5 : Dec jdk_42_method_54_code 5 (.aload_n 0) 1 6 := ⟨by decide +kernel, rfl⟩
theorem db8_6 : Dec jdk_42_method_54_code 6 (.invokevirtual 335) 3 9 := ⟨by decide +kernel, rfl⟩
theorem db8_9 : Dec jdk_42_method_54_code 9 (.ishr) 1 10 := ⟨by decide +kernel, rfl⟩
theorem db8_10 : Dec jdk_42_method_54_code 10 (.ireturn) 1 11 := ⟨by decide +kernel, rfl⟩
theorem db9_0 : Dec jdk_42_method_154_code 0 (.getstatic 38) 3 3 := ⟨by decide +kernel, rfl⟩
theorem db9_3 : DecJ jdk_42_method_154_code 3 (.ifCond .eq 14) (14) 6 17 := ⟨by decide +kernel, rfl, by decide, by decide⟩
theorem db9_6 : Dec jdk_42_method_154_code 6 (.aload_n 0) 1 7 := ⟨by decide +kernel, rfl⟩
theorem db9_7 : Dec jdk_42_method_154_code 7 (.getfield 15) 3 10 := ⟨by decide +kernel, rfl⟩
theorem db9_10 : DecJ jdk_42_method_154_code 10 (.ifCond .ne 7) (7) 13 17 := ⟨by decide +kernel, rfl, by decide, by decide⟩
theorem db9_17 : Dec jdk_42_method_154_code 17 (.iconst 0) 1 18 := ⟨by decide +kernel, rfl⟩
theorem db9_18 : Dec jdk_42_method_154_code 18 (.ireturn) 1 19 := ⟨by decide +kernel, rfl⟩
theorem db9_13 : Dec jdk_42_method_154_code 13 (.iconst 1) 1 14 := ⟨by decide +kernel, rfl⟩
theorem db9_14 : DecJ jdk_42_method_154_code 14 (.goto 4) (4) 17 18 := ⟨by decide +kernel, rfl, by decide, by decide⟩
theorem db10_0 : Dec jdk_41_method_11_code 0 (.iload_n 0) 1 1 := ⟨by decide +kernel, rfl⟩
theorem db10_1 : DecJ jdk_41_method_11_code 1 (.ifCond .lt 8) (8) 4 9 := ⟨by decide +kernel, rfl, by decide, by decide⟩
theorem db10_4 : Dec jdk_41_method_11_code 4 (.iload_n 0) 1 5 := ⟨by decide +kernel, rfl⟩
theorem db10_5 : Dec jdk_41_method_11_code 5 (.iload_n 1) 1 6 := ⟨by decide +kernel, rfl⟩
theorem db10_6 : DecJ jdk_41_method_11_code 6 (.if_icmp .lt 10) (10) 9 16 := ⟨by decide +kernel, rfl, by decide, by decide⟩
theorem db10_16 : Dec jdk_41_method_11_code 16 (.iload_n 0) 1 17 := ⟨by decide +kernel, rfl⟩
theorem db10_17 : Dec jdk_41_method_11_code 17 (.ireturn) 1 18 := ⟨by decide +kernel, rfl⟩
theorem db11_0 : Dec jdk_42_method_155_code 0 (.iload_n 0) 1 1 := ⟨by decide +kernel, rfl⟩
theorem db11_1 : Dec jdk_42_method_155_code 1 (.iload_n 1) 1 2 := ⟨by decide +kernel, rfl⟩
theorem db11_2 : Dec jdk_42_method_155_code 2 (.getstatic 1053) 3 5 := ⟨by decide +kernel, rfl⟩
theorem db11_5 : Dec jdk_42_method_155_code 5 (.invokestatic 1059) 3 8 := ⟨by decide +kernel, rfl⟩
theorem db11_8 : Dec jdk_42_method_155_code 8 (.pop) 1 9 := ⟨by decide +kernel, rfl⟩
theorem db11_9 : Dec jdk_42_method_155_code 9 (.return_) 1 10 := ⟨by decide +kernel, rfl⟩
theorem db12_0 : Dec jdk_43_method_2_code 0 (.iload_n 1) 1 1 := ⟨by decide +kernel, rfl⟩
theorem db12_1 : Dec jdk_43_method_2_code 1 (.aload_n 0) 1 2 := ⟨by decide +kernel, rfl⟩
theorem db12_2 : Dec jdk_43_method_2_code 2 (.arraylength) 1 3 := ⟨by decide +kernel, rfl⟩
theorem db12_3 : Dec jdk_43_method_2_code 3 (.invokestatic 9) 3 6 := ⟨by decide +kernel, rfl⟩
theorem db12_6 : Dec jdk_43_method_2_code 6 (.aload_n 0) 1 7 := ⟨by decide +kernel, rfl⟩
theorem db12_7 : Dec jdk_43_method_2_code 7 (.iload_n 1) 1 8 := ⟨by decide +kernel, rfl⟩
theorem db12_8 : Dec jdk_43_method_2_code 8 (.baload) 1 9 := ⟨by decide +kernel, rfl⟩
theorem db12_9 : Dec jdk_43_method_2_code 9 (.sipush 255) 3 12 := ⟨by decide +kernel, rfl⟩
theorem db12_12 : Dec jdk_43_method_2_code 12 (.iand) 1 13 := ⟨by decide +kernel, rfl⟩
theorem db12_13 : Dec jdk_43_method_2_code 13 (.i2c) 1 14 := ⟨by decide +kernel, rfl⟩
theorem db12_14 : Dec jdk_43_method_2_code 14 (.ireturn) 1 15 := ⟨by decide +kernel, rfl⟩
theorem db13_0 : Dec jdk_42_method_56_code 0 (.aload_n 0) 1 1 := ⟨by decide +kernel, rfl⟩
theorem db13_1 : Dec jdk_42_method_56_code 1 (.invokevirtual 492) 3 4 := ⟨by decide +kernel, rfl⟩
theorem db13_4 : DecJ jdk_42_method_56_code 4 (.ifCond .eq 12) (12) 7 16 := ⟨by decide +kernel, rfl, by decide, by decide⟩
theorem db13_7 : Dec jdk_42_method_56_code 7 (.aload_n 0) 1 8 := ⟨by decide +kernel, rfl⟩
theorem db13_8 : Dec jdk_42_method_56_code 8 (.getfield 9) 3 11 := ⟨by decide +kernel, rfl⟩
theorem db13_11 : Dec jdk_42_method_56_code 11 (.iload_n 1) 1 12 := ⟨by decide +kernel, rfl⟩
theorem db13_12 : Dec jdk_42_method_56_code 12 (.invokestatic 495) 3 15 := ⟨by decide +kernel, rfl⟩
theorem db13_15 : Dec jdk_42_method_56_code 15 (.ireturn) 1 16 := ⟨by decide +kernel, rfl⟩
theorem db14_0 : Dec jdk_42_method_55_code 0 (.aload_n 0) 1 1 := ⟨by decide +kernel, rfl⟩
theorem db14_1 : Dec jdk_42_method_55_code 1 (.getfield 9) 3 4 := ⟨by decide +kernel, rfl⟩
theorem db14_4 : Dec jdk_42_method_55_code 4 (.arraylength) 1 5 := ⟨by decide +kernel, rfl⟩
theorem db14_5 : DecJ jdk_42_method_55_code 5 (.ifCond .ne 7) (7) 8 12 := ⟨by decide +kernel, rfl, by decide, by decide⟩
theorem db14_12 : Dec jdk_42_method_55_code 12 (.iconst 0) 1 13 := ⟨by decide +kernel, rfl⟩
theorem db14_13 : Dec jdk_42_method_55_code 13 (.ireturn) 1 14 := ⟨by decide +kernel, rfl⟩
theorem db14_8 : Dec jdk_42_method_55_code 8 (.iconst 1) 1 9 := ⟨by decide +kernel, rfl⟩
theorem db14_9 : DecJ jdk_42_method_55_code 9 (.goto 4) (4) 12 13 := ⟨by decide +kernel, rfl, by decide, by decide⟩
theorem db15_0 : Dec method_2_code 0 (.lload_n 0) 1 1 := ⟨by decide +kernel, rfl⟩
theorem db15_1 : Dec method_2_code 1 (.bipush 8) 2 3 := ⟨by decide +kernel, rfl⟩
theorem db15_3 : Dec method_2_code 3 (.iload_n 2) 1 4 := ⟨by decide +kernel, rfl⟩
theorem db15_4 : Dec method_2_code 4 (.imul) 1 5 := ⟨by decide +kernel, rfl⟩
theorem db15_5 : Dec method_2_code 5 (.lushr) 1 6 := ⟨by decide +kernel, rfl⟩
theorem db15_6 : Dec method_2_code 6 (.ldc2_w 7) 3 9 := ⟨by decide +kernel, rfl⟩
theorem db15_9 : Dec method_2_code 9 (.land) 1 10 := ⟨by decide +kernel, rfl⟩
theorem db15_10 : Dec method_2_code 10 (.l2i) 1 11 := ⟨by decide +kernel, rfl⟩
theorem db15_11 : Dec method_2_code 11 (.bipush 62) 2 13 := ⟨by decide +kernel, rfl⟩
theorem db15_13 : Dec method_2_code 13 (.irem) 1 14 := ⟨by decide +kernel, rfl⟩
theorem db15_14 : Dec method_2_code 14 (.istore_n 3) 1 15 := ⟨by decide +kernel, rfl⟩
theorem db15_15 : Dec method_2_code 15 (.iload_n 3) 1 16 := ⟨by decide +kernel, rfl⟩
theorem db15_16 : Dec method_2_code 16 (.bipush 26) 2 18 := ⟨by decide +kernel, rfl⟩
theorem db15_18 : DecJ method_2_code 18 (.if_icmp .ge 9) (9) 21 27 := ⟨by decide +kernel, rfl, by decide, by decide⟩
theorem db15_27 : Dec method_2_code 27 (.iload_n 3) 1 28 := ⟨by decide +kernel, rfl⟩
theorem db15_28 : Dec method_2_code 28 (.bipush 52) 2 30 := ⟨by decide +kernel, rfl⟩
theorem db15_30 : DecJ method_2_code 30 (.if_icmp .ge 12) (12) 33 42 := ⟨by decide +kernel, rfl, by decide, by decide⟩
theorem db15_42 : Dec method_2_code 42 (.bipush 48) 2 44 := ⟨by decide +kernel, rfl⟩
theorem db15_44 : Dec method_2_code 44 (.iload_n 3) 1 45 := ⟨by decide +kernel, rfl⟩
theorem db15_45 : Dec method_2_code 45 (.bipush 52) 2 47 := ⟨by decide +kernel, rfl⟩
theorem db15_47 : Dec method_2_code 47 (.isub) 1 48 := ⟨by decide +kernel, rfl⟩
theorem db15_48 : Dec method_2_code 48 (.iadd) 1 49 := ⟨by decide +kernel, rfl⟩
theorem db15_49 : Dec method_2_code 49 (.i2c) 1 50 := ⟨by decide +kernel, rfl⟩
theorem db15_50 : Dec method_2_code 50 (.ireturn) 1 51 := ⟨by decide +kernel, rfl⟩
theorem db15_33 : Dec method_2_code 33 (.bipush 97) 2 35 := ⟨by decide +kernel, rfl⟩
theorem db15_35 : Dec method_2_code 35 (.iload_n 3) 1 36 := ⟨by decide +kernel, rfl⟩
theorem db15_36 : Dec method_2_code 36 (.bipush 26) 2 38 := ⟨by decide +kernel, rfl⟩
theorem db15_38 : Dec method_2_code 38 (.isub) 1 39 := ⟨by decide +kernel, rfl⟩
theorem db15_39 : Dec method_2_code 39 (.iadd) 1 40 := ⟨by decide +kernel, rfl⟩
theorem db15_40 : Dec method_2_code 40 (.i2c) 1 41 := ⟨by decide +kernel, rfl⟩
theorem db15_41 : Dec method_2_code 41 (.ireturn) 1 42 := ⟨by decide +kernel, rfl⟩
theorem db15_21 : Dec method_2_code 21 (.bipush 65) 2 23 := ⟨by decide +kernel, rfl⟩
theorem db15_23 : Dec method_2_code 23 (.iload_n 3) 1 24 := ⟨by decide +kernel, rfl⟩
theorem db15_24 : Dec method_2_code 24 (.iadd) 1 25 := ⟨by decide +kernel, rfl⟩
theorem db15_25 : Dec method_2_code 25 (.i2c) 1 26 := ⟨by decide +kernel, rfl⟩
theorem db15_26 : Dec method_2_code 26 (.ireturn) 1 27 := ⟨by decide +kernel, rfl⟩
theorem db16_0 : Dec method_3_code 0 (.iload_n 1) 1 1 := ⟨by decide +kernel, rfl⟩
theorem db16_1 : Dec method_3_code 1 (.aload_n 0) 1 2 := ⟨by decide +kernel, rfl⟩
theorem db16_2 : Dec method_3_code 2 (.arraylength) 1 3 := ⟨by decide +kernel, rfl⟩
theorem db16_3 : DecJ method_3_code 3 (.if_icmp .ge 7) (7) 6 10 := ⟨by decide +kernel, rfl, by decide, by decide⟩
theorem db16_10 : Dec method_3_code 10 (.return_) 1 11 := ⟨by decide +kernel, rfl⟩
theorem db16_6 : Dec method_3_code 6 (.aload_n 0) 1 7 := ⟨by decide +kernel, rfl⟩
theorem db16_7 : Dec method_3_code 7 (.iload_n 1) 1 8 := ⟨by decide +kernel, rfl⟩
theorem db16_8 : Dec method_3_code 8 (.iload_n 2) 1 9 := ⟨by decide +kernel, rfl⟩
theorem db16_9 : Dec method_3_code 9 (.castore) 1 10 := ⟨by decide +kernel, rfl⟩
theorem db17_36 : Dec prog_1_method_5_code 36 (.iconst 1) 1 37 := ⟨by decide +kernel, rfl⟩
theorem db17_37 : DecJ prog_1_method_5_code 37 (.goto 4) (4) 40 41 := ⟨by decide +kernel, rfl, by decide, by decide⟩
theorem db17_41 : Dec prog_1_method_5_code 41 (.ireturn) 1 42 := ⟨by decide +kernel, rfl⟩
theorem db17_24 : Dec prog_1_method_5_code 24 (.iload_n 0) 1 25 := ⟨by decide +kernel, rfl⟩
theorem db17_25 : Dec prog_1_method_5_code 25 (.bipush 48) 2 27 := ⟨by decide +kernel, rfl⟩
theorem db17_27 : DecJ prog_1_method_5_code 27 (.if_icmp .lt 13) (13) 30 40 := ⟨by decide +kernel, rfl, by decide, by decide⟩
theorem db17_30 : Dec prog_1_method_5_code 30 (.iload_n 0) 1 31 := ⟨by decide +kernel, rfl⟩
theorem db17_31 : Dec prog_1_method_5_code 31 (.bipush 57) 2 33 := ⟨by decide +kernel, rfl⟩
theorem db17_33 : DecJ prog_1_method_5_code 33 (.if_icmp .gt 7) (7) 36 40 := ⟨by decide +kernel, rfl, by decide, by decide⟩
theorem db17_12 : Dec prog_1_method_5_code 12 (.iload_n 0) 1 13 := ⟨by decide +kernel, rfl⟩
theorem db17_13 : Dec prog_1_method_5_code 13 (.bipush 97) 2 15 := ⟨by decide +kernel, rfl⟩
theorem db17_15 : DecJ prog_1_method_5_code 15 (.if_icmp .lt 9) (9) 18 24 := ⟨by decide +kernel, rfl, by decide, by decide⟩
theorem db17_18 : Dec prog_1_method_5_code 18 (.iload_n 0) 1 19 := ⟨by decide +kernel, rfl⟩
theorem db17_19 : Dec prog_1_method_5_code 19 (.bipush 122) 2 21 := ⟨by decide +kernel, rfl⟩
theorem db17_21 : DecJ prog_1_method_5_code 21 (.if_icmp .le 15) (15) 24 36 := ⟨by decide +kernel, rfl, by decide, by decide⟩
theorem db17_0 : Dec prog_1_method_5_code 0 (.iload_n 0) 1 1 := ⟨by decide +kernel, rfl⟩
theorem db17_1 : Dec prog_1_method_5_code 1 (.bipush 65) 2 3 := ⟨by decide +kernel, rfl⟩
theorem db17_3 : DecJ prog_1_method_5_code 3 (.if_icmp .lt 9) (9) 6 12 := ⟨by decide +kernel, rfl, by decide, by decide⟩
theorem db17_6 : Dec prog_1_method_5_code 6 (.iload_n 0) 1 7 := ⟨by decide +kernel, rfl⟩
theorem db17_7 : Dec prog_1_method_5_code 7 (.bipush 90) 2 9 := ⟨by decide +kernel, rfl⟩
theorem db17_9 : DecJ prog_1_method_5_code 9 (.if_icmp .le 27) (27) 12 36 := ⟨by decide +kernel, rfl, by decide, by decide⟩
theorem db18_30 : Dec prog_1_method_2_code 30 (.iload_n 1) 1 31 := ⟨by decide +kernel, rfl⟩
theorem db18_31 : Dec prog_1_method_2_code 31 (.aload_n 0) 1 32 := ⟨by decide +kernel, rfl⟩
theorem db18_32 : Dec prog_1_method_2_code 32 (.invokevirtual 21) 3 35 := ⟨by decide +kernel, rfl⟩
theorem db18_35 : DecJ prog_1_method_2_code 35 (.if_icmp .ge 25) (25) 38 60 := ⟨by decide +kernel, rfl, by decide, by decide⟩
theorem db18_60 : Dec prog_1_method_2_code 60 (.aload_n 0) 1 61 := ⟨by decide +kernel, rfl⟩
theorem db18_61 : Dec prog_1_method_2_code 61 (.areturn) 1 62 := ⟨by decide +kernel, rfl⟩
theorem db18_38 : Dec prog_1_method_2_code 38 (.aload_n 0) 1 39 := ⟨by decide +kernel, rfl⟩
theorem db18_39 : Dec prog_1_method_2_code 39 (.iload_n 1) 1 40 := ⟨by decide +kernel, rfl⟩
theorem db18_40 : Dec prog_1_method_2_code 40 (.invokevirtual 31) 3 43 := ⟨by decide +kernel, rfl⟩
theorem db18_43 : Dec prog_1_method_2_code 43 (.invokestatic 35) 3 46 := ⟨by decide +kernel, rfl⟩
theorem db18_46 : DecJ prog_1_method_2_code 46 (.ifCond .ne 8) (8) 49 54 := ⟨by decide +kernel, rfl, by decide, by decide⟩
theorem db18_54 : Dec prog_1_method_2_code 54 (.iinc 1 1) 3 57 := ⟨by decide +kernel, rfl⟩
theorem db18_57 : DecJ prog_1_method_2_code 57 (.goto (-27)) (-27) 60 30 := ⟨by decide +kernel, rfl, by decide, by decide⟩
theorem db18_0 : Dec prog_1_method_2_code 0 (.aload_n 0) 1 1 := ⟨by decide +kernel, rfl⟩
theorem db18_1 : Dec prog_1_method_2_code 1 (.ldc 7) 2 3 := ⟨by decide +kernel, rfl⟩
theorem db18_3 : Dec prog_1_method_2_code 3 (.invokestatic 9) 3 6 := ⟨by decide +kernel, rfl⟩
theorem db18_6 : Dec prog_1_method_2_code 6 (.pop) 1 7 := ⟨by decide +kernel, rfl⟩
theorem db18_7 : Dec prog_1_method_2_code 7 (.aload_n 0) 1 8 := ⟨by decide +kernel, rfl⟩
theorem db18_8 : Dec prog_1_method_2_code 8 (.invokevirtual 15) 3 11 := ⟨by decide +kernel, rfl⟩
theorem db18_11 : DecJ prog_1_method_2_code 11 (.ifCond .ne 12) (12) 14 23 := ⟨by decide +kernel, rfl, by decide, by decide⟩
theorem db18_14 : Dec prog_1_method_2_code 14 (.aload_n 0) 1 15 := ⟨by decide +kernel, rfl⟩
theorem db18_15 : Dec prog_1_method_2_code 15 (.invokevirtual 21) 3 18 := ⟨by decide +kernel, rfl⟩
theorem db18_18 : Dec prog_1_method_2_code 18 (.bipush 16) 2 20 := ⟨by decide +kernel, rfl⟩
theorem db18_20 : DecJ prog_1_method_2_code 20 (.if_icmp .le 8) (8) 23 28 := ⟨by decide +kernel, rfl, by decide, by decide⟩
theorem db18_28 : Dec prog_1_method_2_code 28 (.iconst 0) 1 29 := ⟨by decide +kernel, rfl⟩
theorem db18_29 : Dec prog_1_method_2_code 29 (.istore_n 1) 1 30 := ⟨by decide +kernel, rfl⟩
theorem dL_0 : Dec code 0 (.iconst 1) 1 1 := ⟨by decide +kernel, rfl⟩
theorem dL_1 : Dec code 1 (.iload_n 0) 1 2 := ⟨by decide +kernel, rfl⟩
theorem dL_2 : Dec code 2 (.bipush 15) 2 4 := ⟨by decide +kernel, rfl⟩
theorem dL_4 : Dec code 4 (.iand) 1 5 := ⟨by decide +kernel, rfl⟩
theorem dL_5 : Dec code 5 (.iadd) 1 6 := ⟨by decide +kernel, rfl⟩
theorem dL_6 : Dec code 6 (.istore 5) 2 8 := ⟨by decide +kernel, rfl⟩
theorem dL_8 : Dec code 8 (.iload 5) 2 10 := ⟨by decide +kernel, rfl⟩
theorem dL_10 : Dec code 10 (.newarray .char) 2 12 := ⟨by decide +kernel, rfl⟩
theorem dL_12 : Dec code 12 (.astore 6) 2 14 := ⟨by decide +kernel, rfl⟩
theorem dL_14 : Dec code 14 (.aload 6) 2 16 := ⟨by decide +kernel, rfl⟩
theorem dL_16 : Dec code 16 (.iconst 0) 1 17 := ⟨by decide +kernel, rfl⟩
theorem dL_17 : Dec code 17 (.lload_n 1) 1 18 := ⟨by decide +kernel, rfl⟩
theorem dL_18 : Dec code 18 (.iconst 0) 1 19 := ⟨by decide +kernel, rfl⟩
theorem dL_19 : Dec code 19 (.invokestatic 9) 3 22 := ⟨by decide +kernel, rfl⟩
theorem dL_22 : Dec code 22 (.invokestatic 15) 3 25 := ⟨by decide +kernel, rfl⟩
theorem dL_25 : Dec code 25 (.aload 6) 2 27 := ⟨by decide +kernel, rfl⟩
theorem dL_27 : Dec code 27 (.iconst 1) 1 28 := ⟨by decide +kernel, rfl⟩
theorem dL_28 : Dec code 28 (.lload_n 1) 1 29 := ⟨by decide +kernel, rfl⟩
theorem dL_29 : Dec code 29 (.iconst 1) 1 30 := ⟨by decide +kernel, rfl⟩
theorem dL_30 : Dec code 30 (.invokestatic 9) 3 33 := ⟨by decide +kernel, rfl⟩
theorem dL_33 : Dec code 33 (.invokestatic 15) 3 36 := ⟨by decide +kernel, rfl⟩
theorem dL_36 : Dec code 36 (.aload 6) 2 38 := ⟨by decide +kernel, rfl⟩
theorem dL_38 : Dec code 38 (.iconst 2) 1 39 := ⟨by decide +kernel, rfl⟩
theorem dL_39 : Dec code 39 (.lload_n 1) 1 40 := ⟨by decide +kernel, rfl⟩
theorem dL_40 : Dec code 40 (.iconst 2) 1 41 := ⟨by decide +kernel, rfl⟩
theorem dL_41 : Dec code 41 (.invokestatic 9) 3 44 := ⟨by decide +kernel, rfl⟩
theorem dL_44 : Dec code 44 (.invokestatic 15) 3 47 := ⟨by decide +kernel, rfl⟩
theorem dL_47 : Dec code 47 (.aload 6) 2 49 := ⟨by decide +kernel, rfl⟩
theorem dL_49 : Dec code 49 (.iconst 3) 1 50 := ⟨by decide +kernel, rfl⟩
theorem dL_50 : Dec code 50 (.lload_n 1) 1 51 := ⟨by decide +kernel, rfl⟩
theorem dL_51 : Dec code 51 (.iconst 3) 1 52 := ⟨by decide +kernel, rfl⟩
theorem dL_52 : Dec code 52 (.invokestatic 9) 3 55 := ⟨by decide +kernel, rfl⟩
theorem dL_55 : Dec code 55 (.invokestatic 15) 3 58 := ⟨by decide +kernel, rfl⟩
theorem dL_58 : Dec code 58 (.aload 6) 2 60 := ⟨by decide +kernel, rfl⟩
theorem dL_60 : Dec code 60 (.iconst 4) 1 61 := ⟨by decide +kernel, rfl⟩
theorem dL_61 : Dec code 61 (.lload_n 1) 1 62 := ⟨by decide +kernel, rfl⟩
theorem dL_62 : Dec code 62 (.iconst 4) 1 63 := ⟨by decide +kernel, rfl⟩
theorem dL_63 : Dec code 63 (.invokestatic 9) 3 66 := ⟨by decide +kernel, rfl⟩
theorem dL_66 : Dec code 66 (.invokestatic 15) 3 69 := ⟨by decide +kernel, rfl⟩
theorem dL_69 : Dec code 69 (.aload 6) 2 71 := ⟨by decide +kernel, rfl⟩
theorem dL_71 : Dec code 71 (.iconst 5) 1 72 := ⟨by decide +kernel, rfl⟩
theorem dL_72 : Dec code 72 (.lload_n 1) 1 73 := ⟨by decide +kernel, rfl⟩
theorem dL_73 : Dec code 73 (.iconst 5) 1 74 := ⟨by decide +kernel, rfl⟩
theorem dL_74 : Dec code 74 (.invokestatic 9) 3 77 := ⟨by decide +kernel, rfl⟩
theorem dL_77 : Dec code 77 (.invokestatic 15) 3 80 := ⟨by decide +kernel, rfl⟩
theorem dL_80 : Dec code 80 (.aload 6) 2 82 := ⟨by decide +kernel, rfl⟩
theorem dL_82 : Dec code 82 (.bipush 6) 2 84 := ⟨by decide +kernel, rfl⟩
theorem dL_84 : Dec code 84 (.lload_n 1) 1 85 := ⟨by decide +kernel, rfl⟩
theorem dL_85 : Dec code 85 (.bipush 6) 2 87 := ⟨by decide +kernel, rfl⟩
theorem dL_87 : Dec code 87 (.invokestatic 9) 3 90 := ⟨by decide +kernel, rfl⟩
theorem dL_90 : Dec code 90 (.invokestatic 15) 3 93 := ⟨by decide +kernel, rfl⟩
theorem dL_93 : Dec code 93 (.aload 6) 2 95 := ⟨by decide +kernel, rfl⟩
theorem dL_95 : Dec code 95 (.bipush 7) 2 97 := ⟨by decide +kernel, rfl⟩
theorem dL_97 : Dec code 97 (.lload_n 1) 1 98 := ⟨by decide +kernel, rfl⟩
theorem dL_98 : Dec code 98 (.bipush 7) 2 100 := ⟨by decide +kernel, rfl⟩
theorem dL_100 : Dec code 100 (.invokestatic 9) 3 103 := ⟨by decide +kernel, rfl⟩
theorem dL_103 : Dec code 103 (.invokestatic 15) 3 106 := ⟨by decide +kernel, rfl⟩
theorem dL_106 : Dec code 106 (.aload 6) 2 108 := ⟨by decide +kernel, rfl⟩
theorem dL_108 : Dec code 108 (.bipush 8) 2 110 := ⟨by decide +kernel, rfl⟩
theorem dL_110 : Dec code 110 (.lload_n 3) 1 111 := ⟨by decide +kernel, rfl⟩
theorem dL_111 : Dec code 111 (.iconst 0) 1 112 := ⟨by decide +kernel, rfl⟩
theorem dL_112 : Dec code 112 (.invokestatic 9) 3 115 := ⟨by decide +kernel, rfl⟩
theorem dL_115 : Dec code 115 (.invokestatic 15) 3 118 := ⟨by decide +kernel, rfl⟩
theorem dL_118 : Dec code 118 (.aload 6) 2 120 := ⟨by decide +kernel, rfl⟩
theorem dL_120 : Dec code 120 (.bipush 9) 2 122 := ⟨by decide +kernel, rfl⟩
theorem dL_122 : Dec code 122 (.lload_n 3) 1 123 := ⟨by decide +kernel, rfl⟩
theorem dL_123 : Dec code 123 (.iconst 1) 1 124 := ⟨by decide +kernel, rfl⟩
theorem dL_124 : Dec code 124 (.invokestatic 9) 3 127 := ⟨by decide +kernel, rfl⟩
theorem dL_127 : Dec code 127 (.invokestatic 15) 3 130 := ⟨by decide +kernel, rfl⟩
theorem dL_130 : Dec code 130 (.aload 6) 2 132 := ⟨by decide +kernel, rfl⟩
theorem dL_132 : Dec code 132 (.bipush 10) 2 134 := ⟨by decide +kernel, rfl⟩
theorem dL_134 : Dec code 134 (.lload_n 3) 1 135 := ⟨by decide +kernel, rfl⟩
theorem dL_135 : Dec code 135 (.iconst 2) 1 136 := ⟨by decide +kernel, rfl⟩
theorem dL_136 : Dec code 136 (.invokestatic 9) 3 139 := ⟨by decide +kernel, rfl⟩
theorem dL_139 : Dec code 139 (.invokestatic 15) 3 142 := ⟨by decide +kernel, rfl⟩
theorem dL_142 : Dec code 142 (.aload 6) 2 144 := ⟨by decide +kernel, rfl⟩
theorem dL_144 : Dec code 144 (.bipush 11) 2 146 := ⟨by decide +kernel, rfl⟩
theorem dL_146 : Dec code 146 (.lload_n 3) 1 147 := ⟨by decide +kernel, rfl⟩
theorem dL_147 : Dec code 147 (.iconst 3) 1 148 := ⟨by decide +kernel, rfl⟩
theorem dL_148 : Dec code 148 (.invokestatic 9) 3 151 := ⟨by decide +kernel, rfl⟩
theorem dL_151 : Dec code 151 (.invokestatic 15) 3 154 := ⟨by decide +kernel, rfl⟩
theorem dL_154 : Dec code 154 (.aload 6) 2 156 := ⟨by decide +kernel, rfl⟩
theorem dL_156 : Dec code 156 (.bipush 12) 2 158 := ⟨by decide +kernel, rfl⟩
theorem dL_158 : Dec code 158 (.lload_n 3) 1 159 := ⟨by decide +kernel, rfl⟩
theorem dL_159 : Dec code 159 (.iconst 4) 1 160 := ⟨by decide +kernel, rfl⟩
theorem dL_160 : Dec code 160 (.invokestatic 9) 3 163 := ⟨by decide +kernel, rfl⟩
theorem dL_163 : Dec code 163 (.invokestatic 15) 3 166 := ⟨by decide +kernel, rfl⟩
theorem dL_166 : Dec code 166 (.aload 6) 2 168 := ⟨by decide +kernel, rfl⟩
theorem dL_168 : Dec code 168 (.bipush 13) 2 170 := ⟨by decide +kernel, rfl⟩
theorem dL_170 : Dec code 170 (.lload_n 3) 1 171 := ⟨by decide +kernel, rfl⟩
theorem dL_171 : Dec code 171 (.iconst 5) 1 172 := ⟨by decide +kernel, rfl⟩
theorem dL_172 : Dec code 172 (.invokestatic 9) 3 175 := ⟨by decide +kernel, rfl⟩
theorem dL_175 : Dec code 175 (.invokestatic 15) 3 178 := ⟨by decide +kernel, rfl⟩
theorem dL_178 : Dec code 178 (.aload 6) 2 180 := ⟨by decide +kernel, rfl⟩
theorem dL_180 : Dec code 180 (.bipush 14) 2 182 := ⟨by decide +kernel, rfl⟩
theorem dL_182 : Dec code 182 (.lload_n 3) 1 183 := ⟨by decide +kernel, rfl⟩
theorem dL_183 : Dec code 183 (.bipush 6) 2 185 := ⟨by decide +kernel, rfl⟩
theorem dL_185 : Dec code 185 (.invokestatic 9) 3 188 := ⟨by decide +kernel, rfl⟩
theorem dL_188 : Dec code 188 (.invokestatic 15) 3 191 := ⟨by decide +kernel, rfl⟩
theorem dL_191 : Dec code 191 (.aload 6) 2 193 := ⟨by decide +kernel, rfl⟩
theorem dL_193 : Dec code 193 (.bipush 15) 2 195 := ⟨by decide +kernel, rfl⟩
theorem dL_195 : Dec code 195 (.lload_n 3) 1 196 := ⟨by decide +kernel, rfl⟩
theorem dL_196 : Dec code 196 (.bipush 7) 2 198 := ⟨by decide +kernel, rfl⟩
theorem dL_198 : Dec code 198 (.invokestatic 9) 3 201 := ⟨by decide +kernel, rfl⟩
theorem dL_201 : Dec code 201 (.invokestatic 15) 3 204 := ⟨by decide +kernel, rfl⟩
theorem dL_204 : Dec code 204 (.new 19) 3 207 := ⟨by decide +kernel, rfl⟩
theorem dL_207 : Dec code 207 (.dup) 1 208 := ⟨by decide +kernel, rfl⟩
theorem dL_208 : Dec code 208 (.aload 6) 2 210 := ⟨by decide +kernel, rfl⟩
theorem dL_210 : Dec code 210 (.invokespecial 21) 3 213 := ⟨by decide +kernel, rfl⟩
theorem dL_213 : Dec code 213 (.astore 7) 2 215 := ⟨by decide +kernel, rfl⟩
theorem dL_215 : Dec code 215 (.aload 7) 2 217 := ⟨by decide +kernel, rfl⟩
theorem dL_217 : Dec code 217 (.invokestatic 24) 3 220 := ⟨by decide +kernel, rfl⟩
theorem dL_220 : Dec code 220 (.astore 8) 2 222 := ⟨by decide +kernel, rfl⟩
theorem dL_222 : Dec code 222 (.aload 7) 2 224 := ⟨by decide +kernel, rfl⟩
theorem dL_224 : Dec code 224 (.aload 8) 2 226 := ⟨by decide +kernel, rfl⟩
theorem dL_226 : Dec code 226 (.invokevirtual 30) 3 229 := ⟨by decide +kernel, rfl⟩
theorem dL_229 : Dec code 229 (.ireturn) 1 230 := ⟨by decide +kernel, rfl⟩
def Base (Z : State) (a0 : Array Value) (EL : List (String × Nat)) : Prop := (∀ d ∈ tables_1, d.before a0 Z = true) ∧ EW Z a0 EL ∧ (∃ z, Sta Z Z.heap ST "COMPACT_STRINGS" "Z" (.int z) ∧ ¬ z = 0) ∧ (∃ v, Sta Z Z.heap "jdk/internal/util/Preconditions" "SIOOBE_FORMATTER" "Ljava/util/function/BiFunction;" v ∧ v.isRef = true) ∧ True
section
variable {l : Launch} {Z : State} {a0 : Array Value} {EL : List (String × Nat)} {nw : Bool}
def Qcmp5 (Z : State) (h : Heap) (d : Addr) (cs : List Int32) : Value → Heap → Prop := fun v h' => Keep h h' [d] ∧ h'.size = h.size ∧ ((v = .int (Int32.ofNat cs.length) ∧ (∀ c ∈ cs, ¬ (255 : Int32) < c) ∧ Arl Z h' d .byte (lat cs)) ∨ (∃ i c, i < cs.length ∧ v = .int (Int32.ofNat i) ∧ cs[i]? = some c ∧ (255 : Int32) < c))
theorem J_cmp5L {p : Program} {e : Env} {R : Room} {s : State} {m : MethodId} {args : Array Value} {below : List Frame} {meth : Method} {c : Code} {own mn : String} {w : Nat} {h : Heap} {b d : Addr} {cs : List Int32} (C : Cxt p m meth c Z a0 EL own mn jdk_52_method_21_code 7 (some .int) tables_1) (A : Arl Z h b .char (ints cs)) (nd : Z.heap.size ≤ d) (hbd : b ≠ d) :
    ∀ (r i : Nat) (hi : Heap) (x6 : Slot), okS x6 = true → i + r = cs.length → Keep h hi [d] → hi.size = h.size → Arl Z hi d .byte (lat (cs.take i) ++ List.replicate r (.int 0)) → (∀ c ∈ cs.take i, ¬ (255 : Int32) < c) →
      Goes p l e R s m args below meth c Z EL nw (rR (Qcmp5 Z h d cs)) [d] w hi 0 0 (mkF m 3 ⟨[.val (.ref b), .val (.int (Int32.ofNat i)), .val (.ref d), .val (.int (Int32.ofNat i)), .val (.int (Int32.ofNat cs.length)), .val (.int (Int32.ofNat i)), x6]⟩ []) := by
  have hN : cs.length < 2 ^ 31 := by have := A.len; rwa [ints_length] at this
  intro r
  induction r with
  | zero =>
    intro i hi x6 hx hir K sz AD hl
    obtain rfl : i = cs.length := by omega
    refine C.iload db0_3 rfl ?_
    refine C.iload db0_5 rfl ?_
    refine C.icmp_ge db0_7 (fun _ => ?_) (fun q => absurd q (fun q => by rw [ofNat_lt hN hN] at q; omega))
    refine C.iload db0_44 rfl ?_
    exact C.ireturn db0_46 rfl (Or.inl rfl) rfl ⟨_, rfl, K, sz, Or.inl ⟨rfl, by simpa using hl, by simpa using AD⟩⟩ (Nat.zero_le _) (Nat.zero_le _)
  | succ r ih =>
    intro i hi x6 hx hir K sz AD hl
    have hlt : i < cs.length := by omega
    have hch : cs[i]? = some cs[i] := List.getElem?_eq_getElem hlt
    generalize cs[i] = ch at hch
    have hI := ofNat_idx (i := i) (by omega)
    refine C.iload db0_3 rfl ?_
    refine C.iload db0_5 rfl ?_
    refine C.icmp_ge db0_7 (fun q => absurd ((ofNat_lt (by omega) hN).mpr hlt) q) (fun _ => ?_)
    refine C.aloadN db0_10 rfl rfl ?_
    refine C.iloadN db0_11 rfl ?_
    refine C.caload db0_12 (A.keep K (by simpa using hbd)) hI.1 hI.2 (ints_get hch) ?_
    refine C.istore db0_13 rfl hx ?_
    refine C.iload db0_15 rfl ?_
    refine C.sipush (255) db0_17 rfl ?_
    refine C.icmp_le db0_20 (fun q => ?_) (fun q => ?_)
    · refine C.aloadN db0_26 rfl rfl ?_
      refine C.iloadN db0_27 rfl ?_
      refine C.iload db0_28 rfl ?_
      refine C.i2b db0_30 ?_
      refine C.bastore db0_31 AD hI.1 hI.2 (by simp [lat]; omega) nd (Or.inl (List.mem_singleton.mpr rfl)) ?_
      intro h2 W2 A2
      refine C.iinc (1) db0_32 rfl rfl ?_
      refine C.iinc (1) db0_35 rfl rfl ?_
      refine C.iinc (1) db0_38 rfl rfl ?_
      refine C.goto db0_41 ?_
      rw [ofNat_succ]
      refine ih (i + 1) h2 _ rfl (by omega) (K.wr W2 (Or.inl (List.mem_singleton.mpr rfl))) (W2.size.trans sz) ?_ ?_
      · have e : lat (cs.take (i + 1)) = lat (cs.take i) ++ [.int (nar .byte (b8 ch))] := by
          rw [List.take_add_one, hch]; simp [lat, nar_b8, b8_b8]
        rw [e, ← fill_step (i := i) (by rw [lat_length, List.length_take]; omega)]; exact A2
      · rw [List.take_add_one, hch]
        intro c hc
        rcases List.mem_append.mp hc with z | z
        · exact hl c z
        · simp at z; subst z; exact q
    · refine C.iload db0_23 rfl ?_
      exact C.ireturn db0_25 rfl (Or.inl rfl) rfl ⟨_, rfl, K, sz, Or.inr ⟨i, ch, hlt, rfl, hch, q⟩⟩ (Nat.zero_le _) (Nat.zero_le _)
theorem J_cmp5 (B : Base Z a0 EL) {h : Heap} {b d : Addr} {cs : List Int32} (A : Arl Z h b .char (ints cs)) (AD : Arl Z h d .byte (List.replicate cs.length (.int 0))) (nd : Z.heap.size ≤ d) (hbd : b ≠ d) :
    Con l Z EL nw (⟨"java/lang/StringUTF16", "compress", "([CI[BII)I"⟩ : MethodName) jdk_52_method_21_code 7 (some .int) (RM 0 0 0 0) [d] #[.ref b, .int 0, .ref d, .int 0, .int (Int32.ofNat cs.length)] h (rR (Qcmp5 Z h d cs)) := by
  refine Con.of (plainFor_of_name (by decide +kernel)) B.1 B.2.1 ⟨[.val (.ref b), .val (.int 0), .val (.ref d), .val (.int 0), .val (.int (Int32.ofNat cs.length)), .unset, .unset]⟩ (fun m => rfl) ?_
  intro p e s m below meth c _ C
  refine C.iconst (0) db0_0 rfl ?_
  refine C.istore db0_1 rfl rfl ?_
  exact J_cmp5L C A nd hbd cs.length 0 h .unset rfl (by omega) (Keep.refl _ _) rfl (by simpa [lat] using AD) (by simp)
theorem J_codl (B : Base Z a0 EL) {h : Heap} {d : Addr} {vs : List Value} {n : Nat} {r : Int32} (A : Arl Z h d .byte vs) (hr : b8 (XT.ushr (Int32.ofNat n - Int32.ofNat vs.length) 31) = r) :
    Con l Z EL nw (⟨"java/lang/StringUTF16", "coderFromArrayLen", "([BI)B"⟩ : MethodName) jdk_52_method_15_code 2 (some .byte) (RM 0 0 0 0) [] #[.ref d, .int (Int32.ofNat n)] h (rR fun v h' => v = .int r ∧ h = h') := by
  refine Con.of (plainFor_of_name (by decide +kernel)) B.1 B.2.1 ⟨[.val (.ref d), .val (.int (Int32.ofNat n))]⟩ (fun m => rfl) ?_
  intro p e s m below meth c _ C
  refine C.iloadN db1_0 rfl ?_
  refine C.aloadN db1_1 rfl rfl ?_
  refine C.arraylength db1_2 A ?_
  refine C.isub db1_3 ?_
  refine C.bipush (31) db1_4 rfl ?_
  refine C.iushr db1_6 ?_
  refine C.i2b db1_7 ?_
  exact C.ireturn db1_8 rfl (Or.inr (Or.inr (Or.inl rfl))) (narrow_byte _) ⟨_, rfl, by rw [hr], rfl⟩ (Nat.zero_le _) (Nat.zero_le _)
theorem J_cmp3 (B : Base Z a0 EL) {h : Heap} {b : Addr} {cs : List Int32} (hL : ∀ c ∈ cs, ¬ (255 : Int32) < c) (hn : cs.length ≤ 4000) (A : Arl Z h b .char (ints cs)) :
    Con l Z EL nw (⟨"java/lang/StringUTF16", "compress", "([CII)[B"⟩ : MethodName) jdk_52_method_16_code 6 (some (.array .byte)) (RM 1 18 1 cs.length) [] #[.ref b, .int 0, .int (Int32.ofNat cs.length)] h (rR fun v h' => ∃ t, v = .ref t ∧ h.size ≤ t ∧ Ext h h' ∧ Arl Z h' t .byte (lat cs)) := by
  have hI := ofNat_idx (i := cs.length) (by omega)
  refine Con.of (plainFor_of_name (by decide +kernel)) B.1 B.2.1 ⟨[.val (.ref b), .val (.int 0), .val (.int (Int32.ofNat cs.length)), .unset, .unset, .unset]⟩ (fun m => rfl) ?_
  intro p e s m below meth c _ C
  refine Goes.old fun O => ?_
  refine C.iloadN db2_0 rfl ?_
  refine C.newarray db2_1 tw27 hI.1 hI.2 (by omega) (le rfl) (by show 0 + cs.length ≤ cs.length; omega) ?_
  intro h1 d g1 E1 l1 A1
  have hbd : @Ne Nat b d := adr_ne A.lt (Nat.le_of_eq g1.symm)
  refine C.astoreN db2_3 rfl rfl rfl ?_
  refine C.aloadN db2_4 rfl rfl ?_
  refine C.iloadN db2_5 rfl ?_
  refine C.aloadN db2_6 rfl rfl ?_
  refine C.iconst (0) db2_7 rfl ?_
  refine C.iloadN db2_8 rfl ?_
  refine C.s5R db2_9 tw28 tw29 tw25 tw30 (by decide) (by decide +kernel) rfl (by simp) (J_cmp5 B (A.ext E1) A1 (by rw [g1]; exact O.1) hbd) (le rfl) (le rfl) (le rfl) (by show 0 + cs.length + 0 ≤ cs.length; omega) ?_
  rintro v h2 ⟨K2, sz2, hv⟩
  have hv' : v = .int (Int32.ofNat cs.length) ∧ Arl Z h2 d .byte (lat cs) := by
    rcases hv with ⟨q1, -, q3⟩ | ⟨i, c, -, -, q4, q5⟩
    · exact ⟨q1, q3⟩
    · exact absurd q5 (hL c (List.mem_of_getElem? q4))
  obtain ⟨rfl, A2⟩ := hv'
  refine C.istore db2_12 rfl rfl ?_
  refine C.iload db2_14 rfl ?_
  refine C.iloadN db2_16 rfl ?_
  refine C.icmp_eq db2_17 (fun _ => ?_) (fun q => absurd rfl q)
  refine C.aloadN db2_57 rfl rfl ?_
  exact C.areturn db2_58 rfl rfl rfl rfl ⟨_, rfl, d, rfl, by omega, ext_of_keep E1 K2 (by simp; omega), A2⟩ (le rfl) (by show 0 + cs.length + 0 ≤ cs.length; omega)
theorem J_new4l (B : Base Z a0 EL) {h : Heap} {a b : Addr} {cs : List Int32} (hc : ∀ c ∈ cs, IsC c) (h0 : cs ≠ []) (hL : ∀ c ∈ cs, ¬ (255 : Int32) < c) (hn : cs.length ≤ 4000) (A : Arl Z h b .char (ints cs)) (na : Z.heap.size ≤ a) (E : Exa Z h a ST) (Fv : Fld Z h a ST "value" "[B" .null) (Fc : Fld Z h a ST "coder" "B" (.int 0)) :
    Con l Z EL nw (⟨"java/lang/String", "<init>", "([CIILjava/lang/Void;)V"⟩ : MethodName) jdk_42_method_149_code 6 none (RM 2 35 1 cs.length) [a] #[.ref a, .ref b, .int 0, .int (Int32.ofNat cs.length), .null] h (rV fun h' => Keep h h' [a] ∧ StrAt Z h' a cs) := by
  obtain ⟨z, Sz, hz⟩ := B.2.2.1
  refine Con.of (plainFor_of_name (by decide +kernel)) B.1 B.2.1 ⟨[.val (.ref a), .val (.ref b), .val (.int 0), .val (.int (Int32.ofNat cs.length)), .val .null, .unset]⟩ (fun m => rfl) ?_
  intro p e s m below meth c _ C
  refine C.aloadN db3_0 rfl rfl ?_
  refine C.initO db3_1 tw19 tw20 tw21 rfl (le rfl) (le rfl) ?_
  refine C.iloadN db3_4 rfl ?_
  refine C.if_ne db3_5 (fun _ => ?_) (fun q => absurd (ofNat_inj (j := 0) (by omega) (by omega) q) (fun q => h0 (List.length_eq_zero_iff.mp q)))
  refine C.getS db3_27 tw22 Sz ?_
  refine C.if_eq db3_30 (fun q => absurd q hz) (fun _ => ?_)
  refine C.aloadN db3_33 rfl rfl ?_
  refine C.iloadN db3_34 rfl ?_
  refine C.iloadN db3_35 rfl ?_
  refine C.s3R db3_36 tw23 tw24 tw25 tw26 (by decide) (by decide +kernel) rfl nof (J_cmp3 B hL hn A) (le rfl) (le rfl) (le rfl) (by show 0 + cs.length ≤ cs.length; omega) ?_
  rintro v h1 ⟨t, rfl, nt, E1, A1⟩
  refine C.astore db3_39 rfl rfl rfl ?_
  refine C.aloadN db3_41 rfl rfl ?_
  refine C.aload db3_42 rfl rfl ?_
  refine C.iloadN db3_44 rfl ?_
  refine C.s2R db3_45 tw31 tw32 tw25 tw33 (by decide) (by decide +kernel) rfl nof (J_codl B (n := cs.length) (r := 0) A1 (by rw [lat_length, Int32.sub_self]; rfl)) (le rfl) (le rfl) (le rfl) (by show 0 + cs.length + 0 ≤ cs.length; omega) ?_
  rintro v h2 ⟨rfl, rfl⟩
  refine C.putF (ty := .byte) db3_48 tw34 (Fc.ext E1) (E.ext E1) (Or.inr ⟨tw35, rfl, rfl⟩) tw10 (by decide +kernel) rfl rfl na (Or.inl (List.mem_singleton.mpr rfl)) ?_
  intro h3 W3
  have nvc : RoadKit.slotOf Z ST "value" "[B" ≠ RoadKit.slotOf Z ST "coder" "B" := slot_ne (C := ST) (a0 := a0) (Or.inr (C.wrd tw37)) (Or.inr (C.wrd tw35)) (by decide) (t := .array .byte) (t' := .byte) (by decide +kernel) (by decide +kernel)
  refine C.aloadN db3_51 rfl rfl ?_
  refine C.aload db3_52 rfl rfl ?_
  refine C.putF (ty := (.array .byte)) db3_54 tw36 ((Fv.ext E1).other W3 (Or.inr nvc)) ((E.ext E1).wr W3) (Or.inr ⟨tw37, rfl, rfl⟩) tw10 (by decide +kernel) rfl rfl na (Or.inl (List.mem_singleton.mpr rfl)) ?_
  intro h4 W4
  have ta : @Ne Nat t a := (adr_ne E.lt nt).symm
  refine C.return_ db3_57 rfl ⟨rfl, ((keep_ext E1 [a]).wr W3 (Or.inl (List.mem_singleton.mpr rfl))).wr W4 (Or.inl (List.mem_singleton.mpr rfl)), t, 0, lat cs, ?_, ?_, ?_, ?_, Or.inl ⟨rfl, rfl, hL⟩, hc, hn⟩ (le rfl) (by show 0 + cs.length + 0 ≤ cs.length; omega)
  · exact ((E.ext E1).wr W3).wr W4
  · exact ((Fv.ext E1).other W3 (Or.inr nvc)).same W4
  · exact ((Fc.ext E1).same W3).other W4 (Or.inr nvc.symm)
  · exact (A1.other W3 ta).other W4 ta
theorem J_new1l (B : Base Z a0 EL) {h : Heap} {a b : Addr} {cs : List Int32} (hc : ∀ c ∈ cs, IsC c) (h0 : cs ≠ []) (hL : ∀ c ∈ cs, ¬ (255 : Int32) < c) (hn : cs.length ≤ 4000) (A : Arl Z h b .char (ints cs)) (na : Z.heap.size ≤ a) (E : Exa Z h a ST) (Fv : Fld Z h a ST "value" "[B" .null) (Fc : Fld Z h a ST "coder" "B" (.int 0)) :
    Con l Z EL nw (⟨"java/lang/String", "<init>", "([C)V"⟩ : MethodName) jdk_42_method_3_code 2 none (RM 3 52 1 cs.length) [a] #[.ref a, .ref b] h (rV fun h' => Keep h h' [a] ∧ StrAt Z h' a cs) := by
  refine Con.of (plainFor_of_name (by decide +kernel)) B.1 B.2.1 ⟨[.val (.ref a), .val (.ref b)]⟩ (fun m => rfl) ?_
  intro p e s m below meth c _ C
  refine C.aloadN db4_0 rfl rfl ?_
  refine C.aloadN db4_1 rfl rfl ?_
  refine C.iconst (0) db4_2 rfl ?_
  refine C.aloadN db4_3 rfl rfl ?_
  refine C.arraylength db4_4 A ?_
  rw [ints_length]
  refine C.aconst_null db4_5 ?_
  refine C.c4 db4_6 rfl tw15 tw16 tw11 tw18 (by decide) (by decide +kernel) rfl (fun _ q => Or.inl q) (J_new4l B hc h0 hL hn A na E Fv Fc) (le rfl) (le rfl) (le rfl) (by show 0 + cs.length ≤ cs.length; omega) ?_
  rintro h1 ⟨K1, S1⟩
  exact C.return_ db4_9 rfl ⟨rfl, K1, S1⟩ (le rfl) (by show 0 + cs.length ≤ cs.length; omega)
theorem J_eqSame (B : Base Z a0 EL) {h : Heap} {a : Addr} :
    Con l Z EL nw (⟨"java/lang/String", "equals", "(Ljava/lang/Object;)Z"⟩ : MethodName) jdk_42_method_66_code 3 (some .boolean) (RM 0 0 0 0) [] #[.ref a, .ref a] h (rR fun v h' => v = .int 1 ∧ h = h') := by
  refine Con.of (plainFor_of_name (by decide +kernel)) B.1 B.2.1 ⟨[.val (.ref a), .val (.ref a), .unset]⟩ (fun m => rfl) ?_
  intro p e s m below meth c _ C
  refine C.aloadN db5_0 rfl rfl ?_
  refine C.aloadN db5_1 rfl rfl ?_
  refine C.acmp_ne db5_2 rfl rfl (fun q => absurd rfl q) (fun _ => ?_)
  refine C.iconst (1) db5_5 rfl ?_
  exact C.ireturn db5_6 rfl (Or.inr (Or.inl rfl)) rfl ⟨_, rfl, rfl, rfl⟩ (Nat.zero_le _) (Nat.zero_le _)
theorem J_atoms (B : Base Z a0 EL) : ∀ a ∈ Bundle.stringAtoms, a.before a0 Z = true := fun d hd => B.1 d ((by decide +kernel : ∀ d ∈ Bundle.stringAtoms, d ∈ tables_1) d hd)
theorem J_rnn (B : Base Z a0 EL) {h : Heap} {a b : Addr} : Con l Z EL nw (⟨"java/util/Objects", "requireNonNull", "(Ljava/lang/Object;Ljava/lang/String;)Ljava/lang/Object;"⟩ : MethodName) jdk_31_method_11_code 2 (some (.object "java/lang/Object")) (RM 0 0 0 0) [] #[.ref a, .ref b] h (rR fun v h' => v = .ref a ∧ h = h') := by
  refine Con.of (plainFor_of_name (by decide +kernel)) B.1 B.2.1 ⟨[.val (.ref a), .val (.ref b)]⟩ (fun m => rfl) ?_
  intro p e s m below meth c _ C
  refine C.aloadN db6_0 rfl rfl ?_
  refine C.ifnonnullY db6_1 ?_
  refine C.aloadN db6_13 rfl rfl ?_
  exact C.areturn db6_14 rfl rfl rfl rfl ⟨_, rfl, rfl, rfl⟩ (le rfl) (le rfl)
theorem J_coder (B : Base Z a0 EL) {h : Heap} {a : Addr} {cd : Int32} (F : Fld Z h a ST "coder" "B" (.int cd)) (hcd : cd = 0 ∨ cd = 1) : Con l Z EL nw (⟨"java/lang/String", "coder", "()B"⟩ : MethodName) jdk_42_method_152_code 1 (some .byte) (RM 0 0 0 0) [] #[.ref a] h (rR fun v h' => v = .int cd ∧ h = h') := by
  obtain ⟨z, Sz, hz⟩ := B.2.2.1
  refine Con.of (plainFor_of_name (by decide +kernel)) B.1 B.2.1 ⟨[.val (.ref a)]⟩ (fun m => rfl) ?_
  intro p e s m below meth c _ C
  refine C.getS db7_0 tw22 Sz ?_
  refine C.if_eq db7_3 (fun q => absurd q hz) (fun _ => ?_)
  refine C.aloadN db7_6 rfl rfl ?_
  refine C.getF db7_7 tw34 F ?_
  refine C.goto db7_10 ?_
  exact C.ireturn db7_14 rfl (Or.inr (Or.inr (Or.inl rfl))) (by rcases hcd with rfl | rfl <;> rfl) ⟨_, rfl, rfl, rfl⟩ (le rfl) (le rfl)
theorem J_len (B : Base Z a0 EL) {h : Heap} {a : Addr} {cs : List Int32} (S : StrAt Z h a cs) : Con l Z EL nw (⟨"java/lang/String", "length", "()I"⟩ : MethodName) jdk_42_method_54_code 1 (some .int) (RM 1 13 0 0) [] #[.ref a] h (rR fun v h' => v = .int (Int32.ofNat cs.length) ∧ h = h') := by
  obtain ⟨t, cd, vs, X, Fv, Fc, A, T, hC, hn⟩ := S
  refine Con.of (plainFor_of_name (by decide +kernel)) B.1 B.2.1 ⟨[.val (.ref a)]⟩ (fun m => rfl) ?_
  intro p e s m below meth c _ C
  refine C.aloadN db8_0 rfl rfl ?_
  refine C.getF db8_1 tw36 Fv ?_
  refine C.arraylength db8_4 A ?_
  refine C.aloadN db8_5 rfl rfl ?_
  refine C.v0R db8_6 tw59 tw60 tw62 tw61 tw11 tw63 (by decide) (by decide +kernel) rfl nof X (fun _ q => notFace_of_selects q) (J_coder B Fc T.cd01) (le rfl) (le rfl) (le rfl) (le rfl) ?_
  rintro _ _ ⟨rfl, rfl⟩
  refine C.ishr db8_9 ?_
  exact C.ireturn db8_10 rfl (Or.inl rfl) rfl ⟨_, rfl, by rw [T.len hn], rfl⟩ (le rfl) (le rfl)
theorem J_isl (B : Base Z a0 EL) {h : Heap} {a : Addr} {cd : Int32} (F : Fld Z h a ST "coder" "B" (.int cd)) : Con l Z EL nw (⟨"java/lang/String", "isLatin1", "()Z"⟩ : MethodName) jdk_42_method_154_code 1 (some .boolean) (RM 0 0 0 0) [] #[.ref a] h (rR fun v h' => ((v = .int 1 ∧ cd = 0) ∨ (v = .int 0 ∧ ¬ cd = 0)) ∧ h = h') := by
  obtain ⟨z, Sz, hz⟩ := B.2.2.1
  refine Con.of (plainFor_of_name (by decide +kernel)) B.1 B.2.1 ⟨[.val (.ref a)]⟩ (fun m => rfl) ?_
  intro p e s m below meth c _ C
  refine C.getS db9_0 tw22 Sz ?_
  refine C.if_eq db9_3 (fun q => absurd q hz) (fun _ => ?_)
  refine C.aloadN db9_6 rfl rfl ?_
  refine C.getF db9_7 tw34 F ?_
  refine C.if_ne db9_10 (fun q => ?_) (fun q => ?_)
  · refine C.iconst (0) db9_17 rfl ?_
    exact C.ireturn db9_18 rfl (Or.inr (Or.inl rfl)) rfl ⟨_, rfl, Or.inr ⟨rfl, q⟩, rfl⟩ (le rfl) (le rfl)
  · refine C.iconst (1) db9_13 rfl ?_
    refine C.goto db9_14 ?_
    exact C.ireturn db9_18 rfl (Or.inr (Or.inl rfl)) rfl ⟨_, rfl, Or.inl ⟨rfl, q⟩, rfl⟩ (le rfl) (le rfl)
theorem J_pci' (B : Base Z a0 EL) {h : Heap} {i n : Int32} {v : Value} (h0 : ¬ i < 0) (h1 : i < n) (hv : ∀ m, entryFrame m #[.int i, .int n, v] 3 = mkF m 0 ⟨[.val (.int i), .val (.int n), .val v]⟩ []) : Con l Z EL nw (⟨"jdk/internal/util/Preconditions", "checkIndex", "(IILjava/util/function/BiFunction;)I"⟩ : MethodName) jdk_41_method_11_code 3 (some .int) (RM 0 0 0 0) [] #[.int i, .int n, v] h (rR fun w h' => w = .int i ∧ h = h') := by
  refine Con.of (plainFor_of_name (by decide +kernel)) B.1 B.2.1 ⟨[.val (.int i), .val (.int n), .val v]⟩ hv ?_
  intro p e s m below meth c _ C
  refine C.iloadN db10_0 rfl ?_
  refine C.if_lt db10_1 (fun q => absurd q h0) (fun _ => ?_)
  refine C.iloadN db10_4 rfl ?_
  refine C.iloadN db10_5 rfl ?_
  refine C.icmp_lt db10_6 (fun _ => ?_) (fun q => absurd h1 q)
  refine C.iloadN db10_16 rfl ?_
  exact C.ireturn db10_17 rfl (Or.inl rfl) rfl ⟨_, rfl, rfl, rfl⟩ (le rfl) (le rfl)
theorem J_pci (B : Base Z a0 EL) {h : Heap} {i n : Int32} {v : Value} (h0 : ¬ i < 0) (h1 : i < n) (hr : v.isRef = true) : Con l Z EL nw (⟨"jdk/internal/util/Preconditions", "checkIndex", "(IILjava/util/function/BiFunction;)I"⟩ : MethodName) jdk_41_method_11_code 3 (some .int) (RM 0 0 0 0) [] #[.int i, .int n, v] h (rR fun w h' => w = .int i ∧ h = h') := by
  cases v with
  | ref r => exact J_pci' B h0 h1 (fun m => rfl)
  | null => exact J_pci' B h0 h1 (fun m => rfl)
  | _ => cases hr
theorem J_sci (B : Base Z a0 EL) {h : Heap} {i n : Int32} (h0 : ¬ i < 0) (h1 : i < n) : Con l Z EL nw (⟨"java/lang/String", "checkIndex", "(II)V"⟩ : MethodName) jdk_42_method_155_code 2 none (RM 1 14 0 0) [] #[.int i, .int n] h (rV fun h' => h = h') := by
  obtain ⟨sf, Ssf, rsf⟩ := B.2.2.2.1
  refine Con.of (plainFor_of_name (by decide +kernel)) B.1 B.2.1 ⟨[.val (.int i), .val (.int n)]⟩ (fun m => rfl) ?_
  intro p e s m below meth c _ C
  refine C.iloadN db11_0 rfl ?_
  refine C.iloadN db11_1 rfl ?_
  refine C.getS db11_2 tw81 Ssf ?_
  refine C.s3R db11_5 tw83 tw84 tw82 tw85 (by decide) (by decide +kernel) rfl nof (J_pci B h0 h1 rsf) (le rfl) (le rfl) (le rfl) (le rfl) ?_
  rintro _ _ ⟨rfl, rfl⟩
  refine C.pop db11_8 rfl ?_
  exact C.return_ db11_9 rfl ⟨rfl, rfl⟩ (le rfl) (le rfl)
theorem J_lch (B : Base Z a0 EL) {h : Heap} {t : Addr} {vs : List Value} {i : Nat} {b : Int32} (A : Arl Z h t .byte vs) (hi : vs[i]? = some (.int b)) : Con l Z EL nw (⟨"java/lang/StringLatin1", "charAt", "([BI)C"⟩ : MethodName) jdk_43_method_2_code 2 (some .char) (RM 2 27 0 0) [] #[.ref t, .int (Int32.ofNat i)] h (rR fun v h' => v = .int (c16 (b &&& 255)) ∧ h = h') := by
  have hlt : i < vs.length := (List.getElem?_eq_some_iff.mp hi).1
  have hl := A.len
  have hI := ofNat_idx (i := i) (by omega)
  refine Con.of (plainFor_of_name (by decide +kernel)) B.1 B.2.1 ⟨[.val (.ref t), .val (.int (Int32.ofNat i))]⟩ (fun m => rfl) ?_
  intro p e s m below meth c _ C
  refine C.iloadN db12_0 rfl ?_
  refine C.aloadN db12_1 rfl rfl ?_
  refine C.arraylength db12_2 A ?_
  refine C.s2V db12_3 tw78 tw79 tw11 tw80 (by decide) (by decide +kernel) rfl nof (J_sci B hI.1 ((ofNat_lt (by omega) hl).mpr hlt)) (le rfl) (le rfl) (le rfl) (le rfl) ?_
  rintro _ rfl
  refine C.aloadN db12_6 rfl rfl ?_
  refine C.iloadN db12_7 rfl ?_
  refine C.baload db12_8 A hI.1 hI.2 hi ?_
  refine C.sipush (255) db12_9 rfl ?_
  refine C.iand db12_12 ?_
  refine C.i2c db12_13 ?_
  exact C.ireturn db12_14 rfl (Or.inr (Or.inr (Or.inr (Or.inl rfl)))) (narrow_char (isC_c16 _)) ⟨_, rfl, rfl, rfl⟩ (le rfl) (le rfl)
theorem J_chl (B : Base Z a0 EL) {h : Heap} {a : Addr} {cs : List Int32} {i : Nat} {ch : Int32} (S : StrAt Z h a cs) (hL : ∀ c ∈ cs, ¬ (255 : Int32) < c) (hi : cs[i]? = some ch) : Con l Z EL nw (⟨"java/lang/String", "charAt", "(I)C"⟩ : MethodName) jdk_42_method_56_code 2 (some .char) (RM 3 40 0 0) [] #[.ref a, .int (Int32.ofNat i)] h (rR fun v h' => v = .int ch ∧ h = h') := by
  obtain ⟨t, cd, vs, X, Fv, Fc, A, T, hC, hn⟩ := S
  have hm : ch ∈ cs := List.mem_of_getElem? hi
  obtain ⟨rfl, rfl⟩ : cd = 0 ∧ vs = lat cs := by
    rcases T with ⟨q1, q2, -⟩ | ⟨-, -, c, q1, q2⟩
    · exact ⟨q1, q2⟩
    · exact absurd q2 (hL c q1)
  refine Con.of (plainFor_of_name (by decide +kernel)) B.1 B.2.1 ⟨[.val (.ref a), .val (.int (Int32.ofNat i))]⟩ (fun m => rfl) ?_
  intro p e s m below meth c _ C
  refine C.aloadN db13_0 rfl rfl ?_
  refine C.v0R db13_1 tw69 tw70 tw72 tw71 tw11 tw73 (by decide) (by decide +kernel) rfl nof X (fun _ q => notFace_of_selects q) (J_isl B Fc) (le rfl) (le rfl) (le rfl) (le rfl) ?_
  rintro v _ ⟨hv, rfl⟩
  obtain rfl : v = .int 1 := hv.elim (fun q => q.1) (fun q => absurd rfl q.2)
  refine C.if_eq db13_4 (fun q => absurd q (by decide)) (fun _ => ?_)
  refine C.aloadN db13_7 rfl rfl ?_
  refine C.getF db13_8 tw36 Fv ?_
  refine C.iloadN db13_11 rfl ?_
  refine C.s2R db13_12 tw74 tw75 tw76 tw77 (by decide) (by decide +kernel) rfl nof (J_lch B A (lat_get hi)) (le rfl) (le rfl) (le rfl) (le rfl) ?_
  rintro _ _ ⟨rfl, rfl⟩
  have e : c16 (b8 ch &&& 255) = ch := unb8 ⟨(hC ch hm).1, hL ch hm⟩
  rw [e]
  exact C.ireturn db13_15 rfl (Or.inr (Or.inr (Or.inr (Or.inl rfl)))) (narrow_char (hC ch hm)) ⟨_, rfl, rfl, rfl⟩ (le rfl) (le rfl)
theorem J_emp (B : Base Z a0 EL) {h : Heap} {a : Addr} {cs : List Int32} (S : StrAt Z h a cs) : Con l Z EL nw (⟨"java/lang/String", "isEmpty", "()Z"⟩ : MethodName) jdk_42_method_55_code 1 (some .boolean) (RM 0 0 0 0) [] #[.ref a] h (rR fun v h' => ((v = .int 1 ∧ cs = []) ∨ (v = .int 0 ∧ cs ≠ [])) ∧ h = h') := by
  obtain ⟨t, cd, vs, X, Fv, Fc, A, T, hC, hn⟩ := S
  refine Con.of (plainFor_of_name (by decide +kernel)) B.1 B.2.1 ⟨[.val (.ref a)]⟩ (fun m => rfl) ?_
  intro p e s m below meth c _ C
  refine C.aloadN db14_0 rfl rfl ?_
  refine C.getF db14_1 tw36 Fv ?_
  refine C.arraylength db14_4 A ?_
  have hl := T.vlen
  refine C.if_ne db14_5 (fun q => ?_) (fun q => ?_)
  · refine C.iconst (0) db14_12 rfl ?_
    exact C.ireturn db14_13 rfl (Or.inr (Or.inl rfl)) rfl ⟨_, rfl, Or.inr ⟨rfl, fun z => q (by subst z; rcases hl with z | z <;> (rw [z]; rfl))⟩, rfl⟩ (le rfl) (le rfl)
  · refine C.iconst (1) db14_8 rfl ?_
    refine C.goto db14_9 ?_
    have e := ofNat_inj (j := 0) A.len (by omega) q
    exact C.ireturn db14_13 rfl (Or.inr (Or.inl rfl)) rfl ⟨_, rfl, Or.inl ⟨rfl, List.length_eq_zero_iff.mp (by rcases hl with z | z <;> omega)⟩, rfl⟩ (le rfl) (le rfl)
def Aln (c : Int32) : Prop := (65 ≤ c.toInt ∧ c.toInt ≤ 90) ∨ (97 ≤ c.toInt ∧ c.toInt ≤ 122) ∨ (48 ≤ c.toInt ∧ c.toInt ≤ 57)
theorem Aln.isC {c : Int32} (h : Aln c) : IsC c := by rw [isC_iff]; unfold Aln at h; omega
theorem Aln.isL {c : Int32} (h : Aln c) : IsL c := by rw [isL_iff]; unfold Aln at h; omega
theorem kbound (y : Int64) : 0 ≤ ((y &&& 255).toInt32 % 62).toInt ∧ ((y &&& 255).toInt32 % 62).toInt < 62 := by
  have h1 := c_maskL y 255 8 (by decide) (by decide)
  have h2 := c_l2i (y &&& 255)
  have h3 := i32_bounds (y &&& 255).toInt32
  have p : ((2 ^ 8 : Nat) : Int) = 256 := rfl
  rw [p] at h1
  have h4 : 0 ≤ (y &&& 255).toInt32.toInt := by omega
  have h5 := (c_irem (y &&& 255).toInt32 62 62 rfl).1 h4
  omega
/-- the first j places that lie below N hold letters or digits -/
def Inv (N j : Nat) (vs : List Value) : Prop := vs.length = N ∧ ∀ t, t < j → t < N → ∃ c, vs[t]? = some (.int c) ∧ Aln c
theorem Inv.step {N j : Nat} {vs : List Value} {c : Int32} (I : Inv N j vs) (h : Aln c) : Inv N (j + 1) (vs.set j (.int c)) := by
  obtain ⟨h1, h2⟩ := I
  refine ⟨by simpa using h1, fun t ht hN => ?_⟩
  by_cases q : t = j
  · subst q
    exact ⟨c, by rw [List.getElem?_set_self (by omega)], h⟩
  · obtain ⟨d, z1, z2⟩ := h2 t (by omega) hN
    exact ⟨d, by rw [List.getElem?_set_ne (Ne.symm q)]; exact z1, z2⟩
theorem Inv.out : ∀ {N : Nat} {vs : List Value}, Inv N N vs → ∃ cs : List Int32, vs = ints cs ∧ cs.length = N ∧ ∀ c ∈ cs, Aln c
  | 0, vs, ⟨h, _⟩ => ⟨[], by simpa [ints] using List.length_eq_zero_iff.mp h, rfl, by simp⟩
  | N + 1, [], ⟨h, _⟩ => by simp at h
  | N + 1, v :: vs, ⟨h1, h2⟩ => by
    obtain ⟨c, hc, ac⟩ := h2 0 (by omega) (by omega)
    simp at hc; subst hc
    obtain ⟨cs, e1, e2, e3⟩ := Inv.out (N := N) (vs := vs) ⟨by simpa using h1, fun t ht hN => by
      obtain ⟨d, z1, z2⟩ := h2 (t + 1) (by omega) (by omega)
      exact ⟨d, by simpa using z1, z2⟩⟩
    exact ⟨c :: cs, by rw [e1]; rfl, by simp [e2], fun d hd => (List.mem_cons.mp hd).elim (fun q => q ▸ ac) (e3 d)⟩
theorem P_ch (B : Base Z a0 EL) {h : Heap} {b : Int64} {i : Int32} : Con l Z EL nw (⟨"com/example/dommel/dommel/DailyNumberFormatRequireTypePinLaw", "ch", "(JI)C"⟩ : MethodName) method_2_code 4 (some .char) (RM 0 0 0 0) [] #[.long b, .int i] h (rR fun v h' => ∃ c, v = .int c ∧ Aln c ∧ h = h') := by
  refine Con.of (plainFor_of_name (by decide +kernel)) B.1 B.2.1 ⟨[.val (.long b), .second, .val (.int i), .unset]⟩ (fun m => rfl) ?_
  intro p e s m below meth c _ C
  refine C.lloadN db15_0 rfl ?_
  refine C.bipush (8) db15_1 rfl ?_
  refine C.iloadN db15_3 rfl ?_
  refine C.imul db15_4 ?_
  refine C.lushr db15_5 ?_
  refine C.ldc2Long db15_6 tw5 ?_
  refine C.land db15_9 ?_
  refine C.l2i db15_10 ?_
  refine C.bipush (62) db15_11 rfl ?_
  refine C.irem db15_13 (by decide) ?_
  have hk := kbound (XT.ushrL b (8 * i))
  generalize (XT.ushrL b (8 * i) &&& 255).toInt32 % 62 = k at hk ⊢
  refine C.istoreN db15_14 rfl rfl ?_
  refine C.iloadN db15_15 rfl ?_
  refine C.bipush (26) db15_16 rfl ?_
  refine C.icmp_ge db15_18 (fun q => ?_) (fun q => ?_)
  · refine C.iloadN db15_27 rfl ?_
    refine C.bipush (52) db15_28 rfl ?_
    refine C.icmp_ge db15_30 (fun q2 => ?_) (fun q2 => ?_)
    · refine C.bipush (48) db15_42 rfl ?_
      refine C.iloadN db15_44 rfl ?_
      refine C.bipush (52) db15_45 rfl ?_
      refine C.isub db15_47 ?_
      refine C.iadd db15_48 ?_
      refine C.i2c db15_49 ?_
      have z : Aln (c16 (48 + (k - 52))) := by
        rw [nlt] at q2; have e : (52 : Int32).toInt = 52 := rfl; rw [e] at q2
        have a1 := c_isub k 52; rw [e] at a1; have a2 := i32_bounds (k - 52)
        have a3 := c_iadd 48 (k - 52); have e2 : (48 : Int32).toInt = 48 := rfl; rw [e2] at a3; have a4 := i32_bounds (48 + (k - 52))
        have a5 : IsC (48 + (k - 52)) := by rw [isC_iff]; omega
        rw [c16_of a5]; unfold Aln; omega
      exact C.ireturn db15_50 rfl (Or.inr (Or.inr (Or.inr (Or.inl rfl)))) (narrow_char z.isC) ⟨_, rfl, _, rfl, z, rfl⟩ (le rfl) (le rfl)
    · refine C.bipush (97) db15_33 rfl ?_
      refine C.iloadN db15_35 rfl ?_
      refine C.bipush (26) db15_36 rfl ?_
      refine C.isub db15_38 ?_
      refine C.iadd db15_39 ?_
      refine C.i2c db15_40 ?_
      have z : Aln (c16 (97 + (k - 26))) := by
        rw [nlt] at q; rw [ilt] at q2; have e : (52 : Int32).toInt = 52 := rfl; rw [e] at q2; have e' : (26 : Int32).toInt = 26 := rfl; rw [e'] at q
        have a1 := c_isub k 26; rw [e'] at a1; have a2 := i32_bounds (k - 26)
        have a3 := c_iadd 97 (k - 26); have e2 : (97 : Int32).toInt = 97 := rfl; rw [e2] at a3; have a4 := i32_bounds (97 + (k - 26))
        have a5 : IsC (97 + (k - 26)) := by rw [isC_iff]; omega
        rw [c16_of a5]; unfold Aln; omega
      exact C.ireturn db15_41 rfl (Or.inr (Or.inr (Or.inr (Or.inl rfl)))) (narrow_char z.isC) ⟨_, rfl, _, rfl, z, rfl⟩ (le rfl) (le rfl)
  · refine C.bipush (65) db15_21 rfl ?_
    refine C.iloadN db15_23 rfl ?_
    refine C.iadd db15_24 ?_
    refine C.i2c db15_25 ?_
    have z : Aln (c16 (65 + k)) := by
      rw [ilt] at q; have e' : (26 : Int32).toInt = 26 := rfl; rw [e'] at q
      have a3 := c_iadd 65 k; have e2 : (65 : Int32).toInt = 65 := rfl; rw [e2] at a3; have a4 := i32_bounds (65 + k)
      have a5 : IsC (65 + k) := by rw [isC_iff]; omega
      rw [c16_of a5]; unfold Aln; omega
    exact C.ireturn db15_26 rfl (Or.inr (Or.inr (Or.inr (Or.inl rfl)))) (narrow_char z.isC) ⟨_, rfl, _, rfl, z, rfl⟩ (le rfl) (le rfl)
theorem P_put (B : Base Z a0 EL) {h : Heap} {b : Addr} {i v : Int32} {j : Nat} {vs : List Value} (hi : i = Int32.ofNat j) (A : Arl Z h b .char vs) (hv : IsC v) (nb : Z.heap.size ≤ b) (hj : j < 2 ^ 31 := by decide) : Con l Z EL nw (⟨"com/example/dommel/dommel/DailyNumberFormatRequireTypePinLaw", "put", "([CIC)V"⟩ : MethodName) method_3_code 3 none (RM 0 0 0 0) [] #[.ref b, .int i, .int v] h (rV fun h' => Keep h h' [b] ∧ h'.size = h.size ∧ Arl Z h' b .char (vs.set j (.int v))) := by
  subst hi
  have hI := ofNat_idx hj
  refine Con.of (plainFor_of_name (by decide +kernel)) B.1 B.2.1 ⟨[.val (.ref b), .val (.int (Int32.ofNat j)), .val (.int v)]⟩ (fun m => rfl) ?_
  intro p e s m below meth c _ C
  refine C.iloadN db16_0 rfl ?_
  refine C.aloadN db16_1 rfl rfl ?_
  refine C.arraylength db16_2 A ?_
  refine C.icmp_ge db16_3 (fun q => ?_) (fun q => ?_)
  · have z : vs.length ≤ j := by rw [ofNat_lt hj A.len] at q; omega
    refine C.return_ db16_10 rfl ⟨rfl, Keep.refl _ _, rfl, ?_⟩ (le rfl) (le rfl)
    rw [List.set_eq_of_length_le z]; exact A
  · have z : j < vs.length := (ofNat_lt hj A.len).mp q
    refine C.aloadN db16_6 rfl rfl ?_
    refine C.iloadN db16_7 rfl ?_
    refine C.iloadN db16_8 rfl ?_
    refine C.castore db16_9 A hI.1 hI.2 z nb ?_
    intro h1 W1 A1
    rw [nar_char hv] at A1
    exact C.return_ db16_10 rfl ⟨rfl, Keep.of_wr W1, W1.size, A1⟩ (le rfl) (le rfl)
theorem P_isa (B : Base Z a0 EL) {h : Heap} {v : Int32} (hv : Aln v) : Con l Z EL nw (⟨"com/example/dommel/dommel/DailyNumberFormat", "isAsciiLetterOrDigit", "(C)Z"⟩ : MethodName) prog_1_method_5_code 1 (some .boolean) (RM 0 0 0 0) [] #[.int v] h (rR fun w h' => w = .int 1 ∧ h = h') := by
  refine Con.of (plainFor_of_name (by decide +kernel)) B.1 B.2.1 ⟨[.val (.int v)]⟩ (fun m => rfl) ?_
  intro p e s m below meth c _ C
  have e65 : (65 : Int32).toInt = 65 := rfl
  have e90 : (90 : Int32).toInt = 90 := rfl
  have e97 : (97 : Int32).toInt = 97 := rfl
  have e122 : (122 : Int32).toInt = 122 := rfl
  have e48 : (48 : Int32).toInt = 48 := rfl
  have e57 : (57 : Int32).toInt = 57 := rfl
  unfold Aln at hv
  have fin : Goes p l e (RM 0 0 0 0) s m #[.int v] below meth c Z EL nw (rR fun w h' => w = .int 1 ∧ h = h') [] h.size h 0 0 (mkF m 36 ⟨[.val (.int v)]⟩ []) := by
    refine C.iconst (1) db17_36 rfl ?_
    refine C.goto db17_37 ?_
    exact C.ireturn db17_41 rfl (Or.inr (Or.inl rfl)) rfl ⟨_, rfl, rfl, rfl⟩ (le rfl) (le rfl)
  have p12 : ((97 ≤ v.toInt ∧ v.toInt ≤ 122) ∨ (48 ≤ v.toInt ∧ v.toInt ≤ 57)) → Goes p l e (RM 0 0 0 0) s m #[.int v] below meth c Z EL nw (rR fun w h' => w = .int 1 ∧ h = h') [] h.size h 0 0 (mkF m 12 ⟨[.val (.int v)]⟩ []) := by
    intro hv2
    have p24 : (48 ≤ v.toInt ∧ v.toInt ≤ 57) → Goes p l e (RM 0 0 0 0) s m #[.int v] below meth c Z EL nw (rR fun w h' => w = .int 1 ∧ h = h') [] h.size h 0 0 (mkF m 24 ⟨[.val (.int v)]⟩ []) := by
      intro hv3
      refine C.iloadN db17_24 rfl ?_
      refine C.bipush (48) db17_25 rfl ?_
      refine C.icmp_lt db17_27 (fun q => absurd q (by rw [nlt]; omega)) (fun _ => ?_)
      refine C.iloadN db17_30 rfl ?_
      refine C.bipush (57) db17_31 rfl ?_
      refine C.icmp_gt db17_33 (fun q => absurd q (by rw [nlt]; omega)) (fun _ => fin)
    refine C.iloadN db17_12 rfl ?_
    refine C.bipush (97) db17_13 rfl ?_
    refine C.icmp_lt db17_15 (fun q => p24 (by rw [ilt] at q; omega)) (fun q => ?_)
    refine C.iloadN db17_18 rfl ?_
    refine C.bipush (122) db17_19 rfl ?_
    refine C.icmp_le db17_21 (fun _ => fin) (fun q2 => p24 (by rw [nlt] at q; rw [ilt] at q2; omega))
  refine C.iloadN db17_0 rfl ?_
  refine C.bipush (65) db17_1 rfl ?_
  refine C.icmp_lt db17_3 (fun q => p12 (by rw [ilt] at q; omega)) (fun q => ?_)
  refine C.iloadN db17_6 rfl ?_
  refine C.bipush (90) db17_7 rfl ?_
  refine C.icmp_le db17_9 (fun _ => fin) (fun q2 => p12 (by rw [nlt] at q; rw [ilt] at q2; omega))
theorem P_reqL (B : Base Z a0 EL) {p : Program} {e : Env} {s : State} {m : MethodId} {args : Array Value} {below : List Frame} {meth : Method} {c : Code} {w : Nat} {h h1 : Heap} {a : Addr} {cs : List Int32} (C : Cxt p m meth c Z a0 EL "com/example/dommel/dommel/DailyNumberFormat" "requireType" prog_1_method_2_code 2 (some (.object ST)) tables_1) (S : StrAt Z h1 a cs) (hA : ∀ c ∈ cs, Aln c) (hn : cs.length ≤ 16) (E : Ext h h1) :
    ∀ (r i w : Nat), i + r = cs.length → Goes p l e (RM 4 53 2 20) s m args below meth c Z EL false (rR fun v h' => v = .ref a ∧ Ext h h') [] w h1 2 20 (mkF m 30 ⟨[.val (.ref a), .val (.int (Int32.ofNat i))]⟩ []) := by
  intro r
  induction r with
  | zero =>
    intro i w hir
    obtain rfl : i = cs.length := by omega
    refine C.iloadN db18_30 rfl ?_
    refine C.aloadN db18_31 rfl rfl ?_
    refine C.v0R db18_32 tw54 tw55 tw57 tw56 tw11 tw58 (by decide) (by decide +kernel) rfl nof S.exa (fun _ q => notFace_of_selects q) (J_len B S) (le rfl) (le rfl) (le rfl) (le rfl) ?_
    rintro _ _ ⟨rfl, rfl⟩
    refine C.icmp_ge db18_35 (fun _ => ?_) (fun q => absurd q (fun q => by rw [ofNat_lt (by omega) (by omega)] at q; omega))
    refine C.aloadN db18_60 rfl rfl ?_
    exact C.areturn db18_61 rfl rfl rfl rfl ⟨_, rfl, rfl, E⟩ (le rfl) (le rfl)
  | succ r ih =>
    intro i w hir
    have hlt : i < cs.length := by omega
    have hch : cs[i]? = some cs[i] := List.getElem?_eq_getElem hlt
    generalize cs[i] = ch at hch
    have hm := List.mem_of_getElem? hch
    refine C.iloadN db18_30 rfl ?_
    refine C.aloadN db18_31 rfl rfl ?_
    refine C.v0R db18_32 tw54 tw55 tw57 tw56 tw11 tw58 (by decide) (by decide +kernel) rfl nof S.exa (fun _ q => notFace_of_selects q) (J_len B S) (le rfl) (le rfl) (le rfl) (le rfl) ?_
    rintro _ _ ⟨rfl, rfl⟩
    refine C.icmp_ge db18_35 (fun q => absurd ((ofNat_lt (by omega) (by omega)).mpr hlt) q) (fun _ => ?_)
    refine C.aloadN db18_38 rfl rfl ?_
    refine C.iloadN db18_39 rfl ?_
    refine C.v1R db18_40 tw64 tw65 tw67 tw66 tw11 tw68 (by decide) (by decide +kernel) rfl nof S.exa (fun _ q => notFace_of_selects q) (J_chl B S (fun c hc => (hA c hc).isL.2) hch) (le rfl) (le rfl) (le rfl) (le rfl) ?_
    rintro _ _ ⟨rfl, rfl⟩
    refine C.s1R db18_43 tw86 tw87 tw40 tw88 (by decide) (by decide +kernel) rfl nof (P_isa B (hA ch hm)) (le rfl) (le rfl) (le rfl) (le rfl) ?_
    rintro _ _ ⟨rfl, rfl⟩
    refine C.if_ne db18_46 (fun _ => ?_) (fun q => absurd q (by decide))
    refine C.iinc (1) db18_54 rfl rfl ?_
    refine C.goto db18_57 ?_
    rw [ofNat_succ]
    exact ih (i + 1) _ (by omega)
theorem P_req (B : Base Z a0 EL) {h : Heap} {a : Addr} {cs : List Int32} (S : StrAt Z h a cs) (hA : ∀ c ∈ cs, Aln c) (h0 : cs ≠ []) (hn : cs.length ≤ 16) : Con l Z EL false (⟨"com/example/dommel/dommel/DailyNumberFormat", "requireType", "(Ljava/lang/String;)Ljava/lang/String;"⟩ : MethodName) prog_1_method_2_code 2 (some (.object ST)) (RM 4 53 2 20) [] #[.ref a] h (rR fun v h' => v = .ref a ∧ Ext h h') := by
  refine Con.of (plainFor_of_name (by decide +kernel)) B.1 B.2.1 ⟨[.val (.ref a), .unset]⟩ (fun m => rfl) ?_
  intro p e s m below meth c _ C
  refine C.aloadN db18_0 rfl rfl ?_
  refine C.ldcO 16 db18_1 rfl tw42 (J_atoms B) (le rfl) (le rfl) (le rfl) (le rfl) ?_
  intro h1 q1 E1
  replace S := S.ext E1
  refine C.s2R db18_3 tw45 tw46 tw47 tw48 (by decide) (by decide +kernel) rfl nof (J_rnn B) (le rfl) (le rfl) (le rfl) (le rfl) ?_
  rintro _ _ ⟨rfl, rfl⟩
  refine C.pop db18_6 rfl ?_
  refine C.aloadN db18_7 rfl rfl ?_
  refine C.v0R db18_8 tw49 tw50 tw52 tw51 tw11 tw53 (by decide) (by decide +kernel) rfl nof S.exa (fun _ q => notFace_of_selects q) (J_emp B S) (le rfl) (le rfl) (le rfl) (le rfl) ?_
  rintro v _ ⟨hv, rfl⟩
  obtain rfl : v = .int 0 := hv.elim (fun q => absurd q.2 h0) (fun q => q.1)
  refine C.if_ne db18_11 (fun q => absurd rfl q) (fun _ => ?_)
  refine C.aloadN db18_14 rfl rfl ?_
  refine C.v0R db18_15 tw54 tw55 tw57 tw56 tw11 tw58 (by decide) (by decide +kernel) rfl nof S.exa (fun _ q => notFace_of_selects q) (J_len B S) (le rfl) (le rfl) (le rfl) (le rfl) ?_
  rintro _ _ ⟨rfl, rfl⟩
  refine C.bipush (16) db18_18 rfl ?_
  refine C.icmp_le db18_20 (fun _ => ?_) (fun q => absurd q (by rw [nlt, ofNat_toInt (by omega)]; show (cs.length : Int) ≤ 16; omega))
  refine C.iconst (0) db18_28 rfl ?_
  refine C.istoreN db18_29 rfl rfl ?_
  exact P_reqL (w := 0) B C S hA hn E1 cs.length 0 _ (by omega)
theorem P_law (B : Base Z a0 EL) {x0 : Int32} {x1 x2 : Int64} : Con l Z EL false x code maxLocals ret room_1 [] #[.int x0, .long x1, .long x2] Z.heap (rR fun v _ => v = .int 1) := by
  refine Con.of (plainFor_of_name (by decide +kernel)) B.1 B.2.1 ⟨[.val (.int x0), .val (.long x1), .second, .val (.long x2), .second, .unset, .unset, .unset, .unset]⟩ (fun m => rfl) ?_
  intro p e s m below meth c _ C
  refine C.iconst (1) dL_0 rfl ?_
  refine C.iloadN dL_1 rfl ?_
  refine C.bipush (15) dL_2 rfl ?_
  refine C.iand dL_4 ?_
  refine C.iadd dL_5 ?_
  have hz : 1 ≤ (1 + (x0 &&& 15)).toInt ∧ (1 + (x0 &&& 15)).toInt ≤ 16 := by
    have a1 := c_and x0 15 (by decide); have e : (15 : Int32).toInt = 15 := rfl; rw [e] at a1
    have a2 := c_iadd 1 (x0 &&& 15); have e1 : (1 : Int32).toInt = 1 := rfl; rw [e1] at a2
    have a3 := i32_bounds (1 + (x0 &&& 15)); omega
  generalize 1 + (x0 &&& 15) = z at hz ⊢
  obtain ⟨N, hN⟩ : ∃ N, z.toNatClampNeg = N := ⟨_, rfl⟩
  have hN2 : 1 ≤ N ∧ N ≤ 16 := by rw [← hN, Int32.toNatClampNeg]; omega
  refine C.istore dL_6 rfl rfl ?_
  refine C.iload dL_8 rfl ?_
  refine C.newarray dL_10 tw0 (by rw [nlt]; show (0 : Int) ≤ _; omega) hN (by omega) (le rfl) (by show 0 + N ≤ 1216; omega) ?_
  intro h0 b g0 EE l0 A0
  refine Goes.more (k' := 1) (n' := 16) (le rfl) (by omega) ?_
  have I : Inv N 0 (List.replicate N (.int 0)) := ⟨by simp, fun t ht => by omega⟩
  have nb : Z.heap.size ≤ b := by omega
  refine C.astore dL_12 rfl rfl rfl ?_
  replace A0 : Arl Z h0 b .char (List.replicate N (.int 0)) := A0
  refine C.aload dL_14 rfl rfl ?_
  refine C.iconst (0) dL_16 rfl ?_
  refine C.lloadN dL_17 rfl ?_
  refine C.iconst (0) dL_18 rfl ?_
  refine C.s2R dL_19 tw1 tw2 tw3 tw4 (by decide) (by decide +kernel) rfl nof (P_ch B) (le rfl) (le rfl) (le rfl) (le rfl) ?_
  rintro _ _ ⟨c0, rfl, al0, rfl⟩
  refine C.s3V dL_22 tw6 tw7 tw3 tw8 (by decide) (by decide +kernel) rfl nof (P_put B (j := 0) rfl A0 al0.isC nb) (le rfl) (le rfl) (le rfl) (le rfl) ?_
  rintro h1 ⟨K1, sz1, A1⟩
  replace I := I.step (j := 0) al0
  replace EE := ext_of_keep EE K1 (by simp; omega)
  refine C.aload dL_25 rfl rfl ?_
  refine C.iconst (1) dL_27 rfl ?_
  refine C.lloadN dL_28 rfl ?_
  refine C.iconst (1) dL_29 rfl ?_
  refine C.s2R dL_30 tw1 tw2 tw3 tw4 (by decide) (by decide +kernel) rfl nof (P_ch B) (le rfl) (le rfl) (le rfl) (le rfl) ?_
  rintro _ _ ⟨c1, rfl, al1, rfl⟩
  refine C.s3V dL_33 tw6 tw7 tw3 tw8 (by decide) (by decide +kernel) rfl nof (P_put B (j := 1) rfl A1 al1.isC nb) (le rfl) (le rfl) (le rfl) (le rfl) ?_
  rintro h2 ⟨K2, sz2, A2⟩
  replace I := I.step (j := 1) al1
  replace EE := ext_of_keep EE K2 (by simp; omega)
  refine C.aload dL_36 rfl rfl ?_
  refine C.iconst (2) dL_38 rfl ?_
  refine C.lloadN dL_39 rfl ?_
  refine C.iconst (2) dL_40 rfl ?_
  refine C.s2R dL_41 tw1 tw2 tw3 tw4 (by decide) (by decide +kernel) rfl nof (P_ch B) (le rfl) (le rfl) (le rfl) (le rfl) ?_
  rintro _ _ ⟨c2, rfl, al2, rfl⟩
  refine C.s3V dL_44 tw6 tw7 tw3 tw8 (by decide) (by decide +kernel) rfl nof (P_put B (j := 2) rfl A2 al2.isC nb) (le rfl) (le rfl) (le rfl) (le rfl) ?_
  rintro h3 ⟨K3, sz3, A3⟩
  replace I := I.step (j := 2) al2
  replace EE := ext_of_keep EE K3 (by simp; omega)
  refine C.aload dL_47 rfl rfl ?_
  refine C.iconst (3) dL_49 rfl ?_
  refine C.lloadN dL_50 rfl ?_
  refine C.iconst (3) dL_51 rfl ?_
  refine C.s2R dL_52 tw1 tw2 tw3 tw4 (by decide) (by decide +kernel) rfl nof (P_ch B) (le rfl) (le rfl) (le rfl) (le rfl) ?_
  rintro _ _ ⟨c3, rfl, al3, rfl⟩
  refine C.s3V dL_55 tw6 tw7 tw3 tw8 (by decide) (by decide +kernel) rfl nof (P_put B (j := 3) rfl A3 al3.isC nb) (le rfl) (le rfl) (le rfl) (le rfl) ?_
  rintro h4 ⟨K4, sz4, A4⟩
  replace I := I.step (j := 3) al3
  replace EE := ext_of_keep EE K4 (by simp; omega)
  refine C.aload dL_58 rfl rfl ?_
  refine C.iconst (4) dL_60 rfl ?_
  refine C.lloadN dL_61 rfl ?_
  refine C.iconst (4) dL_62 rfl ?_
  refine C.s2R dL_63 tw1 tw2 tw3 tw4 (by decide) (by decide +kernel) rfl nof (P_ch B) (le rfl) (le rfl) (le rfl) (le rfl) ?_
  rintro _ _ ⟨c4, rfl, al4, rfl⟩
  refine C.s3V dL_66 tw6 tw7 tw3 tw8 (by decide) (by decide +kernel) rfl nof (P_put B (j := 4) rfl A4 al4.isC nb) (le rfl) (le rfl) (le rfl) (le rfl) ?_
  rintro h5 ⟨K5, sz5, A5⟩
  replace I := I.step (j := 4) al4
  replace EE := ext_of_keep EE K5 (by simp; omega)
  refine C.aload dL_69 rfl rfl ?_
  refine C.iconst (5) dL_71 rfl ?_
  refine C.lloadN dL_72 rfl ?_
  refine C.iconst (5) dL_73 rfl ?_
  refine C.s2R dL_74 tw1 tw2 tw3 tw4 (by decide) (by decide +kernel) rfl nof (P_ch B) (le rfl) (le rfl) (le rfl) (le rfl) ?_
  rintro _ _ ⟨c5, rfl, al5, rfl⟩
  refine C.s3V dL_77 tw6 tw7 tw3 tw8 (by decide) (by decide +kernel) rfl nof (P_put B (j := 5) rfl A5 al5.isC nb) (le rfl) (le rfl) (le rfl) (le rfl) ?_
  rintro h6 ⟨K6, sz6, A6⟩
  replace I := I.step (j := 5) al5
  replace EE := ext_of_keep EE K6 (by simp; omega)
  refine C.aload dL_80 rfl rfl ?_
  refine C.bipush (6) dL_82 rfl ?_
  refine C.lloadN dL_84 rfl ?_
  refine C.bipush (6) dL_85 rfl ?_
  refine C.s2R dL_87 tw1 tw2 tw3 tw4 (by decide) (by decide +kernel) rfl nof (P_ch B) (le rfl) (le rfl) (le rfl) (le rfl) ?_
  rintro _ _ ⟨c6, rfl, al6, rfl⟩
  refine C.s3V dL_90 tw6 tw7 tw3 tw8 (by decide) (by decide +kernel) rfl nof (P_put B (j := 6) rfl A6 al6.isC nb) (le rfl) (le rfl) (le rfl) (le rfl) ?_
  rintro h7 ⟨K7, sz7, A7⟩
  replace I := I.step (j := 6) al6
  replace EE := ext_of_keep EE K7 (by simp; omega)
  refine C.aload dL_93 rfl rfl ?_
  refine C.bipush (7) dL_95 rfl ?_
  refine C.lloadN dL_97 rfl ?_
  refine C.bipush (7) dL_98 rfl ?_
  refine C.s2R dL_100 tw1 tw2 tw3 tw4 (by decide) (by decide +kernel) rfl nof (P_ch B) (le rfl) (le rfl) (le rfl) (le rfl) ?_
  rintro _ _ ⟨c7, rfl, al7, rfl⟩
  refine C.s3V dL_103 tw6 tw7 tw3 tw8 (by decide) (by decide +kernel) rfl nof (P_put B (j := 7) rfl A7 al7.isC nb) (le rfl) (le rfl) (le rfl) (le rfl) ?_
  rintro h8 ⟨K8, sz8, A8⟩
  replace I := I.step (j := 7) al7
  replace EE := ext_of_keep EE K8 (by simp; omega)
  refine C.aload dL_106 rfl rfl ?_
  refine C.bipush (8) dL_108 rfl ?_
  refine C.lloadN dL_110 rfl ?_
  refine C.iconst (0) dL_111 rfl ?_
  refine C.s2R dL_112 tw1 tw2 tw3 tw4 (by decide) (by decide +kernel) rfl nof (P_ch B) (le rfl) (le rfl) (le rfl) (le rfl) ?_
  rintro _ _ ⟨c8, rfl, al8, rfl⟩
  refine C.s3V dL_115 tw6 tw7 tw3 tw8 (by decide) (by decide +kernel) rfl nof (P_put B (j := 8) rfl A8 al8.isC nb) (le rfl) (le rfl) (le rfl) (le rfl) ?_
  rintro h9 ⟨K9, sz9, A9⟩
  replace I := I.step (j := 8) al8
  replace EE := ext_of_keep EE K9 (by simp; omega)
  refine C.aload dL_118 rfl rfl ?_
  refine C.bipush (9) dL_120 rfl ?_
  refine C.lloadN dL_122 rfl ?_
  refine C.iconst (1) dL_123 rfl ?_
  refine C.s2R dL_124 tw1 tw2 tw3 tw4 (by decide) (by decide +kernel) rfl nof (P_ch B) (le rfl) (le rfl) (le rfl) (le rfl) ?_
  rintro _ _ ⟨c9, rfl, al9, rfl⟩
  refine C.s3V dL_127 tw6 tw7 tw3 tw8 (by decide) (by decide +kernel) rfl nof (P_put B (j := 9) rfl A9 al9.isC nb) (le rfl) (le rfl) (le rfl) (le rfl) ?_
  rintro h10 ⟨K10, sz10, A10⟩
  replace I := I.step (j := 9) al9
  replace EE := ext_of_keep EE K10 (by simp; omega)
  refine C.aload dL_130 rfl rfl ?_
  refine C.bipush (10) dL_132 rfl ?_
  refine C.lloadN dL_134 rfl ?_
  refine C.iconst (2) dL_135 rfl ?_
  refine C.s2R dL_136 tw1 tw2 tw3 tw4 (by decide) (by decide +kernel) rfl nof (P_ch B) (le rfl) (le rfl) (le rfl) (le rfl) ?_
  rintro _ _ ⟨c10, rfl, al10, rfl⟩
  refine C.s3V dL_139 tw6 tw7 tw3 tw8 (by decide) (by decide +kernel) rfl nof (P_put B (j := 10) rfl A10 al10.isC nb) (le rfl) (le rfl) (le rfl) (le rfl) ?_
  rintro h11 ⟨K11, sz11, A11⟩
  replace I := I.step (j := 10) al10
  replace EE := ext_of_keep EE K11 (by simp; omega)
  refine C.aload dL_142 rfl rfl ?_
  refine C.bipush (11) dL_144 rfl ?_
  refine C.lloadN dL_146 rfl ?_
  refine C.iconst (3) dL_147 rfl ?_
  refine C.s2R dL_148 tw1 tw2 tw3 tw4 (by decide) (by decide +kernel) rfl nof (P_ch B) (le rfl) (le rfl) (le rfl) (le rfl) ?_
  rintro _ _ ⟨c11, rfl, al11, rfl⟩
  refine C.s3V dL_151 tw6 tw7 tw3 tw8 (by decide) (by decide +kernel) rfl nof (P_put B (j := 11) rfl A11 al11.isC nb) (le rfl) (le rfl) (le rfl) (le rfl) ?_
  rintro h12 ⟨K12, sz12, A12⟩
  replace I := I.step (j := 11) al11
  replace EE := ext_of_keep EE K12 (by simp; omega)
  refine C.aload dL_154 rfl rfl ?_
  refine C.bipush (12) dL_156 rfl ?_
  refine C.lloadN dL_158 rfl ?_
  refine C.iconst (4) dL_159 rfl ?_
  refine C.s2R dL_160 tw1 tw2 tw3 tw4 (by decide) (by decide +kernel) rfl nof (P_ch B) (le rfl) (le rfl) (le rfl) (le rfl) ?_
  rintro _ _ ⟨c12, rfl, al12, rfl⟩
  refine C.s3V dL_163 tw6 tw7 tw3 tw8 (by decide) (by decide +kernel) rfl nof (P_put B (j := 12) rfl A12 al12.isC nb) (le rfl) (le rfl) (le rfl) (le rfl) ?_
  rintro h13 ⟨K13, sz13, A13⟩
  replace I := I.step (j := 12) al12
  replace EE := ext_of_keep EE K13 (by simp; omega)
  refine C.aload dL_166 rfl rfl ?_
  refine C.bipush (13) dL_168 rfl ?_
  refine C.lloadN dL_170 rfl ?_
  refine C.iconst (5) dL_171 rfl ?_
  refine C.s2R dL_172 tw1 tw2 tw3 tw4 (by decide) (by decide +kernel) rfl nof (P_ch B) (le rfl) (le rfl) (le rfl) (le rfl) ?_
  rintro _ _ ⟨c13, rfl, al13, rfl⟩
  refine C.s3V dL_175 tw6 tw7 tw3 tw8 (by decide) (by decide +kernel) rfl nof (P_put B (j := 13) rfl A13 al13.isC nb) (le rfl) (le rfl) (le rfl) (le rfl) ?_
  rintro h14 ⟨K14, sz14, A14⟩
  replace I := I.step (j := 13) al13
  replace EE := ext_of_keep EE K14 (by simp; omega)
  refine C.aload dL_178 rfl rfl ?_
  refine C.bipush (14) dL_180 rfl ?_
  refine C.lloadN dL_182 rfl ?_
  refine C.bipush (6) dL_183 rfl ?_
  refine C.s2R dL_185 tw1 tw2 tw3 tw4 (by decide) (by decide +kernel) rfl nof (P_ch B) (le rfl) (le rfl) (le rfl) (le rfl) ?_
  rintro _ _ ⟨c14, rfl, al14, rfl⟩
  refine C.s3V dL_188 tw6 tw7 tw3 tw8 (by decide) (by decide +kernel) rfl nof (P_put B (j := 14) rfl A14 al14.isC nb) (le rfl) (le rfl) (le rfl) (le rfl) ?_
  rintro h15 ⟨K15, sz15, A15⟩
  replace I := I.step (j := 14) al14
  replace EE := ext_of_keep EE K15 (by simp; omega)
  refine C.aload dL_191 rfl rfl ?_
  refine C.bipush (15) dL_193 rfl ?_
  refine C.lloadN dL_195 rfl ?_
  refine C.bipush (7) dL_196 rfl ?_
  refine C.s2R dL_198 tw1 tw2 tw3 tw4 (by decide) (by decide +kernel) rfl nof (P_ch B) (le rfl) (le rfl) (le rfl) (le rfl) ?_
  rintro _ _ ⟨c15, rfl, al15, rfl⟩
  refine C.s3V dL_201 tw6 tw7 tw3 tw8 (by decide) (by decide +kernel) rfl nof (P_put B (j := 15) rfl A15 al15.isC nb) (le rfl) (le rfl) (le rfl) (le rfl) ?_
  rintro h16 ⟨K16, sz16, A16⟩
  replace I := I.step (j := 15) al15
  replace EE := ext_of_keep EE K16 (by simp; omega)
  obtain ⟨cs, e1, e2, e3⟩ : ∃ cs : List Int32, _ = ints cs ∧ cs.length = N ∧ ∀ c ∈ cs, Aln c := Inv.out ⟨I.1, fun t ht hN => I.2 t (by omega) hN⟩
  rw [e1] at A16
  refine C.new dL_204 tw9 tw10 tw11 (le rfl) (le rfl) ?_
  intro h17 a g17 E17 X17 D17
  have Fv := D17 (Or.inr (C.wrd tw37)) (ty := (.array .byte)) (by decide +kernel)
  have Fc := D17 (Or.inr (C.wrd tw35)) (ty := .byte) (by decide +kernel)
  refine C.dup dL_207 rfl ?_
  refine C.aload dL_208 rfl rfl ?_
  have h0 : cs ≠ [] := by intro q; subst q; simp at e2; omega
  refine C.c1 dL_210 rfl tw12 tw13 tw11 tw14 (by decide) (by decide +kernel) rfl (by simp) (J_new1l B (fun c hc => (e3 c hc).isC) h0 (fun c hc => (e3 c hc).isL.2) (by omega) (A16.ext E17) (by have := EE.1; omega) X17 Fv Fc) (le rfl) (le rfl) (le rfl) (by show 16 + 0 + 0 + 0 + 0 + 0 + 0 + 0 + 0 + 0 + 0 + 0 + 0 + 0 + 0 + 0 + 0 + 0 + 0 + 0 + 0 + 0 + 0 + 0 + 0 + 0 + 0 + 0 + 0 + 0 + 0 + 0 + 0 + 4 + cs.length ≤ 1216; omega) ?_
  rintro h18 ⟨K18, S18⟩
  refine Goes.more (k' := 3) (n' := 36) (le rfl) (by show 16 + 0 + 0 + 0 + 0 + 0 + 0 + 0 + 0 + 0 + 0 + 0 + 0 + 0 + 0 + 0 + 0 + 0 + 0 + 0 + 0 + 0 + 0 + 0 + 0 + 0 + 0 + 0 + 0 + 0 + 0 + 0 + 0 + 4 + cs.length ≤ 36; omega) ?_
  refine C.astore dL_213 rfl rfl rfl ?_
  refine C.aload dL_215 rfl rfl ?_
  refine C.s1R dL_217 tw38 tw39 tw40 tw41 (by decide) (by decide +kernel) rfl nof (P_req B S18 e3 h0 (by omega)) (le rfl) (le rfl) (le rfl) (le rfl) ?_
  rintro _ h19 ⟨rfl, E19⟩
  refine C.astore dL_220 rfl rfl rfl ?_
  refine C.aload dL_222 rfl rfl ?_
  refine C.aload dL_224 rfl rfl ?_
  refine C.v1R dL_226 tw89 tw90 tw92 tw91 tw11 tw93 (by decide) (by decide +kernel) rfl nof (S18.ext E19).exa (fun _ q => notFace_of_selects q) (J_eqSame B) (le rfl) (le rfl) (le rfl) (le rfl) ?_
  rintro _ _ ⟨rfl, rfl⟩
  exact C.ireturn dL_229 rfl (Or.inr (Or.inl rfl)) rfl ⟨_, rfl, rfl⟩ (le rfl) (le rfl)

theorem comes_1 {Post : Tables → Env → Array Value → State → Outcome → State → Prop} (hpost : ∀ tb e args s v u, (limb_1_1.after args s (.returned v) u = true ∧ limb_1_2.after args s (.returned v) u = true) → Jvm.D.FramedW s (.returned v) u (Jvm.fieldLocs frame_1_writes args s ++ Jvm.arrayLocs frame_1_arrays args s ++ Jvm.staticLocs frame_1_statics s) 16 1216 → Post tb e args s (.returned v) u) :
    ArmFor flags0 classFile x code maxLocals ret World_1 tables_1 room_1 Calls_1 rest_1 Pre_1 Post := by
  intro l hfl _ _ p e ha hc hk s m args below hf hA hF happ hP
  obtain ⟨hcalls, hrest, hpre⟩ := hP
  obtain ⟨-, -, -, hnamed, -, -, -, hat⟩ := (Spec.applies_iff hf).mp happ
  obtain ⟨hg0, hn⟩ := and_e (Cond.before_iff.mp (show (Jvm.Cond.and given_1 narrow_1).before args s = true from hpre))
  obtain ⟨hc0, hg1⟩ := and_e hg0
  obtain ⟨hc1, hg2⟩ := and_e hg1
  obtain ⟨hc2, hg3⟩ := and_e hg2
  obtain ⟨w0, w1, w2, rfl⟩ : ∃ w0 w1 w2 : Value, args = #[w0, w1, w2] := by
    have hs : args.size = 3 := by simpa [Cond.value, given_1] using hc0
    obtain ⟨L⟩ := args
    match L, hs with
    | [w0, w1, w2], _ => exact ⟨w0, w1, w2, rfl⟩
  have hw := fun d (hd : d ∈ tables_1) => atoms_spec (ws := Jvm.Cond.code x code maxLocals ret :: tables_1) hat d (List.mem_cons_of_mem _ hd)
  obtain ⟨hsets, hown0⟩ := atoms_of _ (rest_1_c_eq ▸ (show rest_1_c.before _ s = true from hrest))
  have hfit : Fit s := fun {y c} hc i hi => by
    obtain ⟨ha, rfl⟩ := Array.getElem?_eq_some_iff.mp hc
    have q := List.all_eq_true.mp ((Array.all_eq_true_iff_forall_mem.mp hF) _ (Array.getElem_mem ha)) i (List.mem_range.mpr hi)
    simpa [Array.getElem?_eq_getElem hi] using q
  obtain ⟨x0, ex0⟩ := is_v hc1
  obtain rfl : w0 = (.int x0) := Option.some.inj ex0
  obtain ⟨x1, ex1⟩ := isL_v hc2
  obtain rfl : w1 = (.long x1) := Option.some.inj ex1
  obtain ⟨x2, ex2⟩ := isL_v hg3
  obtain rfl : w2 = (.long x2) := Option.some.inj ex2
  obtain ⟨cz, ecz⟩ := is_v (Cond.before_iff.mp (hsets _ (List.mem_of_getElem? (i := 1) rfl)))
  have Scs : Sta s s.heap ST "COMPACT_STRINGS" "Z" (.int cz) := Sta.start ecz (Or.inl (hsets _ (List.mem_of_getElem? (i := 0) rfl)))
  have ncz : ¬ cz = 0 := gotF (Cond.eq_ints ecz (Term.int_eval (0))) (not_v (Cond.before_iff.mp (hsets _ (List.mem_of_getElem? (i := 2) rfl))))
  obtain ⟨sf, esf, rsf⟩ := isR_v (Cond.before_iff.mp (hsets _ (List.mem_of_getElem? (i := 8) rfl)))
  have Ssf : Sta s s.heap "jdk/internal/util/Preconditions" "SIOOBE_FORMATTER" "Ljava/util/function/BiFunction;" sf := Sta.start esf (Or.inl (hsets _ (List.mem_of_getElem? (i := 7) rfl)))
  have hEW : EW s #[.int x0, .long x1, .long x2] [] := EW.nil
  have hCH : CHv s [] s.vm s.heap := fun p hp => nomatch hp
  have B : Base s #[.int x0, .long x1, .long x2] [] := ⟨hw, hEW, ⟨cz, Scs, ncz⟩, ⟨sf, Ssf, rsf⟩, trivial⟩
  obtain ⟨n, o, q1, q2, q3, v, L, rfl, ⟨v, rfl, rfl⟩, N, hCR, hWH, -, hq⟩ := P_law (l := l) B tables_1 p e ha hc hk s m _ below hf ((Spec.applies_iff_loose hf).mp happ).1 ⟨rfl, State.Warmed39.refl s, rfl, hCH, fun _ q => (nomatch q), ext_refl _⟩ trivial
  exact ⟨n, _, q1, q2, q3, hpost _ _ _ _ _ _ ⟨Cond.after_iff.mpr rfl, Cond.after_iff.mpr (eq_i res_at (Term.int_eval (1)) rfl)⟩ ⟨hq.1, hq.2.1, hq.2.2.1, ((hq.2.2.2.sift fun y hy => Or.inr (N y hy)).mono (le rfl : room_1.cells ≤ 16) (le rfl : room_1.slots ≤ 1216))⟩⟩
theorem main_1_1 : Claimed_1_1 := comes_1 fun _ _ _ _ _ _ h hF => ⟨h.1, hF⟩
theorem main_1_2 : Claimed_1_2 := comes_1 fun _ _ _ _ _ _ h hF => ⟨h.2, hF⟩
end
end Jvm.Pilot.@@N@@
namespace Jvm.Pilot.@@N@@
open Jvm Jvm.ClassFile Sem Op Lib Jvm.Free Jvm.Stand Jvm.Pilot.@@N@@.Jvm.D
/-! MADE BY PROGRAM (witnessworld.py) out of the Statement's table words and the real class files: 21 classes; the members and pool entries that the words name. The judged class is class 1, her method 3. -/
namespace start1
open Jvm.ClassFile
def u (s : String) : CpInfo := .utf8 (stringToUtf16 s)
/-- a pool by its gaps: so many unusable entries, then the entry; so many at the end -/
def gap : Nat → List CpInfo → List CpInfo
  | 0, r => r
  | n + 1, r => .unusable :: gap n r
def poolList (es : List (Nat × CpInfo)) (last : Nat) : List CpInfo := es.foldr (fun e r => gap e.1 (e.2 :: r)) (gap last [])
def pool (es : List (Nat × CpInfo)) (last : Nat) : Array CpInfo := ⟨poolList es last⟩
def fileOf (pool : Array CpInfo) (this : Nat) (attrs : Array Attribute := #[]) (ms : Array MethodInfo := #[]) (fl : Nat := 33) (sup : Nat := 0) (ifs : Array Nat := #[]) (fds : Array FieldInfo := #[]) : ClassFile where
  minorVersion := 0
  majorVersion := 65
  constantPool := pool
  accessFlags := fl
  thisClass := this
  superClass := sup
  interfaces := ifs
  fields := fds
  methods := ms
  attributes := attrs
def plain (name : String) (sup : Option ClassId) : Class where
  name := name
  kind := .ordinary
  loader := none
  accessFlags := 33
  super := sup
  interfaces := #[]
  cf := none
  fields := #[]
  methods := #[]
  instanceTypes := #[]
  staticTypes := #[]
  resolved := #[]
  callSites := []
  init := .initialized
  statics := none
  mirror := none

def pool0 : Array CpInfo := pool [(5, u "<init>"), (0, u "()V"), (1, .class_ 10), (1, u "java/lang/Object")] 113

def k0c0 : Code := { maxStack := 0, maxLocals := 1, code := object_method_1_code, exceptionTable := #[], attributes := #[] }
def k0m0 : Method := { name := "<init>", desc := "()V", sig := { parameters := [], returnType := none }, accessFlags := 1, code := some k0c0 }
/-- java/lang/Object -/
def k0 : Class := { plain "java/lang/Object" none with
  accessFlags := 33
  interfaces := #[]
  cf := some (fileOf pool0 8 #[] #[{ accessFlags := 1, nameIndex := 5, descriptorIndex := 6, attributes := #[] }] 33 0 #[] #[])
  fields := #[]
  methods := #[k0m0]
  instanceTypes := #[]
  staticTypes := #[]
  resolved := Array.replicate 124 none
  statics := none }

def pool1 : Array CpInfo := pool [(2, .class_ 4), (1, u "java/lang/Object"), (0, u "<init>"), (0, u "()V"), (0, .long 255), (1, .methodref 10 11), (0, .class_ 12), (0, .nameAndType 13 14), (0, u "com/example/dommel/dommel/DailyNumberFormatRequireTypePinLaw"), (0, u "ch"), (0, u "(JI)C"), (0, .methodref 10 16), (0, .nameAndType 17 18), (0, u "put"), (0, u "([CIC)V"), (0, .class_ 20), (0, u "java/lang/String"), (0, .methodref 19 22), (0, .nameAndType 5 23), (0, u "([C)V"), (0, .methodref 25 26), (0, .class_ 27), (0, .nameAndType 28 29), (0, u "com/example/dommel/dommel/DailyNumberFormat"), (0, u "requireType"), (0, u "(Ljava/lang/String;)Ljava/lang/String;"), (0, .methodref 19 31), (0, .nameAndType 32 33), (0, u "equals"), (0, u "(Ljava/lang/Object;)Z"), (3, u "law"), (0, u "(IJJ)Z")] 2

def k1m0 : Method := { name := "<init>", desc := "()V", sig := { parameters := [], returnType := none }, accessFlags := 2, code := none }
def k1c1 : Code := { maxStack := 4, maxLocals := 4, code := method_2_code, exceptionTable := #[], attributes := #[] }
def k1m1 : Method := { name := "ch", desc := "(JI)C", sig := { parameters := [.long, .int], returnType := some .char }, accessFlags := 10, code := some k1c1 }
def k1c2 : Code := { maxStack := 3, maxLocals := 3, code := method_3_code, exceptionTable := #[], attributes := #[] }
def k1m2 : Method := { name := "put", desc := "([CIC)V", sig := { parameters := [(.array .char), .int, .char], returnType := none }, accessFlags := 10, code := some k1c2 }
def k1c3 : Code := { maxStack := 5, maxLocals := 9, code := code, exceptionTable := #[], attributes := #[] }
def k1m3 : Method := { name := "law", desc := "(IJJ)Z", sig := { parameters := [.int, .long, .long], returnType := some .boolean }, accessFlags := 9, code := some k1c3 }
/-- com/example/dommel/dommel/DailyNumberFormatRequireTypePinLaw -/
def k1 : Class := { plain "com/example/dommel/dommel/DailyNumberFormatRequireTypePinLaw" (some 0) with
  accessFlags := 49
  interfaces := #[]
  cf := some (fileOf pool1 10 #[] #[{ accessFlags := 2, nameIndex := 5, descriptorIndex := 6, attributes := #[] }, { accessFlags := 10, nameIndex := 13, descriptorIndex := 14, attributes := #[] }, { accessFlags := 10, nameIndex := 17, descriptorIndex := 18, attributes := #[] }, { accessFlags := 9, nameIndex := 37, descriptorIndex := 38, attributes := #[] }] 49 2 #[] #[])
  fields := #[]
  methods := #[k1m0, k1m1, k1m2, k1m3]
  instanceTypes := #[]
  staticTypes := #[]
  resolved := Array.replicate 41 none
  statics := none }

def pool2 : Array CpInfo := pool [(1, .class_ 2), (0, u "java/io/Serializable"), (0, .class_ 4), (0, u "java/lang/Object")] 2

/-- java/io/Serializable -/
def k2 : Class := { plain "java/io/Serializable" (some 0) with
  accessFlags := 1537
  interfaces := #[]
  cf := some (fileOf pool2 1 #[] #[] 1537 3 #[] #[])
  fields := #[]
  methods := #[]
  instanceTypes := #[]
  staticTypes := #[]
  resolved := Array.replicate 7 none
  statics := none }

def pool3 : Array CpInfo := pool [(1, .class_ 2), (0, u "java/lang/Comparable"), (0, .class_ 4), (0, u "java/lang/Object")] 7

/-- java/lang/Comparable -/
def k3 : Class := { plain "java/lang/Comparable" (some 0) with
  accessFlags := 1537
  interfaces := #[]
  cf := some (fileOf pool3 1 #[] #[] 1537 3 #[] #[])
  fields := #[]
  methods := #[]
  instanceTypes := #[]
  staticTypes := #[]
  resolved := Array.replicate 12 none
  statics := none }

def pool4 : Array CpInfo := pool [(2, .class_ 4), (1, u "java/lang/CharSequence"), (42, .class_ 48), (0, u "java/lang/CharSequence$1CodePointIterator"), (10, .class_ 60), (0, u "java/lang/CharSequence$1CharIterator"), (5, .class_ 67), (0, u "java/lang/Object")] 63

/-- java/lang/CharSequence -/
def k4 : Class := { plain "java/lang/CharSequence" (some 0) with
  accessFlags := 1537
  interfaces := #[]
  cf := some (fileOf pool4 2 #[.nestMembers #[47, 59]] #[] 1537 66 #[] #[])
  fields := #[]
  methods := #[]
  instanceTypes := #[]
  staticTypes := #[]
  resolved := Array.replicate 131 none
  statics := none }

def pool5 : Array CpInfo := pool [(1, .class_ 2), (0, u "java/lang/constant/Constable"), (0, .class_ 4), (0, u "java/lang/Object")] 6

/-- java/lang/constant/Constable -/
def k5 : Class := { plain "java/lang/constant/Constable" (some 0) with
  accessFlags := 1537
  interfaces := #[]
  cf := some (fileOf pool5 1 #[] #[] 1537 3 #[] #[])
  fields := #[]
  methods := #[]
  instanceTypes := #[]
  staticTypes := #[]
  resolved := Array.replicate 11 none
  statics := none }

def pool6 : Array CpInfo := pool [(1, .class_ 2), (0, u "java/lang/constant/ConstantDesc"), (0, .class_ 4), (0, u "java/lang/Object")] 32

/-- java/lang/constant/ConstantDesc -/
def k6 : Class := { plain "java/lang/constant/ConstantDesc" (some 0) with
  accessFlags := 1537
  interfaces := #[]
  cf := some (fileOf pool6 1 #[] #[] 1537 3 #[] #[])
  fields := #[]
  methods := #[]
  instanceTypes := #[]
  staticTypes := #[]
  resolved := Array.replicate 37 none
  statics := none }

def pool7 : Array CpInfo := pool [(1, .methodref 2 3), (0, .class_ 4), (0, .nameAndType 5 6), (0, u "java/lang/Object"), (0, u "<init>"), (0, u "()V"), (2, .fieldref 10 11), (0, .class_ 12), (0, .nameAndType 13 14), (0, u "java/lang/String"), (0, u "value"), (0, u "[B"), (0, .fieldref 10 16), (0, .nameAndType 17 18), (0, u "coder"), (0, u "B"), (2, u "hash"), (0, u "I"), (2, u "hashIsZero"), (0, u "Z"), (0, .methodref 10 28), (0, .nameAndType 5 29), (0, u "([CIILjava/lang/Void;)V"), (8, .fieldref 10 39), (0, .nameAndType 40 26), (0, u "COMPACT_STRINGS"), (1, .class_ 44), (1, u "java/lang/StringUTF16"), (0, u "compress"), (1, .methodref 42 48), (0, .nameAndType 49 50), (0, u "coderFromArrayLen"), (0, u "([BI)B"), (56, .class_ 109), (1, u "java/lang/StringLatin1"), (32, u "()Z"), (34, .methodref 42 178), (0, .nameAndType 45 179), (0, u "([CII)[B"), (154, u "()I"), (0, .methodref 10 336), (0, .nameAndType 17 337), (0, u "()B"), (25, u "([BI)C"), (27, u "(II)V"), (35, u "(I)C"), (64, .methodref 10 493), (0, .nameAndType 494 142), (0, u "isLatin1"), (0, .methodref 107 496), (0, .nameAndType 497 363), (0, u "charAt"), (3, u "checkIndex"), (5, u "length"), (35, u "equals"), (29, u "(Ljava/lang/Object;)Z"), (1, .class_ 576), (0, u "java/lang/CharSequence"), (22, u "CASE_INSENSITIVE_ORDER"), (0, u "Ljava/util/Comparator;"), (91, u "isEmpty"), (317, u "([C)V"), (42, .fieldref 1054 1055), (0, .class_ 1056), (0, .nameAndType 1057 1058), (0, u "jdk/internal/util/Preconditions"), (0, u "SIOOBE_FORMATTER"), (0, u "Ljava/util/function/BiFunction;"), (0, .methodref 1054 1060), (0, .nameAndType 501 1061), (0, u "(IILjava/util/function/BiFunction;)I"), (39, u "serialPersistentFields"), (0, u "[Ljava/io/ObjectStreamField;"), (0, .class_ 1104), (0, u "java/lang/String$CaseInsensitiveComparator"), (1, .class_ 1107), (0, u "java/io/Serializable"), (0, .class_ 1109), (0, u "java/lang/Comparable"), (0, .class_ 1111), (0, u "java/lang/constant/Constable"), (0, .class_ 1113), (0, u "java/lang/constant/ConstantDesc"), (2, u "serialVersionUID"), (0, u "J"), (3, u "REPL"), (0, u "C"), (2, u "LATIN1"), (1, u "UTF16")] 323

def k7m0 : Method := { name := "<init>", desc := "()V", sig := { parameters := [], returnType := none }, accessFlags := 1, code := none }
def k7c1 : Code := { maxStack := 5, maxLocals := 2, code := jdk_42_method_3_code, exceptionTable := #[], attributes := #[] }
def k7m1 : Method := { name := "<init>", desc := "([C)V", sig := { parameters := [(.array .char)], returnType := none }, accessFlags := 1, code := some k7c1 }
def k7c2 : Code := { maxStack := 2, maxLocals := 1, code := jdk_42_method_54_code, exceptionTable := #[], attributes := #[] }
def k7m2 : Method := { name := "length", desc := "()I", sig := { parameters := [], returnType := some .int }, accessFlags := 1, code := some k7c2 }
def k7c3 : Code := { maxStack := 1, maxLocals := 1, code := jdk_42_method_55_code, exceptionTable := #[], attributes := #[] }
def k7m3 : Method := { name := "isEmpty", desc := "()Z", sig := { parameters := [], returnType := some .boolean }, accessFlags := 1, code := some k7c3 }
def k7c4 : Code := { maxStack := 2, maxLocals := 2, code := jdk_42_method_56_code, exceptionTable := #[], attributes := #[] }
def k7m4 : Method := { name := "charAt", desc := "(I)C", sig := { parameters := [.int], returnType := some .char }, accessFlags := 1, code := some k7c4 }
def k7c5 : Code := { maxStack := 2, maxLocals := 3, code := jdk_42_method_66_code, exceptionTable := #[], attributes := #[] }
def k7m5 : Method := { name := "equals", desc := "(Ljava/lang/Object;)Z", sig := { parameters := [(.object "java/lang/Object")], returnType := some .boolean }, accessFlags := 1, code := some k7c5 }
def k7c6 : Code := { maxStack := 4, maxLocals := 6, code := jdk_42_method_149_code, exceptionTable := #[], attributes := #[] }
def k7m6 : Method := { name := "<init>", desc := "([CIILjava/lang/Void;)V", sig := { parameters := [(.array .char), .int, .int, (.object "java/lang/Void")], returnType := none }, accessFlags := 2, code := some k7c6 }
def k7c7 : Code := { maxStack := 1, maxLocals := 1, code := jdk_42_method_152_code, exceptionTable := #[], attributes := #[] }
def k7m7 : Method := { name := "coder", desc := "()B", sig := { parameters := [], returnType := some .byte }, accessFlags := 0, code := some k7c7 }
def k7c8 : Code := { maxStack := 1, maxLocals := 1, code := jdk_42_method_154_code, exceptionTable := #[], attributes := #[] }
def k7m8 : Method := { name := "isLatin1", desc := "()Z", sig := { parameters := [], returnType := some .boolean }, accessFlags := 0, code := some k7c8 }
def k7c9 : Code := { maxStack := 3, maxLocals := 2, code := jdk_42_method_155_code, exceptionTable := #[], attributes := #[] }
def k7m9 : Method := { name := "checkIndex", desc := "(II)V", sig := { parameters := [.int, .int], returnType := none }, accessFlags := 8, code := some k7c9 }
/-- java/lang/String -/
def k7 : Class := { plain "java/lang/String" (some 0) with
  accessFlags := 49
  interfaces := #[2, 3, 4, 5, 6]
  cf := some (fileOf pool7 10 #[.nestMembers #[1103]] #[{ accessFlags := 1, nameIndex := 5, descriptorIndex := 6, attributes := #[] }, { accessFlags := 1, nameIndex := 5, descriptorIndex := 1010, attributes := #[] }, { accessFlags := 1, nameIndex := 507, descriptorIndex := 334, attributes := #[] }, { accessFlags := 1, nameIndex := 692, descriptorIndex := 142, attributes := #[] }, { accessFlags := 1, nameIndex := 497, descriptorIndex := 427, attributes := #[] }, { accessFlags := 1, nameIndex := 543, descriptorIndex := 573, attributes := #[] }, { accessFlags := 2, nameIndex := 5, descriptorIndex := 29, attributes := #[] }, { accessFlags := 0, nameIndex := 17, descriptorIndex := 337, attributes := #[] }, { accessFlags := 0, nameIndex := 494, descriptorIndex := 142, attributes := #[] }, { accessFlags := 8, nameIndex := 501, descriptorIndex := 391, attributes := #[] }] 49 2 #[1106, 1108, 575, 1110, 1112] #[{ accessFlags := 18, nameIndex := 13, descriptorIndex := 14, attributes := #[] }, { accessFlags := 18, nameIndex := 17, descriptorIndex := 18, attributes := #[] }, { accessFlags := 2, nameIndex := 21, descriptorIndex := 22, attributes := #[] }, { accessFlags := 2, nameIndex := 25, descriptorIndex := 26, attributes := #[] }, { accessFlags := 26, nameIndex := 1116, descriptorIndex := 1117, attributes := #[] }, { accessFlags := 24, nameIndex := 40, descriptorIndex := 26, attributes := #[] }, { accessFlags := 26, nameIndex := 1101, descriptorIndex := 1102, attributes := #[] }, { accessFlags := 26, nameIndex := 1121, descriptorIndex := 1122, attributes := #[] }, { accessFlags := 25, nameIndex := 599, descriptorIndex := 600, attributes := #[] }, { accessFlags := 24, nameIndex := 1125, descriptorIndex := 18, attributes := #[] }, { accessFlags := 24, nameIndex := 1127, descriptorIndex := 18, attributes := #[] }])
  fields := #[{ name := "value", type := (.array .byte), accessFlags := 18, slot := 0, constantValue := 0 }, { name := "coder", type := .byte, accessFlags := 18, slot := 1, constantValue := 0 }, { name := "hash", type := .int, accessFlags := 2, slot := 2, constantValue := 0 }, { name := "hashIsZero", type := .boolean, accessFlags := 2, slot := 3, constantValue := 0 }, { name := "serialVersionUID", type := .long, accessFlags := 26, slot := 0, constantValue := 0 }, { name := "COMPACT_STRINGS", type := .boolean, accessFlags := 24, slot := 1, constantValue := 0 }, { name := "serialPersistentFields", type := (.array (.object "java/io/ObjectStreamField")), accessFlags := 26, slot := 2, constantValue := 0 }, { name := "REPL", type := .char, accessFlags := 26, slot := 3, constantValue := 0 }, { name := "CASE_INSENSITIVE_ORDER", type := (.object "java/util/Comparator"), accessFlags := 25, slot := 4, constantValue := 0 }, { name := "LATIN1", type := .byte, accessFlags := 24, slot := 5, constantValue := 0 }, { name := "UTF16", type := .byte, accessFlags := 24, slot := 6, constantValue := 0 }]
  methods := #[k7m0, k7m1, k7m2, k7m3, k7m4, k7m5, k7m6, k7m7, k7m8, k7m9]
  instanceTypes := #[(.array .byte), .byte, .int, .boolean]
  staticTypes := #[.long, .boolean, (.array (.object "java/io/ObjectStreamField")), .char, (.object "java/util/Comparator"), .byte, .byte]
  resolved := Array.replicate 1451 none
  statics := some 0 }

def pool8 : Array CpInfo := pool [(6, .class_ 8), (1, u "java/lang/Object"), (0, u "<init>"), (0, u "()V"), (1, .class_ 14), (1, u "java/lang/StringUTF16"), (31, u "$assertionsDisabled"), (0, u "Z"), (13, u "HI_BYTE_SHIFT"), (0, u "I"), (2, u "LO_BYTE_SHIFT"), (49, .methodref 12 116), (0, .nameAndType 117 118), (0, u "compress"), (0, u "([CI[BII)I"), (3, u "([CII)[B"), (138, u "coderFromArrayLen"), (0, u "([BI)B"), (106, .class_ 371), (1, u "java/lang/StringUTF16$LinesSpliterator"), (58, u "MAX_LENGTH"), (196, .class_ 628), (0, u "java/lang/StringUTF16$CodePointsSpliterator"), (0, .class_ 630), (0, u "java/lang/StringUTF16$CharsSpliterator")] 4

def k8m0 : Method := { name := "<init>", desc := "()V", sig := { parameters := [], returnType := none }, accessFlags := 0, code := none }
def k8c1 : Code := { maxStack := 2, maxLocals := 2, code := jdk_52_method_15_code, exceptionTable := #[], attributes := #[] }
def k8m1 : Method := { name := "coderFromArrayLen", desc := "([BI)B", sig := { parameters := [(.array .byte), .int], returnType := some .byte }, accessFlags := 8, code := some k8c1 }
def k8c2 : Code := { maxStack := 5, maxLocals := 6, code := jdk_52_method_16_code, exceptionTable := #[], attributes := #[] }
def k8m2 : Method := { name := "compress", desc := "([CII)[B", sig := { parameters := [(.array .char), .int, .int], returnType := some (.array .byte) }, accessFlags := 9, code := some k8c2 }
def k8c3 : Code := { maxStack := 3, maxLocals := 7, code := jdk_52_method_21_code, exceptionTable := #[], attributes := #[] }
def k8m3 : Method := { name := "compress", desc := "([CI[BII)I", sig := { parameters := [(.array .char), .int, (.array .byte), .int, .int], returnType := some .int }, accessFlags := 9, code := some k8c3 }
/-- java/lang/StringUTF16 -/
def k8 : Class := { plain "java/lang/StringUTF16" (some 0) with
  accessFlags := 48
  interfaces := #[]
  cf := some (fileOf pool8 12 #[.nestMembers #[627, 629, 369]] #[{ accessFlags := 0, nameIndex := 9, descriptorIndex := 10, attributes := #[] }, { accessFlags := 8, nameIndex := 261, descriptorIndex := 262, attributes := #[] }, { accessFlags := 9, nameIndex := 117, descriptorIndex := 122, attributes := #[] }, { accessFlags := 9, nameIndex := 117, descriptorIndex := 118, attributes := #[] }] 48 6 #[] #[{ accessFlags := 26, nameIndex := 61, descriptorIndex := 62, attributes := #[] }, { accessFlags := 26, nameIndex := 65, descriptorIndex := 62, attributes := #[] }, { accessFlags := 24, nameIndex := 430, descriptorIndex := 62, attributes := #[] }, { accessFlags := 4120, nameIndex := 46, descriptorIndex := 47, attributes := #[] }])
  fields := #[{ name := "HI_BYTE_SHIFT", type := .int, accessFlags := 26, slot := 0, constantValue := 0 }, { name := "LO_BYTE_SHIFT", type := .int, accessFlags := 26, slot := 1, constantValue := 0 }, { name := "MAX_LENGTH", type := .int, accessFlags := 24, slot := 2, constantValue := 0 }, { name := "$assertionsDisabled", type := .boolean, accessFlags := 4120, slot := 3, constantValue := 0 }]
  methods := #[k8m0, k8m1, k8m2, k8m3]
  instanceTypes := #[]
  staticTypes := #[.int, .int, .int, .boolean]
  resolved := Array.replicate 635 none
  statics := none }

def pool9 : Array CpInfo := pool [(2, .class_ 4), (1, u "java/lang/Object"), (0, u "<init>"), (0, u "()V"), (0, .string 8), (0, u "type"), (0, .methodref 10 11), (0, .class_ 12), (0, .nameAndType 13 14), (0, u "java/util/Objects"), (0, u "requireNonNull"), (0, u "(Ljava/lang/Object;Ljava/lang/String;)Ljava/lang/Object;"), (0, .methodref 16 17), (0, .class_ 18), (0, .nameAndType 19 20), (0, u "java/lang/String"), (0, u "isEmpty"), (0, u "()Z"), (0, .methodref 16 22), (0, .nameAndType 23 24), (0, u "length"), (0, u "()I"), (0, .class_ 26), (0, u "com/example/dommel/dommel/DailyNumberFormat"), (4, .methodref 16 32), (0, .nameAndType 33 34), (0, u "charAt"), (0, u "(I)C"), (0, .methodref 25 36), (0, .nameAndType 37 38), (0, u "isAsciiLetterOrDigit"), (0, u "(C)Z"), (2, u "requireType"), (0, u "(Ljava/lang/String;)Ljava/lang/String;"), (51, u "MAX_TYPE_LENGTH"), (0, u "I"), (2, u "MAX_COUNTER"), (0, u "J")] 25

def k9m0 : Method := { name := "<init>", desc := "()V", sig := { parameters := [], returnType := none }, accessFlags := 2, code := none }
def k9c1 : Code := { maxStack := 2, maxLocals := 2, code := prog_1_method_2_code, exceptionTable := #[], attributes := #[] }
def k9m1 : Method := { name := "requireType", desc := "(Ljava/lang/String;)Ljava/lang/String;", sig := { parameters := [(.object "java/lang/String")], returnType := some (.object "java/lang/String") }, accessFlags := 8, code := some k9c1 }
def k9c2 : Code := { maxStack := 2, maxLocals := 1, code := prog_1_method_5_code, exceptionTable := #[], attributes := #[] }
def k9m2 : Method := { name := "isAsciiLetterOrDigit", desc := "(C)Z", sig := { parameters := [.char], returnType := some .boolean }, accessFlags := 10, code := some k9c2 }
/-- com/example/dommel/dommel/DailyNumberFormat -/
def k9 : Class := { plain "com/example/dommel/dommel/DailyNumberFormat" (some 0) with
  accessFlags := 48
  interfaces := #[]
  cf := some (fileOf pool9 25 #[] #[{ accessFlags := 2, nameIndex := 5, descriptorIndex := 6, attributes := #[] }, { accessFlags := 8, nameIndex := 41, descriptorIndex := 42, attributes := #[] }, { accessFlags := 10, nameIndex := 37, descriptorIndex := 38, attributes := #[] }] 48 2 #[] #[{ accessFlags := 24, nameIndex := 94, descriptorIndex := 95, attributes := #[] }, { accessFlags := 24, nameIndex := 98, descriptorIndex := 99, attributes := #[] }])
  fields := #[{ name := "MAX_TYPE_LENGTH", type := .int, accessFlags := 24, slot := 0, constantValue := 0 }, { name := "MAX_COUNTER", type := .long, accessFlags := 24, slot := 1, constantValue := 0 }]
  methods := #[k9m0, k9m1, k9m2]
  instanceTypes := #[]
  staticTypes := #[.int, .long]
  resolved := Array.replicate 125 none
  statics := none }

def pool10 : Array CpInfo := pool [(2, .class_ 4), (1, u "java/lang/Object"), (0, u "<init>"), (0, u "()V"), (35, .class_ 44), (1, u "java/util/Objects"), (0, u "requireNonNull"), (48, u "(Ljava/lang/Object;Ljava/lang/String;)Ljava/lang/Object;")] 89

def k10m0 : Method := { name := "<init>", desc := "()V", sig := { parameters := [], returnType := none }, accessFlags := 2, code := none }
def k10c1 : Code := { maxStack := 3, maxLocals := 2, code := jdk_31_method_11_code, exceptionTable := #[], attributes := #[] }
def k10m1 : Method := { name := "requireNonNull", desc := "(Ljava/lang/Object;Ljava/lang/String;)Ljava/lang/Object;", sig := { parameters := [(.object "java/lang/Object"), (.object "java/lang/String")], returnType := some (.object "java/lang/Object") }, accessFlags := 9, code := some k10c1 }
/-- java/util/Objects -/
def k10 : Class := { plain "java/util/Objects" (some 0) with
  accessFlags := 49
  interfaces := #[]
  cf := some (fileOf pool10 42 #[] #[{ accessFlags := 2, nameIndex := 5, descriptorIndex := 6, attributes := #[] }, { accessFlags := 9, nameIndex := 45, descriptorIndex := 94, attributes := #[] }] 49 2 #[] #[])
  fields := #[]
  methods := #[k10m0, k10m1]
  instanceTypes := #[]
  staticTypes := #[]
  resolved := Array.replicate 184 none
  statics := none }

def pool11 : Array CpInfo := pool [(1, .class_ 2), (0, u "java/lang/String"), (1, .class_ 6), (1, u "java/lang/Object"), (0, u "<init>"), (0, u "()V"), (0, .methodref 1 10), (0, .nameAndType 11 12), (0, u "checkIndex"), (0, u "(II)V"), (1, .class_ 16), (1, u "java/lang/StringLatin1"), (36, u "([BI)C"), (67, u "$assertionsDisabled"), (0, u "Z"), (98, .class_ 223), (1, u "java/lang/StringLatin1$LinesSpliterator"), (28, u "charAt"), (137, .class_ 391), (0, u "java/lang/StringLatin1$CharsSpliterator")] 3

def k11m0 : Method := { name := "<init>", desc := "()V", sig := { parameters := [], returnType := none }, accessFlags := 0, code := none }
def k11c1 : Code := { maxStack := 2, maxLocals := 2, code := jdk_43_method_2_code, exceptionTable := #[], attributes := #[] }
def k11m1 : Method := { name := "charAt", desc := "([BI)C", sig := { parameters := [(.array .byte), .int], returnType := some .char }, accessFlags := 9, code := some k11c1 }
/-- java/lang/StringLatin1 -/
def k11 : Class := { plain "java/lang/StringLatin1" (some 0) with
  accessFlags := 48
  interfaces := #[]
  cf := some (fileOf pool11 14 #[.nestMembers #[390, 221]] #[{ accessFlags := 0, nameIndex := 7, descriptorIndex := 8, attributes := #[] }, { accessFlags := 9, nameIndex := 252, descriptorIndex := 53, attributes := #[] }] 48 4 #[] #[{ accessFlags := 4120, nameIndex := 121, descriptorIndex := 122, attributes := #[] }])
  fields := #[{ name := "$assertionsDisabled", type := .boolean, accessFlags := 4120, slot := 0, constantValue := 0 }]
  methods := #[k11m0, k11m1]
  instanceTypes := #[]
  staticTypes := #[.boolean]
  resolved := Array.replicate 395 none
  statics := none }

def pool12 : Array CpInfo := pool [(2, .class_ 4), (1, u "java/lang/Object"), (0, u "<init>"), (0, u "()V"), (17, .class_ 26), (1, u "jdk/internal/util/Preconditions"), (6, u "checkIndex"), (21, .class_ 56), (0, u "jdk/internal/util/Preconditions$4"), (57, .class_ 115), (0, u "jdk/internal/util/Preconditions$1"), (7, u "SIOOBE_FORMATTER"), (0, u "Ljava/util/function/BiFunction;"), (0, .class_ 126), (0, u "jdk/internal/util/Preconditions$2"), (3, u "AIOOBE_FORMATTER"), (0, .class_ 132), (0, u "jdk/internal/util/Preconditions$3"), (3, u "IOOBE_FORMATTER"), (41, u "(IILjava/util/function/BiFunction;)I")] 15

def k12m0 : Method := { name := "<init>", desc := "()V", sig := { parameters := [], returnType := none }, accessFlags := 1, code := none }
def k12c1 : Code := { maxStack := 3, maxLocals := 3, code := jdk_41_method_11_code, exceptionTable := #[], attributes := #[] }
def k12m1 : Method := { name := "checkIndex", desc := "(IILjava/util/function/BiFunction;)I", sig := { parameters := [.int, .int, (.object "java/util/function/BiFunction")], returnType := some .int }, accessFlags := 9, code := some k12c1 }
/-- jdk/internal/util/Preconditions -/
def k12 : Class := { plain "jdk/internal/util/Preconditions" (some 0) with
  accessFlags := 33
  interfaces := #[]
  cf := some (fileOf pool12 24 #[.nestMembers #[55, 131, 125, 114]] #[{ accessFlags := 1, nameIndex := 5, descriptorIndex := 6, attributes := #[] }, { accessFlags := 9, nameIndex := 33, descriptorIndex := 178, attributes := #[] }] 33 2 #[] #[{ accessFlags := 25, nameIndex := 123, descriptorIndex := 124, attributes := #[] }, { accessFlags := 25, nameIndex := 130, descriptorIndex := 124, attributes := #[] }, { accessFlags := 25, nameIndex := 136, descriptorIndex := 124, attributes := #[] }])
  fields := #[{ name := "SIOOBE_FORMATTER", type := (.object "java/util/function/BiFunction"), accessFlags := 25, slot := 0, constantValue := 0 }, { name := "AIOOBE_FORMATTER", type := (.object "java/util/function/BiFunction"), accessFlags := 25, slot := 1, constantValue := 0 }, { name := "IOOBE_FORMATTER", type := (.object "java/util/function/BiFunction"), accessFlags := 25, slot := 2, constantValue := 0 }]
  methods := #[k12m0, k12m1]
  instanceTypes := #[]
  staticTypes := #[(.object "java/util/function/BiFunction"), (.object "java/util/function/BiFunction"), (.object "java/util/function/BiFunction")]
  resolved := Array.replicate 194 none
  statics := some 1 }

def pool13 : Array CpInfo := pool [(9, u "<init>"), (6, .class_ 18), (1, u "java/lang/Object"), (0, u "()V"), (1, .class_ 23), (1, u "jdk/internal/util/ArraysSupport"), (0, u "LOG2_ARRAY_LONG_INDEX_SCALE"), (0, u "I"), (2, u "U"), (0, u "Ljdk/internal/misc/Unsafe;"), (8, u "BIG_ENDIAN"), (0, u "Z"), (8, u "LOG2_BYTE_BIT_SIZE"), (4, u "LOG2_ARRAY_INT_INDEX_SCALE"), (54, u "JLA"), (0, u "Ljdk/internal/access/JavaLangAccess;"), (11, u "LOG2_ARRAY_BOOLEAN_INDEX_SCALE"), (9, u "LOG2_ARRAY_BYTE_INDEX_SCALE"), (5, u "LOG2_ARRAY_CHAR_INDEX_SCALE"), (5, u "LOG2_ARRAY_SHORT_INDEX_SCALE"), (18, u "LOG2_ARRAY_FLOAT_INDEX_SCALE"), (24, u "LOG2_ARRAY_DOUBLE_INDEX_SCALE"), (89, u "T_BOOLEAN"), (2, u "T_CHAR"), (1, u "T_FLOAT"), (1, u "T_DOUBLE"), (1, u "T_BYTE"), (1, u "T_SHORT"), (1, u "T_INT"), (1, u "T_LONG"), (1, u "SOFT_MAX_ARRAY_LENGTH")] 83

def k13m0 : Method := { name := "<init>", desc := "()V", sig := { parameters := [], returnType := none }, accessFlags := 2, code := none }
/-- jdk/internal/util/ArraysSupport -/
def k13 : Class := { plain "jdk/internal/util/ArraysSupport" (some 0) with
  accessFlags := 33
  interfaces := #[]
  cf := some (fileOf pool13 21 #[] #[{ accessFlags := 2, nameIndex := 9, descriptorIndex := 19, attributes := #[] }] 33 16 #[] #[{ accessFlags := 24, nameIndex := 28, descriptorIndex := 29, attributes := #[] }, { accessFlags := 26, nameIndex := 38, descriptorIndex := 39, attributes := #[] }, { accessFlags := 25, nameIndex := 121, descriptorIndex := 25, attributes := #[] }, { accessFlags := 25, nameIndex := 131, descriptorIndex := 25, attributes := #[] }, { accessFlags := 25, nameIndex := 137, descriptorIndex := 25, attributes := #[] }, { accessFlags := 25, nameIndex := 143, descriptorIndex := 25, attributes := #[] }, { accessFlags := 25, nameIndex := 53, descriptorIndex := 25, attributes := #[] }, { accessFlags := 25, nameIndex := 24, descriptorIndex := 25, attributes := #[] }, { accessFlags := 25, nameIndex := 162, descriptorIndex := 25, attributes := #[] }, { accessFlags := 25, nameIndex := 187, descriptorIndex := 25, attributes := #[] }, { accessFlags := 26, nameIndex := 48, descriptorIndex := 25, attributes := #[] }, { accessFlags := 25, nameIndex := 277, descriptorIndex := 25, attributes := #[] }, { accessFlags := 25, nameIndex := 280, descriptorIndex := 25, attributes := #[] }, { accessFlags := 25, nameIndex := 282, descriptorIndex := 25, attributes := #[] }, { accessFlags := 25, nameIndex := 284, descriptorIndex := 25, attributes := #[] }, { accessFlags := 25, nameIndex := 286, descriptorIndex := 25, attributes := #[] }, { accessFlags := 25, nameIndex := 288, descriptorIndex := 25, attributes := #[] }, { accessFlags := 25, nameIndex := 290, descriptorIndex := 25, attributes := #[] }, { accessFlags := 25, nameIndex := 292, descriptorIndex := 25, attributes := #[] }, { accessFlags := 26, nameIndex := 108, descriptorIndex := 109, attributes := #[] }, { accessFlags := 25, nameIndex := 294, descriptorIndex := 25, attributes := #[] }])
  fields := #[{ name := "U", type := (.object "jdk/internal/misc/Unsafe"), accessFlags := 24, slot := 0, constantValue := 0 }, { name := "BIG_ENDIAN", type := .boolean, accessFlags := 26, slot := 1, constantValue := 0 }, { name := "LOG2_ARRAY_BOOLEAN_INDEX_SCALE", type := .int, accessFlags := 25, slot := 2, constantValue := 0 }, { name := "LOG2_ARRAY_BYTE_INDEX_SCALE", type := .int, accessFlags := 25, slot := 3, constantValue := 0 }, { name := "LOG2_ARRAY_CHAR_INDEX_SCALE", type := .int, accessFlags := 25, slot := 4, constantValue := 0 }, { name := "LOG2_ARRAY_SHORT_INDEX_SCALE", type := .int, accessFlags := 25, slot := 5, constantValue := 0 }, { name := "LOG2_ARRAY_INT_INDEX_SCALE", type := .int, accessFlags := 25, slot := 6, constantValue := 0 }, { name := "LOG2_ARRAY_LONG_INDEX_SCALE", type := .int, accessFlags := 25, slot := 7, constantValue := 0 }, { name := "LOG2_ARRAY_FLOAT_INDEX_SCALE", type := .int, accessFlags := 25, slot := 8, constantValue := 0 }, { name := "LOG2_ARRAY_DOUBLE_INDEX_SCALE", type := .int, accessFlags := 25, slot := 9, constantValue := 0 }, { name := "LOG2_BYTE_BIT_SIZE", type := .int, accessFlags := 26, slot := 10, constantValue := 0 }, { name := "T_BOOLEAN", type := .int, accessFlags := 25, slot := 11, constantValue := 0 }, { name := "T_CHAR", type := .int, accessFlags := 25, slot := 12, constantValue := 0 }, { name := "T_FLOAT", type := .int, accessFlags := 25, slot := 13, constantValue := 0 }, { name := "T_DOUBLE", type := .int, accessFlags := 25, slot := 14, constantValue := 0 }, { name := "T_BYTE", type := .int, accessFlags := 25, slot := 15, constantValue := 0 }, { name := "T_SHORT", type := .int, accessFlags := 25, slot := 16, constantValue := 0 }, { name := "T_INT", type := .int, accessFlags := 25, slot := 17, constantValue := 0 }, { name := "T_LONG", type := .int, accessFlags := 25, slot := 18, constantValue := 0 }, { name := "JLA", type := (.object "jdk/internal/access/JavaLangAccess"), accessFlags := 26, slot := 19, constantValue := 0 }, { name := "SOFT_MAX_ARRAY_LENGTH", type := .int, accessFlags := 25, slot := 20, constantValue := 0 }]
  methods := #[k13m0]
  instanceTypes := #[]
  staticTypes := #[(.object "jdk/internal/misc/Unsafe"), .boolean, .int, .int, .int, .int, .int, .int, .int, .int, .int, .int, .int, .int, .int, .int, .int, .int, .int, (.object "jdk/internal/access/JavaLangAccess"), .int]
  resolved := Array.replicate 378 none
  statics := none }

def pool14 : Array CpInfo := pool [(1, u "java/lang/Cloneable"), (0, .class_ 1), (0, u "java/lang/Object"), (0, .class_ 3)] 3

/-- java/lang/Cloneable -/
def k14 : Class := { plain "java/lang/Cloneable" (some 0) with
  accessFlags := 1537
  interfaces := #[]
  cf := some (fileOf pool14 2 #[] #[] 1537 4 #[] #[])
  fields := #[]
  methods := #[]
  instanceTypes := #[]
  staticTypes := #[]
  resolved := Array.replicate 8 none
  statics := none }

/-- the primitive byte -/
def k15 : Class := { plain "byte" none with kind := .primitive 'B', accessFlags := 0x411 }
/-- [B -/
def k16 : Class := { plain "[B" (some 0) with kind := .array 15 .byte, interfaces := #[14, 2], accessFlags := 1041 }

/-- the primitive char -/
def k17 : Class := { plain "char" none with kind := .primitive 'C', accessFlags := 0x411 }
/-- [C -/
def k18 : Class := { plain "[C" (some 0) with kind := .array 17 .char, interfaces := #[14, 2], accessFlags := 1041 }

/-- the primitive int -/
def k19 : Class := { plain "int" none with kind := .primitive 'I', accessFlags := 0x411 }
/-- [I -/
def k20 : Class := { plain "[I" (some 0) with kind := .array 19 .int, interfaces := #[14, 2], accessFlags := 1041 }

def heap : Heap := #[{ cls := 7, slots := #[.long 0, .int 1, .null, .int 0, .null, .int 0, .int 0], vm := .statics 7 },
  { cls := 12, slots := #[.null, .null, .null], vm := .statics 12 }]
def classes : Array Class := #[k0, k1, k2, k3, k4, k5, k6, k7, k8, k9, k10, k11, k12, k13, k14, k15, k16, k17, k18, k19, k20]
def interned : List (Array UInt16 × Addr) := []
def slotsUsed : Nat := 10
def theMethod : MethodId := ⟨1, 3⟩
def args0 : Array Value := #[.int 5, .long 6, .long 7]
def aboutOver (below : List Frame) : State where
  vm := { classes := classes, interned := interned.toArray }
  heap := heap
  slotsUsed := slotsUsed
  threads := #[{ frames := .invoking theMethod args0 :: below }]
def below0 : List Frame := [.native { method := ⟨0, 0⟩, args := #[] }]
def about1 : State := aboutOver below0
def p0 : Program := .bare "" "" ""
def e0 : Env := launch0.env 0 0 0
theorem w_frames : about1.frames = Frame.invoking theMethod args0 :: below0 := rfl
set_option maxRecDepth 65536 in
theorem w_args : argsFit about1.vm theMethod args0 = true := by decide +kernel
set_option maxRecDepth 65536 in
theorem w_heap : heapFits about1 = true := by decide +kernel
set_option maxRecDepth 65536 in
theorem w_runnable : about1.curStatus? = some .runnable := by decide +kernel
set_option maxRecDepth 65536 in
theorem w_alone : about1.alone = true := by decide +kernel
set_option maxRecDepth 65536 in
theorem w_named : about1.methodNamed? x = some theMethod := by decide +kernel
set_option maxRecDepth 65536 in
theorem w_hears : about1.hears theMethod below0 = true := by decide +kernel
set_option maxRecDepth 65536 in
theorem w_ripe : about1.ripe theMethod args0 below0 = true := by decide +kernel
theorem w_running : about1.status = .running := rfl
set_option maxRecDepth 65536 in
theorem w_room : about1.hasRoom e0.platform room_1 = true :=
  launch0.hasRoom_least _ room_1 (by decide +kernel) (by decide +kernel) (by decide +kernel) (by decide +kernel) (by decide +kernel) (by decide +kernel)
theorem allAtoms_all (ts : List Jvm.Cond) (a : Array Jvm.Value) (st : Jvm.State) : (allAtoms ts).before a st = ts.all (fun c => c.before a st) := by
  induction ts with
  | nil => rfl
  | cons c t ih =>
    show (Jvm.Cond.and c (allAtoms t)).before a st = _
    rw [Jvm.Cond.before_and, ih, List.all_cons]
def words1 : List Jvm.Cond := Jvm.Cond.code x code maxLocals ret :: tables_1
/-- a 'code' word, met by the world's own term for the bytes: nothing is compared byte by byte -/
theorem code_word {y : MethodName} {bytes : ByteArray} {mx : Nat} {rt : Option FieldType} {a : Array Value} {s : State} {m : MethodId} {meth : Method} {c : Code} (h1 : s.methodNamed? y = some m) (h2 : s.vm.method? m = some meth) (h3 : meth.code = some c) (h4 : c.code = bytes)
    (h5 : (c.maxLocals == mx && c.exceptionTable.isEmpty && decide (c.maxStack ≤ mostOperands) && decide (meth.sig.returnType = rt) && !meth.locks && decide (parseMethodDescriptor y.desc = some meth.sig)) = true) : (Jvm.Cond.code y bytes mx rt).before a s = true := by
  simp only [Bool.and_eq_true, beq_iff_eq, Bool.not_eq_true', decide_eq_true_eq] at h5
  obtain ⟨⟨⟨⟨⟨g1, g2⟩, g3⟩, g4⟩, g5⟩, g6⟩ := h5
  simp [Cond.before, Cond.holds, Cond.value, h1, h2, h3, h4, g1, g2, g3, g4, g5, g6]
def isCode : Jvm.Cond → Bool
  | .code _ _ _ _ => true
  | _ => false
theorem all_split {L : List Jvm.Cond} {P : Jvm.Cond → Bool} (h1 : L.all (fun c => isCode c || P c) = true) (h2 : ∀ c ∈ L.filter isCode, P c = true) : L.all P = true := by
  refine List.all_eq_true.mpr fun c hc => ?_
  have h := List.all_eq_true.mp h1 c hc
  rcases Bool.eq_false_or_eq_true (isCode c) with hi | hi
  · exact h2 c (List.mem_filter.mpr ⟨hc, hi⟩)
  · simpa [hi] using h
set_option maxRecDepth 65536 in
theorem w_c0 : (Jvm.Cond.code x code maxLocals ret).before args0 about1 = true := code_word (m := ⟨1, 3⟩) (meth := k1m3) (c := k1c3) (by decide +kernel) rfl rfl rfl (by decide +kernel)
set_option maxRecDepth 65536 in
theorem w_c1 : (Jvm.Cond.code ({ cls := "com/example/dommel/dommel/DailyNumberFormatRequireTypePinLaw", name := "ch", desc := "(JI)C" } : Jvm.MethodName) method_2_code (4 : Nat) (Option.some Jvm.ClassFile.FieldType.char)).before args0 about1 = true := code_word (m := ⟨1, 1⟩) (meth := k1m1) (c := k1c1) (by decide +kernel) rfl rfl rfl (by decide +kernel)
set_option maxRecDepth 65536 in
theorem w_c2 : (Jvm.Cond.code ({ cls := "com/example/dommel/dommel/DailyNumberFormatRequireTypePinLaw", name := "put", desc := "([CIC)V" } : Jvm.MethodName) method_3_code (3 : Nat) (Option.none : Option Jvm.ClassFile.FieldType)).before args0 about1 = true := code_word (m := ⟨1, 2⟩) (meth := k1m2) (c := k1c2) (by decide +kernel) rfl rfl rfl (by decide +kernel)
set_option maxRecDepth 65536 in
theorem w_c3 : (Jvm.Cond.code ({ cls := "java/lang/String", name := "<init>", desc := "([C)V" } : Jvm.MethodName) jdk_42_method_3_code (2 : Nat) (Option.none : Option Jvm.ClassFile.FieldType)).before args0 about1 = true := code_word (m := ⟨7, 1⟩) (meth := k7m1) (c := k7c1) (by decide +kernel) rfl rfl rfl (by decide +kernel)
set_option maxRecDepth 65536 in
theorem w_c4 : (Jvm.Cond.code ({ cls := "java/lang/String", name := "<init>", desc := "([CIILjava/lang/Void;)V" } : Jvm.MethodName) jdk_42_method_149_code (6 : Nat) (Option.none : Option Jvm.ClassFile.FieldType)).before args0 about1 = true := code_word (m := ⟨7, 6⟩) (meth := k7m6) (c := k7c6) (by decide +kernel) rfl rfl rfl (by decide +kernel)
set_option maxRecDepth 65536 in
theorem w_c5 : (Jvm.Cond.code ({ cls := "java/lang/Object", name := "<init>", desc := "()V" } : Jvm.MethodName) object_method_1_code (1 : Nat) (Option.none : Option Jvm.ClassFile.FieldType)).before args0 about1 = true := code_word (m := ⟨0, 0⟩) (meth := k0m0) (c := k0c0) (by decide +kernel) rfl rfl rfl (by decide +kernel)
set_option maxRecDepth 65536 in
theorem w_c6 : (Jvm.Cond.code ({ cls := "java/lang/StringUTF16", name := "compress", desc := "([CII)[B" } : Jvm.MethodName) jdk_52_method_16_code (6 : Nat) (Option.some (Jvm.ClassFile.FieldType.array Jvm.ClassFile.FieldType.byte))).before args0 about1 = true := code_word (m := ⟨8, 2⟩) (meth := k8m2) (c := k8c2) (by decide +kernel) rfl rfl rfl (by decide +kernel)
set_option maxRecDepth 65536 in
theorem w_c7 : (Jvm.Cond.code ({ cls := "java/lang/StringUTF16", name := "compress", desc := "([CI[BII)I" } : Jvm.MethodName) jdk_52_method_21_code (7 : Nat) (Option.some Jvm.ClassFile.FieldType.int)).before args0 about1 = true := code_word (m := ⟨8, 3⟩) (meth := k8m3) (c := k8c3) (by decide +kernel) rfl rfl rfl (by decide +kernel)
set_option maxRecDepth 65536 in
theorem w_c8 : (Jvm.Cond.code ({ cls := "java/lang/StringUTF16", name := "coderFromArrayLen", desc := "([BI)B" } : Jvm.MethodName) jdk_52_method_15_code (2 : Nat) (Option.some Jvm.ClassFile.FieldType.byte)).before args0 about1 = true := code_word (m := ⟨8, 1⟩) (meth := k8m1) (c := k8c1) (by decide +kernel) rfl rfl rfl (by decide +kernel)
set_option maxRecDepth 65536 in
theorem w_c9 : (Jvm.Cond.code ({ cls := "com/example/dommel/dommel/DailyNumberFormat", name := "requireType", desc := "(Ljava/lang/String;)Ljava/lang/String;" } : Jvm.MethodName) prog_1_method_2_code (2 : Nat) (Option.some (Jvm.ClassFile.FieldType.object "java/lang/String"))).before args0 about1 = true := code_word (m := ⟨9, 1⟩) (meth := k9m1) (c := k9c1) (by decide +kernel) rfl rfl rfl (by decide +kernel)
set_option maxRecDepth 65536 in
theorem w_c10 : (Jvm.Cond.code ({ cls := "java/util/Objects", name := "requireNonNull", desc := "(Ljava/lang/Object;Ljava/lang/String;)Ljava/lang/Object;" } : Jvm.MethodName) jdk_31_method_11_code (2 : Nat) (Option.some (Jvm.ClassFile.FieldType.object "java/lang/Object"))).before args0 about1 = true := code_word (m := ⟨10, 1⟩) (meth := k10m1) (c := k10c1) (by decide +kernel) rfl rfl rfl (by decide +kernel)
set_option maxRecDepth 65536 in
theorem w_c11 : (Jvm.Cond.code ({ cls := "java/lang/String", name := "isEmpty", desc := "()Z" } : Jvm.MethodName) jdk_42_method_55_code (1 : Nat) (Option.some Jvm.ClassFile.FieldType.boolean)).before args0 about1 = true := code_word (m := ⟨7, 3⟩) (meth := k7m3) (c := k7c3) (by decide +kernel) rfl rfl rfl (by decide +kernel)
set_option maxRecDepth 65536 in
theorem w_c12 : (Jvm.Cond.code ({ cls := "java/lang/String", name := "length", desc := "()I" } : Jvm.MethodName) jdk_42_method_54_code (1 : Nat) (Option.some Jvm.ClassFile.FieldType.int)).before args0 about1 = true := code_word (m := ⟨7, 2⟩) (meth := k7m2) (c := k7c2) (by decide +kernel) rfl rfl rfl (by decide +kernel)
set_option maxRecDepth 65536 in
theorem w_c13 : (Jvm.Cond.code ({ cls := "java/lang/String", name := "coder", desc := "()B" } : Jvm.MethodName) jdk_42_method_152_code (1 : Nat) (Option.some Jvm.ClassFile.FieldType.byte)).before args0 about1 = true := code_word (m := ⟨7, 7⟩) (meth := k7m7) (c := k7c7) (by decide +kernel) rfl rfl rfl (by decide +kernel)
set_option maxRecDepth 65536 in
theorem w_c14 : (Jvm.Cond.code ({ cls := "java/lang/String", name := "charAt", desc := "(I)C" } : Jvm.MethodName) jdk_42_method_56_code (2 : Nat) (Option.some Jvm.ClassFile.FieldType.char)).before args0 about1 = true := code_word (m := ⟨7, 4⟩) (meth := k7m4) (c := k7c4) (by decide +kernel) rfl rfl rfl (by decide +kernel)
set_option maxRecDepth 65536 in
theorem w_c15 : (Jvm.Cond.code ({ cls := "java/lang/String", name := "isLatin1", desc := "()Z" } : Jvm.MethodName) jdk_42_method_154_code (1 : Nat) (Option.some Jvm.ClassFile.FieldType.boolean)).before args0 about1 = true := code_word (m := ⟨7, 8⟩) (meth := k7m8) (c := k7c8) (by decide +kernel) rfl rfl rfl (by decide +kernel)
set_option maxRecDepth 65536 in
theorem w_c16 : (Jvm.Cond.code ({ cls := "java/lang/StringLatin1", name := "charAt", desc := "([BI)C" } : Jvm.MethodName) jdk_43_method_2_code (2 : Nat) (Option.some Jvm.ClassFile.FieldType.char)).before args0 about1 = true := code_word (m := ⟨11, 1⟩) (meth := k11m1) (c := k11c1) (by decide +kernel) rfl rfl rfl (by decide +kernel)
set_option maxRecDepth 65536 in
theorem w_c17 : (Jvm.Cond.code ({ cls := "java/lang/String", name := "checkIndex", desc := "(II)V" } : Jvm.MethodName) jdk_42_method_155_code (2 : Nat) (Option.none : Option Jvm.ClassFile.FieldType)).before args0 about1 = true := code_word (m := ⟨7, 9⟩) (meth := k7m9) (c := k7c9) (by decide +kernel) rfl rfl rfl (by decide +kernel)
set_option maxRecDepth 65536 in
theorem w_c18 : (Jvm.Cond.code ({ cls := "jdk/internal/util/Preconditions", name := "checkIndex", desc := "(IILjava/util/function/BiFunction;)I" } : Jvm.MethodName) jdk_41_method_11_code (3 : Nat) (Option.some Jvm.ClassFile.FieldType.int)).before args0 about1 = true := code_word (m := ⟨12, 1⟩) (meth := k12m1) (c := k12c1) (by decide +kernel) rfl rfl rfl (by decide +kernel)
set_option maxRecDepth 65536 in
theorem w_c19 : (Jvm.Cond.code ({ cls := "com/example/dommel/dommel/DailyNumberFormat", name := "isAsciiLetterOrDigit", desc := "(C)Z" } : Jvm.MethodName) prog_1_method_5_code (1 : Nat) (Option.some Jvm.ClassFile.FieldType.boolean)).before args0 about1 = true := code_word (m := ⟨9, 2⟩) (meth := k9m2) (c := k9c2) (by decide +kernel) rfl rfl rfl (by decide +kernel)
set_option maxRecDepth 65536 in
theorem w_c20 : (Jvm.Cond.code ({ cls := "java/lang/String", name := "equals", desc := "(Ljava/lang/Object;)Z" } : Jvm.MethodName) jdk_42_method_66_code (3 : Nat) (Option.some Jvm.ClassFile.FieldType.boolean)).before args0 about1 = true := code_word (m := ⟨7, 5⟩) (meth := k7m5) (c := k7c5) (by decide +kernel) rfl rfl rfl (by decide +kernel)
def codes1 : List Jvm.Cond := [Jvm.Cond.code x code maxLocals ret, Jvm.Cond.code ({ cls := "com/example/dommel/dommel/DailyNumberFormatRequireTypePinLaw", name := "ch", desc := "(JI)C" } : Jvm.MethodName) method_2_code (4 : Nat) (Option.some Jvm.ClassFile.FieldType.char), Jvm.Cond.code ({ cls := "com/example/dommel/dommel/DailyNumberFormatRequireTypePinLaw", name := "put", desc := "([CIC)V" } : Jvm.MethodName) method_3_code (3 : Nat) (Option.none : Option Jvm.ClassFile.FieldType), Jvm.Cond.code ({ cls := "java/lang/String", name := "<init>", desc := "([C)V" } : Jvm.MethodName) jdk_42_method_3_code (2 : Nat) (Option.none : Option Jvm.ClassFile.FieldType), Jvm.Cond.code ({ cls := "java/lang/String", name := "<init>", desc := "([CIILjava/lang/Void;)V" } : Jvm.MethodName) jdk_42_method_149_code (6 : Nat) (Option.none : Option Jvm.ClassFile.FieldType), Jvm.Cond.code ({ cls := "java/lang/Object", name := "<init>", desc := "()V" } : Jvm.MethodName) object_method_1_code (1 : Nat) (Option.none : Option Jvm.ClassFile.FieldType), Jvm.Cond.code ({ cls := "java/lang/StringUTF16", name := "compress", desc := "([CII)[B" } : Jvm.MethodName) jdk_52_method_16_code (6 : Nat) (Option.some (Jvm.ClassFile.FieldType.array Jvm.ClassFile.FieldType.byte)), Jvm.Cond.code ({ cls := "java/lang/StringUTF16", name := "compress", desc := "([CI[BII)I" } : Jvm.MethodName) jdk_52_method_21_code (7 : Nat) (Option.some Jvm.ClassFile.FieldType.int), Jvm.Cond.code ({ cls := "java/lang/StringUTF16", name := "coderFromArrayLen", desc := "([BI)B" } : Jvm.MethodName) jdk_52_method_15_code (2 : Nat) (Option.some Jvm.ClassFile.FieldType.byte), Jvm.Cond.code ({ cls := "com/example/dommel/dommel/DailyNumberFormat", name := "requireType", desc := "(Ljava/lang/String;)Ljava/lang/String;" } : Jvm.MethodName) prog_1_method_2_code (2 : Nat) (Option.some (Jvm.ClassFile.FieldType.object "java/lang/String")), Jvm.Cond.code ({ cls := "java/util/Objects", name := "requireNonNull", desc := "(Ljava/lang/Object;Ljava/lang/String;)Ljava/lang/Object;" } : Jvm.MethodName) jdk_31_method_11_code (2 : Nat) (Option.some (Jvm.ClassFile.FieldType.object "java/lang/Object")), Jvm.Cond.code ({ cls := "java/lang/String", name := "isEmpty", desc := "()Z" } : Jvm.MethodName) jdk_42_method_55_code (1 : Nat) (Option.some Jvm.ClassFile.FieldType.boolean), Jvm.Cond.code ({ cls := "java/lang/String", name := "length", desc := "()I" } : Jvm.MethodName) jdk_42_method_54_code (1 : Nat) (Option.some Jvm.ClassFile.FieldType.int), Jvm.Cond.code ({ cls := "java/lang/String", name := "coder", desc := "()B" } : Jvm.MethodName) jdk_42_method_152_code (1 : Nat) (Option.some Jvm.ClassFile.FieldType.byte), Jvm.Cond.code ({ cls := "java/lang/String", name := "charAt", desc := "(I)C" } : Jvm.MethodName) jdk_42_method_56_code (2 : Nat) (Option.some Jvm.ClassFile.FieldType.char), Jvm.Cond.code ({ cls := "java/lang/String", name := "isLatin1", desc := "()Z" } : Jvm.MethodName) jdk_42_method_154_code (1 : Nat) (Option.some Jvm.ClassFile.FieldType.boolean), Jvm.Cond.code ({ cls := "java/lang/StringLatin1", name := "charAt", desc := "([BI)C" } : Jvm.MethodName) jdk_43_method_2_code (2 : Nat) (Option.some Jvm.ClassFile.FieldType.char), Jvm.Cond.code ({ cls := "java/lang/String", name := "checkIndex", desc := "(II)V" } : Jvm.MethodName) jdk_42_method_155_code (2 : Nat) (Option.none : Option Jvm.ClassFile.FieldType), Jvm.Cond.code ({ cls := "jdk/internal/util/Preconditions", name := "checkIndex", desc := "(IILjava/util/function/BiFunction;)I" } : Jvm.MethodName) jdk_41_method_11_code (3 : Nat) (Option.some Jvm.ClassFile.FieldType.int), Jvm.Cond.code ({ cls := "com/example/dommel/dommel/DailyNumberFormat", name := "isAsciiLetterOrDigit", desc := "(C)Z" } : Jvm.MethodName) prog_1_method_5_code (1 : Nat) (Option.some Jvm.ClassFile.FieldType.boolean), Jvm.Cond.code ({ cls := "java/lang/String", name := "equals", desc := "(Ljava/lang/Object;)Z" } : Jvm.MethodName) jdk_42_method_66_code (3 : Nat) (Option.some Jvm.ClassFile.FieldType.boolean)]
set_option maxRecDepth 65536 in
theorem codes_eq : words1.filter isCode = codes1 := rfl
theorem w_codes : ∀ c ∈ words1.filter isCode, c.before args0 about1 = true := by
  rw [codes_eq]
  intro c hc
  simp only [codes1, List.mem_cons, List.not_mem_nil, or_false] at hc
  rcases hc with rfl | rfl | rfl | rfl | rfl | rfl | rfl | rfl | rfl | rfl | rfl | rfl | rfl | rfl | rfl | rfl | rfl | rfl | rfl | rfl | rfl
  · exact w_c0
  · exact w_c1
  · exact w_c2
  · exact w_c3
  · exact w_c4
  · exact w_c5
  · exact w_c6
  · exact w_c7
  · exact w_c8
  · exact w_c9
  · exact w_c10
  · exact w_c11
  · exact w_c12
  · exact w_c13
  · exact w_c14
  · exact w_c15
  · exact w_c16
  · exact w_c17
  · exact w_c18
  · exact w_c19
  · exact w_c20
set_option maxRecDepth 65536 in
theorem w_t1 : (words1.take 24).all (fun c => isCode c || c.before args0 about1) = true := by decide +kernel
set_option maxRecDepth 65536 in
theorem w_t2 : ((words1.drop 24).take 24).all (fun c => isCode c || c.before args0 about1) = true := by decide +kernel
set_option maxRecDepth 65536 in
theorem w_t3 : (((words1.drop 24).drop 24).take 24).all (fun c => isCode c || c.before args0 about1) = true := by decide +kernel
set_option maxRecDepth 65536 in
theorem w_t4 : (((words1.drop 24).drop 24).drop 24).all (fun c => isCode c || c.before args0 about1) = true := by decide +kernel
theorem w_tables : (allAtoms (Jvm.Cond.code x code maxLocals ret :: tables_1)).before args0 about1 = true := by
  rw [allAtoms_all]
  show words1.all (fun c => c.before args0 about1) = true
  refine all_split ?_ w_codes
  rw [← List.take_append_drop 24 words1, List.all_append, w_t1, ← List.take_append_drop 24 (words1.drop 24), List.all_append, w_t2, ← List.take_append_drop 24 ((words1.drop 24).drop 24), List.all_append, w_t3, w_t4]
  rfl
set_option maxRecDepth 65536 in
theorem w_rest : rest_1_c.before args0 about1 = true := by decide +kernel
set_option maxRecDepth 65536 in
theorem w_case : (Jvm.Cond.and given_1 narrow_1).before args0 about1 = true := by decide +kernel
theorem w_applies : (headSpec (Jvm.Cond.code x code maxLocals ret :: tables_1) room_1).applies x e0.platform about1 = true :=
  (Spec.applies_iff w_frames).mpr ⟨w_running, w_runnable, w_alone, w_named, w_hears, w_ripe, w_room, w_tables⟩
theorem atStart : AtStart classFile x code maxLocals ret World_1 tables_1 room_1 Calls_1 rest_1 Pre_1 launch0 p0 e0 about1 theMethod args0 below0 :=
  ⟨lists_1, trivial, launch0.admits_env _ _ _, launch0.least_env, fairChoices_fair.cas, fairChoices_fair.clock, w_frames, w_args, w_heap, w_applies, trivial, w_rest, w_case⟩
end start1
theorem witness_1 : WitnessClaimed_1 := ⟨start1.p0, start1.e0, start1.about1, start1.theMethod, start1.args0, start1.below0, start1.atStart⟩
end Jvm.Pilot.@@N@@
