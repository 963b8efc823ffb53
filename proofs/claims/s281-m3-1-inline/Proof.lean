import JvmDerived
import JvmDerived.Pilot.@@N@@Statement
import JvmDerived.Pilot.@@N@@Code
set_option linter.unusedVariables false
set_option linter.unusedSimpArgs false
namespace Jvm.OwnW
open Sem ClassFile Op Lib Jvm.Stand Jvm.Free Jvm.LawKit Jvm.RoadKit Bundle
def Dec (b : ByteArray) (pc : Nat) (i : Instr) (len nx : Nat) : Prop := decode b pc = .ok (i, len) ∧ pc + len = nx
def DecJ (b : ByteArray) (pc : Nat) (i : Instr) (o : Int) (nx tgt : Nat) : Prop := decode b pc = .ok (i, 3) ∧ pc + 3 = nx ∧ 0 ≤ (pc : Int) + o ∧ ((pc : Int) + o).toNat = tgt
theorem le {a b : Nat} (h : Nat.ble a b = true) : a ≤ b := Nat.le_of_ble_eq_true h
theorem ext_refl (h : Heap) : Ext h h := ⟨Nat.le_refl _, fun _ _ q => q⟩
theorem ext_trans {h h' h2 : Heap} (A : Ext h h') (B : Ext h' h2) : Ext h h2 := ⟨Nat.le_trans A.1 B.1, fun a c q => B.2 a c (A.2 a c q)⟩
theorem keep_ext {h h' : Heap} (E : Ext h h') (ws : List Addr) : Keep h h' ws := (Keep.refl h ws).ext E
theorem ext_keep {h h' : Heap} (K : Keep h h' []) : Ext h h' := ⟨K.1, fun a c q => K.2.1 a c q nin0⟩
def Here (p : Program) (l : Launch) (e : Env) (R : Room) (s : State) (m : MethodId) (args : Array Value) (below : List Frame) (meth : Method) (c : Code) (Z : State) (EL : List (String × Nat)) (nw : Bool)
    (F : List Addr) (w : Nat) (h : Heap) (k n : Nat) (T : State) (vm0 : Vm) (locs : List Loc) (k0 : Nat) : Prop :=
  Stand p l e R (s.setVm vm0) m args below meth c T locs k n ∧ T.heap = h ∧ Fr Z.heap.size locs ∧ s.Since vm0 k0 ∧ k0 ≤ h.size ∧ Z.Warmed39 vm0 ∧ CHr Z EL s.vm s.heap vm0 h ∧ (nw = true → s.WarmedH vm0) ∧ (∀ x ∈ F, x < h.size ∧ Safe Z EL vm0 h x) ∧ Ext Z.heap h ∧ (∀ x, w ≤ x → Safe Z EL vm0 h x) ∧ (nw = true → ∀ y, Bk Z EL vm0 h y → Bk Z EL s.vm s.heap y)
def wm (nwc : Bool) (w : Nat) (h : Heap) : Nat := match nwc with | true => w | false => h.size
def Ends (p : Program) (e : Env) (R : Room) (s : State) (below : List Frame) (Z : State) (EL : List (String × Nat)) (nw : Bool) (Q : Option Value → Heap → Prop) (t0 : State) : Prop :=
  ∃ t v L, Steps p.tables e below t0 t ∧ t.status = .running ∧ Ended t below (.returned v) ∧ Q v t.heap ∧ Fr Z.heap.size L ∧ CHr Z EL s.vm s.heap t.vm t.heap ∧ (nw = true → s.WarmedH t.vm ∧ ∀ y, Bk Z EL t.vm t.heap y → Bk Z EL s.vm s.heap y) ∧ Ext Z.heap t.heap ∧ ReturnedEndW s (.returned v) t L R.cells R.slots
def Goes (p : Program) (l : Launch) (e : Env) (R : Room) (s : State) (m : MethodId) (args : Array Value) (below : List Frame) (meth : Method) (c : Code) (Z : State) (EL : List (String × Nat)) (nw : Bool)
    (Q : Option Value → Heap → Prop) (F : List Addr) (w : Nat) (h : Heap) (k n : Nat) (f : JFrame) : Prop :=
  ∀ T vm0 locs k0, Here p l e R s m args below meth c Z EL nw F w h k n T vm0 locs k0 → Ends p e R s below Z EL nw Q (T.setTop f)
def Cxt (p : Program) (m : MethodId) (meth : Method) (c : Code) (Z : State) (a0 : Array Value) (EL : List (String × Nat)) (own mn : String) (bytes : ByteArray) (ml : Nat) (ret : Option FieldType) (Ws : List Jvm.Cond) : Prop :=
  p.tables.exec = Jvm.exec ∧ c.code = bytes ∧ c.maxLocals = ml ∧ Z.vm.findClass own = some m.cls ∧ meth.sig.returnType = ret ∧ meth.locks = false ∧ meth.name = mn ∧ (∀ d ∈ Ws, d.before a0 Z = true) ∧ EW Z a0 EL
/-- who pays a call -/
def Pays (p : Program) (l : Launch) (e : Env) (R : Room) (s : State) (args : Array Value) (below : List Frame) (Z : State) (EL : List (String × Nat)) (nw : Bool)
    (y : MethodName) (len W : Nat) (F : List Addr) (as' : Array Value) (h : Heap) (rc rs : Nat) (Qc : Option Value → Heap → Prop) : Prop :=
  ∀ vm0, Z.Warmed39 vm0 → CHv Z EL vm0 h → (∀ x ∈ F, x < h.size ∧ Safe Z EL vm0 h x) → Ext Z.heap h →
    BackS l R p e below (s.setVm vm0) args y len W (fun A a => a = as' ∧ A.U.heap = h ∧ A.cells + rc ≤ R.cells ∧ A.slots + rs ≤ R.slots)
      (fun A _ v B => ∃ L, Qc v B.U.heap ∧ Fr Z.heap.size L ∧ B.locs = A.locs ++ L ∧ B.cells = A.cells + rc ∧ B.slots = A.slots + rs ∧ CHr Z EL vm0 h B.U.vm B.U.heap ∧ (nw = true → (s.setVm vm0).WarmedH B.U.vm ∧ ∀ y, Bk Z EL B.U.vm B.U.heap y → Bk Z EL vm0 h y) ∧ Ext Z.heap B.U.heap)
/-- a method's contract -/
def Con (l : Launch) (Z : State) (EL : List (String × Nat)) (nw : Bool) (y : MethodName) (bytes : ByteArray) (maxL : Nat) (ret : Option FieldType) (rm : Room) (F : List Addr) (as' : Array Value) (h : Heap) (Q : Option Value → Heap → Prop) : Prop :=
  ∀ ws : List Jvm.Cond, MetFree l y (head1 (Jvm.Cond.code y bytes maxL ret :: ws) rm) (fun a U => a = as' ∧ Z.Warmed39 U.vm ∧ U.heap = h ∧ CHv Z EL U.vm h ∧ (∀ x ∈ F, x < h.size ∧ Safe Z EL U.vm h x) ∧ Ext Z.heap h) (fun _ _ _ _ _ => True)
    (fun _ U o U' => ∃ v L, o = .returned v ∧ Q v U'.heap ∧ Fr Z.heap.size L ∧ CHr Z EL U.vm U.heap U'.vm U'.heap ∧ (nw = true → U.WarmedH U'.vm ∧ ∀ y, Bk Z EL U'.vm U'.heap y → Bk Z EL U.vm U.heap y) ∧ Ext Z.heap U'.heap ∧ ReturnedEndW U o U' L rm.cells rm.slots)
section
variable {p : Program} {l : Launch} {e : Env} {R : Room} {s : State} {m : MethodId} {args : Array Value} {below : List Frame} {meth : Method} {c : Code} {Z : State} {a0 : Array Value} {EL : List (String × Nat)} {nw : Bool} {own mn : String} {bytes : ByteArray} {ml : Nat} {ret : Option FieldType} {Ws : List Jvm.Cond} {Q : Option Value → Heap → Prop} {F : List Addr} {w : Nat} {h : Heap} {k n : Nat} {pc nx : Nat} {Ls : Array Slot} {st : List Value}
theorem Cxt.own_at (C : Cxt p m meth c Z a0 EL own mn bytes ml ret Ws) {vm0 : Vm} (hZ : Z.Warmed39 vm0) : (s.setVm vm0).vm.findClass own = some m.cls := by
  show vm0.findClass own = _
  rw [hZ.alike.findClass]; exact C.2.2.2.1
theorem Cxt.wrd (C : Cxt p m meth c Z a0 EL own mn bytes ml ret Ws) {d : Jvm.Cond} (hd : d ∈ Ws) : d.before a0 Z = true := C.2.2.2.2.2.2.2.1 d hd
theorem Here.step {T T' : State} {vm0 : Vm} {locs locs' : List Loc} {k0 k' n' : Nat} {h' : Heap} {ws : List Addr} (H : Here p l e R s m args below meth c Z EL nw F w h k n T vm0 locs k0) (X' : Stand p l e R (s.setVm vm0) m args below meth c T' locs' k' n') (e' : T'.heap = h') (N' : Fr Z.heap.size locs') (K : Keep h h' ws) (hs : ∀ x ∈ ws, Safe Z EL vm0 h x ∧ Z.heap.size ≤ x) :
    Here p l e R s m args below meth c Z EL nw F w h' k' n' T' vm0 locs' k0 := by
  obtain ⟨X, eT, N, S, hk0, hZ, H1, hw, hF, O, hwm, hbk⟩ := H
  have hs1 : ∀ x ∈ ws, Safe Z EL vm0 h x := fun x hx => (hs x hx).1
  exact ⟨X', e', N', S, Nat.le_trans hk0 K.1, hZ, H1.trans (CHr.keep K hs1 H1.1), hw, fun x hx => ⟨Nat.lt_of_lt_of_le (hF x hx).1 K.1, (hF x hx).2.keep K hs1 H1.1⟩, (Old.keep (n0 := Z.heap.size) ⟨rfl, O⟩ K fun x hx => (hs x hx).2).2, fun x hx => (hwm x hx).keep K hs1 H1.1, fun q y hy => hbk q y ((H1.1.keepStep K hs1).2 y hy)⟩
theorem Goes.pure {f f' : JFrame} (stp : ∀ T vm0 locs, Stand p l e R (s.setVm vm0) m args below meth c T locs k n → ∀ t, Steps p.tables e below (T.setTop f') t → Steps p.tables e below (T.setTop f) t) (g : Goes p l e R s m args below meth c Z EL nw Q F w h k n f') : Goes p l e R s m args below meth c Z EL nw Q F w h k n f := by
  intro T vm0 locs k0 H
  obtain ⟨t, v, L, h1, r⟩ := g T vm0 locs k0 H
  exact ⟨t, v, L, stp T vm0 locs H.1 t h1, r⟩
theorem Goes.old {f : JFrame} (g : Ext Z.heap h → Goes p l e R s m args below meth c Z EL nw Q F w h k n f) : Goes p l e R s m args below meth c Z EL nw Q F w h k n f := fun T vm0 locs k0 H => g H.2.2.2.2.2.2.2.2.2.1 T vm0 locs k0 H
theorem Goes.more {f : JFrame} {k' n' : Nat} (hk : k ≤ k') (hn : n ≤ n') (g : Goes p l e R s m args below meth c Z EL nw Q F w h k' n' f) : Goes p l e R s m args below meth c Z EL nw Q F w h k n f := fun T vm0 locs k0 H => g T vm0 locs k0 ⟨H.1.more hk hn, H.2⟩
theorem Goes.less {f : JFrame} {F' : List Addr} (hF : ∀ x ∈ F', x ∈ F) (g : Goes p l e R s m args below meth c Z EL nw Q F' w h k n f) : Goes p l e R s m args below meth c Z EL nw Q F w h k n f := fun T vm0 locs k0 H => by
  obtain ⟨X, eT, N, S, hk0, hZ, H1, hw, hF1, O, hwm, hbk⟩ := H
  exact g T vm0 locs k0 ⟨X, eT, N, S, hk0, hZ, H1, hw, fun x hx => hF1 x (hF x hx), O, hwm, hbk⟩
theorem Goes.safeOf {f : JFrame} {a : Addr} (hs : ∀ vm0, Z.Warmed39 vm0 → CHr Z EL s.vm s.heap vm0 h → a < h.size ∧ Safe Z EL vm0 h a) (g : Goes p l e R s m args below meth c Z EL nw Q (a :: F) w h k n f) : Goes p l e R s m args below meth c Z EL nw Q F w h k n f := fun T vm0 locs k0 H => by
  obtain ⟨X, eT, N, S, hk0, hZ, H1, hw, hF1, O, hwm, hbk⟩ := H
  exact g T vm0 locs k0 ⟨X, eT, N, S, hk0, hZ, H1, hw, fun x hx => (List.mem_cons.mp hx).elim (fun q => by subst q; exact hs vm0 hZ H1) (hF1 x), O, hwm, hbk⟩
theorem Goes.cast {f f' : JFrame} (q : f = f') (g : Goes p l e R s m args below meth c Z EL nw Q F w h k n f') : Goes p l e R s m args below meth c Z EL nw Q F w h k n f := q ▸ g

/-- (char) x -/
def c16 (x : Int32) : Int32 := x.toUInt32.toUInt16.toUInt32.toInt32
/-- (byte) x -/
def b8 (x : Int32) : Int32 := x.toInt8.toInt32
theorem Cxt.aloadN (C : Cxt p m meth c Z a0 EL own mn bytes ml ret Ws) {i : Fin 4} {v : Value} (d : Dec bytes pc (.aload_n i) 1 nx) (hl : Ls[i.val]? = some (.val v)) (hv : v.isRef = true) (g : Goes p l e R s m args below meth c Z EL nw Q F w h k n (mkF m nx Ls (v :: st))) : Goes p l e R s m args below meth c Z EL nw Q F w h k n (mkF m pc Ls st) := by
  obtain ⟨d1, rfl⟩ := d
  exact Goes.pure (fun T vm0 locs X t ht => XS.aloadN X.here C.1 rfl (hb C.2.1 d1) hl hv ht) g
theorem Cxt.aload (C : Cxt p m meth c Z a0 EL own mn bytes ml ret Ws) {i : Nat} {v : Value} (d : Dec bytes pc (.aload i) 2 nx) (hl : Ls[i]? = some (.val v)) (hv : v.isRef = true) (g : Goes p l e R s m args below meth c Z EL nw Q F w h k n (mkF m nx Ls (v :: st))) : Goes p l e R s m args below meth c Z EL nw Q F w h k n (mkF m pc Ls st) := by
  obtain ⟨d1, rfl⟩ := d
  exact Goes.pure (fun T vm0 locs X t ht => XS.aload X.here C.1 rfl (hb C.2.1 d1) hl hv ht) g
theorem Cxt.iloadN (C : Cxt p m meth c Z a0 EL own mn bytes ml ret Ws) {i : Fin 4} {v : Int32} (d : Dec bytes pc (.iload_n i) 1 nx) (hl : Ls[i.val]? = some (.val (.int v))) (g : Goes p l e R s m args below meth c Z EL nw Q F w h k n (mkF m nx Ls (.int v :: st))) : Goes p l e R s m args below meth c Z EL nw Q F w h k n (mkF m pc Ls st) := by
  obtain ⟨d1, rfl⟩ := d
  exact Goes.pure (fun T vm0 locs X t ht => XS.iloadN X.here C.1 rfl (hb C.2.1 d1) hl ht) g
theorem Cxt.iload (C : Cxt p m meth c Z a0 EL own mn bytes ml ret Ws) {i : Nat} {v : Int32} (d : Dec bytes pc (.iload i) 2 nx) (hl : Ls[i]? = some (.val (.int v))) (g : Goes p l e R s m args below meth c Z EL nw Q F w h k n (mkF m nx Ls (.int v :: st))) : Goes p l e R s m args below meth c Z EL nw Q F w h k n (mkF m pc Ls st) := by
  obtain ⟨d1, rfl⟩ := d
  exact Goes.pure (fun T vm0 locs X t ht => XS.iload X.here C.1 rfl (hb C.2.1 d1) hl ht) g
theorem Cxt.lloadN (C : Cxt p m meth c Z a0 EL own mn bytes ml ret Ws) {i : Fin 4} {v : Int64} (d : Dec bytes pc (.lload_n i) 1 nx) (hl : Ls[i.val]? = some (.val (.long v))) (g : Goes p l e R s m args below meth c Z EL nw Q F w h k n (mkF m nx Ls (.long v :: st))) : Goes p l e R s m args below meth c Z EL nw Q F w h k n (mkF m pc Ls st) := by
  obtain ⟨d1, rfl⟩ := d
  exact Goes.pure (fun T vm0 locs X t ht => XT.lloadN X.here C.1 rfl (hb C.2.1 d1) hl ht) g
theorem Cxt.lload (C : Cxt p m meth c Z a0 EL own mn bytes ml ret Ws) {i : Nat} {v : Int64} (d : Dec bytes pc (.lload i) 2 nx) (hl : Ls[i]? = some (.val (.long v))) (g : Goes p l e R s m args below meth c Z EL nw Q F w h k n (mkF m nx Ls (.long v :: st))) : Goes p l e R s m args below meth c Z EL nw Q F w h k n (mkF m pc Ls st) := by
  obtain ⟨d1, rfl⟩ := d
  exact Goes.pure (fun T vm0 locs X t ht => XT.lload X.here C.1 rfl (hb C.2.1 d1) hl ht) g
theorem Cxt.iconst (C : Cxt p m meth c Z a0 EL own mn bytes ml ret Ws) {i : Int} (v : Int32) (d : Dec bytes pc (.iconst i) 1 nx) (hv : Int32.ofInt i = v) (g : Goes p l e R s m args below meth c Z EL nw Q F w h k n (mkF m nx Ls (.int v :: st))) : Goes p l e R s m args below meth c Z EL nw Q F w h k n (mkF m pc Ls st) := by
  subst hv; obtain ⟨d1, rfl⟩ := d
  exact Goes.pure (fun T vm0 locs X t ht => XS.iconst X.here C.1 rfl (hb C.2.1 d1) ht) g
theorem Cxt.bipush (C : Cxt p m meth c Z a0 EL own mn bytes ml ret Ws) {i : Int} (v : Int32) (d : Dec bytes pc (.bipush i) 2 nx) (hv : (Int8.ofInt i).toInt32 = v) (g : Goes p l e R s m args below meth c Z EL nw Q F w h k n (mkF m nx Ls (.int v :: st))) : Goes p l e R s m args below meth c Z EL nw Q F w h k n (mkF m pc Ls st) := by
  subst hv; obtain ⟨d1, rfl⟩ := d
  exact Goes.pure (fun T vm0 locs X t ht => XS.bipush X.here C.1 rfl (hb C.2.1 d1) ht) g
theorem Cxt.sipush (C : Cxt p m meth c Z a0 EL own mn bytes ml ret Ws) {i : Int} (v : Int32) (d : Dec bytes pc (.sipush i) 3 nx) (hv : (Int16.ofInt i).toInt32 = v) (g : Goes p l e R s m args below meth c Z EL nw Q F w h k n (mkF m nx Ls (.int v :: st))) : Goes p l e R s m args below meth c Z EL nw Q F w h k n (mkF m pc Ls st) := by
  subst hv; obtain ⟨d1, rfl⟩ := d
  exact Goes.pure (fun T vm0 locs X t ht => XS.sipush X.here C.1 rfl (hb C.2.1 d1) ht) g
theorem Cxt.aconst_null (C : Cxt p m meth c Z a0 EL own mn bytes ml ret Ws)  (d : Dec bytes pc (.aconst_null) 1 nx)  (g : Goes p l e R s m args below meth c Z EL nw Q F w h k n (mkF m nx Ls (.null :: st))) : Goes p l e R s m args below meth c Z EL nw Q F w h k n (mkF m pc Ls st) := by
  obtain ⟨d1, rfl⟩ := d
  exact Goes.pure (fun T vm0 locs X t ht => XS.aconstNull X.here C.1 rfl (hb C.2.1 d1) ht) g
theorem Cxt.lconst (C : Cxt p m meth c Z a0 EL own mn bytes ml ret Ws) {i : Fin 2} (d : Dec bytes pc (.lconst i) 1 nx)  (g : Goes p l e R s m args below meth c Z EL nw Q F w h k n (mkF m nx Ls (.long (Int64.ofNat i) :: st))) : Goes p l e R s m args below meth c Z EL nw Q F w h k n (mkF m pc Ls st) := by
  obtain ⟨d1, rfl⟩ := d
  exact Goes.pure (fun T vm0 locs X t ht => XT.lconst X.here C.1 rfl (hb C.2.1 d1) ht) g
theorem Cxt.iadd (C : Cxt p m meth c Z a0 EL own mn bytes ml ret Ws) {x y : Int32} (d : Dec bytes pc (.iadd) 1 nx)  (g : Goes p l e R s m args below meth c Z EL nw Q F w h k n (mkF m nx Ls (.int (x + y) :: st))) : Goes p l e R s m args below meth c Z EL nw Q F w h k n (mkF m pc Ls (.int y :: .int x :: st)) := by
  obtain ⟨d1, rfl⟩ := d
  exact Goes.pure (fun T vm0 locs X t ht => XS.iadd X.here C.1 rfl (hb C.2.1 d1) rfl ht) g
theorem Cxt.isub (C : Cxt p m meth c Z a0 EL own mn bytes ml ret Ws) {x y : Int32} (d : Dec bytes pc (.isub) 1 nx)  (g : Goes p l e R s m args below meth c Z EL nw Q F w h k n (mkF m nx Ls (.int (x - y) :: st))) : Goes p l e R s m args below meth c Z EL nw Q F w h k n (mkF m pc Ls (.int y :: .int x :: st)) := by
  obtain ⟨d1, rfl⟩ := d
  exact Goes.pure (fun T vm0 locs X t ht => XS.isub X.here C.1 rfl (hb C.2.1 d1) rfl ht) g
theorem Cxt.imul (C : Cxt p m meth c Z a0 EL own mn bytes ml ret Ws) {x y : Int32} (d : Dec bytes pc (.imul) 1 nx)  (g : Goes p l e R s m args below meth c Z EL nw Q F w h k n (mkF m nx Ls (.int (x * y) :: st))) : Goes p l e R s m args below meth c Z EL nw Q F w h k n (mkF m pc Ls (.int y :: .int x :: st)) := by
  obtain ⟨d1, rfl⟩ := d
  exact Goes.pure (fun T vm0 locs X t ht => XS.imul X.here C.1 rfl (hb C.2.1 d1) rfl ht) g
theorem Cxt.iand (C : Cxt p m meth c Z a0 EL own mn bytes ml ret Ws) {x y : Int32} (d : Dec bytes pc (.iand) 1 nx)  (g : Goes p l e R s m args below meth c Z EL nw Q F w h k n (mkF m nx Ls (.int (x &&& y) :: st))) : Goes p l e R s m args below meth c Z EL nw Q F w h k n (mkF m pc Ls (.int y :: .int x :: st)) := by
  obtain ⟨d1, rfl⟩ := d
  exact Goes.pure (fun T vm0 locs X t ht => XS.iand X.here C.1 rfl (hb C.2.1 d1) rfl ht) g
theorem Cxt.ior (C : Cxt p m meth c Z a0 EL own mn bytes ml ret Ws) {x y : Int32} (d : Dec bytes pc (.ior) 1 nx)  (g : Goes p l e R s m args below meth c Z EL nw Q F w h k n (mkF m nx Ls (.int (x ||| y) :: st))) : Goes p l e R s m args below meth c Z EL nw Q F w h k n (mkF m pc Ls (.int y :: .int x :: st)) := by
  obtain ⟨d1, rfl⟩ := d
  exact Goes.pure (fun T vm0 locs X t ht => XT.ior X.here C.1 rfl (hb C.2.1 d1) rfl ht) g
theorem Cxt.ixor (C : Cxt p m meth c Z a0 EL own mn bytes ml ret Ws) {x y : Int32} (d : Dec bytes pc (.ixor) 1 nx)  (g : Goes p l e R s m args below meth c Z EL nw Q F w h k n (mkF m nx Ls (.int (x ^^^ y) :: st))) : Goes p l e R s m args below meth c Z EL nw Q F w h k n (mkF m pc Ls (.int y :: .int x :: st)) := by
  obtain ⟨d1, rfl⟩ := d
  exact Goes.pure (fun T vm0 locs X t ht => XT.ixor X.here C.1 rfl (hb C.2.1 d1) rfl ht) g
theorem Cxt.ishl (C : Cxt p m meth c Z a0 EL own mn bytes ml ret Ws) {x y : Int32} (d : Dec bytes pc (.ishl) 1 nx)  (g : Goes p l e R s m args below meth c Z EL nw Q F w h k n (mkF m nx Ls (.int (x <<< (y &&& 31)) :: st))) : Goes p l e R s m args below meth c Z EL nw Q F w h k n (mkF m pc Ls (.int y :: .int x :: st)) := by
  obtain ⟨d1, rfl⟩ := d
  exact Goes.pure (fun T vm0 locs X t ht => XT.ishl X.here C.1 rfl (hb C.2.1 d1) rfl ht) g
theorem Cxt.ishr (C : Cxt p m meth c Z a0 EL own mn bytes ml ret Ws) {x y : Int32} (d : Dec bytes pc (.ishr) 1 nx)  (g : Goes p l e R s m args below meth c Z EL nw Q F w h k n (mkF m nx Ls (.int (x >>> (y &&& 31)) :: st))) : Goes p l e R s m args below meth c Z EL nw Q F w h k n (mkF m pc Ls (.int y :: .int x :: st)) := by
  obtain ⟨d1, rfl⟩ := d
  exact Goes.pure (fun T vm0 locs X t ht => XT.ishr X.here C.1 rfl (hb C.2.1 d1) rfl ht) g
theorem Cxt.iushr (C : Cxt p m meth c Z a0 EL own mn bytes ml ret Ws) {x y : Int32} (d : Dec bytes pc (.iushr) 1 nx)  (g : Goes p l e R s m args below meth c Z EL nw Q F w h k n (mkF m nx Ls (.int (XT.ushr x y) :: st))) : Goes p l e R s m args below meth c Z EL nw Q F w h k n (mkF m pc Ls (.int y :: .int x :: st)) := by
  obtain ⟨d1, rfl⟩ := d
  exact Goes.pure (fun T vm0 locs X t ht => XT.iushr X.here C.1 rfl (hb C.2.1 d1) rfl ht) g
theorem Cxt.idiv (C : Cxt p m meth c Z a0 EL own mn bytes ml ret Ws) {x y : Int32} (d : Dec bytes pc (.idiv) 1 nx) (hy : y ≠ 0) (g : Goes p l e R s m args below meth c Z EL nw Q F w h k n (mkF m nx Ls (.int (x / y) :: st))) : Goes p l e R s m args below meth c Z EL nw Q F w h k n (mkF m pc Ls (.int y :: .int x :: st)) := by
  obtain ⟨d1, rfl⟩ := d
  exact Goes.pure (fun T vm0 locs X t ht => XS.idiv X.here C.1 rfl (hb C.2.1 d1) rfl hy ht) g
theorem Cxt.irem (C : Cxt p m meth c Z a0 EL own mn bytes ml ret Ws) {x y : Int32} (d : Dec bytes pc (.irem) 1 nx) (hy : y ≠ 0) (g : Goes p l e R s m args below meth c Z EL nw Q F w h k n (mkF m nx Ls (.int (x % y) :: st))) : Goes p l e R s m args below meth c Z EL nw Q F w h k n (mkF m pc Ls (.int y :: .int x :: st)) := by
  obtain ⟨d1, rfl⟩ := d
  exact Goes.pure (fun T vm0 locs X t ht => iremM X C.1 rfl (hb C.2.1 d1) rfl hy ht) g
theorem Cxt.ineg (C : Cxt p m meth c Z a0 EL own mn bytes ml ret Ws) {x : Int32} (d : Dec bytes pc (.ineg) 1 nx)  (g : Goes p l e R s m args below meth c Z EL nw Q F w h k n (mkF m nx Ls (.int (-x) :: st))) : Goes p l e R s m args below meth c Z EL nw Q F w h k n (mkF m pc Ls (.int x :: st)) := by
  obtain ⟨d1, rfl⟩ := d
  exact Goes.pure (fun T vm0 locs X t ht => XS.ineg X.here C.1 rfl (hb C.2.1 d1) rfl ht) g
theorem Cxt.ladd (C : Cxt p m meth c Z a0 EL own mn bytes ml ret Ws) {x y : Int64} (d : Dec bytes pc (.ladd) 1 nx)  (g : Goes p l e R s m args below meth c Z EL nw Q F w h k n (mkF m nx Ls (.long (x + y) :: st))) : Goes p l e R s m args below meth c Z EL nw Q F w h k n (mkF m pc Ls (.long y :: .long x :: st)) := by
  obtain ⟨d1, rfl⟩ := d
  exact Goes.pure (fun T vm0 locs X t ht => XT.ladd X.here C.1 rfl (hb C.2.1 d1) rfl ht) g
theorem Cxt.lsub (C : Cxt p m meth c Z a0 EL own mn bytes ml ret Ws) {x y : Int64} (d : Dec bytes pc (.lsub) 1 nx)  (g : Goes p l e R s m args below meth c Z EL nw Q F w h k n (mkF m nx Ls (.long (x - y) :: st))) : Goes p l e R s m args below meth c Z EL nw Q F w h k n (mkF m pc Ls (.long y :: .long x :: st)) := by
  obtain ⟨d1, rfl⟩ := d
  exact Goes.pure (fun T vm0 locs X t ht => XT.lsub X.here C.1 rfl (hb C.2.1 d1) rfl ht) g
theorem Cxt.lmul (C : Cxt p m meth c Z a0 EL own mn bytes ml ret Ws) {x y : Int64} (d : Dec bytes pc (.lmul) 1 nx)  (g : Goes p l e R s m args below meth c Z EL nw Q F w h k n (mkF m nx Ls (.long (x * y) :: st))) : Goes p l e R s m args below meth c Z EL nw Q F w h k n (mkF m pc Ls (.long y :: .long x :: st)) := by
  obtain ⟨d1, rfl⟩ := d
  exact Goes.pure (fun T vm0 locs X t ht => XT.lmul X.here C.1 rfl (hb C.2.1 d1) rfl ht) g
theorem Cxt.land (C : Cxt p m meth c Z a0 EL own mn bytes ml ret Ws) {x y : Int64} (d : Dec bytes pc (.land) 1 nx)  (g : Goes p l e R s m args below meth c Z EL nw Q F w h k n (mkF m nx Ls (.long (x &&& y) :: st))) : Goes p l e R s m args below meth c Z EL nw Q F w h k n (mkF m pc Ls (.long y :: .long x :: st)) := by
  obtain ⟨d1, rfl⟩ := d
  exact Goes.pure (fun T vm0 locs X t ht => XT.land X.here C.1 rfl (hb C.2.1 d1) rfl ht) g
theorem Cxt.lor (C : Cxt p m meth c Z a0 EL own mn bytes ml ret Ws) {x y : Int64} (d : Dec bytes pc (.lor) 1 nx)  (g : Goes p l e R s m args below meth c Z EL nw Q F w h k n (mkF m nx Ls (.long (x ||| y) :: st))) : Goes p l e R s m args below meth c Z EL nw Q F w h k n (mkF m pc Ls (.long y :: .long x :: st)) := by
  obtain ⟨d1, rfl⟩ := d
  exact Goes.pure (fun T vm0 locs X t ht => XT.lor X.here C.1 rfl (hb C.2.1 d1) rfl ht) g
theorem Cxt.lxor (C : Cxt p m meth c Z a0 EL own mn bytes ml ret Ws) {x y : Int64} (d : Dec bytes pc (.lxor) 1 nx)  (g : Goes p l e R s m args below meth c Z EL nw Q F w h k n (mkF m nx Ls (.long (x ^^^ y) :: st))) : Goes p l e R s m args below meth c Z EL nw Q F w h k n (mkF m pc Ls (.long y :: .long x :: st)) := by
  obtain ⟨d1, rfl⟩ := d
  exact Goes.pure (fun T vm0 locs X t ht => XT.lxor X.here C.1 rfl (hb C.2.1 d1) rfl ht) g
theorem Cxt.lushr (C : Cxt p m meth c Z a0 EL own mn bytes ml ret Ws) {x : Int64} {y : Int32} (d : Dec bytes pc (.lushr) 1 nx)  (g : Goes p l e R s m args below meth c Z EL nw Q F w h k n (mkF m nx Ls (.long (XT.ushrL x y) :: st))) : Goes p l e R s m args below meth c Z EL nw Q F w h k n (mkF m pc Ls (.int y :: .long x :: st)) := by
  obtain ⟨d1, rfl⟩ := d
  exact Goes.pure (fun T vm0 locs X t ht => XT.lushr X.here C.1 rfl (hb C.2.1 d1) rfl ht) g
theorem Cxt.l2i (C : Cxt p m meth c Z a0 EL own mn bytes ml ret Ws) {x : Int64} (d : Dec bytes pc (.l2i) 1 nx)  (g : Goes p l e R s m args below meth c Z EL nw Q F w h k n (mkF m nx Ls (.int x.toInt32 :: st))) : Goes p l e R s m args below meth c Z EL nw Q F w h k n (mkF m pc Ls (.long x :: st)) := by
  obtain ⟨d1, rfl⟩ := d
  exact Goes.pure (fun T vm0 locs X t ht => XT.l2i X.here C.1 rfl (hb C.2.1 d1) rfl ht) g
theorem Cxt.i2l (C : Cxt p m meth c Z a0 EL own mn bytes ml ret Ws) {x : Int32} (d : Dec bytes pc (.i2l) 1 nx)  (g : Goes p l e R s m args below meth c Z EL nw Q F w h k n (mkF m nx Ls (.long x.toInt64 :: st))) : Goes p l e R s m args below meth c Z EL nw Q F w h k n (mkF m pc Ls (.int x :: st)) := by
  obtain ⟨d1, rfl⟩ := d
  exact Goes.pure (fun T vm0 locs X t ht => XT.i2l X.here C.1 rfl (hb C.2.1 d1) rfl ht) g
theorem Cxt.i2c (C : Cxt p m meth c Z a0 EL own mn bytes ml ret Ws) {x : Int32} (d : Dec bytes pc (.i2c) 1 nx)  (g : Goes p l e R s m args below meth c Z EL nw Q F w h k n (mkF m nx Ls (.int (c16 x) :: st))) : Goes p l e R s m args below meth c Z EL nw Q F w h k n (mkF m pc Ls (.int x :: st)) := by
  obtain ⟨d1, rfl⟩ := d
  exact Goes.pure (fun T vm0 locs X t ht => XT.i2c X.here C.1 rfl (hb C.2.1 d1) rfl ht) g
theorem Cxt.i2b (C : Cxt p m meth c Z a0 EL own mn bytes ml ret Ws) {x : Int32} (d : Dec bytes pc (.i2b) 1 nx)  (g : Goes p l e R s m args below meth c Z EL nw Q F w h k n (mkF m nx Ls (.int (b8 x) :: st))) : Goes p l e R s m args below meth c Z EL nw Q F w h k n (mkF m pc Ls (.int x :: st)) := by
  obtain ⟨d1, rfl⟩ := d
  exact Goes.pure (fun T vm0 locs X t ht => XT.i2b X.here C.1 rfl (hb C.2.1 d1) rfl ht) g
theorem Cxt.lcmp (C : Cxt p m meth c Z a0 EL own mn bytes ml ret Ws) {x y : Int64} (d : Dec bytes pc (.lcmp) 1 nx)  (g : Goes p l e R s m args below meth c Z EL nw Q F w h k n (mkF m nx Ls (.int (XT.cmpL x y) :: st))) : Goes p l e R s m args below meth c Z EL nw Q F w h k n (mkF m pc Ls (.long y :: .long x :: st)) := by
  obtain ⟨d1, rfl⟩ := d
  exact Goes.pure (fun T vm0 locs X t ht => XT.lcmp X.here C.1 rfl (hb C.2.1 d1) rfl ht) g
theorem Cxt.dup (C : Cxt p m meth c Z a0 EL own mn bytes ml ret Ws) {x : Value} (d : Dec bytes pc (.dup) 1 nx) (hc : x.category = 1) (g : Goes p l e R s m args below meth c Z EL nw Q F w h k n (mkF m nx Ls (x :: x :: st))) : Goes p l e R s m args below meth c Z EL nw Q F w h k n (mkF m pc Ls (x :: st)) := by
  obtain ⟨d1, rfl⟩ := d
  exact Goes.pure (fun T vm0 locs X t ht => XS.dup X.here C.1 rfl (hb C.2.1 d1) rfl hc ht) g
theorem Cxt.pop (C : Cxt p m meth c Z a0 EL own mn bytes ml ret Ws) {x : Value} (d : Dec bytes pc (.pop) 1 nx) (hc : x.category = 1) (g : Goes p l e R s m args below meth c Z EL nw Q F w h k n (mkF m nx Ls st)) : Goes p l e R s m args below meth c Z EL nw Q F w h k n (mkF m pc Ls (x :: st)) := by
  obtain ⟨d1, rfl⟩ := d
  exact Goes.pure (fun T vm0 locs X t ht => XT.pop X.here C.1 rfl (hb C.2.1 d1) rfl hc ht) g
theorem Cxt.dup_x1 (C : Cxt p m meth c Z a0 EL own mn bytes ml ret Ws) {x y : Value} (d : Dec bytes pc (.dup_x1) 1 nx) (hc : x.category = 1) (hc' : y.category = 1) (g : Goes p l e R s m args below meth c Z EL nw Q F w h k n (mkF m nx Ls (x :: y :: x :: st))) : Goes p l e R s m args below meth c Z EL nw Q F w h k n (mkF m pc Ls (x :: y :: st)) := by
  obtain ⟨d1, rfl⟩ := d
  exact Goes.pure (fun T vm0 locs X t ht => XT.dupX1 X.here C.1 rfl (hb C.2.1 d1) rfl hc hc' ht) g
theorem Cxt.dup2 (C : Cxt p m meth c Z a0 EL own mn bytes ml ret Ws) {x y : Value} (d : Dec bytes pc (.dup2) 1 nx) (hc : x.category = 1) (hc' : y.category = 1) (g : Goes p l e R s m args below meth c Z EL nw Q F w h k n (mkF m nx Ls (x :: y :: x :: y :: st))) : Goes p l e R s m args below meth c Z EL nw Q F w h k n (mkF m pc Ls (x :: y :: st)) := by
  obtain ⟨d1, rfl⟩ := d
  exact Goes.pure (fun T vm0 locs X t ht => XT.dup2 X.here C.1 rfl (hb C.2.1 d1) rfl hc hc' ht) g
theorem Cxt.lstoreN (C : Cxt p m meth c Z a0 EL own mn bytes ml ret Ws) {i : Fin 4} {x : Int64} {l' : Array Slot} (d : Dec bytes pc (.lstore_n i) 1 nx) (hl : storeLocals Ls i.val (.long x) = some l') (g : Goes p l e R s m args below meth c Z EL nw Q F w h k n (mkF m nx l' st)) : Goes p l e R s m args below meth c Z EL nw Q F w h k n (mkF m pc Ls (.long x :: st)) := by
  obtain ⟨d1, rfl⟩ := d
  exact Goes.pure (fun T vm0 locs X t ht => XT.lstoreN X.here C.1 rfl (hb C.2.1 d1) rfl hl ht) g
theorem Cxt.lstore (C : Cxt p m meth c Z a0 EL own mn bytes ml ret Ws) {i : Nat} {x : Int64} {l' : Array Slot} (d : Dec bytes pc (.lstore i) 2 nx) (hl : storeLocals Ls i (.long x) = some l') (g : Goes p l e R s m args below meth c Z EL nw Q F w h k n (mkF m nx l' st)) : Goes p l e R s m args below meth c Z EL nw Q F w h k n (mkF m pc Ls (.long x :: st)) := by
  obtain ⟨d1, rfl⟩ := d
  exact Goes.pure (fun T vm0 locs X t ht => XT.lstore X.here C.1 rfl (hb C.2.1 d1) rfl hl ht) g
def okS : Slot → Bool | .unset => true | .val w => w.category == 1 | .second => false
theorem store_ok {L : List Slot} {i : Nat} {o : Slot} {v : Value} (hold : L[i]? = some o) (ho : okS o = true) (hv : v.category = 1) : storeLocals ⟨L⟩ i v = some ⟨L.set i (.val v)⟩ := by
  have h1 : (⟨L⟩ : Array Slot)[i]? = some o := by simpa using hold
  have h2 : o = .unset ∨ ∃ w, o = .val w ∧ w.category = 1 := by
    cases o with
    | unset => exact Or.inl rfl
    | val w => exact Or.inr ⟨w, rfl, by simpa [okS] using ho⟩
    | second => simp [okS] at ho
  rw [XS.store1 h1 h2 hv]
  simp
theorem Cxt.istoreN (C : Cxt p m meth c Z a0 EL own mn bytes ml ret Ws) {L : List Slot} {o : Slot} {i : Fin 4} {x : Int32} (d : Dec bytes pc (.istore_n i) 1 nx) (hold : L[i.val]? = some o) (ho : okS o = true) (g : Goes p l e R s m args below meth c Z EL nw Q F w h k n (mkF m nx ⟨L.set i.val (.val (.int x))⟩ st)) : Goes p l e R s m args below meth c Z EL nw Q F w h k n (mkF m pc ⟨L⟩ (.int x :: st)) := by
  obtain ⟨d1, rfl⟩ := d
  exact Goes.pure (fun T vm0 locs X t ht => XS.istoreN X.here C.1 rfl (hb C.2.1 d1) rfl (store_ok hold ho rfl) ht) g
theorem Cxt.istore (C : Cxt p m meth c Z a0 EL own mn bytes ml ret Ws) {L : List Slot} {o : Slot} {i : Nat} {x : Int32} (d : Dec bytes pc (.istore i) 2 nx) (hold : L[i]? = some o) (ho : okS o = true) (g : Goes p l e R s m args below meth c Z EL nw Q F w h k n (mkF m nx ⟨L.set i (.val (.int x))⟩ st)) : Goes p l e R s m args below meth c Z EL nw Q F w h k n (mkF m pc ⟨L⟩ (.int x :: st)) := by
  obtain ⟨d1, rfl⟩ := d
  exact Goes.pure (fun T vm0 locs X t ht => XS.istore X.here C.1 rfl (hb C.2.1 d1) rfl (store_ok hold ho rfl) ht) g
theorem ref_cat {v : Value} (h : v.isRef = true) : v.category = 1 := by cases v <;> simp [Value.isRef] at h <;> rfl
theorem Cxt.astoreN (C : Cxt p m meth c Z a0 EL own mn bytes ml ret Ws) {L : List Slot} {o : Slot} {i : Fin 4} {x : Value} (d : Dec bytes pc (.astore_n i) 1 nx) (hv : x.isRef = true) (hold : L[i.val]? = some o) (ho : okS o = true) (g : Goes p l e R s m args below meth c Z EL nw Q F w h k n (mkF m nx ⟨L.set i.val (.val x)⟩ st)) : Goes p l e R s m args below meth c Z EL nw Q F w h k n (mkF m pc ⟨L⟩ (x :: st)) := by
  obtain ⟨d1, rfl⟩ := d
  exact Goes.pure (fun T vm0 locs X t ht => XS.astoreN X.here C.1 rfl (hb C.2.1 d1) rfl hv (store_ok hold ho (ref_cat hv)) ht) g
theorem Cxt.astore (C : Cxt p m meth c Z a0 EL own mn bytes ml ret Ws) {L : List Slot} {o : Slot} {i : Nat} {x : Value} (d : Dec bytes pc (.astore i) 2 nx) (hv : x.isRef = true) (hold : L[i]? = some o) (ho : okS o = true) (g : Goes p l e R s m args below meth c Z EL nw Q F w h k n (mkF m nx ⟨L.set i (.val x)⟩ st)) : Goes p l e R s m args below meth c Z EL nw Q F w h k n (mkF m pc ⟨L⟩ (x :: st)) := by
  obtain ⟨d1, rfl⟩ := d
  exact Goes.pure (fun T vm0 locs X t ht => XS.astore X.here C.1 rfl (hb C.2.1 d1) rfl hv (store_ok hold ho (ref_cat hv)) ht) g
theorem Cxt.iinc (C : Cxt p m meth c Z a0 EL own mn bytes ml ret Ws) {L : List Slot} {i : Nat} {cst : Int} {x : Int32} (y : Int32) (d : Dec bytes pc (.iinc i cst) 3 nx) (hy : Int32.ofInt cst = y) (hl : L[i]? = some (.val (.int x))) (g : Goes p l e R s m args below meth c Z EL nw Q F w h k n (mkF m nx ⟨L.set i (.val (.int (x + y)))⟩ st)) : Goes p l e R s m args below meth c Z EL nw Q F w h k n (mkF m pc ⟨L⟩ st) := by
  subst hy; obtain ⟨d1, rfl⟩ := d
  exact Goes.pure (fun T vm0 locs X t ht => XS.iinc X.here C.1 rfl (hb C.2.1 d1) (by simpa using hl) (store_ok hl rfl rfl) ht) g
theorem Cxt.goto (C : Cxt p m meth c Z a0 EL own mn bytes ml ret Ws) {o : Int} {tgt : Nat} (d : DecJ bytes pc (.goto o) o nx tgt) (g : Goes p l e R s m args below meth c Z EL nw Q F w h k n (mkF m tgt Ls st)) : Goes p l e R s m args below meth c Z EL nw Q F w h k n (mkF m pc Ls st) :=
  Goes.pure (fun T vm0 locs X t ht => XS.goto X.here C.1 rfl rfl (hb C.2.1 d.1) d.2.2.1 d.2.2.2 ht) g
theorem Cxt.if_eq (C : Cxt p m meth c Z a0 EL own mn bytes ml ret Ws) {o : Int} {tgt : Nat} {x : Int32} (d : DecJ bytes pc (.ifCond .eq o) o nx tgt) (g1 : x = 0 → Goes p l e R s m args below meth c Z EL nw Q F w h k n (mkF m tgt Ls st)) (g2 : ¬ x = 0 → Goes p l e R s m args below meth c Z EL nw Q F w h k n (mkF m nx Ls st)) : Goes p l e R s m args below meth c Z EL nw Q F w h k n (mkF m pc Ls (.int x :: st)) := by
  obtain ⟨d1, rfl, d3, d4⟩ := d
  by_cases q : x = 0
  · exact Goes.pure (fun T vm0 locs X t ht => XS.ifYes X.here C.1 rfl rfl (hb C.2.1 d1) rfl (XT.i0_eq_t q) d3 d4 ht) (g1 q)
  · exact Goes.pure (fun T vm0 locs X t ht => XS.ifNo X.here C.1 rfl (hb C.2.1 d1) rfl (XT.i0_eq_f q) ht) (g2 q)
theorem Cxt.if_ne (C : Cxt p m meth c Z a0 EL own mn bytes ml ret Ws) {o : Int} {tgt : Nat} {x : Int32} (d : DecJ bytes pc (.ifCond .ne o) o nx tgt) (g1 : ¬ x = 0 → Goes p l e R s m args below meth c Z EL nw Q F w h k n (mkF m tgt Ls st)) (g2 : x = 0 → Goes p l e R s m args below meth c Z EL nw Q F w h k n (mkF m nx Ls st)) : Goes p l e R s m args below meth c Z EL nw Q F w h k n (mkF m pc Ls (.int x :: st)) := by
  obtain ⟨d1, rfl, d3, d4⟩ := d
  by_cases q : x = 0
  · exact Goes.pure (fun T vm0 locs X t ht => XS.ifNo X.here C.1 rfl (hb C.2.1 d1) rfl (XT.i0_ne_f q) ht) (g2 q)
  · exact Goes.pure (fun T vm0 locs X t ht => XS.ifYes X.here C.1 rfl rfl (hb C.2.1 d1) rfl (XT.i0_ne_t q) d3 d4 ht) (g1 q)
theorem Cxt.if_lt (C : Cxt p m meth c Z a0 EL own mn bytes ml ret Ws) {o : Int} {tgt : Nat} {x : Int32} (d : DecJ bytes pc (.ifCond .lt o) o nx tgt) (g1 : x < 0 → Goes p l e R s m args below meth c Z EL nw Q F w h k n (mkF m tgt Ls st)) (g2 : ¬ x < 0 → Goes p l e R s m args below meth c Z EL nw Q F w h k n (mkF m nx Ls st)) : Goes p l e R s m args below meth c Z EL nw Q F w h k n (mkF m pc Ls (.int x :: st)) := by
  obtain ⟨d1, rfl, d3, d4⟩ := d
  by_cases q : x < 0
  · exact Goes.pure (fun T vm0 locs X t ht => XS.ifYes X.here C.1 rfl rfl (hb C.2.1 d1) rfl (XT.i0_lt_t q) d3 d4 ht) (g1 q)
  · exact Goes.pure (fun T vm0 locs X t ht => XS.ifNo X.here C.1 rfl (hb C.2.1 d1) rfl (XT.i0_lt_f q) ht) (g2 q)
theorem Cxt.if_ge (C : Cxt p m meth c Z a0 EL own mn bytes ml ret Ws) {o : Int} {tgt : Nat} {x : Int32} (d : DecJ bytes pc (.ifCond .ge o) o nx tgt) (g1 : ¬ x < 0 → Goes p l e R s m args below meth c Z EL nw Q F w h k n (mkF m tgt Ls st)) (g2 : x < 0 → Goes p l e R s m args below meth c Z EL nw Q F w h k n (mkF m nx Ls st)) : Goes p l e R s m args below meth c Z EL nw Q F w h k n (mkF m pc Ls (.int x :: st)) := by
  obtain ⟨d1, rfl, d3, d4⟩ := d
  by_cases q : x < 0
  · exact Goes.pure (fun T vm0 locs X t ht => XS.ifNo X.here C.1 rfl (hb C.2.1 d1) rfl (XT.i0_ge_f q) ht) (g2 q)
  · exact Goes.pure (fun T vm0 locs X t ht => XS.ifYes X.here C.1 rfl rfl (hb C.2.1 d1) rfl (XT.i0_ge_t q) d3 d4 ht) (g1 q)
theorem Cxt.if_gt (C : Cxt p m meth c Z a0 EL own mn bytes ml ret Ws) {o : Int} {tgt : Nat} {x : Int32} (d : DecJ bytes pc (.ifCond .gt o) o nx tgt) (g1 : 0 < x → Goes p l e R s m args below meth c Z EL nw Q F w h k n (mkF m tgt Ls st)) (g2 : ¬ 0 < x → Goes p l e R s m args below meth c Z EL nw Q F w h k n (mkF m nx Ls st)) : Goes p l e R s m args below meth c Z EL nw Q F w h k n (mkF m pc Ls (.int x :: st)) := by
  obtain ⟨d1, rfl, d3, d4⟩ := d
  by_cases q : 0 < x
  · exact Goes.pure (fun T vm0 locs X t ht => XS.ifYes X.here C.1 rfl rfl (hb C.2.1 d1) rfl (XT.i0_gt_t q) d3 d4 ht) (g1 q)
  · exact Goes.pure (fun T vm0 locs X t ht => XS.ifNo X.here C.1 rfl (hb C.2.1 d1) rfl (XT.i0_gt_f q) ht) (g2 q)
theorem Cxt.if_le (C : Cxt p m meth c Z a0 EL own mn bytes ml ret Ws) {o : Int} {tgt : Nat} {x : Int32} (d : DecJ bytes pc (.ifCond .le o) o nx tgt) (g1 : ¬ 0 < x → Goes p l e R s m args below meth c Z EL nw Q F w h k n (mkF m tgt Ls st)) (g2 : 0 < x → Goes p l e R s m args below meth c Z EL nw Q F w h k n (mkF m nx Ls st)) : Goes p l e R s m args below meth c Z EL nw Q F w h k n (mkF m pc Ls (.int x :: st)) := by
  obtain ⟨d1, rfl, d3, d4⟩ := d
  by_cases q : 0 < x
  · exact Goes.pure (fun T vm0 locs X t ht => XS.ifNo X.here C.1 rfl (hb C.2.1 d1) rfl (XT.i0_le_f q) ht) (g2 q)
  · exact Goes.pure (fun T vm0 locs X t ht => XS.ifYes X.here C.1 rfl rfl (hb C.2.1 d1) rfl (XT.i0_le_t q) d3 d4 ht) (g1 q)
theorem Cxt.icmp_eq (C : Cxt p m meth c Z a0 EL own mn bytes ml ret Ws) {o : Int} {tgt : Nat} {x y : Int32} (d : DecJ bytes pc (.if_icmp .eq o) o nx tgt) (g1 : x = y → Goes p l e R s m args below meth c Z EL nw Q F w h k n (mkF m tgt Ls st)) (g2 : ¬ x = y → Goes p l e R s m args below meth c Z EL nw Q F w h k n (mkF m nx Ls st)) : Goes p l e R s m args below meth c Z EL nw Q F w h k n (mkF m pc Ls (.int y :: .int x :: st)) := by
  obtain ⟨d1, rfl, d3, d4⟩ := d
  by_cases q : x = y
  · exact Goes.pure (fun T vm0 locs X t ht => XS.icmpYes X.here C.1 rfl rfl (hb C.2.1 d1) rfl (XT.ii_eq_t q) d3 d4 ht) (g1 q)
  · exact Goes.pure (fun T vm0 locs X t ht => XS.icmpNo X.here C.1 rfl (hb C.2.1 d1) rfl (XT.ii_eq_f q) ht) (g2 q)
theorem Cxt.icmp_ne (C : Cxt p m meth c Z a0 EL own mn bytes ml ret Ws) {o : Int} {tgt : Nat} {x y : Int32} (d : DecJ bytes pc (.if_icmp .ne o) o nx tgt) (g1 : ¬ x = y → Goes p l e R s m args below meth c Z EL nw Q F w h k n (mkF m tgt Ls st)) (g2 : x = y → Goes p l e R s m args below meth c Z EL nw Q F w h k n (mkF m nx Ls st)) : Goes p l e R s m args below meth c Z EL nw Q F w h k n (mkF m pc Ls (.int y :: .int x :: st)) := by
  obtain ⟨d1, rfl, d3, d4⟩ := d
  by_cases q : x = y
  · exact Goes.pure (fun T vm0 locs X t ht => XS.icmpNo X.here C.1 rfl (hb C.2.1 d1) rfl (XT.ii_ne_f q) ht) (g2 q)
  · exact Goes.pure (fun T vm0 locs X t ht => XS.icmpYes X.here C.1 rfl rfl (hb C.2.1 d1) rfl (XT.ii_ne_t q) d3 d4 ht) (g1 q)
theorem Cxt.icmp_lt (C : Cxt p m meth c Z a0 EL own mn bytes ml ret Ws) {o : Int} {tgt : Nat} {x y : Int32} (d : DecJ bytes pc (.if_icmp .lt o) o nx tgt) (g1 : x < y → Goes p l e R s m args below meth c Z EL nw Q F w h k n (mkF m tgt Ls st)) (g2 : ¬ x < y → Goes p l e R s m args below meth c Z EL nw Q F w h k n (mkF m nx Ls st)) : Goes p l e R s m args below meth c Z EL nw Q F w h k n (mkF m pc Ls (.int y :: .int x :: st)) := by
  obtain ⟨d1, rfl, d3, d4⟩ := d
  by_cases q : x < y
  · exact Goes.pure (fun T vm0 locs X t ht => XS.icmpYes X.here C.1 rfl rfl (hb C.2.1 d1) rfl (XT.ii_lt_t q) d3 d4 ht) (g1 q)
  · exact Goes.pure (fun T vm0 locs X t ht => XS.icmpNo X.here C.1 rfl (hb C.2.1 d1) rfl (XT.ii_lt_f q) ht) (g2 q)
theorem Cxt.icmp_ge (C : Cxt p m meth c Z a0 EL own mn bytes ml ret Ws) {o : Int} {tgt : Nat} {x y : Int32} (d : DecJ bytes pc (.if_icmp .ge o) o nx tgt) (g1 : ¬ x < y → Goes p l e R s m args below meth c Z EL nw Q F w h k n (mkF m tgt Ls st)) (g2 : x < y → Goes p l e R s m args below meth c Z EL nw Q F w h k n (mkF m nx Ls st)) : Goes p l e R s m args below meth c Z EL nw Q F w h k n (mkF m pc Ls (.int y :: .int x :: st)) := by
  obtain ⟨d1, rfl, d3, d4⟩ := d
  by_cases q : x < y
  · exact Goes.pure (fun T vm0 locs X t ht => XS.icmpNo X.here C.1 rfl (hb C.2.1 d1) rfl (XT.ii_ge_f q) ht) (g2 q)
  · exact Goes.pure (fun T vm0 locs X t ht => XS.icmpYes X.here C.1 rfl rfl (hb C.2.1 d1) rfl (XT.ii_ge_t q) d3 d4 ht) (g1 q)
theorem Cxt.icmp_gt (C : Cxt p m meth c Z a0 EL own mn bytes ml ret Ws) {o : Int} {tgt : Nat} {x y : Int32} (d : DecJ bytes pc (.if_icmp .gt o) o nx tgt) (g1 : y < x → Goes p l e R s m args below meth c Z EL nw Q F w h k n (mkF m tgt Ls st)) (g2 : ¬ y < x → Goes p l e R s m args below meth c Z EL nw Q F w h k n (mkF m nx Ls st)) : Goes p l e R s m args below meth c Z EL nw Q F w h k n (mkF m pc Ls (.int y :: .int x :: st)) := by
  obtain ⟨d1, rfl, d3, d4⟩ := d
  by_cases q : y < x
  · exact Goes.pure (fun T vm0 locs X t ht => XS.icmpYes X.here C.1 rfl rfl (hb C.2.1 d1) rfl (XT.ii_gt_t q) d3 d4 ht) (g1 q)
  · exact Goes.pure (fun T vm0 locs X t ht => XS.icmpNo X.here C.1 rfl (hb C.2.1 d1) rfl (XT.ii_gt_f q) ht) (g2 q)
theorem Cxt.icmp_le (C : Cxt p m meth c Z a0 EL own mn bytes ml ret Ws) {o : Int} {tgt : Nat} {x y : Int32} (d : DecJ bytes pc (.if_icmp .le o) o nx tgt) (g1 : ¬ y < x → Goes p l e R s m args below meth c Z EL nw Q F w h k n (mkF m tgt Ls st)) (g2 : y < x → Goes p l e R s m args below meth c Z EL nw Q F w h k n (mkF m nx Ls st)) : Goes p l e R s m args below meth c Z EL nw Q F w h k n (mkF m pc Ls (.int y :: .int x :: st)) := by
  obtain ⟨d1, rfl, d3, d4⟩ := d
  by_cases q : y < x
  · exact Goes.pure (fun T vm0 locs X t ht => XS.icmpNo X.here C.1 rfl (hb C.2.1 d1) rfl (XT.ii_le_f q) ht) (g2 q)
  · exact Goes.pure (fun T vm0 locs X t ht => XS.icmpYes X.here C.1 rfl rfl (hb C.2.1 d1) rfl (XT.ii_le_t q) d3 d4 ht) (g1 q)
theorem Cxt.ifnullY (C : Cxt p m meth c Z a0 EL own mn bytes ml ret Ws) {o : Int} {tgt : Nat} (d : DecJ bytes pc (.ifnull o) o nx tgt) (g : Goes p l e R s m args below meth c Z EL nw Q F w h k n (mkF m tgt Ls st)) : Goes p l e R s m args below meth c Z EL nw Q F w h k n (mkF m pc Ls (.null :: st)) :=
  Goes.pure (fun T vm0 locs X t ht => XS.ifnullYes X.here C.1 rfl rfl (hb C.2.1 d.1) rfl d.2.2.1 d.2.2.2 ht) g
theorem Cxt.ifnullN (C : Cxt p m meth c Z a0 EL own mn bytes ml ret Ws) {o : Int} {tgt : Nat} {b : Addr} (d : DecJ bytes pc (.ifnull o) o nx tgt) (g : Goes p l e R s m args below meth c Z EL nw Q F w h k n (mkF m nx Ls st)) : Goes p l e R s m args below meth c Z EL nw Q F w h k n (mkF m pc Ls (.ref b :: st)) := by
  obtain ⟨d1, rfl, d3, d4⟩ := d
  exact Goes.pure (fun T vm0 locs X t ht => XS.ifnullNo X.here C.1 rfl (hb C.2.1 d1) rfl ht) g
theorem Cxt.ifnonnullY (C : Cxt p m meth c Z a0 EL own mn bytes ml ret Ws) {o : Int} {tgt : Nat} {b : Addr} (d : DecJ bytes pc (.ifnonnull o) o nx tgt) (g : Goes p l e R s m args below meth c Z EL nw Q F w h k n (mkF m tgt Ls st)) : Goes p l e R s m args below meth c Z EL nw Q F w h k n (mkF m pc Ls (.ref b :: st)) :=
  Goes.pure (fun T vm0 locs X t ht => XT.ifnonnullYes X.here C.1 rfl rfl (hb C.2.1 d.1) rfl d.2.2.1 d.2.2.2 ht) g
theorem Cxt.ifnonnullN (C : Cxt p m meth c Z a0 EL own mn bytes ml ret Ws) {o : Int} {tgt : Nat} (d : DecJ bytes pc (.ifnonnull o) o nx tgt) (g : Goes p l e R s m args below meth c Z EL nw Q F w h k n (mkF m nx Ls st)) : Goes p l e R s m args below meth c Z EL nw Q F w h k n (mkF m pc Ls (.null :: st)) := by
  obtain ⟨d1, rfl, d3, d4⟩ := d
  exact Goes.pure (fun T vm0 locs X t ht => XT.ifnonnullNo X.here C.1 rfl (hb C.2.1 d1) rfl ht) g
theorem Cxt.acmp_eq (C : Cxt p m meth c Z a0 EL own mn bytes ml ret Ws) {o : Int} {tgt : Nat} {x y : Value} (d : DecJ bytes pc (.if_acmp .eq o) o nx tgt) (hx : x.isRef = true) (hy : y.isRef = true) (g1 : x = y → Goes p l e R s m args below meth c Z EL nw Q F w h k n (mkF m tgt Ls st)) (g2 : ¬ x = y → Goes p l e R s m args below meth c Z EL nw Q F w h k n (mkF m nx Ls st)) : Goes p l e R s m args below meth c Z EL nw Q F w h k n (mkF m pc Ls (y :: x :: st)) := by
  obtain ⟨d1, rfl, d3, d4⟩ := d
  by_cases q : x = y
  · exact Goes.pure (fun T vm0 locs X t ht => XT.acmpYes X.here C.1 rfl rfl (hb C.2.1 d1) rfl hx hy (by simp [XT.acmp, q]) d3 d4 ht) (g1 q)
  · exact Goes.pure (fun T vm0 locs X t ht => XT.acmpNo X.here C.1 rfl (hb C.2.1 d1) rfl hx hy (by simp [XT.acmp, q]) ht) (g2 q)
theorem Cxt.acmp_ne (C : Cxt p m meth c Z a0 EL own mn bytes ml ret Ws) {o : Int} {tgt : Nat} {x y : Value} (d : DecJ bytes pc (.if_acmp .ne o) o nx tgt) (hx : x.isRef = true) (hy : y.isRef = true) (g1 : ¬ x = y → Goes p l e R s m args below meth c Z EL nw Q F w h k n (mkF m tgt Ls st)) (g2 : x = y → Goes p l e R s m args below meth c Z EL nw Q F w h k n (mkF m nx Ls st)) : Goes p l e R s m args below meth c Z EL nw Q F w h k n (mkF m pc Ls (y :: x :: st)) := by
  obtain ⟨d1, rfl, d3, d4⟩ := d
  by_cases q : x = y
  · exact Goes.pure (fun T vm0 locs X t ht => XT.acmpNo X.here C.1 rfl (hb C.2.1 d1) rfl hx hy (by simp [XT.acmp, q]) ht) (g2 q)
  · exact Goes.pure (fun T vm0 locs X t ht => XT.acmpYes X.here C.1 rfl rfl (hb C.2.1 d1) rfl hx hy (by simp [XT.acmp, q]) d3 d4 ht) (g1 q)
theorem Cxt.ends (C : Cxt p m meth c Z a0 EL own mn bytes ml ret Ws) {T : State} {vm0 : Vm} {locs : List Loc} {k0 : Nat} (H : Here p l e R s m args below meth c Z EL nw F w h k n T vm0 locs k0) {v : Option Value} (hv : ret = none → v = none) (hq : Q v h) (hk : k ≤ R.cells) (hn : n ≤ R.slots) {f : JFrame}
    (stp : ∀ fs, (∀ (f : JFrame) (acts : List Action), f.method = m → f.locked = none → f.entered = [] → (doReturn e (T.setTop f) acts v).1 = T.setFrames fs) → Steps p.tables e below (T.setTop f) (T.setFrames fs)) : Ends p e R s below Z EL nw Q (T.setTop f) := by
  obtain ⟨X, eT, N, S, hk0, hZ, H1, hw, hF, O, hwm, hbk⟩ := H
  obtain ⟨fs, h1, h2, h3, h4⟩ := X.leaveW S (by rw [eT]; exact hk0) (v := v) (fun q => hv (C.2.2.2.2.1 ▸ q)) C.2.2.2.2.2.1
  have A := CHv.at X hZ C.2.2.2.2.2.2.2.2 H1.1
  refine ⟨T.setFrames fs, v, locs, stp fs h1, h2, h3, ?_, N, ?_, fun q => ⟨State.WarmedH.trans (hw q) X.warmed, ?_⟩, ?_, ⟨h4.1, h4.2.1, h4.2.2.1, h4.2.2.2.mono hk hn⟩⟩
  · show Q v T.heap; rw [eT]; exact hq
  · show CHr Z EL s.vm s.heap T.vm T.heap; rw [eT]; exact H1.trans A
  · intro y hy
    have hy' : Bk Z EL T.vm h y := eT ▸ hy
    rcases A.2.2 y hy' with z | z
    · exact hbk q y z
    · obtain ⟨cell, hcell⟩ := hy'.there
      exact absurd (Array.getElem?_eq_some_iff.mp hcell).1 (Nat.not_lt.mpr z)
  · show Ext Z.heap T.heap; rw [eT]; exact O
theorem Cxt.return_ (C : Cxt p m meth c Z a0 EL own mn bytes ml ret Ws) (d : Dec bytes pc .return_ 1 nx) (hr : ret = none) (hq : Q none h) (hk : k ≤ R.cells) (hn : n ≤ R.slots) : Goes p l e R s m args below meth c Z EL nw Q F w h k n (mkF m pc Ls []) := fun T vm0 locs k0 H =>
  C.ends H (fun _ => rfl) hq hk hn fun fs hl => H.1.returnOut C.1 (C.2.2.2.2.1.trans hr) (hb C.2.1 d.1) hl
theorem Cxt.ireturn (C : Cxt p m meth c Z a0 EL own mn bytes ml ret Ws) {t : FieldType} {v : Int32} (d : Dec bytes pc .ireturn 1 nx) (hr : ret = some t) (ht : t = .int ∨ t = .boolean ∨ t = .byte ∨ t = .char ∨ t = .short) (hnv : narrow t (.int v) = .int v) (hq : Q (some (.int v)) h) (hk : k ≤ R.cells) (hn : n ≤ R.slots) : Goes p l e R s m args below meth c Z EL nw Q F w h k n (mkF m pc Ls (.int v :: st)) := fun T vm0 locs k0 H =>
  C.ends H (fun q => by rw [hr] at q; cases q) hq hk hn fun fs hl => retOut H.1 C.1 (C.2.2.2.2.1.trans hr) hnv (Or.inl ⟨rfl, ht, v, rfl⟩) (hb C.2.1 d.1) hl
theorem Cxt.areturn (C : Cxt p m meth c Z a0 EL own mn bytes ml ret Ws) {t : FieldType} {v : Value} (d : Dec bytes pc .areturn 1 nx) (hr : ret = some t) (ht : t.isReference = true) (hv : v.isRef = true) (hnv : narrow t v = v) (hq : Q (some v) h) (hk : k ≤ R.cells) (hn : n ≤ R.slots) : Goes p l e R s m args below meth c Z EL nw Q F w h k n (mkF m pc Ls (v :: st)) := fun T vm0 locs k0 H =>
  C.ends H (fun q => by rw [hr] at q; cases q) hq hk hn fun fs hl => retOut H.1 C.1 (C.2.2.2.2.1.trans hr) hnv (Or.inr (Or.inr (Or.inr (Or.inr ⟨rfl, ht, hv⟩)))) (hb C.2.1 d.1) hl
theorem Cxt.new (C : Cxt p m meth c Z a0 EL own mn bytes ml ret Ws) {idx q : Nat} {cls : String} (d : Dec bytes pc (.new idx) 3 nx) (ww : Jvm.Cond.classLink own idx cls ∈ Ws) (wi : Jvm.Cond.instantiable cls q ∈ Ws) (wz : Jvm.Cond.initialized cls ∈ Ws) (hk : k + 1 ≤ R.cells) (hn : n + q ≤ R.slots)
    (g : ∀ h' a, @Eq Nat a h.size → Ext h h' → Exa Z h' a cls → (∀ {O nm d : String} {ty : FieldType}, Laid Z a0 cls O nm d → parseFieldDescriptor d = some ty → Fld Z h' a O nm d (defaultValue ty)) → Goes p l e R s m args below meth c Z EL nw Q (a :: F) w h' (k + 1) (n + q) (mkF m nx Ls (.ref a :: st))) : Goes p l e R s m args below meth c Z EL nw Q F w h k n (mkF m pc Ls st) := by
  obtain ⟨d1, rfl⟩ := d
  intro T vm0 locs k0 H
  obtain ⟨X, eT, N, S, hk0, hZ, H1, hw, hF, O, hwm, hbk⟩ := id H
  obtain ⟨T', h', X', e', E', A', D', -, st'⟩ := RoadKit.newO X C.1 hZ (C.own_at hZ) (C.wrd ww) (C.wrd wi) (C.wrd wz) eT (g := mkF m pc Ls st) rfl (hb C.2.1 d1) hk hn
  obtain ⟨X2, eT2, N2, S2, hk2, hZ2, H2, hw2, hF2, O2, hwm2, hbk2⟩ := H.step X' e' N (keep_ext E' []) (fun x hx => nomatch hx)
  obtain ⟨t, v, L, h1, r⟩ := g h' h.size rfl E' A' D' T' vm0 locs k0 ⟨X2, eT2, N2, S2, hk2, hZ2, H2, hw2, fun x hx => (List.mem_cons.mp hx).elim (fun q => by subst q; exact ⟨A'.lt, (Safe.new (Nat.le_refl _)).ext E' H1.1⟩) (hF2 x), O2, hwm2, hbk2⟩
  exact ⟨t, v, L, st' _ h1, r⟩
theorem Cxt.getF (C : Cxt p m meth c Z a0 EL own mn bytes ml ret Ws) {idx : Nat} {O fn fd : String} {a : Addr} {v : Value} (d : Dec bytes pc (.getfield idx) 3 nx) (ww : Jvm.Cond.fieldLink own idx O fn fd ∈ Ws) (A : Fld Z h a O fn fd v) (g : Goes p l e R s m args below meth c Z EL nw Q F w h k n (mkF m nx Ls (v :: st))) : Goes p l e R s m args below meth c Z EL nw Q F w h k n (mkF m pc Ls (.ref a :: st)) := by
  obtain ⟨d1, rfl⟩ := d
  intro T vm0 locs k0 H
  obtain ⟨T', X', e', st'⟩ := RoadKit.getF H.1 C.1 H.2.2.2.2.2.1 (C.own_at H.2.2.2.2.2.1) (host := "") (Or.inl (C.wrd ww)) Via.refl H.2.1 A (g := mkF m pc Ls (.ref a :: st)) rfl rfl (hb C.2.1 d1)
  obtain ⟨t, v, L, h1, r⟩ := g T' vm0 locs k0 (H.step X' e' H.2.2.1 (Keep.refl _ []) (fun x hx => nomatch hx))
  exact ⟨t, v, L, st' _ h1, r⟩
theorem Cxt.getFV (C : Cxt p m meth c Z a0 EL own mn bytes ml ret Ws) {idx : Nat} {R0 O fn fd : String} {a : Addr} {v : Value} (d : Dec bytes pc (.getfield idx) 3 nx) (ww : Jvm.Cond.fieldLink own idx R0 fn fd ∈ Ws) (wv : Jvm.Cond.sameField R0 O fn fd ∈ Ws) (A : Fld Z h a O fn fd v) (g : Goes p l e R s m args below meth c Z EL nw Q F w h k n (mkF m nx Ls (v :: st))) : Goes p l e R s m args below meth c Z EL nw Q F w h k n (mkF m pc Ls (.ref a :: st)) := by
  obtain ⟨d1, rfl⟩ := d
  intro T vm0 locs k0 H
  obtain ⟨T', X', e', st'⟩ := RoadKit.getF H.1 C.1 H.2.2.2.2.2.1 (C.own_at H.2.2.2.2.2.1) (host := "") (Or.inl (C.wrd ww)) (Via.of (C.wrd wv)) H.2.1 A (g := mkF m pc Ls (.ref a :: st)) rfl rfl (hb C.2.1 d1)
  obtain ⟨t, v, L, h1, r⟩ := g T' vm0 locs k0 (H.step X' e' H.2.2.1 (Keep.refl _ []) (fun x hx => nomatch hx))
  exact ⟨t, v, L, st' _ h1, r⟩
theorem Cxt.getS (C : Cxt p m meth c Z a0 EL own mn bytes ml ret Ws) {idx : Nat} {O fn fd : String} {v : Value} (d : Dec bytes pc (.getstatic idx) 3 nx) (ww : Jvm.Cond.fieldLink own idx O fn fd ∈ Ws) (A : Sta Z Z.heap O fn fd v) (g : Goes p l e R s m args below meth c Z EL nw Q F w h k n (mkF m nx Ls (v :: st))) : Goes p l e R s m args below meth c Z EL nw Q F w h k n (mkF m pc Ls st) := by
  obtain ⟨d1, rfl⟩ := d
  intro T vm0 locs k0 H
  obtain ⟨T', X', e', st'⟩ := RoadKit.getS H.1 C.1 H.2.2.2.2.2.1 (C.own_at H.2.2.2.2.2.1) (host := "") (C.wrd ww) Via.refl H.2.1 (A.ext H.2.2.2.2.2.2.2.2.2.1) (g := mkF m pc Ls st) rfl (hb C.2.1 d1)
  obtain ⟨t, v, L, h1, r⟩ := g T' vm0 locs k0 (H.step X' e' H.2.2.1 (Keep.refl _ []) (fun x hx => nomatch hx))
  exact ⟨t, v, L, st' _ h1, r⟩
theorem Cxt.putF (C : Cxt p m meth c Z a0 EL own mn bytes ml ret Ws) {idx kk : Nat} {O cls fn fd : String} {ty : FieldType} {a : Addr} {v old : Value} (d : Dec bytes pc (.putfield idx) 3 nx) (ww : Jvm.Cond.fieldLink own idx O fn fd ∈ Ws) (A : Fld Z h a O fn fd old) (E : Exa Z h a cls)
    (Ly : Jvm.Cond.lays cls O fn fd ∈ Ws ∨ (Jvm.Cond.laysFinal cls O fn fd ∈ Ws ∧ own = O ∧ mn = "<init>")) (wi : Jvm.Cond.instantiable cls kk ∈ Ws) (hty : parseFieldDescriptor fd = some ty) (hnv : narrow ty v = v) (hf : fits ty v = true) (na : Z.heap.size ≤ a) (sf : a ∈ F ∨ w ≤ a ∨ (cls ≠ "java/lang/String" ∧ cls ≠ "[B"))
    (g : ∀ h', Wr h h' a (RoadKit.slotOf Z O fn fd) v → Goes p l e R s m args below meth c Z EL nw Q F w h' k n (mkF m nx Ls st)) : Goes p l e R s m args below meth c Z EL nw Q F w h k n (mkF m pc Ls (v :: .ref a :: st)) := by
  obtain ⟨d1, rfl⟩ := d
  intro T vm0 locs k0 H
  obtain ⟨X, eT, N, S, hk0, hZ, H1, hw, hF, O', hwm, hbk⟩ := id H
  obtain ⟨T', h', X', e', W', st'⟩ := RoadKit.putF X C.1 hZ (C.own_at hZ) (host := "") (Or.inl (C.wrd ww)) Via.refl eT A E (Ly.imp C.wrd fun q => ⟨C.wrd q.1, q.2.1, C.2.2.2.2.2.2.1.trans q.2.2⟩) (C.wrd wi) hty hnv hf (g := mkF m pc Ls (v :: .ref a :: st)) rfl rfl (hb C.2.1 d1)
  have sa : Safe Z EL vm0 h a := sf.elim (fun q => (hF a q).2) fun q => q.elim (hwm a) fun q => Safe.exa hZ.alike E q.1 q.2
  obtain ⟨t, v, L, h1, r⟩ := g h' W' T' vm0 _ k0 (H.step X' e' (Fr.snoc X' N na) (Keep.of_wr W') (fun x hx => by cases List.mem_singleton.mp hx; exact ⟨sa, na⟩))
  exact ⟨t, v, L, st' _ h1, r⟩
theorem Cxt.initO (C : Cxt p m meth c Z a0 EL own mn bytes ml ret Ws) {idx : Nat} {a : Addr} (d : Dec bytes pc (.invokespecial idx) 3 nx) (w1 : Jvm.Cond.methodLink own idx Lib.objectInit ∈ Ws) (w2 : Jvm.Cond.instanceMethod Lib.objectInit ∈ Ws) (w3 : Jvm.Cond.code Lib.objectInit ⟨#[0xb1]⟩ 1 none ∈ Ws) (hsz : Ls.size = ml) (hf : 1 ≤ R.frames) (hl : (st.map fun v => v.category).sum + 12 ≤ R.locals)
    (g : Goes p l e R s m args below meth c Z EL nw Q F w h k n (mkF m nx Ls st)) : Goes p l e R s m args below meth c Z EL nw Q F w h k n (mkF m pc Ls (.ref a :: st)) := by
  obtain ⟨d1, rfl⟩ := d
  intro T vm0 locs k0 H
  obtain ⟨T', X', e', st'⟩ := RoadKit.initO H.1 C.1 H.2.2.2.2.2.1 (C.own_at H.2.2.2.2.2.1) (C.wrd w1) (C.wrd w2) (C.wrd w3) H.2.1 (g := mkF m pc Ls (.ref a :: st)) rfl (hsz.trans C.2.2.1.symm) rfl (hb C.2.1 d1) hf (W := (st.map fun v => v.category).sum) (by show 2 * 0 + _ ≤ _; omega) hl
  obtain ⟨t, v, L, h1, r⟩ := g T' vm0 locs k0 (H.step X' e' H.2.2.1 (Keep.refl _ []) (fun x hx => nomatch hx))
  exact ⟨t, v, L, st' _ h1, r⟩
/-- the array at a holds just these values -/
def Arl (Z : State) (h : Heap) (a : Addr) (ty : FieldType) (vs : List Value) : Prop := ∃ cl : Cell, Arr Z h a cl ty ∧ cl.slots.toList = vs ∧ vs.length < 2 ^ 31 ∧ ∀ v ∈ vs, fits ty v = true
theorem Arl.lt {a : Addr} {ty : FieldType} {vs : List Value} (A : Arl Z h a ty vs) : a < h.size := by obtain ⟨cl, A, -⟩ := A; exact A.lt
theorem Arl.ext {h' : Heap} {a : Addr} {ty : FieldType} {vs : List Value} (A : Arl Z h a ty vs) (E : Ext h h') : Arl Z h' a ty vs := by obtain ⟨cl, A, r⟩ := A; exact ⟨cl, A.ext E, r⟩
theorem Arl.other {h' : Heap} {a b : Addr} {sl : Nat} {w : Value} {ty : FieldType} {vs : List Value} (A : Arl Z h a ty vs) (W : Wr h h' b sl w) (q : a ≠ b) : Arl Z h' a ty vs := by obtain ⟨cl, A, r⟩ := A; exact ⟨cl, A.other W q, r⟩
theorem Arl.keep {h' : Heap} {a : Addr} {ws : List Addr} {ty : FieldType} {vs : List Value} (A : Arl Z h a ty vs) (K : Keep h h' ws) (q : a ∉ ws) : Arl Z h' a ty vs := by obtain ⟨cl, A, r⟩ := A; exact ⟨cl, ⟨K.2.1 a cl A.1 q, A.2⟩, r⟩
theorem Arl.len {a : Addr} {ty : FieldType} {vs : List Value} (A : Arl Z h a ty vs) : vs.length < 2 ^ 31 := by obtain ⟨cl, A, r⟩ := A; exact r.2.1
theorem Arl.set {h' : Heap} {a : Addr} {i : Nat} {w : Value} {ty : FieldType} {vs : List Value} (A : Arl Z h a ty vs) (W : Wr h h' a i w) (hw : fits ty w = true) : Arl Z h' a ty (vs.set i w) := by
  obtain ⟨cl, A, rfl, r2, r3⟩ := A
  refine ⟨_, A.same W, ?_, ?_, ?_⟩
  · simp [Cell.setSlot]
  · simpa using r2
  · intro v hv
    rcases List.mem_or_eq_of_mem_set hv with q | rfl
    · exact r3 v q
    · exact hw
theorem Arl.safe {vm0 : Vm} {a : Addr} {ty : FieldType} {vs : List Value} (hal : Z.vm.Alike vm0) (A : Arl Z h a ty vs) (ht : ty ≠ .byte) : Safe Z EL vm0 h a := by obtain ⟨cl, A, -⟩ := A; exact Safe.arr hal A ht
theorem Cxt.newarray (C : Cxt p m meth c Z a0 EL own mn bytes ml ret Ws) {aty : ArrayType} {q : Nat} {z : Int32} (d : Dec bytes pc (.newarray aty) 2 nx) (ww : Jvm.Cond.arrayClass (newarray.typeOf aty) ∈ Ws) (hz : ¬ z < 0) (hzq : z.toNatClampNeg = q) (hq : q ≤ 60000000) (hk : k + 1 ≤ R.cells) (hn : n + q ≤ R.slots)
    (g : ∀ h' a, @Eq Nat a h.size → Ext h h' → a < h'.size → Arl Z h' a (newarray.typeOf aty) (List.replicate q (defaultValue (newarray.typeOf aty))) → Goes p l e R s m args below meth c Z EL nw Q (a :: F) w h' (k + 1) (n + q) (mkF m nx Ls (.ref a :: st))) : Goes p l e R s m args below meth c Z EL nw Q F w h k n (mkF m pc Ls (.int z :: st)) := by
  obtain ⟨d1, rfl⟩ := d
  intro T vm0 locs k0 H
  obtain ⟨X, eT, N, S, hk0, hZ, H1, hw, hF, O, hwm, hbk⟩ := id H
  obtain ⟨T', h', cA, X', e', E', A', st'⟩ := newP X C.1 hZ (C.wrd ww) eT (g := mkF m pc Ls (.int z :: st)) rfl (hb C.2.1 d1) rfl hz (cap := q) (Nat.le_of_eq hzq) (by omega) hk hn
  obtain ⟨X2, eT2, N2, S2, hk2, hZ2, H2, hw2, hF2, O2, hwm2, hbk2⟩ := H.step X' e' N (keep_ext E' []) (fun x hx => nomatch hx)
  have AL : Arl Z h' h.size (newarray.typeOf aty) (List.replicate q (defaultValue (newarray.typeOf aty))) := ⟨_, A', by simp [newA, hzq], by rw [List.length_replicate]; omega, fun v hv => by rw [List.eq_of_mem_replicate hv]; cases aty <;> rfl⟩
  obtain ⟨t, v, L, h1, r⟩ := g h' h.size rfl E' A'.lt AL T' vm0 locs k0 ⟨X2, eT2, N2, S2, hk2, hZ2, H2, hw2, fun x hx => (List.mem_cons.mp hx).elim (fun q => by subst q; exact ⟨A'.lt, (Safe.new (Nat.le_refl _)).ext E' H1.1⟩) (hF2 x), O2, hwm2, hbk2⟩
  exact ⟨t, v, L, st' _ h1, r⟩
theorem Cxt.cloneA (C : Cxt p m meth c Z a0 EL own mn bytes ml ret Ws) {idx q : Nat} {ad : String} {a : Addr} {ty : FieldType} {vs : List Value} (d : Dec bytes pc (.invokevirtual idx) 3 nx) (w1 : Jvm.Cond.methodLink own idx ⟨ad, "clone", "()Ljava/lang/Object;"⟩ ∈ Ws) (w2 : Jvm.Cond.sameMethod ad "java/lang/Object" "clone" "()Ljava/lang/Object;" ∈ Ws) (w3 : Jvm.Cond.native ⟨"java/lang/Object", "clone", "()Ljava/lang/Object;"⟩ ∈ Ws) (w4 : Jvm.Cond.instanceMethod ⟨"java/lang/Object", "clone", "()Ljava/lang/Object;"⟩ ∈ Ws) (w5 : Jvm.Cond.selects ad ⟨ad, "clone", "()Ljava/lang/Object;"⟩ ⟨"java/lang/Object", "clone", "()Ljava/lang/Object;"⟩ ∈ Ws) (w6 : Jvm.Cond.castable ad "java/lang/Cloneable" ∈ Ws)
    (A : Arl Z h a ty vs) (E : Exa Z h a ad) (hsz : Ls.size = ml) (hf : 1 ≤ R.frames) (hl : (st.map fun v => v.category).sum + 14 ≤ R.locals) (hq : vs.length = q) (hk : k + 1 ≤ R.cells) (hn : n + q ≤ R.slots)
    (g : ∀ h' b, @Eq Nat b h.size → Ext h h' → Arl Z h' b ty vs → Exa Z h' b ad → Goes p l e R s m args below meth c Z EL nw Q (b :: F) w h' (k + 1) (n + q) (mkF m nx Ls (.ref b :: st))) : Goes p l e R s m args below meth c Z EL nw Q F w h k n (mkF m pc Ls (.ref a :: st)) := by
  obtain ⟨d1, rfl⟩ := d
  intro T vm0 locs k0 H
  obtain ⟨X, eT, N, S, hk0, hZ, H1, hw, hF, O, hwm, hbk⟩ := id H
  obtain ⟨cl, A0, q1, q2, q3⟩ := id A
  obtain ⟨T', h', X', e', E', A', X2', st'⟩ := RoadKit.cloneA X C.1 hZ (C.own_at hZ) (C.wrd w1) (C.wrd w2) (C.wrd w3) (C.wrd w4) (C.wrd w5) (C.wrd w6) eT A0 E (fitC_of A0 fun i hi v hv => q3 v (by rw [← q1]; exact List.mem_of_getElem? (i := i) (by rw [Array.getElem?_toList]; exact hv))) (g := mkF m pc Ls (.ref a :: st)) rfl (hsz.trans C.2.2.1.symm) rfl (hb C.2.1 d1) hf (W := (st.map fun v => v.category).sum) (by show 2 * 0 + _ ≤ _; omega) hl (cap := q) (by rw [← hq, ← q1]; simp) hk hn
  obtain ⟨X2, eT2, N2, S2, hk2, hZ2, H2, hw2, hF2, O2, hwm2, hbk2⟩ := H.step X' e' N (keep_ext E' []) (fun x hx => nomatch hx)
  obtain ⟨t, v, L, h1, r⟩ := g h' h.size rfl E' ⟨_, A', q1, q2, q3⟩ X2' T' vm0 locs k0 ⟨X2, eT2, N2, S2, hk2, hZ2, H2, hw2, fun x hx => (List.mem_cons.mp hx).elim (fun q => by subst q; exact ⟨A'.lt, (Safe.new (Nat.le_refl _)).ext E' H1.1⟩) (hF2 x), O2, hwm2, hbk2⟩
  exact ⟨t, v, L, st' _ h1, r⟩
theorem inb {cl : Cell} {j : Int32} {i : Nat} (hi : j.toNatClampNeg = i) (hj : ¬ j < 0) (hlt : i < cl.slots.toList.length) : ¬ (j < 0 ∨ cl.slots.size ≤ j.toNatClampNeg) := by
  rw [hi]; intro q; rcases q with q | q
  · exact hj q
  · simp at hlt; omega
theorem Cxt.arraylength (C : Cxt p m meth c Z a0 EL own mn bytes ml ret Ws) {a : Addr} {ty : FieldType} {vs : List Value} (d : Dec bytes pc .arraylength 1 nx) (A : Arl Z h a ty vs) (g : Goes p l e R s m args below meth c Z EL nw Q F w h k n (mkF m nx Ls (.int (Int32.ofNat vs.length) :: st))) : Goes p l e R s m args below meth c Z EL nw Q F w h k n (mkF m pc Ls (.ref a :: st)) := by
  obtain ⟨d1, rfl⟩ := d
  intro T vm0 locs k0 H
  obtain ⟨t, v, L, h1, r⟩ := g T vm0 locs k0 H
  obtain ⟨cl, A, rfl, r2, r3⟩ := A
  refine ⟨t, v, L, H.1.arraylength C.1 (by rw [H.2.1]; exact A.1) (State.isArrayOf_alike H.2.2.2.2.2.1.alike A.2.1) (g := mkF m pc Ls (.ref a :: st)) rfl rfl (hb C.2.1 d1) _ ?_, r⟩
  have q : cl.slots.size.toInt32 = Int32.ofNat cl.slots.toList.length := by simp
  rw [q]; exact h1
theorem Cxt.caload (C : Cxt p m meth c Z a0 EL own mn bytes ml ret Ws) {a : Addr} {vs : List Value} {j : Int32} {i : Nat} {v : Value} (d : Dec bytes pc .caload 1 nx) (A : Arl Z h a .char vs) (hj : ¬ j < 0) (hi : j.toNatClampNeg = i) (hv : vs[i]? = some v) (g : Goes p l e R s m args below meth c Z EL nw Q F w h k n (mkF m nx Ls (v :: st))) : Goes p l e R s m args below meth c Z EL nw Q F w h k n (mkF m pc Ls (.int j :: .ref a :: st)) := by
  obtain ⟨d1, rfl⟩ := d
  intro T vm0 locs k0 H
  obtain ⟨t, v', L, h1, r⟩ := g T vm0 locs k0 H
  obtain ⟨cl, A, rfl, r2, r3⟩ := A
  exact ⟨t, v', L, H.1.caload C.1 (by rw [H.2.1]; exact A.1) (State.isArrayOf_alike H.2.2.2.2.2.1.alike A.2.1) A.2.2 (inb hi hj (List.getElem?_eq_some_iff.mp hv).1) (v := v) (by rw [hi]; simpa using hv) (g := mkF m pc Ls (.int j :: .ref a :: st)) rfl rfl (hb C.2.1 d1) _ h1, r⟩
theorem Cxt.baload (C : Cxt p m meth c Z a0 EL own mn bytes ml ret Ws) {a : Addr} {vs : List Value} {j : Int32} {i : Nat} {v : Value} (d : Dec bytes pc .baload 1 nx) (A : Arl Z h a .byte vs) (hj : ¬ j < 0) (hi : j.toNatClampNeg = i) (hv : vs[i]? = some v) (g : Goes p l e R s m args below meth c Z EL nw Q F w h k n (mkF m nx Ls (v :: st))) : Goes p l e R s m args below meth c Z EL nw Q F w h k n (mkF m pc Ls (.int j :: .ref a :: st)) := by
  obtain ⟨d1, rfl⟩ := d
  intro T vm0 locs k0 H
  obtain ⟨t, v', L, h1, r⟩ := g T vm0 locs k0 H
  obtain ⟨cl, A, rfl, r2, r3⟩ := A
  exact ⟨t, v', L, H.1.baloadBytes C.1 (by rw [H.2.1]; exact A.1) (State.isArrayOf_alike H.2.2.2.2.2.1.alike A.2.1) A.2.2 (inb hi hj (List.getElem?_eq_some_iff.mp hv).1) (v := v) (by rw [hi]; simpa using hv) (g := mkF m pc Ls (.int j :: .ref a :: st)) rfl rfl (hb C.2.1 d1) _ h1, r⟩
theorem Cxt.iaload (C : Cxt p m meth c Z a0 EL own mn bytes ml ret Ws) {a : Addr} {vs : List Value} {j : Int32} {i : Nat} {v : Value} (d : Dec bytes pc .iaload 1 nx) (A : Arl Z h a .int vs) (hj : ¬ j < 0) (hi : j.toNatClampNeg = i) (hv : vs[i]? = some v) (g : Goes p l e R s m args below meth c Z EL nw Q F w h k n (mkF m nx Ls (v :: st))) : Goes p l e R s m args below meth c Z EL nw Q F w h k n (mkF m pc Ls (.int j :: .ref a :: st)) := by
  obtain ⟨d1, rfl⟩ := d
  intro T vm0 locs k0 H
  obtain ⟨t, v', L, h1, r⟩ := g T vm0 locs k0 H
  obtain ⟨cl, A, rfl, r2, r3⟩ := A
  exact ⟨t, v', L, H.1.iaload C.1 (by rw [H.2.1]; exact A.1) (State.isArrayOf_alike H.2.2.2.2.2.1.alike A.2.1) A.2.2 (inb hi hj (List.getElem?_eq_some_iff.mp hv).1) (v := v) (by rw [hi]; simpa using hv) (g := mkF m pc Ls (.int j :: .ref a :: st)) rfl rfl (hb C.2.1 d1) _ h1, r⟩
theorem Cxt.aaload (C : Cxt p m meth c Z a0 EL own mn bytes ml ret Ws) {a : Addr} {ty : FieldType} {vs : List Value} {j : Int32} {i : Nat} {v : Value} (d : Dec bytes pc .aaload 1 nx) (A : Arl Z h a ty vs) (hty : ty.isReference = true) (hj : ¬ j < 0) (hi : j.toNatClampNeg = i) (hv : vs[i]? = some v) (g : Goes p l e R s m args below meth c Z EL nw Q F w h k n (mkF m nx Ls (v :: st))) : Goes p l e R s m args below meth c Z EL nw Q F w h k n (mkF m pc Ls (.int j :: .ref a :: st)) := by
  obtain ⟨d1, rfl⟩ := d
  intro T vm0 locs k0 H
  obtain ⟨t, v', L, h1, r⟩ := g T vm0 locs k0 H
  obtain ⟨cl, A, rfl, r2, r3⟩ := A
  exact ⟨t, v', L, H.1.aaload C.1 (by rw [H.2.1]; exact A.1) (State.isArrayOf_alike H.2.2.2.2.2.1.alike A.2.1) hty A.2.2 (inb hi hj (List.getElem?_eq_some_iff.mp hv).1) (v := v) (by rw [hi]; simpa using hv) (g := mkF m pc Ls (.int j :: .ref a :: st)) rfl rfl (hb C.2.1 d1) _ h1, r⟩
theorem Cxt.castore (C : Cxt p m meth c Z a0 EL own mn bytes ml ret Ws) {a : Addr} {vs : List Value} {j x : Int32} {i : Nat} (d : Dec bytes pc .castore 1 nx) (A : Arl Z h a .char vs) (hj : ¬ j < 0) (hi : j.toNatClampNeg = i) (hlt : i < vs.length) (na : Z.heap.size ≤ a) 
    (g : ∀ h', Wr h h' a i (.int (nar .char x)) → Arl Z h' a .char (vs.set i (.int (nar .char x))) → Goes p l e R s m args below meth c Z EL nw Q F w h' k n (mkF m nx Ls st)) : Goes p l e R s m args below meth c Z EL nw Q F w h k n (mkF m pc Ls (.int x :: .int j :: .ref a :: st)) := by
  obtain ⟨d1, rfl⟩ := d
  intro T vm0 locs k0 H
  obtain ⟨X, eT, N, S, hk0, hZ, H1, hw, hF, O', hwm, hbk⟩ := id H
  have sa : Safe Z EL vm0 h a := Arl.safe hZ.alike A (by simp)
  obtain ⟨cl, A', q1, q2, q3⟩ := id A
  subst hi
  obtain ⟨T', h', X', e', W', st'⟩ := stC X C.1 hZ eT A' (j := j) (x := x) (inb rfl hj (by rw [q1]; exact hlt)) (g := mkF m pc Ls (.int x :: .int j :: .ref a :: st)) rfl rfl (hb C.2.1 d1)
  obtain ⟨t, v, L, h1, r⟩ := g h' W' (A.set W' (fits_nar_char _)) T' vm0 _ k0 (H.step X' e' (Fr.snoc X' N na) (Keep.of_wr W') (fun x hx => by cases List.mem_singleton.mp hx; exact ⟨sa, na⟩))
  exact ⟨t, v, L, st' _ h1, r⟩
theorem fits_b8' (x : Int32) : fits .byte (.int (nar .byte x)) = true := fits_nar_byte x
theorem Cxt.bastore (C : Cxt p m meth c Z a0 EL own mn bytes ml ret Ws) {a : Addr} {vs : List Value} {j x : Int32} {i : Nat} (d : Dec bytes pc .bastore 1 nx) (A : Arl Z h a .byte vs) (hj : ¬ j < 0) (hi : j.toNatClampNeg = i) (hlt : i < vs.length) (na : Z.heap.size ≤ a) (sf : a ∈ F ∨ w ≤ a) 
    (g : ∀ h', Wr h h' a i (.int (nar .byte x)) → Arl Z h' a .byte (vs.set i (.int (nar .byte x))) → Goes p l e R s m args below meth c Z EL nw Q F w h' k n (mkF m nx Ls st)) : Goes p l e R s m args below meth c Z EL nw Q F w h k n (mkF m pc Ls (.int x :: .int j :: .ref a :: st)) := by
  obtain ⟨d1, rfl⟩ := d
  intro T vm0 locs k0 H
  obtain ⟨X, eT, N, S, hk0, hZ, H1, hw, hF, O', hwm, hbk⟩ := id H
  have sa : Safe Z EL vm0 h a := sf.elim (fun q => (hF a q).2) (hwm a)
  obtain ⟨cl, A', q1, q2, q3⟩ := id A
  subst hi
  obtain ⟨T', h', X', e', W', st'⟩ := stB X C.1 hZ eT A' (j := j) (x := x) (inb rfl hj (by rw [q1]; exact hlt)) (g := mkF m pc Ls (.int x :: .int j :: .ref a :: st)) rfl rfl (hb C.2.1 d1)
  obtain ⟨t, v, L, h1, r⟩ := g h' W' (A.set W' (fits_b8' _)) T' vm0 _ k0 (H.step X' e' (Fr.snoc X' N na) (Keep.of_wr W') (fun x hx => by cases List.mem_singleton.mp hx; exact ⟨sa, na⟩))
  exact ⟨t, v, L, st' _ h1, r⟩
theorem Cxt.iastore (C : Cxt p m meth c Z a0 EL own mn bytes ml ret Ws) {a : Addr} {vs : List Value} {j x : Int32} {i : Nat} (d : Dec bytes pc .iastore 1 nx) (A : Arl Z h a .int vs) (hj : ¬ j < 0) (hi : j.toNatClampNeg = i) (hlt : i < vs.length) (na : Z.heap.size ≤ a) 
    (g : ∀ h', Wr h h' a i (.int (x)) → Arl Z h' a .int (vs.set i (.int (x))) → Goes p l e R s m args below meth c Z EL nw Q F w h' k n (mkF m nx Ls st)) : Goes p l e R s m args below meth c Z EL nw Q F w h k n (mkF m pc Ls (.int x :: .int j :: .ref a :: st)) := by
  obtain ⟨d1, rfl⟩ := d
  intro T vm0 locs k0 H
  obtain ⟨X, eT, N, S, hk0, hZ, H1, hw, hF, O', hwm, hbk⟩ := id H
  have sa : Safe Z EL vm0 h a := Arl.safe hZ.alike A (by simp)
  obtain ⟨cl, A', q1, q2, q3⟩ := id A
  subst hi
  obtain ⟨T', h', X', e', W', st'⟩ := stI X C.1 hZ eT A' (j := j) (x := x) (inb rfl hj (by rw [q1]; exact hlt)) (g := mkF m pc Ls (.int x :: .int j :: .ref a :: st)) rfl rfl (hb C.2.1 d1)
  obtain ⟨t, v, L, h1, r⟩ := g h' W' (A.set W' (rfl)) T' vm0 _ k0 (H.step X' e' (Fr.snoc X' N na) (Keep.of_wr W') (fun x hx => by cases List.mem_singleton.mp hx; exact ⟨sa, na⟩))
  exact ⟨t, v, L, st' _ h1, r⟩
theorem ofNat_idx {i : Nat} (h : i < 2 ^ 31) : ¬ (Int32.ofNat i) < 0 ∧ (Int32.ofNat i).toNatClampNeg = i := by
  have q := idx_in (i := i) (n := i + 1) (Nat.lt_succ_self i)
  have e : (Int32.ofNat i).toInt = i := by
    rw [Int32.toInt_ofNat']
    simp only [Int.bmod_def]
    have z : (Int32.size : Int) = 4294967296 := rfl
    rw [z]
    omega
  constructor
  · intro z; rw [Int32.lt_iff_toInt_lt, e] at z; simp at z; omega
  · simp [Int32.toNatClampNeg, e]
theorem arl_of_arv {Z : State} {h : Heap} {a : Addr} {kb : ClassId} {ty : FieldType} {z : Int32} {vs : List Value} {dv : Value} (A : Arv Z h a kb ty z vs dv) (hz : z.toNatClampNeg = vs.length) (hl : vs.length < 2 ^ 31) : Arl Z h a ty vs := by
  obtain ⟨cl, A, -, q2, -, H, G⟩ := A
  have e : cl.slots.toList = vs := by
    apply List.ext_getElem?
    intro i
    by_cases hi : i < cl.slots.size
    · have := H i hi
      rw [Array.getElem?_toList, this]
      have hi' : i < vs.length := by omega
      simp [List.getD_eq_getElem?_getD, hi']
    · rw [List.getElem?_eq_none (by simpa using hi), List.getElem?_eq_none (by omega)]
  refine ⟨cl, A, e, hl, fun v hv => ?_⟩
  obtain ⟨i, hi, rfl⟩ := List.mem_iff_getElem.mp hv
  have := G i (by omega)
  simpa [List.getD_eq_getElem?_getD, hi] using this
theorem Con.of {y : MethodName} {rm : Room} {as' : Array Value} (hy : plainFor y = true) (hw : ∀ d ∈ Ws, d.before a0 Z = true) (hEL : EW Z a0 EL) (Ls : Array Slot) (hef : ∀ m, entryFrame m as' ml = mkF m 0 Ls [])
    (g : ∀ (p : Program) (e : Env) (s : State) (m : MethodId) (below : List Frame) (meth : Method) (c : Code), s.heap = h → Cxt p m meth c Z a0 EL y.cls y.name bytes ml ret Ws → Goes p l e rm s m as' below meth c Z EL nw Q F h.size h 0 0 (mkF m 0 Ls [])) : Con l Z EL nw y bytes ml ret rm F as' h Q := by
  intro ws
  refine MetFree.of_bodySF hy hisR ?_
  intro p e s m args below meth c s₁ Bd hml0 hP hK
  obtain ⟨rfl, hZ, hh, hC, hF, hO⟩ := hP
  have C : Cxt p m meth c Z a0 EL y.cls y.name bytes ml ret Ws := ⟨Bd.exec, Bd.bytes, hml0, (hZ.alike.findClass _ _).symm.trans (findClass_of_methodNamed Bd.named), Bd.returns, Bd.notSynchronized, (name_of_methodNamed Bd.named Bd.method).1, hw, hEL⟩
  have X0 : Stand p l e rm s m args below meth c s₁ [] 0 0 := Stand.of_body Bd
  have e0 : s₁.heap = h := by rw [← hh, Bd.state]; rfl
  subst hh
  obtain ⟨t, v, L, h1, h2, h3, h4, h5, h6, h7, h8, h9⟩ := g p e s m below meth c rfl C s₁ s.vm [] 0 ⟨X0, e0, Fr.nil _, (State.WarmedH.refl s).since 0, Nat.zero_le _, hZ, CHr.refl hC, fun _ => State.WarmedH.refl s, hF, hO, fun x hx => Safe.new hx, fun _ y hy => hy⟩
  exact ⟨t, .returned v, castTop (hef m) h1, h2, h3, v, L, rfl, h4, h5, h6, h7, h8, h9⟩
theorem Con.pays {y : MethodName} {yb : ByteArray} {yl : Nat} {yr : Option FieldType} {rm : Room} {as' : Array Value} {len W : Nat} (K : Con l Z EL nw y yb yl yr rm F as' h Q) (wc : (Jvm.Cond.code y yb yl yr).before a0 Z = true) (wz : (Jvm.Cond.initialized y.cls).before a0 Z = true) (hEL : EW Z a0 EL) (hf : rm.frames + 1 ≤ R.frames) (hl : W + (yl + 11) + rm.locals ≤ R.locals) :
    Pays p l e R s args below Z EL nw y len W F as' h rm.cells rm.slots Q := by
  intro vm0 hZ H hF hO
  refine BackS.of_freeW (bytes := yb) (maxL := yl) (ret := yr) (E := fun _ first o t L k n => k = rm.cells ∧ n = rm.slots ∧ (∃ v, o = .returned v ∧ Q v t.heap) ∧ Fr Z.heap.size L ∧ CHr Z EL first.vm first.heap t.vm t.heap ∧ (nw = true → first.WarmedH t.vm ∧ ∀ y, Bk Z EL t.vm t.heap y → Bk Z EL first.vm first.heap y) ∧ Ext Z.heap t.heap) (K []) hf hl
    (fun m meth c A a Y hp => have hU : Z.Warmed39 A.U.vm := wtrans (s := s.setVm vm0) hZ Y.warmed
      ⟨by show (Jvm.Cond.and _ .tt).before a A.U = true; rw [Cond.before_and, mv hU wc]; rfl, mv hU wc, mv hU wz, hp.2.2.1, hp.2.2.2⟩)
    (fun m meth c A a g mk Y hp => ⟨hp.1, wtrans (s := s.setVm vm0) hZ Y.warmed, hp.2.1, (CHv.at Y hZ hEL H).1, fun x hx => ⟨(hF x hx).1, (CHv.at Y hZ hEL H).safe (hF x hx).1 (hF x hx).2⟩, hO⟩) (fun _ _ _ _ _ _ _ _ _ => trivial)
    (fun _ _ _ _ ⟨v, L, h1, h2, h3, h4, h5, h6, h7⟩ => ⟨L, _, _, h7, rfl, rfl, ⟨v, h1, h2⟩, h3, h4, h5, h6⟩)
    (fun m meth c A a g mk v t L k n Y hp _ _ ⟨e1, e2, ⟨v', e3, e4⟩, e5, e6, e7, e8⟩ => by
      cases e3; subst e1 e2
      refine ⟨L, e4, e5, rfl, rfl, rfl, (CHv.at Y hZ hEL H).trans ?_, fun q => ⟨State.WarmedH.trans Y.warmed (e7 q).1, fun y hy => ?_⟩, e8⟩
      · rw [← hp.2.1]; exact e6
      · have z := (e7 q).2 y hy
        have z' : Bk Z EL A.U.vm h y := by rw [← hp.2.1]; exact z
        rcases (CHv.at Y hZ hEL H).2.2 y z' with z2 | z2
        · exact z2
        · obtain ⟨cell, hcell⟩ := z'.there
          exact absurd (Array.getElem?_eq_some_iff.mp hcell).1 (Nat.not_lt.mpr z2))
theorem Pays.mono {y : MethodName} {as' : Array Value} {len W rc rs : Nat} {Q' : Option Value → Heap → Prop} (K : Pays p l e R s args below Z EL nw y len W F as' h rc rs Q) (hq : ∀ v h', Q v h' → Q' v h') : Pays p l e R s args below Z EL nw y len W F as' h rc rs Q' := by
  intro vm0 hZ H hF hO m meth c A g ig mk a X hg hsize hdg hW hn hp
  obtain ⟨v, B, X', S, gr, ⟨L, h1, r⟩, stp⟩ := K vm0 hZ H hF hO m meth c A g ig mk a X hg hsize hdg hW hn hp
  exact ⟨v, B, X', S, gr, ⟨L, hq _ _ h1, r⟩, stp⟩
theorem after {nwc : Bool} (hnw : nw = true → nwc = true) {T : State} {vm0 : Vm} {locs : List Loc} {k0 rc rs : Nat} {B : Pt} {vm1 : Vm} (H : Here p l e R s m args below meth c Z EL nw F w h k n T vm0 locs k0) (X' : Stand p l e R (s.setVm B.U.vm) m args below meth c B.U B.locs B.cells B.slots) (S' : (s.setVm vm0).Since B.U.vm B.U.heap.size) (gr : T.heap.size ≤ B.U.heap.size)
    (post : ∃ L, Fr Z.heap.size L ∧ B.locs = locs ++ L ∧ B.cells = k + rc ∧ B.slots = n + rs ∧ CHr Z EL vm0 h B.U.vm B.U.heap ∧ (nwc = true → (s.setVm vm0).WarmedH B.U.vm ∧ ∀ y, Bk Z EL B.U.vm B.U.heap y → Bk Z EL vm0 h y) ∧ Ext Z.heap B.U.heap) : Here p l e R s m args below meth c Z EL nw F (wm nwc w B.U.heap) B.U.heap (k + rc) (n + rs) B.U B.U.vm B.locs B.U.heap.size := by
  obtain ⟨X, eT, N, S, hk0, hZ, H1, hw, hF, O, hwm, hbk⟩ := H
  obtain ⟨L, p1, p2, p3, p4, p5, p6, p7⟩ := post
  rw [p3, p4] at X'
  rw [eT] at gr
  refine ⟨X', rfl, by rw [p2]; exact N.app p1, S.trans S' (Nat.le_trans hk0 gr), Nat.le_refl _, State.Warmed39.trans (t := s.setVm vm0) hZ S'.1, H1.trans p5, fun q => State.WarmedH.trans (t := s.setVm vm0) (hw q) (p6 (hnw q)).1, fun x hx => ⟨Nat.lt_of_lt_of_le (hF x hx).1 gr, p5.safe (hF x hx).1 (hF x hx).2⟩, p7, fun x hx => ?_, fun q y hy => hbk q y ((p6 (hnw q)).2 y hy)⟩
  cases nwc with
  | true => exact fun hy => hwm x hx ((p6 rfl).2 x hy)
  | false => exact Safe.new hx
theorem Cxt.static (C : Cxt p m meth c Z a0 EL own mn bytes ml ret Ws) {nwc : Bool} (hnw : nw = true → nwc = true) {F' : List Addr} (hF' : ∀ x ∈ F', x ∈ F ∨ (w ≤ x ∧ x < h.size)) {idx W rc rs : Nat} {y : MethodName} {yb : ByteArray} {yl : Nat} {yr : Option FieldType} {Qc : Option Value → Heap → Prop} {argsL rest : List Value} (d : Dec bytes pc (.invokestatic idx) 3 nx) (w1 : Jvm.Cond.methodLink own idx y ∈ Ws) (w2 : Jvm.Cond.static y ∈ Ws) (w3 : Jvm.Cond.initialized y.cls ∈ Ws) (w4 : Jvm.Cond.code y yb yl yr ∈ Ws)
    (hy : y.cls ≠ "java/lang/invoke/MethodHandle" ∧ y.cls ≠ "java/lang/invoke/VarHandle") (hlen : ∀ sig, parseMethodDescriptor y.desc = some sig → argsL.length = sig.parameters.length) (hst : st = argsL.reverse ++ rest) (hsz : Ls.size = ml) (hk : k + rc ≤ R.cells) (hn : n + rs ≤ R.slots)
    (K : Pays p l e R s args below Z EL nwc y 3 W F' argsL.toArray h rc rs Qc) (hW : (rest.map fun v => v.category).sum ≤ W) (g : ∀ v h', Qc v h' → Goes p l e R s m args below meth c Z EL nw Q F (wm nwc w h') h' (k + rc) (n + rs) (mkF m nx Ls (v.toList ++ rest))) : Goes p l e R s m args below meth c Z EL nw Q F w h k n (mkF m pc Ls st) := by
  obtain ⟨d1, rfl⟩ := d
  intro T vm0 locs k0 H
  obtain ⟨X, eT, N, S, hk0, hZ, H1, hw, hF, O, hwm, hbk⟩ := id H
  obtain ⟨v, vm1, B, hW1, X', S', gr, ⟨L, q, post⟩, st'⟩ := callSS X C.1 (C.own_at hZ) (mv hZ (C.wrd w1)) (mv hZ (C.wrd w2)) (mv hZ (C.wrd w3)) (mv hZ (C.wrd w4)) hy (K vm0 hZ H1.1 (fun x hx => (hF' x hx).elim (hF x) fun q => ⟨q.2, hwm x q.1⟩) O) (g := mkF m pc Ls st) rfl (hsz.trans C.2.2.1.symm) hlen hst (by show 2 * 0 + _ ≤ _; omega) (hb C.2.1 d1) (fun vm1 _ => ⟨rfl, eT, hk, hn⟩)
  obtain ⟨t, v, L, h1, r⟩ := g v B.U.heap q B.U B.U.vm B.locs B.U.heap.size (after (nwc := nwc) hnw (vm1 := vm1) H X' S' gr ⟨L, post⟩)
  exact ⟨t, v, L, st'.trans h1, r⟩
theorem Cxt.special (C : Cxt p m meth c Z a0 EL own mn bytes ml ret Ws) {nwc : Bool} (hnw : nw = true → nwc = true) {F' : List Addr} (hF' : ∀ x ∈ F', x ∈ F ∨ (w ≤ x ∧ x < h.size)) {idx W rc rs : Nat} {y : MethodName} {yb : ByteArray} {yl : Nat} {Qc : Option Value → Heap → Prop} {a : Addr} {argsL rest : List Value} (d : Dec bytes pc (.invokespecial idx) 3 nx) (hy1 : y.name = "<init>") (w1 : Jvm.Cond.methodLink own idx y ∈ Ws) (w2 : Jvm.Cond.instanceMethod y ∈ Ws) (w4 : Jvm.Cond.code y yb yl none ∈ Ws)
    (hy : y.cls ≠ "java/lang/invoke/MethodHandle" ∧ y.cls ≠ "java/lang/invoke/VarHandle") (hlen : ∀ sig, parseMethodDescriptor y.desc = some sig → argsL.length = sig.parameters.length) (hst : st = argsL.reverse ++ .ref a :: rest) (hsz : Ls.size = ml) (hk : k + rc ≤ R.cells) (hn : n + rs ≤ R.slots)
    (K : Pays p l e R s args below Z EL nwc y 3 W F' (.ref a :: argsL).toArray h rc rs Qc) (hW : (rest.map fun v => v.category).sum ≤ W) (g : ∀ v h', Qc v h' → Goes p l e R s m args below meth c Z EL nw Q F (wm nwc w h') h' (k + rc) (n + rs) (mkF m nx Ls (v.toList ++ rest))) : Goes p l e R s m args below meth c Z EL nw Q F w h k n (mkF m pc Ls st) := by
  obtain ⟨d1, rfl⟩ := d
  intro T vm0 locs k0 H
  obtain ⟨X, eT, N, S, hk0, hZ, H1, hw, hF, O, hwm, hbk⟩ := id H
  obtain ⟨v, vm1, B, hW1, X', S', gr, ⟨L, q, post⟩, st'⟩ := X.specialBackS C.1 hy1 (C.own_at hZ) (mv hZ (C.wrd w1)) (mv hZ (C.wrd w2)) (mv hZ (C.wrd w4)) hy (K vm0 hZ H1.1 (fun x hx => (hF' x hx).elim (hF x) fun q => ⟨q.2, hwm x q.1⟩) O) (g := mkF m pc Ls st) rfl (hsz.trans C.2.2.1.symm) (Steps.refl _) hlen hst (by show 2 * 0 + _ ≤ _; omega) (hb C.2.1 d1) (fun vm1 _ => ⟨rfl, eT, hk, hn⟩)
  obtain ⟨t, v, L, h1, r⟩ := g v B.U.heap q B.U B.U.vm B.locs B.U.heap.size (after (nwc := nwc) hnw (vm1 := vm1) H X' S' gr ⟨L, post⟩)
  exact ⟨t, v, L, st'.trans h1, r⟩
theorem Cxt.virtual (C : Cxt p m meth c Z a0 EL own mn bytes ml ret Ws) {nwc : Bool} (hnw : nw = true → nwc = true) {F' : List Addr} (hF' : ∀ x ∈ F', x ∈ F ∨ (w ≤ x ∧ x < h.size)) {idx W rc rs : Nat} {y z : MethodName} {cls : String} {Qc : Option Value → Heap → Prop} {a : Addr} {argsL rest : List Value} (d : Dec bytes pc (.invokevirtual idx) 3 nx) (w1 : Jvm.Cond.methodLink own idx y ∈ Ws) (w2 : (Jvm.Cond.declares y).before a0 Z = true) (w3 : Jvm.Cond.selects cls y z ∈ Ws) (w4 : Jvm.Cond.instanceMethod z ∈ Ws)
    (hy : y.cls ≠ "java/lang/invoke/MethodHandle" ∧ y.cls ≠ "java/lang/invoke/VarHandle") (hlen : ∀ sig, parseMethodDescriptor y.desc = some sig → argsL.length = sig.parameters.length) (hst : st = argsL.reverse ++ .ref a :: rest) (hsz : Ls.size = ml) (hk : k + rc ≤ R.cells) (hn : n + rs ≤ R.slots) (E : Exa Z h a cls)
    (nf : ∀ vm0 : Vm, Z.Warmed39 vm0 → (Jvm.Cond.selects cls y z).before args (s.setVm vm0) = true → NotFace (s.setVm vm0) y)
    (K : Pays p l e R s args below Z EL nwc z 3 W F' (.ref a :: argsL).toArray h rc rs Qc) (hW : (rest.map fun v => v.category).sum ≤ W) (g : ∀ v h', Qc v h' → Goes p l e R s m args below meth c Z EL nw Q F (wm nwc w h') h' (k + rc) (n + rs) (mkF m nx Ls (v.toList ++ rest))) : Goes p l e R s m args below meth c Z EL nw Q F w h k n (mkF m pc Ls st) := by
  obtain ⟨d1, rfl⟩ := d
  intro T vm0 locs k0 H
  obtain ⟨X, eT, N, S, hk0, hZ, H1, hw, hF, O, hwm, hbk⟩ := id H
  obtain ⟨cq, kq, qa, qb, qc⟩ := isOf (s := s.setVm vm0) hZ eT E
  obtain ⟨v, vm1, B, hW1, X', S', gr, ⟨L, q, post⟩, st'⟩ := X.virtualBackS C.1 (C.own_at hZ) (mv hZ (C.wrd w1)) (mv hZ w2) (nf vm0 hZ (mv hZ (C.wrd w3))) (mv hZ (C.wrd w3)) (mv hZ (C.wrd w4)) hy (K vm0 hZ H1.1 (fun x hx => (hF' x hx).elim (hF x) fun q => ⟨q.2, hwm x q.1⟩) O) qa qc (g := mkF m pc Ls st) rfl (hsz.trans C.2.2.1.symm) (Steps.refl _) hlen hst (by show 2 * 0 + _ ≤ _; omega) (hb C.2.1 d1) (fun vm1 _ => ⟨rfl, eT, hk, hn⟩)
  obtain ⟨t, v, L, h1, r⟩ := g v B.U.heap q B.U B.U.vm B.locs B.U.heap.size (after (nwc := nwc) hnw (vm1 := vm1) H X' S' gr ⟨L, post⟩)
  exact ⟨t, v, L, st'.trans h1, r⟩
theorem declares_of {y : MethodName} {yb : ByteArray} {yl : Nat} {yr : Option FieldType} (w1 : (Jvm.Cond.instanceMethod y).before a0 Z = true) (w2 : (Jvm.Cond.code y yb yl yr).before a0 Z = true) : (Jvm.Cond.declares y).before a0 Z = true := by
  obtain ⟨mk, me, h1, h2, h3, -⟩ := Cond.instanceMethod_spec w1
  obtain ⟨me2, cM, g1, -, -, -, -, -, -, g2⟩ := Cond.code_spec h1 w2
  cases h2.symm.trans g1
  simp [Cond.before, Cond.holds, Cond.value, h1, h2, h3, g2]
theorem nf_same {cls : String} {y z : MethodName} (w : (Jvm.Cond.selects cls z z).before a0 Z = true) (e : z.cls = y.cls) : NotFace Z y := fun r0 h0 => by
  obtain ⟨c, r, m, -, -, h3, -, mk, h4, h5⟩ := Cond.selects_spec w
  have e1 := findClass_of_methodNamed h3
  have e2 := findClass_of_methodNamed h0
  rw [e] at e1
  have e3 := Option.some.inj (e1.symm.trans e2)
  exact ⟨mk, by rw [← e3]; exact h4, h5⟩
theorem same_of {y : MethodName} (w1 : (Jvm.Cond.instanceMethod y).before a0 Z = true) (nf : NotFace Z y) (hy : y.cls ≠ "java/lang/invoke/MethodHandle" ∧ y.cls ≠ "java/lang/invoke/VarHandle") : (Jvm.Cond.sameMethod y.cls y.cls y.name y.desc).before a0 Z = true := by
  obtain ⟨mk, me, h1, h2, h3, -⟩ := Cond.instanceMethod_spec w1
  obtain ⟨kr, h4, h5⟩ := nf mk h1
  have e1 := findClass_of_methodNamed h1
  have e2 := State.methodFound?_of_named h1 hy
  have e3 : Z.methodNamed? ⟨y.cls, y.name, y.desc⟩ = some mk := h1
  simp [Cond.before, Cond.holds, Cond.value, e1, e2, e3, h4, h5]
theorem Cxt.super (C : Cxt p m meth c Z a0 EL own mn bytes ml ret Ws) {nwc : Bool} (hnw : nw = true → nwc = true) {F' : List Addr} (hF' : ∀ x ∈ F', x ∈ F ∨ (w ≤ x ∧ x < h.size)) {idx W rc rs : Nat} {y : MethodName} {cls : String} {yb : ByteArray} {yl : Nat} {yr : Option FieldType} {Qc : Option Value → Heap → Prop} {a : Addr} {argsL rest : List Value} (d : Dec bytes pc (.invokespecial idx) 3 nx) (w1 : Jvm.Cond.methodLink own idx y ∈ Ws) (w2 : Jvm.Cond.instanceMethod y ∈ Ws) (w3 : Jvm.Cond.superclass own y.cls ∈ Ws) (nf : NotFace Z y) (hn1 : y.name ≠ "<init>") (w4 : Jvm.Cond.code y yb yl yr ∈ Ws)
    (hy : y.cls ≠ "java/lang/invoke/MethodHandle" ∧ y.cls ≠ "java/lang/invoke/VarHandle") (hlen : ∀ sig, parseMethodDescriptor y.desc = some sig → argsL.length = sig.parameters.length) (hst : st = argsL.reverse ++ .ref a :: rest) (hsz : Ls.size = ml) (hk : k + rc ≤ R.cells) (hn : n + rs ≤ R.slots) (E : Exa Z h a cls)
    (K : Pays p l e R s args below Z EL nwc y 3 W F' (.ref a :: argsL).toArray h rc rs Qc) (hW : (rest.map fun v => v.category).sum ≤ W) (g : ∀ v h', Qc v h' → Goes p l e R s m args below meth c Z EL nw Q F (wm nwc w h') h' (k + rc) (n + rs) (mkF m nx Ls (v.toList ++ rest))) : Goes p l e R s m args below meth c Z EL nw Q F w h k n (mkF m pc Ls st) := by
  obtain ⟨d1, rfl⟩ := d
  intro T vm0 locs k0 H
  obtain ⟨X, eT, N, S, hk0, hZ, H1, hw, hF, O, hwm, hbk⟩ := id H
  obtain ⟨v, vm1, B, hW1, X', S', gr, ⟨L, q, post⟩, st'⟩ := superBackS X C.1 hZ (C.own_at hZ) (C.wrd w1) (same_of (C.wrd w2) nf hy) (C.wrd w2) (C.wrd w3) hn1 (K vm0 hZ H1.1 (fun x hx => (hF' x hx).elim (hF x) fun q => ⟨q.2, hwm x q.1⟩) O) eT (Ins.self E) (g := mkF m pc Ls st) rfl (hsz.trans C.2.2.1.symm) (C.wrd w4) hlen hst (by show 2 * 0 + _ ≤ _; omega) (hb C.2.1 d1) (fun vm1 _ => ⟨rfl, eT, hk, hn⟩)
  obtain ⟨t, v, L, h1, r⟩ := g v B.U.heap q B.U B.U.vm B.locs B.U.heap.size (after (nwc := nwc) hnw (vm1 := vm1) H X' S' gr ⟨L, post⟩)
  exact ⟨t, v, L, st'.trans h1, r⟩
theorem Goes.mark {f : JFrame} {a : Addr} (h1 : w ≤ a) (h2 : a < h.size) (g : Goes p l e R s m args below meth c Z EL nw Q (a :: F) w h k n f) : Goes p l e R s m args below meth c Z EL nw Q F w h k n f := fun T vm0 locs k0 H => by
  obtain ⟨X, eT, N, S, hk0, hZ, H1, hw, hF1, O, hwm, hbk⟩ := H
  exact g T vm0 locs k0 ⟨X, eT, N, S, hk0, hZ, H1, hw, fun x hx => (List.mem_cons.mp hx).elim (fun q => by subst q; exact ⟨h2, hwm _ h1⟩) (hF1 x), O, hwm, hbk⟩
theorem Goes.add {f : JFrame} {a : Addr} (h1 : a ∈ F ∨ (w ≤ a ∧ a < h.size)) (g : Goes p l e R s m args below meth c Z EL nw Q (a :: F) w h k n f) : Goes p l e R s m args below meth c Z EL nw Q F w h k n f := fun T vm0 locs k0 H => by
  obtain ⟨X, eT, N, S, hk0, hZ, H1, hw, hF1, O, hwm, hbk⟩ := H
  exact g T vm0 locs k0 ⟨X, eT, N, S, hk0, hZ, H1, hw, fun x hx => (List.mem_cons.mp hx).elim (fun q => by subst q; exact h1.elim (hF1 _) fun r => ⟨r.2, hwm _ r.1⟩) (hF1 x), O, hwm, hbk⟩
theorem Arl.arv {a : Addr} {ty : FieldType} {vs : List Value} (A : Arl Z h a ty vs) (dv : Value) : ∃ kb, Arv Z h a kb ty (Int32.ofNat vs.length) vs dv := by
  obtain ⟨cl, A, q1, q2, q3⟩ := A
  have hi := ofNat_idx q2
  have sz : cl.slots.size = vs.length := by rw [← q1]; simp
  have key : ∀ i, i < cl.slots.size → cl.slots[i]? = some (vs.getD i dv) := fun i hi => by
    rw [← Array.getElem?_toList, q1, List.getD_eq_getElem?_getD, List.getElem?_eq_getElem (by omega)]; rfl
  refine ⟨_, cl, A, rfl, by rw [hi.2, sz], hi.1, key, fun i hi => q3 _ ?_⟩
  have := key i hi
  rw [← Array.getElem?_toList, q1] at this
  exact List.mem_of_getElem? this
theorem copied_eq {vs : List Value} {sp nn : Nat} {dv : Value} (hl : sp + nn ≤ vs.length) : (List.range nn).map (fun i => vs.getD (sp + i) dv) = (vs.drop sp).take nn := by
  apply List.ext_getElem?
  intro i
  by_cases hi : i < nn
  · rw [List.getElem?_map, List.getElem?_range hi, List.getElem?_take_of_lt hi, List.getElem?_drop, List.getElem?_eq_getElem (by omega), Option.map_some, List.getD_eq_getElem?_getD, List.getElem?_eq_getElem (by omega)]; rfl
  · rw [List.getElem?_eq_none_iff.mpr (by simp; omega), List.getElem?_eq_none_iff.mpr (by rw [List.length_take, List.length_drop]; omega)]
theorem Cxt.arraycopy (C : Cxt p m meth c Z a0 EL own mn bytes ml ret Ws) {idx : Nat} {a b : Addr} {ty : FieldType} {vs vd : List Value} {sp dp nn : Nat} (d : Dec bytes pc (.invokestatic idx) 3 nx) (w1 : Jvm.Cond.methodLink own idx Jvm.Stand.acN ∈ Ws) (w2 : Jvm.Cond.native Jvm.Stand.acN ∈ Ws) (w3 : Jvm.Cond.static Jvm.Stand.acN ∈ Ws) (w4 : Jvm.Cond.initialized "java/lang/System" ∈ Ws) (A : Arl Z h a ty vs) (Bb : Arl Z h b ty vd) (hty : refKind ty = false) (h4 : sp + nn ≤ vs.length) (h5 : dp + nn ≤ vd.length) (na : Z.heap.size ≤ b) (sf : b ∈ F ∨ w ≤ b ∨ ty ≠ .byte) (hsz : Ls.size = ml) (hf : 1 ≤ R.frames) (hl : (st.map fun v => v.category).sum + 18 ≤ R.locals)
    (g : ∀ h', Keep h h' [b] → Arl Z h' b ty (vd.take dp ++ (vs.drop sp).take nn ++ vd.drop (dp + nn)) → Goes p l e R s m args below meth c Z EL nw Q F w h' k n (mkF m nx Ls st)) : Goes p l e R s m args below meth c Z EL nw Q F w h k n (mkF m pc Ls (.int (Int32.ofNat nn) :: .int (Int32.ofNat dp) :: .ref b :: .int (Int32.ofNat sp) :: .ref a :: st)) := by
  obtain ⟨d1, rfl⟩ := d
  intro T vm0 locs k0 H
  obtain ⟨X, eT, N, S, hk0, hZ, H1, hw, hF, O, hwm, hbk⟩ := id H
  have la := A.len
  have lb := Bb.len
  obtain ⟨ka, Av⟩ := A.arv .null
  obtain ⟨kb, Bv⟩ := Bb.arv .null
  have i1 := ofNat_idx (i := sp) (by omega)
  have i2 := ofNat_idx (i := dp) (by omega)
  have i3 := ofNat_idx (i := nn) (by omega)
  have i4 := ofNat_idx la
  have i5 := ofNat_idx lb
  obtain ⟨T', h', L', X', e', N', K', A', st'⟩ := cpA X C.1 hZ (C.own_at hZ) (C.wrd w1) (C.wrd w2) (C.wrd w3) (C.wrd w4) eT Av Bv (Or.inl ⟨rfl, hty⟩) i1.1 i2.1 i3.1 (by rw [i1.2, i3.2, i4.2]; exact h4) (by rw [i2.2, i3.2, i5.2]; exact h5) rfl (by rw [i2.2, i3.2]; exact h5) N na (g := mkF m pc Ls (.int (Int32.ofNat nn) :: .int (Int32.ofNat dp) :: .ref b :: .int (Int32.ofNat sp) :: .ref a :: st)) rfl (hsz.trans C.2.2.1.symm) rfl (hb C.2.1 d1) hf (W := (st.map fun v => v.category).sum) (by show 2 * 0 + _ ≤ _; omega) (by show _ + 18 ≤ _; exact hl)
  have sa : Safe Z EL vm0 h b := sf.elim (fun q => (hF b q).2) fun q => q.elim (hwm b) fun q => Bb.safe hZ.alike q
  rw [i1.2, i2.2, i3.2, copied_eq h4] at A'
  have AL := arl_of_arv A' (by rw [i5.2]; simp; omega) (by simp; omega)
  obtain ⟨t, v, L, h1, r⟩ := g h' K' AL T' vm0 _ k0 (H.step X' e' N' K' (fun x hx => by cases List.mem_singleton.mp hx; exact ⟨sa, na⟩))
  exact ⟨t, v, L, st' _ h1, r⟩
def rV (Q : Heap → Prop) : Option Value → Heap → Prop := fun o h => o = none ∧ Q h
def rR (Q : Value → Heap → Prop) : Option Value → Heap → Prop := fun o h => ∃ v, o = some v ∧ Q v h
theorem Pays.less {y : MethodName} {as' : Array Value} {len W rc rs : Nat} {F' : List Addr} (hF : ∀ x ∈ F', x ∈ F) (K : Pays p l e R s args below Z EL nw y len W F' as' h rc rs Q) : Pays p l e R s args below Z EL nw y len W F as' h rc rs Q := fun vm0 hZ H hF1 hO => K vm0 hZ H (fun x hx => hF1 x (hF x hx)) hO
theorem Con.weaken {y : MethodName} {yb : ByteArray} {yl : Nat} {yr : Option FieldType} {rm : Room} {as' : Array Value} {Q' : Option Value → Heap → Prop} (hq : ∀ v h', Q v h' → Q' v h') (K : Con l Z EL nw y yb yl yr rm F as' h Q) : Con l Z EL nw y yb yl yr rm F as' h Q' := by
  intro ws p e ha hc hk s m args below hf happ hP hK
  obtain ⟨n, o, h1, h2, h3, v, L, h4, h5, r⟩ := K ws p e ha hc hk s m args below hf happ hP hK
  exact ⟨n, o, h1, h2, h3, v, L, h4, hq _ _ h5, r⟩
theorem len_par {d : String} {k : Nat} (h : (parseMethodDescriptor d).map (fun sg => sg.parameters.length) = some k) {L : List Value} (hl : L.length = k) : ∀ sig, parseMethodDescriptor d = some sig → L.length = sig.parameters.length := fun sig hs => by
  rw [hs] at h; simp at h; omega
theorem Cxt.s0V (C : Cxt p m meth c Z a0 EL own mn bytes ml ret Ws) {idx : Nat} {y : MethodName} {yb : ByteArray} {yl : Nat} {yr : Option FieldType} {rm : Room} {F' : List Addr}  {Qc : Heap → Prop} {nwc : Bool} (d : Dec bytes pc (.invokestatic idx) 3 nx) (w1 : Jvm.Cond.methodLink own idx y ∈ Ws) (w2 : Jvm.Cond.static y ∈ Ws) (w3 : Jvm.Cond.initialized y.cls ∈ Ws) (w4 : Jvm.Cond.code y yb yl yr ∈ Ws) (hy : y.cls ≠ "java/lang/invoke/MethodHandle" ∧ y.cls ≠ "java/lang/invoke/VarHandle") (hpar : (parseMethodDescriptor y.desc).map (fun sg => sg.parameters.length) = some 0) (hsz : Ls.size = ml) (hF : ∀ x ∈ F', x ∈ F ∨ (w ≤ x ∧ x < h.size))
    (K : Con l Z EL nwc y yb yl yr rm F' #[] h (rV Qc)) (hf : rm.frames + 1 ≤ R.frames) (hl : (st.map fun v => v.category).sum + (yl + 11) + rm.locals ≤ R.locals) (hk : k + rm.cells ≤ R.cells) (hn : n + rm.slots ≤ R.slots) (g : ∀ h', Qc h' → Goes p l e R s m args below meth c Z EL nw Q F (wm nwc w h') h' (k + rm.cells) (n + rm.slots) (mkF m nx Ls st)) (hnw : nw = true → nwc = true := by first | exact id | exact fun _ => rfl) : Goes p l e R s m args below meth c Z EL nw Q F w h k n (mkF m pc Ls st) :=
  C.static hnw hF (argsL := []) (rest := st) d w1 w2 w3 w4 hy (len_par hpar rfl) rfl hsz hk hn (K.pays (C.wrd w4) (C.wrd w3) C.2.2.2.2.2.2.2.2 hf hl) (Nat.le_refl _) (fun v h' q => by obtain ⟨rfl, q⟩ := q; exact g h' q)
theorem Cxt.c0 (C : Cxt p m meth c Z a0 EL own mn bytes ml ret Ws) {idx : Nat} {y : MethodName} {yb : ByteArray} {yl : Nat} {rm : Room} {F' : List Addr} {a : Addr}  {Qc : Heap → Prop} {nwc : Bool} (d : Dec bytes pc (.invokespecial idx) 3 nx) (hy1 : y.name = "<init>") (w1 : Jvm.Cond.methodLink own idx y ∈ Ws) (w2 : Jvm.Cond.instanceMethod y ∈ Ws) (w3 : Jvm.Cond.initialized y.cls ∈ Ws) (w4 : Jvm.Cond.code y yb yl none ∈ Ws) (hy : y.cls ≠ "java/lang/invoke/MethodHandle" ∧ y.cls ≠ "java/lang/invoke/VarHandle") (hpar : (parseMethodDescriptor y.desc).map (fun sg => sg.parameters.length) = some 0) (hsz : Ls.size = ml) (hF : ∀ x ∈ F', x ∈ F ∨ (w ≤ x ∧ x < h.size))
    (K : Con l Z EL nwc y yb yl none rm F' #[.ref a] h (rV Qc)) (hf : rm.frames + 1 ≤ R.frames) (hl : (st.map fun v => v.category).sum + (yl + 11) + rm.locals ≤ R.locals) (hk : k + rm.cells ≤ R.cells) (hn : n + rm.slots ≤ R.slots) (g : ∀ h', Qc h' → Goes p l e R s m args below meth c Z EL nw Q F (wm nwc w h') h' (k + rm.cells) (n + rm.slots) (mkF m nx Ls st)) (hnw : nw = true → nwc = true := by first | exact id | exact fun _ => rfl) : Goes p l e R s m args below meth c Z EL nw Q F w h k n (mkF m pc Ls (.ref a :: st)) :=
  C.special hnw hF (argsL := []) (rest := st) d hy1 w1 w2 w4 hy (len_par hpar rfl) rfl hsz hk hn (K.pays (C.wrd w4) (C.wrd w3) C.2.2.2.2.2.2.2.2 hf hl) (Nat.le_refl _) (fun v h' q => by obtain ⟨rfl, q⟩ := q; exact g h' q)
theorem Cxt.v0V (C : Cxt p m meth c Z a0 EL own mn bytes ml ret Ws) {idx : Nat} {y z : MethodName} {yb : ByteArray} {yl : Nat} {yr : Option FieldType} {rm : Room} {F' : List Addr} {cls : String} {a : Addr}  {Qc : Heap → Prop} {nwc : Bool} (d : Dec bytes pc (.invokevirtual idx) 3 nx) (w1 : Jvm.Cond.methodLink own idx y ∈ Ws) (w2 : Jvm.Cond.declares y ∈ Ws) (w5 : Jvm.Cond.selects cls y z ∈ Ws) (w6 : Jvm.Cond.instanceMethod z ∈ Ws) (w3 : Jvm.Cond.initialized z.cls ∈ Ws) (w4 : Jvm.Cond.code z yb yl yr ∈ Ws) (hy : y.cls ≠ "java/lang/invoke/MethodHandle" ∧ y.cls ≠ "java/lang/invoke/VarHandle") (hpar : (parseMethodDescriptor y.desc).map (fun sg => sg.parameters.length) = some 0) (hsz : Ls.size = ml) (hF : ∀ x ∈ F', x ∈ F ∨ (w ≤ x ∧ x < h.size)) (E : Exa Z h a cls)
    (nf : ∀ vm0 : Vm, (Jvm.Cond.selects cls y z).before args (s.setVm vm0) = true → NotFace (s.setVm vm0) y)
    (K : Con l Z EL nwc z yb yl yr rm F' #[.ref a] h (rV Qc)) (hf : rm.frames + 1 ≤ R.frames) (hl : (st.map fun v => v.category).sum + (yl + 11) + rm.locals ≤ R.locals) (hk : k + rm.cells ≤ R.cells) (hn : n + rm.slots ≤ R.slots) (g : ∀ h', Qc h' → Goes p l e R s m args below meth c Z EL nw Q F (wm nwc w h') h' (k + rm.cells) (n + rm.slots) (mkF m nx Ls st)) (hnw : nw = true → nwc = true := by first | exact id | exact fun _ => rfl) : Goes p l e R s m args below meth c Z EL nw Q F w h k n (mkF m pc Ls (.ref a :: st)) :=
  C.virtual hnw hF (argsL := []) (rest := st) d w1 (C.wrd w2) w5 w6 hy (len_par hpar rfl) rfl hsz hk hn E (fun vm0 _ q => nf vm0 q) (K.pays (C.wrd w4) (C.wrd w3) C.2.2.2.2.2.2.2.2 hf hl) (Nat.le_refl _) (fun v h' q => by obtain ⟨rfl, q⟩ := q; exact g h' q)
theorem Cxt.s0R (C : Cxt p m meth c Z a0 EL own mn bytes ml ret Ws) {idx : Nat} {y : MethodName} {yb : ByteArray} {yl : Nat} {yr : Option FieldType} {rm : Room} {F' : List Addr}  {Qc : Value → Heap → Prop} {nwc : Bool} (d : Dec bytes pc (.invokestatic idx) 3 nx) (w1 : Jvm.Cond.methodLink own idx y ∈ Ws) (w2 : Jvm.Cond.static y ∈ Ws) (w3 : Jvm.Cond.initialized y.cls ∈ Ws) (w4 : Jvm.Cond.code y yb yl yr ∈ Ws) (hy : y.cls ≠ "java/lang/invoke/MethodHandle" ∧ y.cls ≠ "java/lang/invoke/VarHandle") (hpar : (parseMethodDescriptor y.desc).map (fun sg => sg.parameters.length) = some 0) (hsz : Ls.size = ml) (hF : ∀ x ∈ F', x ∈ F ∨ (w ≤ x ∧ x < h.size))
    (K : Con l Z EL nwc y yb yl yr rm F' #[] h (rR Qc)) (hf : rm.frames + 1 ≤ R.frames) (hl : (st.map fun v => v.category).sum + (yl + 11) + rm.locals ≤ R.locals) (hk : k + rm.cells ≤ R.cells) (hn : n + rm.slots ≤ R.slots) (g : ∀ v h', Qc v h' → Goes p l e R s m args below meth c Z EL nw Q F (wm nwc w h') h' (k + rm.cells) (n + rm.slots) (mkF m nx Ls (v :: st))) (hnw : nw = true → nwc = true := by first | exact id | exact fun _ => rfl) : Goes p l e R s m args below meth c Z EL nw Q F w h k n (mkF m pc Ls st) :=
  C.static hnw hF (argsL := []) (rest := st) d w1 w2 w3 w4 hy (len_par hpar rfl) rfl hsz hk hn (K.pays (C.wrd w4) (C.wrd w3) C.2.2.2.2.2.2.2.2 hf hl) (Nat.le_refl _) (fun v h' q => by obtain ⟨v, rfl, q⟩ := q; exact g v h' q)
theorem Cxt.v0R (C : Cxt p m meth c Z a0 EL own mn bytes ml ret Ws) {idx : Nat} {y z : MethodName} {yb : ByteArray} {yl : Nat} {yr : Option FieldType} {rm : Room} {F' : List Addr} {cls : String} {a : Addr}  {Qc : Value → Heap → Prop} {nwc : Bool} (d : Dec bytes pc (.invokevirtual idx) 3 nx) (w1 : Jvm.Cond.methodLink own idx y ∈ Ws) (w2 : Jvm.Cond.declares y ∈ Ws) (w5 : Jvm.Cond.selects cls y z ∈ Ws) (w6 : Jvm.Cond.instanceMethod z ∈ Ws) (w3 : Jvm.Cond.initialized z.cls ∈ Ws) (w4 : Jvm.Cond.code z yb yl yr ∈ Ws) (hy : y.cls ≠ "java/lang/invoke/MethodHandle" ∧ y.cls ≠ "java/lang/invoke/VarHandle") (hpar : (parseMethodDescriptor y.desc).map (fun sg => sg.parameters.length) = some 0) (hsz : Ls.size = ml) (hF : ∀ x ∈ F', x ∈ F ∨ (w ≤ x ∧ x < h.size)) (E : Exa Z h a cls)
    (nf : ∀ vm0 : Vm, (Jvm.Cond.selects cls y z).before args (s.setVm vm0) = true → NotFace (s.setVm vm0) y)
    (K : Con l Z EL nwc z yb yl yr rm F' #[.ref a] h (rR Qc)) (hf : rm.frames + 1 ≤ R.frames) (hl : (st.map fun v => v.category).sum + (yl + 11) + rm.locals ≤ R.locals) (hk : k + rm.cells ≤ R.cells) (hn : n + rm.slots ≤ R.slots) (g : ∀ v h', Qc v h' → Goes p l e R s m args below meth c Z EL nw Q F (wm nwc w h') h' (k + rm.cells) (n + rm.slots) (mkF m nx Ls (v :: st))) (hnw : nw = true → nwc = true := by first | exact id | exact fun _ => rfl) : Goes p l e R s m args below meth c Z EL nw Q F w h k n (mkF m pc Ls (.ref a :: st)) :=
  C.virtual hnw hF (argsL := []) (rest := st) d w1 (C.wrd w2) w5 w6 hy (len_par hpar rfl) rfl hsz hk hn E (fun vm0 _ q => nf vm0 q) (K.pays (C.wrd w4) (C.wrd w3) C.2.2.2.2.2.2.2.2 hf hl) (Nat.le_refl _) (fun v h' q => by obtain ⟨v, rfl, q⟩ := q; exact g v h' q)
theorem Cxt.s1V (C : Cxt p m meth c Z a0 EL own mn bytes ml ret Ws) {idx : Nat} {y : MethodName} {yb : ByteArray} {yl : Nat} {yr : Option FieldType} {rm : Room} {F' : List Addr} {x1 : Value} {Qc : Heap → Prop} {nwc : Bool} (d : Dec bytes pc (.invokestatic idx) 3 nx) (w1 : Jvm.Cond.methodLink own idx y ∈ Ws) (w2 : Jvm.Cond.static y ∈ Ws) (w3 : Jvm.Cond.initialized y.cls ∈ Ws) (w4 : Jvm.Cond.code y yb yl yr ∈ Ws) (hy : y.cls ≠ "java/lang/invoke/MethodHandle" ∧ y.cls ≠ "java/lang/invoke/VarHandle") (hpar : (parseMethodDescriptor y.desc).map (fun sg => sg.parameters.length) = some 1) (hsz : Ls.size = ml) (hF : ∀ x ∈ F', x ∈ F ∨ (w ≤ x ∧ x < h.size))
    (K : Con l Z EL nwc y yb yl yr rm F' #[x1] h (rV Qc)) (hf : rm.frames + 1 ≤ R.frames) (hl : (st.map fun v => v.category).sum + (yl + 11) + rm.locals ≤ R.locals) (hk : k + rm.cells ≤ R.cells) (hn : n + rm.slots ≤ R.slots) (g : ∀ h', Qc h' → Goes p l e R s m args below meth c Z EL nw Q F (wm nwc w h') h' (k + rm.cells) (n + rm.slots) (mkF m nx Ls st)) (hnw : nw = true → nwc = true := by first | exact id | exact fun _ => rfl) : Goes p l e R s m args below meth c Z EL nw Q F w h k n (mkF m pc Ls (x1 :: st)) :=
  C.static hnw hF (argsL := [x1]) (rest := st) d w1 w2 w3 w4 hy (len_par hpar rfl) rfl hsz hk hn (K.pays (C.wrd w4) (C.wrd w3) C.2.2.2.2.2.2.2.2 hf hl) (Nat.le_refl _) (fun v h' q => by obtain ⟨rfl, q⟩ := q; exact g h' q)
theorem Cxt.c1 (C : Cxt p m meth c Z a0 EL own mn bytes ml ret Ws) {idx : Nat} {y : MethodName} {yb : ByteArray} {yl : Nat} {rm : Room} {F' : List Addr} {a : Addr} {x1 : Value} {Qc : Heap → Prop} {nwc : Bool} (d : Dec bytes pc (.invokespecial idx) 3 nx) (hy1 : y.name = "<init>") (w1 : Jvm.Cond.methodLink own idx y ∈ Ws) (w2 : Jvm.Cond.instanceMethod y ∈ Ws) (w3 : Jvm.Cond.initialized y.cls ∈ Ws) (w4 : Jvm.Cond.code y yb yl none ∈ Ws) (hy : y.cls ≠ "java/lang/invoke/MethodHandle" ∧ y.cls ≠ "java/lang/invoke/VarHandle") (hpar : (parseMethodDescriptor y.desc).map (fun sg => sg.parameters.length) = some 1) (hsz : Ls.size = ml) (hF : ∀ x ∈ F', x ∈ F ∨ (w ≤ x ∧ x < h.size))
    (K : Con l Z EL nwc y yb yl none rm F' #[.ref a, x1] h (rV Qc)) (hf : rm.frames + 1 ≤ R.frames) (hl : (st.map fun v => v.category).sum + (yl + 11) + rm.locals ≤ R.locals) (hk : k + rm.cells ≤ R.cells) (hn : n + rm.slots ≤ R.slots) (g : ∀ h', Qc h' → Goes p l e R s m args below meth c Z EL nw Q F (wm nwc w h') h' (k + rm.cells) (n + rm.slots) (mkF m nx Ls st)) (hnw : nw = true → nwc = true := by first | exact id | exact fun _ => rfl) : Goes p l e R s m args below meth c Z EL nw Q F w h k n (mkF m pc Ls (x1 :: .ref a :: st)) :=
  C.special hnw hF (argsL := [x1]) (rest := st) d hy1 w1 w2 w4 hy (len_par hpar rfl) rfl hsz hk hn (K.pays (C.wrd w4) (C.wrd w3) C.2.2.2.2.2.2.2.2 hf hl) (Nat.le_refl _) (fun v h' q => by obtain ⟨rfl, q⟩ := q; exact g h' q)
theorem Cxt.v1V (C : Cxt p m meth c Z a0 EL own mn bytes ml ret Ws) {idx : Nat} {y z : MethodName} {yb : ByteArray} {yl : Nat} {yr : Option FieldType} {rm : Room} {F' : List Addr} {cls : String} {a : Addr} {x1 : Value} {Qc : Heap → Prop} {nwc : Bool} (d : Dec bytes pc (.invokevirtual idx) 3 nx) (w1 : Jvm.Cond.methodLink own idx y ∈ Ws) (w2 : Jvm.Cond.declares y ∈ Ws) (w5 : Jvm.Cond.selects cls y z ∈ Ws) (w6 : Jvm.Cond.instanceMethod z ∈ Ws) (w3 : Jvm.Cond.initialized z.cls ∈ Ws) (w4 : Jvm.Cond.code z yb yl yr ∈ Ws) (hy : y.cls ≠ "java/lang/invoke/MethodHandle" ∧ y.cls ≠ "java/lang/invoke/VarHandle") (hpar : (parseMethodDescriptor y.desc).map (fun sg => sg.parameters.length) = some 1) (hsz : Ls.size = ml) (hF : ∀ x ∈ F', x ∈ F ∨ (w ≤ x ∧ x < h.size)) (E : Exa Z h a cls)
    (nf : ∀ vm0 : Vm, (Jvm.Cond.selects cls y z).before args (s.setVm vm0) = true → NotFace (s.setVm vm0) y)
    (K : Con l Z EL nwc z yb yl yr rm F' #[.ref a, x1] h (rV Qc)) (hf : rm.frames + 1 ≤ R.frames) (hl : (st.map fun v => v.category).sum + (yl + 11) + rm.locals ≤ R.locals) (hk : k + rm.cells ≤ R.cells) (hn : n + rm.slots ≤ R.slots) (g : ∀ h', Qc h' → Goes p l e R s m args below meth c Z EL nw Q F (wm nwc w h') h' (k + rm.cells) (n + rm.slots) (mkF m nx Ls st)) (hnw : nw = true → nwc = true := by first | exact id | exact fun _ => rfl) : Goes p l e R s m args below meth c Z EL nw Q F w h k n (mkF m pc Ls (x1 :: .ref a :: st)) :=
  C.virtual hnw hF (argsL := [x1]) (rest := st) d w1 (C.wrd w2) w5 w6 hy (len_par hpar rfl) rfl hsz hk hn E (fun vm0 _ q => nf vm0 q) (K.pays (C.wrd w4) (C.wrd w3) C.2.2.2.2.2.2.2.2 hf hl) (Nat.le_refl _) (fun v h' q => by obtain ⟨rfl, q⟩ := q; exact g h' q)
theorem Cxt.s1R (C : Cxt p m meth c Z a0 EL own mn bytes ml ret Ws) {idx : Nat} {y : MethodName} {yb : ByteArray} {yl : Nat} {yr : Option FieldType} {rm : Room} {F' : List Addr} {x1 : Value} {Qc : Value → Heap → Prop} {nwc : Bool} (d : Dec bytes pc (.invokestatic idx) 3 nx) (w1 : Jvm.Cond.methodLink own idx y ∈ Ws) (w2 : Jvm.Cond.static y ∈ Ws) (w3 : Jvm.Cond.initialized y.cls ∈ Ws) (w4 : Jvm.Cond.code y yb yl yr ∈ Ws) (hy : y.cls ≠ "java/lang/invoke/MethodHandle" ∧ y.cls ≠ "java/lang/invoke/VarHandle") (hpar : (parseMethodDescriptor y.desc).map (fun sg => sg.parameters.length) = some 1) (hsz : Ls.size = ml) (hF : ∀ x ∈ F', x ∈ F ∨ (w ≤ x ∧ x < h.size))
    (K : Con l Z EL nwc y yb yl yr rm F' #[x1] h (rR Qc)) (hf : rm.frames + 1 ≤ R.frames) (hl : (st.map fun v => v.category).sum + (yl + 11) + rm.locals ≤ R.locals) (hk : k + rm.cells ≤ R.cells) (hn : n + rm.slots ≤ R.slots) (g : ∀ v h', Qc v h' → Goes p l e R s m args below meth c Z EL nw Q F (wm nwc w h') h' (k + rm.cells) (n + rm.slots) (mkF m nx Ls (v :: st))) (hnw : nw = true → nwc = true := by first | exact id | exact fun _ => rfl) : Goes p l e R s m args below meth c Z EL nw Q F w h k n (mkF m pc Ls (x1 :: st)) :=
  C.static hnw hF (argsL := [x1]) (rest := st) d w1 w2 w3 w4 hy (len_par hpar rfl) rfl hsz hk hn (K.pays (C.wrd w4) (C.wrd w3) C.2.2.2.2.2.2.2.2 hf hl) (Nat.le_refl _) (fun v h' q => by obtain ⟨v, rfl, q⟩ := q; exact g v h' q)
theorem Cxt.v1R (C : Cxt p m meth c Z a0 EL own mn bytes ml ret Ws) {idx : Nat} {y z : MethodName} {yb : ByteArray} {yl : Nat} {yr : Option FieldType} {rm : Room} {F' : List Addr} {cls : String} {a : Addr} {x1 : Value} {Qc : Value → Heap → Prop} {nwc : Bool} (d : Dec bytes pc (.invokevirtual idx) 3 nx) (w1 : Jvm.Cond.methodLink own idx y ∈ Ws) (w2 : Jvm.Cond.declares y ∈ Ws) (w5 : Jvm.Cond.selects cls y z ∈ Ws) (w6 : Jvm.Cond.instanceMethod z ∈ Ws) (w3 : Jvm.Cond.initialized z.cls ∈ Ws) (w4 : Jvm.Cond.code z yb yl yr ∈ Ws) (hy : y.cls ≠ "java/lang/invoke/MethodHandle" ∧ y.cls ≠ "java/lang/invoke/VarHandle") (hpar : (parseMethodDescriptor y.desc).map (fun sg => sg.parameters.length) = some 1) (hsz : Ls.size = ml) (hF : ∀ x ∈ F', x ∈ F ∨ (w ≤ x ∧ x < h.size)) (E : Exa Z h a cls)
    (nf : ∀ vm0 : Vm, (Jvm.Cond.selects cls y z).before args (s.setVm vm0) = true → NotFace (s.setVm vm0) y)
    (K : Con l Z EL nwc z yb yl yr rm F' #[.ref a, x1] h (rR Qc)) (hf : rm.frames + 1 ≤ R.frames) (hl : (st.map fun v => v.category).sum + (yl + 11) + rm.locals ≤ R.locals) (hk : k + rm.cells ≤ R.cells) (hn : n + rm.slots ≤ R.slots) (g : ∀ v h', Qc v h' → Goes p l e R s m args below meth c Z EL nw Q F (wm nwc w h') h' (k + rm.cells) (n + rm.slots) (mkF m nx Ls (v :: st))) (hnw : nw = true → nwc = true := by first | exact id | exact fun _ => rfl) : Goes p l e R s m args below meth c Z EL nw Q F w h k n (mkF m pc Ls (x1 :: .ref a :: st)) :=
  C.virtual hnw hF (argsL := [x1]) (rest := st) d w1 (C.wrd w2) w5 w6 hy (len_par hpar rfl) rfl hsz hk hn E (fun vm0 _ q => nf vm0 q) (K.pays (C.wrd w4) (C.wrd w3) C.2.2.2.2.2.2.2.2 hf hl) (Nat.le_refl _) (fun v h' q => by obtain ⟨v, rfl, q⟩ := q; exact g v h' q)
theorem Cxt.s2V (C : Cxt p m meth c Z a0 EL own mn bytes ml ret Ws) {idx : Nat} {y : MethodName} {yb : ByteArray} {yl : Nat} {yr : Option FieldType} {rm : Room} {F' : List Addr} {x1 x2 : Value} {Qc : Heap → Prop} {nwc : Bool} (d : Dec bytes pc (.invokestatic idx) 3 nx) (w1 : Jvm.Cond.methodLink own idx y ∈ Ws) (w2 : Jvm.Cond.static y ∈ Ws) (w3 : Jvm.Cond.initialized y.cls ∈ Ws) (w4 : Jvm.Cond.code y yb yl yr ∈ Ws) (hy : y.cls ≠ "java/lang/invoke/MethodHandle" ∧ y.cls ≠ "java/lang/invoke/VarHandle") (hpar : (parseMethodDescriptor y.desc).map (fun sg => sg.parameters.length) = some 2) (hsz : Ls.size = ml) (hF : ∀ x ∈ F', x ∈ F ∨ (w ≤ x ∧ x < h.size))
    (K : Con l Z EL nwc y yb yl yr rm F' #[x1, x2] h (rV Qc)) (hf : rm.frames + 1 ≤ R.frames) (hl : (st.map fun v => v.category).sum + (yl + 11) + rm.locals ≤ R.locals) (hk : k + rm.cells ≤ R.cells) (hn : n + rm.slots ≤ R.slots) (g : ∀ h', Qc h' → Goes p l e R s m args below meth c Z EL nw Q F (wm nwc w h') h' (k + rm.cells) (n + rm.slots) (mkF m nx Ls st)) (hnw : nw = true → nwc = true := by first | exact id | exact fun _ => rfl) : Goes p l e R s m args below meth c Z EL nw Q F w h k n (mkF m pc Ls (x2 :: x1 :: st)) :=
  C.static hnw hF (argsL := [x1, x2]) (rest := st) d w1 w2 w3 w4 hy (len_par hpar rfl) rfl hsz hk hn (K.pays (C.wrd w4) (C.wrd w3) C.2.2.2.2.2.2.2.2 hf hl) (Nat.le_refl _) (fun v h' q => by obtain ⟨rfl, q⟩ := q; exact g h' q)
theorem Cxt.c2 (C : Cxt p m meth c Z a0 EL own mn bytes ml ret Ws) {idx : Nat} {y : MethodName} {yb : ByteArray} {yl : Nat} {rm : Room} {F' : List Addr} {a : Addr} {x1 x2 : Value} {Qc : Heap → Prop} {nwc : Bool} (d : Dec bytes pc (.invokespecial idx) 3 nx) (hy1 : y.name = "<init>") (w1 : Jvm.Cond.methodLink own idx y ∈ Ws) (w2 : Jvm.Cond.instanceMethod y ∈ Ws) (w3 : Jvm.Cond.initialized y.cls ∈ Ws) (w4 : Jvm.Cond.code y yb yl none ∈ Ws) (hy : y.cls ≠ "java/lang/invoke/MethodHandle" ∧ y.cls ≠ "java/lang/invoke/VarHandle") (hpar : (parseMethodDescriptor y.desc).map (fun sg => sg.parameters.length) = some 2) (hsz : Ls.size = ml) (hF : ∀ x ∈ F', x ∈ F ∨ (w ≤ x ∧ x < h.size))
    (K : Con l Z EL nwc y yb yl none rm F' #[.ref a, x1, x2] h (rV Qc)) (hf : rm.frames + 1 ≤ R.frames) (hl : (st.map fun v => v.category).sum + (yl + 11) + rm.locals ≤ R.locals) (hk : k + rm.cells ≤ R.cells) (hn : n + rm.slots ≤ R.slots) (g : ∀ h', Qc h' → Goes p l e R s m args below meth c Z EL nw Q F (wm nwc w h') h' (k + rm.cells) (n + rm.slots) (mkF m nx Ls st)) (hnw : nw = true → nwc = true := by first | exact id | exact fun _ => rfl) : Goes p l e R s m args below meth c Z EL nw Q F w h k n (mkF m pc Ls (x2 :: x1 :: .ref a :: st)) :=
  C.special hnw hF (argsL := [x1, x2]) (rest := st) d hy1 w1 w2 w4 hy (len_par hpar rfl) rfl hsz hk hn (K.pays (C.wrd w4) (C.wrd w3) C.2.2.2.2.2.2.2.2 hf hl) (Nat.le_refl _) (fun v h' q => by obtain ⟨rfl, q⟩ := q; exact g h' q)
theorem Cxt.v2V (C : Cxt p m meth c Z a0 EL own mn bytes ml ret Ws) {idx : Nat} {y z : MethodName} {yb : ByteArray} {yl : Nat} {yr : Option FieldType} {rm : Room} {F' : List Addr} {cls : String} {a : Addr} {x1 x2 : Value} {Qc : Heap → Prop} {nwc : Bool} (d : Dec bytes pc (.invokevirtual idx) 3 nx) (w1 : Jvm.Cond.methodLink own idx y ∈ Ws) (w2 : Jvm.Cond.declares y ∈ Ws) (w5 : Jvm.Cond.selects cls y z ∈ Ws) (w6 : Jvm.Cond.instanceMethod z ∈ Ws) (w3 : Jvm.Cond.initialized z.cls ∈ Ws) (w4 : Jvm.Cond.code z yb yl yr ∈ Ws) (hy : y.cls ≠ "java/lang/invoke/MethodHandle" ∧ y.cls ≠ "java/lang/invoke/VarHandle") (hpar : (parseMethodDescriptor y.desc).map (fun sg => sg.parameters.length) = some 2) (hsz : Ls.size = ml) (hF : ∀ x ∈ F', x ∈ F ∨ (w ≤ x ∧ x < h.size)) (E : Exa Z h a cls)
    (nf : ∀ vm0 : Vm, (Jvm.Cond.selects cls y z).before args (s.setVm vm0) = true → NotFace (s.setVm vm0) y)
    (K : Con l Z EL nwc z yb yl yr rm F' #[.ref a, x1, x2] h (rV Qc)) (hf : rm.frames + 1 ≤ R.frames) (hl : (st.map fun v => v.category).sum + (yl + 11) + rm.locals ≤ R.locals) (hk : k + rm.cells ≤ R.cells) (hn : n + rm.slots ≤ R.slots) (g : ∀ h', Qc h' → Goes p l e R s m args below meth c Z EL nw Q F (wm nwc w h') h' (k + rm.cells) (n + rm.slots) (mkF m nx Ls st)) (hnw : nw = true → nwc = true := by first | exact id | exact fun _ => rfl) : Goes p l e R s m args below meth c Z EL nw Q F w h k n (mkF m pc Ls (x2 :: x1 :: .ref a :: st)) :=
  C.virtual hnw hF (argsL := [x1, x2]) (rest := st) d w1 (C.wrd w2) w5 w6 hy (len_par hpar rfl) rfl hsz hk hn E (fun vm0 _ q => nf vm0 q) (K.pays (C.wrd w4) (C.wrd w3) C.2.2.2.2.2.2.2.2 hf hl) (Nat.le_refl _) (fun v h' q => by obtain ⟨rfl, q⟩ := q; exact g h' q)
theorem Cxt.s2R (C : Cxt p m meth c Z a0 EL own mn bytes ml ret Ws) {idx : Nat} {y : MethodName} {yb : ByteArray} {yl : Nat} {yr : Option FieldType} {rm : Room} {F' : List Addr} {x1 x2 : Value} {Qc : Value → Heap → Prop} {nwc : Bool} (d : Dec bytes pc (.invokestatic idx) 3 nx) (w1 : Jvm.Cond.methodLink own idx y ∈ Ws) (w2 : Jvm.Cond.static y ∈ Ws) (w3 : Jvm.Cond.initialized y.cls ∈ Ws) (w4 : Jvm.Cond.code y yb yl yr ∈ Ws) (hy : y.cls ≠ "java/lang/invoke/MethodHandle" ∧ y.cls ≠ "java/lang/invoke/VarHandle") (hpar : (parseMethodDescriptor y.desc).map (fun sg => sg.parameters.length) = some 2) (hsz : Ls.size = ml) (hF : ∀ x ∈ F', x ∈ F ∨ (w ≤ x ∧ x < h.size))
    (K : Con l Z EL nwc y yb yl yr rm F' #[x1, x2] h (rR Qc)) (hf : rm.frames + 1 ≤ R.frames) (hl : (st.map fun v => v.category).sum + (yl + 11) + rm.locals ≤ R.locals) (hk : k + rm.cells ≤ R.cells) (hn : n + rm.slots ≤ R.slots) (g : ∀ v h', Qc v h' → Goes p l e R s m args below meth c Z EL nw Q F (wm nwc w h') h' (k + rm.cells) (n + rm.slots) (mkF m nx Ls (v :: st))) (hnw : nw = true → nwc = true := by first | exact id | exact fun _ => rfl) : Goes p l e R s m args below meth c Z EL nw Q F w h k n (mkF m pc Ls (x2 :: x1 :: st)) :=
  C.static hnw hF (argsL := [x1, x2]) (rest := st) d w1 w2 w3 w4 hy (len_par hpar rfl) rfl hsz hk hn (K.pays (C.wrd w4) (C.wrd w3) C.2.2.2.2.2.2.2.2 hf hl) (Nat.le_refl _) (fun v h' q => by obtain ⟨v, rfl, q⟩ := q; exact g v h' q)
theorem Cxt.v2R (C : Cxt p m meth c Z a0 EL own mn bytes ml ret Ws) {idx : Nat} {y z : MethodName} {yb : ByteArray} {yl : Nat} {yr : Option FieldType} {rm : Room} {F' : List Addr} {cls : String} {a : Addr} {x1 x2 : Value} {Qc : Value → Heap → Prop} {nwc : Bool} (d : Dec bytes pc (.invokevirtual idx) 3 nx) (w1 : Jvm.Cond.methodLink own idx y ∈ Ws) (w2 : Jvm.Cond.declares y ∈ Ws) (w5 : Jvm.Cond.selects cls y z ∈ Ws) (w6 : Jvm.Cond.instanceMethod z ∈ Ws) (w3 : Jvm.Cond.initialized z.cls ∈ Ws) (w4 : Jvm.Cond.code z yb yl yr ∈ Ws) (hy : y.cls ≠ "java/lang/invoke/MethodHandle" ∧ y.cls ≠ "java/lang/invoke/VarHandle") (hpar : (parseMethodDescriptor y.desc).map (fun sg => sg.parameters.length) = some 2) (hsz : Ls.size = ml) (hF : ∀ x ∈ F', x ∈ F ∨ (w ≤ x ∧ x < h.size)) (E : Exa Z h a cls)
    (nf : ∀ vm0 : Vm, (Jvm.Cond.selects cls y z).before args (s.setVm vm0) = true → NotFace (s.setVm vm0) y)
    (K : Con l Z EL nwc z yb yl yr rm F' #[.ref a, x1, x2] h (rR Qc)) (hf : rm.frames + 1 ≤ R.frames) (hl : (st.map fun v => v.category).sum + (yl + 11) + rm.locals ≤ R.locals) (hk : k + rm.cells ≤ R.cells) (hn : n + rm.slots ≤ R.slots) (g : ∀ v h', Qc v h' → Goes p l e R s m args below meth c Z EL nw Q F (wm nwc w h') h' (k + rm.cells) (n + rm.slots) (mkF m nx Ls (v :: st))) (hnw : nw = true → nwc = true := by first | exact id | exact fun _ => rfl) : Goes p l e R s m args below meth c Z EL nw Q F w h k n (mkF m pc Ls (x2 :: x1 :: .ref a :: st)) :=
  C.virtual hnw hF (argsL := [x1, x2]) (rest := st) d w1 (C.wrd w2) w5 w6 hy (len_par hpar rfl) rfl hsz hk hn E (fun vm0 _ q => nf vm0 q) (K.pays (C.wrd w4) (C.wrd w3) C.2.2.2.2.2.2.2.2 hf hl) (Nat.le_refl _) (fun v h' q => by obtain ⟨v, rfl, q⟩ := q; exact g v h' q)
theorem Cxt.s3V (C : Cxt p m meth c Z a0 EL own mn bytes ml ret Ws) {idx : Nat} {y : MethodName} {yb : ByteArray} {yl : Nat} {yr : Option FieldType} {rm : Room} {F' : List Addr} {x1 x2 x3 : Value} {Qc : Heap → Prop} {nwc : Bool} (d : Dec bytes pc (.invokestatic idx) 3 nx) (w1 : Jvm.Cond.methodLink own idx y ∈ Ws) (w2 : Jvm.Cond.static y ∈ Ws) (w3 : Jvm.Cond.initialized y.cls ∈ Ws) (w4 : Jvm.Cond.code y yb yl yr ∈ Ws) (hy : y.cls ≠ "java/lang/invoke/MethodHandle" ∧ y.cls ≠ "java/lang/invoke/VarHandle") (hpar : (parseMethodDescriptor y.desc).map (fun sg => sg.parameters.length) = some 3) (hsz : Ls.size = ml) (hF : ∀ x ∈ F', x ∈ F ∨ (w ≤ x ∧ x < h.size))
    (K : Con l Z EL nwc y yb yl yr rm F' #[x1, x2, x3] h (rV Qc)) (hf : rm.frames + 1 ≤ R.frames) (hl : (st.map fun v => v.category).sum + (yl + 11) + rm.locals ≤ R.locals) (hk : k + rm.cells ≤ R.cells) (hn : n + rm.slots ≤ R.slots) (g : ∀ h', Qc h' → Goes p l e R s m args below meth c Z EL nw Q F (wm nwc w h') h' (k + rm.cells) (n + rm.slots) (mkF m nx Ls st)) (hnw : nw = true → nwc = true := by first | exact id | exact fun _ => rfl) : Goes p l e R s m args below meth c Z EL nw Q F w h k n (mkF m pc Ls (x3 :: x2 :: x1 :: st)) :=
  C.static hnw hF (argsL := [x1, x2, x3]) (rest := st) d w1 w2 w3 w4 hy (len_par hpar rfl) rfl hsz hk hn (K.pays (C.wrd w4) (C.wrd w3) C.2.2.2.2.2.2.2.2 hf hl) (Nat.le_refl _) (fun v h' q => by obtain ⟨rfl, q⟩ := q; exact g h' q)
theorem Cxt.c3 (C : Cxt p m meth c Z a0 EL own mn bytes ml ret Ws) {idx : Nat} {y : MethodName} {yb : ByteArray} {yl : Nat} {rm : Room} {F' : List Addr} {a : Addr} {x1 x2 x3 : Value} {Qc : Heap → Prop} {nwc : Bool} (d : Dec bytes pc (.invokespecial idx) 3 nx) (hy1 : y.name = "<init>") (w1 : Jvm.Cond.methodLink own idx y ∈ Ws) (w2 : Jvm.Cond.instanceMethod y ∈ Ws) (w3 : Jvm.Cond.initialized y.cls ∈ Ws) (w4 : Jvm.Cond.code y yb yl none ∈ Ws) (hy : y.cls ≠ "java/lang/invoke/MethodHandle" ∧ y.cls ≠ "java/lang/invoke/VarHandle") (hpar : (parseMethodDescriptor y.desc).map (fun sg => sg.parameters.length) = some 3) (hsz : Ls.size = ml) (hF : ∀ x ∈ F', x ∈ F ∨ (w ≤ x ∧ x < h.size))
    (K : Con l Z EL nwc y yb yl none rm F' #[.ref a, x1, x2, x3] h (rV Qc)) (hf : rm.frames + 1 ≤ R.frames) (hl : (st.map fun v => v.category).sum + (yl + 11) + rm.locals ≤ R.locals) (hk : k + rm.cells ≤ R.cells) (hn : n + rm.slots ≤ R.slots) (g : ∀ h', Qc h' → Goes p l e R s m args below meth c Z EL nw Q F (wm nwc w h') h' (k + rm.cells) (n + rm.slots) (mkF m nx Ls st)) (hnw : nw = true → nwc = true := by first | exact id | exact fun _ => rfl) : Goes p l e R s m args below meth c Z EL nw Q F w h k n (mkF m pc Ls (x3 :: x2 :: x1 :: .ref a :: st)) :=
  C.special hnw hF (argsL := [x1, x2, x3]) (rest := st) d hy1 w1 w2 w4 hy (len_par hpar rfl) rfl hsz hk hn (K.pays (C.wrd w4) (C.wrd w3) C.2.2.2.2.2.2.2.2 hf hl) (Nat.le_refl _) (fun v h' q => by obtain ⟨rfl, q⟩ := q; exact g h' q)
theorem Cxt.v3V (C : Cxt p m meth c Z a0 EL own mn bytes ml ret Ws) {idx : Nat} {y z : MethodName} {yb : ByteArray} {yl : Nat} {yr : Option FieldType} {rm : Room} {F' : List Addr} {cls : String} {a : Addr} {x1 x2 x3 : Value} {Qc : Heap → Prop} {nwc : Bool} (d : Dec bytes pc (.invokevirtual idx) 3 nx) (w1 : Jvm.Cond.methodLink own idx y ∈ Ws) (w2 : Jvm.Cond.declares y ∈ Ws) (w5 : Jvm.Cond.selects cls y z ∈ Ws) (w6 : Jvm.Cond.instanceMethod z ∈ Ws) (w3 : Jvm.Cond.initialized z.cls ∈ Ws) (w4 : Jvm.Cond.code z yb yl yr ∈ Ws) (hy : y.cls ≠ "java/lang/invoke/MethodHandle" ∧ y.cls ≠ "java/lang/invoke/VarHandle") (hpar : (parseMethodDescriptor y.desc).map (fun sg => sg.parameters.length) = some 3) (hsz : Ls.size = ml) (hF : ∀ x ∈ F', x ∈ F ∨ (w ≤ x ∧ x < h.size)) (E : Exa Z h a cls)
    (nf : ∀ vm0 : Vm, (Jvm.Cond.selects cls y z).before args (s.setVm vm0) = true → NotFace (s.setVm vm0) y)
    (K : Con l Z EL nwc z yb yl yr rm F' #[.ref a, x1, x2, x3] h (rV Qc)) (hf : rm.frames + 1 ≤ R.frames) (hl : (st.map fun v => v.category).sum + (yl + 11) + rm.locals ≤ R.locals) (hk : k + rm.cells ≤ R.cells) (hn : n + rm.slots ≤ R.slots) (g : ∀ h', Qc h' → Goes p l e R s m args below meth c Z EL nw Q F (wm nwc w h') h' (k + rm.cells) (n + rm.slots) (mkF m nx Ls st)) (hnw : nw = true → nwc = true := by first | exact id | exact fun _ => rfl) : Goes p l e R s m args below meth c Z EL nw Q F w h k n (mkF m pc Ls (x3 :: x2 :: x1 :: .ref a :: st)) :=
  C.virtual hnw hF (argsL := [x1, x2, x3]) (rest := st) d w1 (C.wrd w2) w5 w6 hy (len_par hpar rfl) rfl hsz hk hn E (fun vm0 _ q => nf vm0 q) (K.pays (C.wrd w4) (C.wrd w3) C.2.2.2.2.2.2.2.2 hf hl) (Nat.le_refl _) (fun v h' q => by obtain ⟨rfl, q⟩ := q; exact g h' q)
theorem Cxt.s3R (C : Cxt p m meth c Z a0 EL own mn bytes ml ret Ws) {idx : Nat} {y : MethodName} {yb : ByteArray} {yl : Nat} {yr : Option FieldType} {rm : Room} {F' : List Addr} {x1 x2 x3 : Value} {Qc : Value → Heap → Prop} {nwc : Bool} (d : Dec bytes pc (.invokestatic idx) 3 nx) (w1 : Jvm.Cond.methodLink own idx y ∈ Ws) (w2 : Jvm.Cond.static y ∈ Ws) (w3 : Jvm.Cond.initialized y.cls ∈ Ws) (w4 : Jvm.Cond.code y yb yl yr ∈ Ws) (hy : y.cls ≠ "java/lang/invoke/MethodHandle" ∧ y.cls ≠ "java/lang/invoke/VarHandle") (hpar : (parseMethodDescriptor y.desc).map (fun sg => sg.parameters.length) = some 3) (hsz : Ls.size = ml) (hF : ∀ x ∈ F', x ∈ F ∨ (w ≤ x ∧ x < h.size))
    (K : Con l Z EL nwc y yb yl yr rm F' #[x1, x2, x3] h (rR Qc)) (hf : rm.frames + 1 ≤ R.frames) (hl : (st.map fun v => v.category).sum + (yl + 11) + rm.locals ≤ R.locals) (hk : k + rm.cells ≤ R.cells) (hn : n + rm.slots ≤ R.slots) (g : ∀ v h', Qc v h' → Goes p l e R s m args below meth c Z EL nw Q F (wm nwc w h') h' (k + rm.cells) (n + rm.slots) (mkF m nx Ls (v :: st))) (hnw : nw = true → nwc = true := by first | exact id | exact fun _ => rfl) : Goes p l e R s m args below meth c Z EL nw Q F w h k n (mkF m pc Ls (x3 :: x2 :: x1 :: st)) :=
  C.static hnw hF (argsL := [x1, x2, x3]) (rest := st) d w1 w2 w3 w4 hy (len_par hpar rfl) rfl hsz hk hn (K.pays (C.wrd w4) (C.wrd w3) C.2.2.2.2.2.2.2.2 hf hl) (Nat.le_refl _) (fun v h' q => by obtain ⟨v, rfl, q⟩ := q; exact g v h' q)
theorem Cxt.v3R (C : Cxt p m meth c Z a0 EL own mn bytes ml ret Ws) {idx : Nat} {y z : MethodName} {yb : ByteArray} {yl : Nat} {yr : Option FieldType} {rm : Room} {F' : List Addr} {cls : String} {a : Addr} {x1 x2 x3 : Value} {Qc : Value → Heap → Prop} {nwc : Bool} (d : Dec bytes pc (.invokevirtual idx) 3 nx) (w1 : Jvm.Cond.methodLink own idx y ∈ Ws) (w2 : Jvm.Cond.declares y ∈ Ws) (w5 : Jvm.Cond.selects cls y z ∈ Ws) (w6 : Jvm.Cond.instanceMethod z ∈ Ws) (w3 : Jvm.Cond.initialized z.cls ∈ Ws) (w4 : Jvm.Cond.code z yb yl yr ∈ Ws) (hy : y.cls ≠ "java/lang/invoke/MethodHandle" ∧ y.cls ≠ "java/lang/invoke/VarHandle") (hpar : (parseMethodDescriptor y.desc).map (fun sg => sg.parameters.length) = some 3) (hsz : Ls.size = ml) (hF : ∀ x ∈ F', x ∈ F ∨ (w ≤ x ∧ x < h.size)) (E : Exa Z h a cls)
    (nf : ∀ vm0 : Vm, (Jvm.Cond.selects cls y z).before args (s.setVm vm0) = true → NotFace (s.setVm vm0) y)
    (K : Con l Z EL nwc z yb yl yr rm F' #[.ref a, x1, x2, x3] h (rR Qc)) (hf : rm.frames + 1 ≤ R.frames) (hl : (st.map fun v => v.category).sum + (yl + 11) + rm.locals ≤ R.locals) (hk : k + rm.cells ≤ R.cells) (hn : n + rm.slots ≤ R.slots) (g : ∀ v h', Qc v h' → Goes p l e R s m args below meth c Z EL nw Q F (wm nwc w h') h' (k + rm.cells) (n + rm.slots) (mkF m nx Ls (v :: st))) (hnw : nw = true → nwc = true := by first | exact id | exact fun _ => rfl) : Goes p l e R s m args below meth c Z EL nw Q F w h k n (mkF m pc Ls (x3 :: x2 :: x1 :: .ref a :: st)) :=
  C.virtual hnw hF (argsL := [x1, x2, x3]) (rest := st) d w1 (C.wrd w2) w5 w6 hy (len_par hpar rfl) rfl hsz hk hn E (fun vm0 _ q => nf vm0 q) (K.pays (C.wrd w4) (C.wrd w3) C.2.2.2.2.2.2.2.2 hf hl) (Nat.le_refl _) (fun v h' q => by obtain ⟨v, rfl, q⟩ := q; exact g v h' q)
theorem Cxt.s4V (C : Cxt p m meth c Z a0 EL own mn bytes ml ret Ws) {idx : Nat} {y : MethodName} {yb : ByteArray} {yl : Nat} {yr : Option FieldType} {rm : Room} {F' : List Addr} {x1 x2 x3 x4 : Value} {Qc : Heap → Prop} {nwc : Bool} (d : Dec bytes pc (.invokestatic idx) 3 nx) (w1 : Jvm.Cond.methodLink own idx y ∈ Ws) (w2 : Jvm.Cond.static y ∈ Ws) (w3 : Jvm.Cond.initialized y.cls ∈ Ws) (w4 : Jvm.Cond.code y yb yl yr ∈ Ws) (hy : y.cls ≠ "java/lang/invoke/MethodHandle" ∧ y.cls ≠ "java/lang/invoke/VarHandle") (hpar : (parseMethodDescriptor y.desc).map (fun sg => sg.parameters.length) = some 4) (hsz : Ls.size = ml) (hF : ∀ x ∈ F', x ∈ F ∨ (w ≤ x ∧ x < h.size))
    (K : Con l Z EL nwc y yb yl yr rm F' #[x1, x2, x3, x4] h (rV Qc)) (hf : rm.frames + 1 ≤ R.frames) (hl : (st.map fun v => v.category).sum + (yl + 11) + rm.locals ≤ R.locals) (hk : k + rm.cells ≤ R.cells) (hn : n + rm.slots ≤ R.slots) (g : ∀ h', Qc h' → Goes p l e R s m args below meth c Z EL nw Q F (wm nwc w h') h' (k + rm.cells) (n + rm.slots) (mkF m nx Ls st)) (hnw : nw = true → nwc = true := by first | exact id | exact fun _ => rfl) : Goes p l e R s m args below meth c Z EL nw Q F w h k n (mkF m pc Ls (x4 :: x3 :: x2 :: x1 :: st)) :=
  C.static hnw hF (argsL := [x1, x2, x3, x4]) (rest := st) d w1 w2 w3 w4 hy (len_par hpar rfl) rfl hsz hk hn (K.pays (C.wrd w4) (C.wrd w3) C.2.2.2.2.2.2.2.2 hf hl) (Nat.le_refl _) (fun v h' q => by obtain ⟨rfl, q⟩ := q; exact g h' q)
theorem Cxt.c4 (C : Cxt p m meth c Z a0 EL own mn bytes ml ret Ws) {idx : Nat} {y : MethodName} {yb : ByteArray} {yl : Nat} {rm : Room} {F' : List Addr} {a : Addr} {x1 x2 x3 x4 : Value} {Qc : Heap → Prop} {nwc : Bool} (d : Dec bytes pc (.invokespecial idx) 3 nx) (hy1 : y.name = "<init>") (w1 : Jvm.Cond.methodLink own idx y ∈ Ws) (w2 : Jvm.Cond.instanceMethod y ∈ Ws) (w3 : Jvm.Cond.initialized y.cls ∈ Ws) (w4 : Jvm.Cond.code y yb yl none ∈ Ws) (hy : y.cls ≠ "java/lang/invoke/MethodHandle" ∧ y.cls ≠ "java/lang/invoke/VarHandle") (hpar : (parseMethodDescriptor y.desc).map (fun sg => sg.parameters.length) = some 4) (hsz : Ls.size = ml) (hF : ∀ x ∈ F', x ∈ F ∨ (w ≤ x ∧ x < h.size))
    (K : Con l Z EL nwc y yb yl none rm F' #[.ref a, x1, x2, x3, x4] h (rV Qc)) (hf : rm.frames + 1 ≤ R.frames) (hl : (st.map fun v => v.category).sum + (yl + 11) + rm.locals ≤ R.locals) (hk : k + rm.cells ≤ R.cells) (hn : n + rm.slots ≤ R.slots) (g : ∀ h', Qc h' → Goes p l e R s m args below meth c Z EL nw Q F (wm nwc w h') h' (k + rm.cells) (n + rm.slots) (mkF m nx Ls st)) (hnw : nw = true → nwc = true := by first | exact id | exact fun _ => rfl) : Goes p l e R s m args below meth c Z EL nw Q F w h k n (mkF m pc Ls (x4 :: x3 :: x2 :: x1 :: .ref a :: st)) :=
  C.special hnw hF (argsL := [x1, x2, x3, x4]) (rest := st) d hy1 w1 w2 w4 hy (len_par hpar rfl) rfl hsz hk hn (K.pays (C.wrd w4) (C.wrd w3) C.2.2.2.2.2.2.2.2 hf hl) (Nat.le_refl _) (fun v h' q => by obtain ⟨rfl, q⟩ := q; exact g h' q)
theorem Cxt.v4V (C : Cxt p m meth c Z a0 EL own mn bytes ml ret Ws) {idx : Nat} {y z : MethodName} {yb : ByteArray} {yl : Nat} {yr : Option FieldType} {rm : Room} {F' : List Addr} {cls : String} {a : Addr} {x1 x2 x3 x4 : Value} {Qc : Heap → Prop} {nwc : Bool} (d : Dec bytes pc (.invokevirtual idx) 3 nx) (w1 : Jvm.Cond.methodLink own idx y ∈ Ws) (w2 : Jvm.Cond.declares y ∈ Ws) (w5 : Jvm.Cond.selects cls y z ∈ Ws) (w6 : Jvm.Cond.instanceMethod z ∈ Ws) (w3 : Jvm.Cond.initialized z.cls ∈ Ws) (w4 : Jvm.Cond.code z yb yl yr ∈ Ws) (hy : y.cls ≠ "java/lang/invoke/MethodHandle" ∧ y.cls ≠ "java/lang/invoke/VarHandle") (hpar : (parseMethodDescriptor y.desc).map (fun sg => sg.parameters.length) = some 4) (hsz : Ls.size = ml) (hF : ∀ x ∈ F', x ∈ F ∨ (w ≤ x ∧ x < h.size)) (E : Exa Z h a cls)
    (nf : ∀ vm0 : Vm, (Jvm.Cond.selects cls y z).before args (s.setVm vm0) = true → NotFace (s.setVm vm0) y)
    (K : Con l Z EL nwc z yb yl yr rm F' #[.ref a, x1, x2, x3, x4] h (rV Qc)) (hf : rm.frames + 1 ≤ R.frames) (hl : (st.map fun v => v.category).sum + (yl + 11) + rm.locals ≤ R.locals) (hk : k + rm.cells ≤ R.cells) (hn : n + rm.slots ≤ R.slots) (g : ∀ h', Qc h' → Goes p l e R s m args below meth c Z EL nw Q F (wm nwc w h') h' (k + rm.cells) (n + rm.slots) (mkF m nx Ls st)) (hnw : nw = true → nwc = true := by first | exact id | exact fun _ => rfl) : Goes p l e R s m args below meth c Z EL nw Q F w h k n (mkF m pc Ls (x4 :: x3 :: x2 :: x1 :: .ref a :: st)) :=
  C.virtual hnw hF (argsL := [x1, x2, x3, x4]) (rest := st) d w1 (C.wrd w2) w5 w6 hy (len_par hpar rfl) rfl hsz hk hn E (fun vm0 _ q => nf vm0 q) (K.pays (C.wrd w4) (C.wrd w3) C.2.2.2.2.2.2.2.2 hf hl) (Nat.le_refl _) (fun v h' q => by obtain ⟨rfl, q⟩ := q; exact g h' q)
theorem Cxt.s4R (C : Cxt p m meth c Z a0 EL own mn bytes ml ret Ws) {idx : Nat} {y : MethodName} {yb : ByteArray} {yl : Nat} {yr : Option FieldType} {rm : Room} {F' : List Addr} {x1 x2 x3 x4 : Value} {Qc : Value → Heap → Prop} {nwc : Bool} (d : Dec bytes pc (.invokestatic idx) 3 nx) (w1 : Jvm.Cond.methodLink own idx y ∈ Ws) (w2 : Jvm.Cond.static y ∈ Ws) (w3 : Jvm.Cond.initialized y.cls ∈ Ws) (w4 : Jvm.Cond.code y yb yl yr ∈ Ws) (hy : y.cls ≠ "java/lang/invoke/MethodHandle" ∧ y.cls ≠ "java/lang/invoke/VarHandle") (hpar : (parseMethodDescriptor y.desc).map (fun sg => sg.parameters.length) = some 4) (hsz : Ls.size = ml) (hF : ∀ x ∈ F', x ∈ F ∨ (w ≤ x ∧ x < h.size))
    (K : Con l Z EL nwc y yb yl yr rm F' #[x1, x2, x3, x4] h (rR Qc)) (hf : rm.frames + 1 ≤ R.frames) (hl : (st.map fun v => v.category).sum + (yl + 11) + rm.locals ≤ R.locals) (hk : k + rm.cells ≤ R.cells) (hn : n + rm.slots ≤ R.slots) (g : ∀ v h', Qc v h' → Goes p l e R s m args below meth c Z EL nw Q F (wm nwc w h') h' (k + rm.cells) (n + rm.slots) (mkF m nx Ls (v :: st))) (hnw : nw = true → nwc = true := by first | exact id | exact fun _ => rfl) : Goes p l e R s m args below meth c Z EL nw Q F w h k n (mkF m pc Ls (x4 :: x3 :: x2 :: x1 :: st)) :=
  C.static hnw hF (argsL := [x1, x2, x3, x4]) (rest := st) d w1 w2 w3 w4 hy (len_par hpar rfl) rfl hsz hk hn (K.pays (C.wrd w4) (C.wrd w3) C.2.2.2.2.2.2.2.2 hf hl) (Nat.le_refl _) (fun v h' q => by obtain ⟨v, rfl, q⟩ := q; exact g v h' q)
theorem Cxt.v4R (C : Cxt p m meth c Z a0 EL own mn bytes ml ret Ws) {idx : Nat} {y z : MethodName} {yb : ByteArray} {yl : Nat} {yr : Option FieldType} {rm : Room} {F' : List Addr} {cls : String} {a : Addr} {x1 x2 x3 x4 : Value} {Qc : Value → Heap → Prop} {nwc : Bool} (d : Dec bytes pc (.invokevirtual idx) 3 nx) (w1 : Jvm.Cond.methodLink own idx y ∈ Ws) (w2 : Jvm.Cond.declares y ∈ Ws) (w5 : Jvm.Cond.selects cls y z ∈ Ws) (w6 : Jvm.Cond.instanceMethod z ∈ Ws) (w3 : Jvm.Cond.initialized z.cls ∈ Ws) (w4 : Jvm.Cond.code z yb yl yr ∈ Ws) (hy : y.cls ≠ "java/lang/invoke/MethodHandle" ∧ y.cls ≠ "java/lang/invoke/VarHandle") (hpar : (parseMethodDescriptor y.desc).map (fun sg => sg.parameters.length) = some 4) (hsz : Ls.size = ml) (hF : ∀ x ∈ F', x ∈ F ∨ (w ≤ x ∧ x < h.size)) (E : Exa Z h a cls)
    (nf : ∀ vm0 : Vm, (Jvm.Cond.selects cls y z).before args (s.setVm vm0) = true → NotFace (s.setVm vm0) y)
    (K : Con l Z EL nwc z yb yl yr rm F' #[.ref a, x1, x2, x3, x4] h (rR Qc)) (hf : rm.frames + 1 ≤ R.frames) (hl : (st.map fun v => v.category).sum + (yl + 11) + rm.locals ≤ R.locals) (hk : k + rm.cells ≤ R.cells) (hn : n + rm.slots ≤ R.slots) (g : ∀ v h', Qc v h' → Goes p l e R s m args below meth c Z EL nw Q F (wm nwc w h') h' (k + rm.cells) (n + rm.slots) (mkF m nx Ls (v :: st))) (hnw : nw = true → nwc = true := by first | exact id | exact fun _ => rfl) : Goes p l e R s m args below meth c Z EL nw Q F w h k n (mkF m pc Ls (x4 :: x3 :: x2 :: x1 :: .ref a :: st)) :=
  C.virtual hnw hF (argsL := [x1, x2, x3, x4]) (rest := st) d w1 (C.wrd w2) w5 w6 hy (len_par hpar rfl) rfl hsz hk hn E (fun vm0 _ q => nf vm0 q) (K.pays (C.wrd w4) (C.wrd w3) C.2.2.2.2.2.2.2.2 hf hl) (Nat.le_refl _) (fun v h' q => by obtain ⟨v, rfl, q⟩ := q; exact g v h' q)
theorem Cxt.s5V (C : Cxt p m meth c Z a0 EL own mn bytes ml ret Ws) {idx : Nat} {y : MethodName} {yb : ByteArray} {yl : Nat} {yr : Option FieldType} {rm : Room} {F' : List Addr} {x1 x2 x3 x4 x5 : Value} {Qc : Heap → Prop} {nwc : Bool} (d : Dec bytes pc (.invokestatic idx) 3 nx) (w1 : Jvm.Cond.methodLink own idx y ∈ Ws) (w2 : Jvm.Cond.static y ∈ Ws) (w3 : Jvm.Cond.initialized y.cls ∈ Ws) (w4 : Jvm.Cond.code y yb yl yr ∈ Ws) (hy : y.cls ≠ "java/lang/invoke/MethodHandle" ∧ y.cls ≠ "java/lang/invoke/VarHandle") (hpar : (parseMethodDescriptor y.desc).map (fun sg => sg.parameters.length) = some 5) (hsz : Ls.size = ml) (hF : ∀ x ∈ F', x ∈ F ∨ (w ≤ x ∧ x < h.size))
    (K : Con l Z EL nwc y yb yl yr rm F' #[x1, x2, x3, x4, x5] h (rV Qc)) (hf : rm.frames + 1 ≤ R.frames) (hl : (st.map fun v => v.category).sum + (yl + 11) + rm.locals ≤ R.locals) (hk : k + rm.cells ≤ R.cells) (hn : n + rm.slots ≤ R.slots) (g : ∀ h', Qc h' → Goes p l e R s m args below meth c Z EL nw Q F (wm nwc w h') h' (k + rm.cells) (n + rm.slots) (mkF m nx Ls st)) (hnw : nw = true → nwc = true := by first | exact id | exact fun _ => rfl) : Goes p l e R s m args below meth c Z EL nw Q F w h k n (mkF m pc Ls (x5 :: x4 :: x3 :: x2 :: x1 :: st)) :=
  C.static hnw hF (argsL := [x1, x2, x3, x4, x5]) (rest := st) d w1 w2 w3 w4 hy (len_par hpar rfl) rfl hsz hk hn (K.pays (C.wrd w4) (C.wrd w3) C.2.2.2.2.2.2.2.2 hf hl) (Nat.le_refl _) (fun v h' q => by obtain ⟨rfl, q⟩ := q; exact g h' q)
theorem Cxt.c5 (C : Cxt p m meth c Z a0 EL own mn bytes ml ret Ws) {idx : Nat} {y : MethodName} {yb : ByteArray} {yl : Nat} {rm : Room} {F' : List Addr} {a : Addr} {x1 x2 x3 x4 x5 : Value} {Qc : Heap → Prop} {nwc : Bool} (d : Dec bytes pc (.invokespecial idx) 3 nx) (hy1 : y.name = "<init>") (w1 : Jvm.Cond.methodLink own idx y ∈ Ws) (w2 : Jvm.Cond.instanceMethod y ∈ Ws) (w3 : Jvm.Cond.initialized y.cls ∈ Ws) (w4 : Jvm.Cond.code y yb yl none ∈ Ws) (hy : y.cls ≠ "java/lang/invoke/MethodHandle" ∧ y.cls ≠ "java/lang/invoke/VarHandle") (hpar : (parseMethodDescriptor y.desc).map (fun sg => sg.parameters.length) = some 5) (hsz : Ls.size = ml) (hF : ∀ x ∈ F', x ∈ F ∨ (w ≤ x ∧ x < h.size))
    (K : Con l Z EL nwc y yb yl none rm F' #[.ref a, x1, x2, x3, x4, x5] h (rV Qc)) (hf : rm.frames + 1 ≤ R.frames) (hl : (st.map fun v => v.category).sum + (yl + 11) + rm.locals ≤ R.locals) (hk : k + rm.cells ≤ R.cells) (hn : n + rm.slots ≤ R.slots) (g : ∀ h', Qc h' → Goes p l e R s m args below meth c Z EL nw Q F (wm nwc w h') h' (k + rm.cells) (n + rm.slots) (mkF m nx Ls st)) (hnw : nw = true → nwc = true := by first | exact id | exact fun _ => rfl) : Goes p l e R s m args below meth c Z EL nw Q F w h k n (mkF m pc Ls (x5 :: x4 :: x3 :: x2 :: x1 :: .ref a :: st)) :=
  C.special hnw hF (argsL := [x1, x2, x3, x4, x5]) (rest := st) d hy1 w1 w2 w4 hy (len_par hpar rfl) rfl hsz hk hn (K.pays (C.wrd w4) (C.wrd w3) C.2.2.2.2.2.2.2.2 hf hl) (Nat.le_refl _) (fun v h' q => by obtain ⟨rfl, q⟩ := q; exact g h' q)
theorem Cxt.s5R (C : Cxt p m meth c Z a0 EL own mn bytes ml ret Ws) {idx : Nat} {y : MethodName} {yb : ByteArray} {yl : Nat} {yr : Option FieldType} {rm : Room} {F' : List Addr} {x1 x2 x3 x4 x5 : Value} {Qc : Value → Heap → Prop} {nwc : Bool} (d : Dec bytes pc (.invokestatic idx) 3 nx) (w1 : Jvm.Cond.methodLink own idx y ∈ Ws) (w2 : Jvm.Cond.static y ∈ Ws) (w3 : Jvm.Cond.initialized y.cls ∈ Ws) (w4 : Jvm.Cond.code y yb yl yr ∈ Ws) (hy : y.cls ≠ "java/lang/invoke/MethodHandle" ∧ y.cls ≠ "java/lang/invoke/VarHandle") (hpar : (parseMethodDescriptor y.desc).map (fun sg => sg.parameters.length) = some 5) (hsz : Ls.size = ml) (hF : ∀ x ∈ F', x ∈ F ∨ (w ≤ x ∧ x < h.size))
    (K : Con l Z EL nwc y yb yl yr rm F' #[x1, x2, x3, x4, x5] h (rR Qc)) (hf : rm.frames + 1 ≤ R.frames) (hl : (st.map fun v => v.category).sum + (yl + 11) + rm.locals ≤ R.locals) (hk : k + rm.cells ≤ R.cells) (hn : n + rm.slots ≤ R.slots) (g : ∀ v h', Qc v h' → Goes p l e R s m args below meth c Z EL nw Q F (wm nwc w h') h' (k + rm.cells) (n + rm.slots) (mkF m nx Ls (v :: st))) (hnw : nw = true → nwc = true := by first | exact id | exact fun _ => rfl) : Goes p l e R s m args below meth c Z EL nw Q F w h k n (mkF m pc Ls (x5 :: x4 :: x3 :: x2 :: x1 :: st)) :=
  C.static hnw hF (argsL := [x1, x2, x3, x4, x5]) (rest := st) d w1 w2 w3 w4 hy (len_par hpar rfl) rfl hsz hk hn (K.pays (C.wrd w4) (C.wrd w3) C.2.2.2.2.2.2.2.2 hf hl) (Nat.le_refl _) (fun v h' q => by obtain ⟨v, rfl, q⟩ := q; exact g v h' q)
theorem Cxt.s6V (C : Cxt p m meth c Z a0 EL own mn bytes ml ret Ws) {idx : Nat} {y : MethodName} {yb : ByteArray} {yl : Nat} {yr : Option FieldType} {rm : Room} {F' : List Addr} {x1 x2 x3 x4 x5 x6 : Value} {Qc : Heap → Prop} {nwc : Bool} (d : Dec bytes pc (.invokestatic idx) 3 nx) (w1 : Jvm.Cond.methodLink own idx y ∈ Ws) (w2 : Jvm.Cond.static y ∈ Ws) (w3 : Jvm.Cond.initialized y.cls ∈ Ws) (w4 : Jvm.Cond.code y yb yl yr ∈ Ws) (hy : y.cls ≠ "java/lang/invoke/MethodHandle" ∧ y.cls ≠ "java/lang/invoke/VarHandle") (hpar : (parseMethodDescriptor y.desc).map (fun sg => sg.parameters.length) = some 6) (hsz : Ls.size = ml) (hF : ∀ x ∈ F', x ∈ F ∨ (w ≤ x ∧ x < h.size))
    (K : Con l Z EL nwc y yb yl yr rm F' #[x1, x2, x3, x4, x5, x6] h (rV Qc)) (hf : rm.frames + 1 ≤ R.frames) (hl : (st.map fun v => v.category).sum + (yl + 11) + rm.locals ≤ R.locals) (hk : k + rm.cells ≤ R.cells) (hn : n + rm.slots ≤ R.slots) (g : ∀ h', Qc h' → Goes p l e R s m args below meth c Z EL nw Q F (wm nwc w h') h' (k + rm.cells) (n + rm.slots) (mkF m nx Ls st)) (hnw : nw = true → nwc = true := by first | exact id | exact fun _ => rfl) : Goes p l e R s m args below meth c Z EL nw Q F w h k n (mkF m pc Ls (x6 :: x5 :: x4 :: x3 :: x2 :: x1 :: st)) :=
  C.static hnw hF (argsL := [x1, x2, x3, x4, x5, x6]) (rest := st) d w1 w2 w3 w4 hy (len_par hpar rfl) rfl hsz hk hn (K.pays (C.wrd w4) (C.wrd w3) C.2.2.2.2.2.2.2.2 hf hl) (Nat.le_refl _) (fun v h' q => by obtain ⟨rfl, q⟩ := q; exact g h' q)
theorem Cxt.c6 (C : Cxt p m meth c Z a0 EL own mn bytes ml ret Ws) {idx : Nat} {y : MethodName} {yb : ByteArray} {yl : Nat} {rm : Room} {F' : List Addr} {a : Addr} {x1 x2 x3 x4 x5 x6 : Value} {Qc : Heap → Prop} {nwc : Bool} (d : Dec bytes pc (.invokespecial idx) 3 nx) (hy1 : y.name = "<init>") (w1 : Jvm.Cond.methodLink own idx y ∈ Ws) (w2 : Jvm.Cond.instanceMethod y ∈ Ws) (w3 : Jvm.Cond.initialized y.cls ∈ Ws) (w4 : Jvm.Cond.code y yb yl none ∈ Ws) (hy : y.cls ≠ "java/lang/invoke/MethodHandle" ∧ y.cls ≠ "java/lang/invoke/VarHandle") (hpar : (parseMethodDescriptor y.desc).map (fun sg => sg.parameters.length) = some 6) (hsz : Ls.size = ml) (hF : ∀ x ∈ F', x ∈ F ∨ (w ≤ x ∧ x < h.size))
    (K : Con l Z EL nwc y yb yl none rm F' #[.ref a, x1, x2, x3, x4, x5, x6] h (rV Qc)) (hf : rm.frames + 1 ≤ R.frames) (hl : (st.map fun v => v.category).sum + (yl + 11) + rm.locals ≤ R.locals) (hk : k + rm.cells ≤ R.cells) (hn : n + rm.slots ≤ R.slots) (g : ∀ h', Qc h' → Goes p l e R s m args below meth c Z EL nw Q F (wm nwc w h') h' (k + rm.cells) (n + rm.slots) (mkF m nx Ls st)) (hnw : nw = true → nwc = true := by first | exact id | exact fun _ => rfl) : Goes p l e R s m args below meth c Z EL nw Q F w h k n (mkF m pc Ls (x6 :: x5 :: x4 :: x3 :: x2 :: x1 :: .ref a :: st)) :=
  C.special hnw hF (argsL := [x1, x2, x3, x4, x5, x6]) (rest := st) d hy1 w1 w2 w4 hy (len_par hpar rfl) rfl hsz hk hn (K.pays (C.wrd w4) (C.wrd w3) C.2.2.2.2.2.2.2.2 hf hl) (Nat.le_refl _) (fun v h' q => by obtain ⟨rfl, q⟩ := q; exact g h' q)
theorem Cxt.s6R (C : Cxt p m meth c Z a0 EL own mn bytes ml ret Ws) {idx : Nat} {y : MethodName} {yb : ByteArray} {yl : Nat} {yr : Option FieldType} {rm : Room} {F' : List Addr} {x1 x2 x3 x4 x5 x6 : Value} {Qc : Value → Heap → Prop} {nwc : Bool} (d : Dec bytes pc (.invokestatic idx) 3 nx) (w1 : Jvm.Cond.methodLink own idx y ∈ Ws) (w2 : Jvm.Cond.static y ∈ Ws) (w3 : Jvm.Cond.initialized y.cls ∈ Ws) (w4 : Jvm.Cond.code y yb yl yr ∈ Ws) (hy : y.cls ≠ "java/lang/invoke/MethodHandle" ∧ y.cls ≠ "java/lang/invoke/VarHandle") (hpar : (parseMethodDescriptor y.desc).map (fun sg => sg.parameters.length) = some 6) (hsz : Ls.size = ml) (hF : ∀ x ∈ F', x ∈ F ∨ (w ≤ x ∧ x < h.size))
    (K : Con l Z EL nwc y yb yl yr rm F' #[x1, x2, x3, x4, x5, x6] h (rR Qc)) (hf : rm.frames + 1 ≤ R.frames) (hl : (st.map fun v => v.category).sum + (yl + 11) + rm.locals ≤ R.locals) (hk : k + rm.cells ≤ R.cells) (hn : n + rm.slots ≤ R.slots) (g : ∀ v h', Qc v h' → Goes p l e R s m args below meth c Z EL nw Q F (wm nwc w h') h' (k + rm.cells) (n + rm.slots) (mkF m nx Ls (v :: st))) (hnw : nw = true → nwc = true := by first | exact id | exact fun _ => rfl) : Goes p l e R s m args below meth c Z EL nw Q F w h k n (mkF m pc Ls (x6 :: x5 :: x4 :: x3 :: x2 :: x1 :: st)) :=
  C.static hnw hF (argsL := [x1, x2, x3, x4, x5, x6]) (rest := st) d w1 w2 w3 w4 hy (len_par hpar rfl) rfl hsz hk hn (K.pays (C.wrd w4) (C.wrd w3) C.2.2.2.2.2.2.2.2 hf hl) (Nat.le_refl _) (fun v h' q => by obtain ⟨v, rfl, q⟩ := q; exact g v h' q)
theorem Cxt.p0V (C : Cxt p m meth c Z a0 EL own mn bytes ml ret Ws) {idx : Nat} {y : MethodName} {yb : ByteArray} {yl : Nat} {yr : Option FieldType} {rm : Room} {F' : List Addr} {cls : String} {a : Addr}  {Qc : Heap → Prop} {nwc : Bool} (d : Dec bytes pc (.invokevirtual idx) 3 nx) (w1 : Jvm.Cond.methodLink own idx y ∈ Ws) (w5 : Jvm.Cond.selects cls y y ∈ Ws) (w6 : Jvm.Cond.instanceMethod y ∈ Ws) (w3 : Jvm.Cond.initialized y.cls ∈ Ws) (w4 : Jvm.Cond.code y yb yl yr ∈ Ws) (hy : y.cls ≠ "java/lang/invoke/MethodHandle" ∧ y.cls ≠ "java/lang/invoke/VarHandle") (hpar : (parseMethodDescriptor y.desc).map (fun sg => sg.parameters.length) = some 0) (hsz : Ls.size = ml) (hF : ∀ x ∈ F', x ∈ F ∨ (w ≤ x ∧ x < h.size)) (E : Exa Z h a cls)
    (nf : ∀ vm0 : Vm, (Jvm.Cond.selects cls y y).before args (s.setVm vm0) = true → NotFace (s.setVm vm0) y)
    (K : Con l Z EL nwc y yb yl yr rm F' #[.ref a] h (rV Qc)) (hf : rm.frames + 1 ≤ R.frames) (hl : (st.map fun v => v.category).sum + (yl + 11) + rm.locals ≤ R.locals) (hk : k + rm.cells ≤ R.cells) (hn : n + rm.slots ≤ R.slots) (g : ∀ h', Qc h' → Goes p l e R s m args below meth c Z EL nw Q F (wm nwc w h') h' (k + rm.cells) (n + rm.slots) (mkF m nx Ls st)) (hnw : nw = true → nwc = true := by first | exact id | exact fun _ => rfl) : Goes p l e R s m args below meth c Z EL nw Q F w h k n (mkF m pc Ls (.ref a :: st)) :=
  C.virtual hnw hF (argsL := []) (rest := st) d w1 (declares_of (C.wrd w6) (C.wrd w4)) w5 w6 hy (len_par hpar rfl) rfl hsz hk hn E (fun vm0 _ q => nf vm0 q) (K.pays (C.wrd w4) (C.wrd w3) C.2.2.2.2.2.2.2.2 hf hl) (Nat.le_refl _) (fun v h' q => by obtain ⟨rfl, q⟩ := q; exact g h' q)
theorem Cxt.q0V (C : Cxt p m meth c Z a0 EL own mn bytes ml ret Ws) {idx : Nat} {y z z' : MethodName} {yb : ByteArray} {yl : Nat} {yr : Option FieldType} {rm : Room} {F' : List Addr} {cls cls' : String} {a : Addr}  {Qc : Heap → Prop} {nwc : Bool} (d : Dec bytes pc (.invokevirtual idx) 3 nx) (w1 : Jvm.Cond.methodLink own idx y ∈ Ws) (w2 : Jvm.Cond.declares y ∈ Ws) (w5 : Jvm.Cond.selects cls y z ∈ Ws) (w7 : Jvm.Cond.selects cls' z' z' ∈ Ws) (he : z'.cls = y.cls) (w6 : Jvm.Cond.instanceMethod z ∈ Ws) (w3 : Jvm.Cond.initialized z.cls ∈ Ws) (w4 : Jvm.Cond.code z yb yl yr ∈ Ws) (hy : y.cls ≠ "java/lang/invoke/MethodHandle" ∧ y.cls ≠ "java/lang/invoke/VarHandle") (hpar : (parseMethodDescriptor y.desc).map (fun sg => sg.parameters.length) = some 0) (hsz : Ls.size = ml) (hF : ∀ x ∈ F', x ∈ F ∨ (w ≤ x ∧ x < h.size)) (E : Exa Z h a cls)
    (K : Con l Z EL nwc z yb yl yr rm F' #[.ref a] h (rV Qc)) (hf : rm.frames + 1 ≤ R.frames) (hl : (st.map fun v => v.category).sum + (yl + 11) + rm.locals ≤ R.locals) (hk : k + rm.cells ≤ R.cells) (hn : n + rm.slots ≤ R.slots) (g : ∀ h', Qc h' → Goes p l e R s m args below meth c Z EL nw Q F (wm nwc w h') h' (k + rm.cells) (n + rm.slots) (mkF m nx Ls st)) (hnw : nw = true → nwc = true := by first | exact id | exact fun _ => rfl) : Goes p l e R s m args below meth c Z EL nw Q F w h k n (mkF m pc Ls (.ref a :: st)) :=
  C.virtual hnw hF (argsL := []) (rest := st) d w1 (C.wrd w2) w5 w6 hy (len_par hpar rfl) rfl hsz hk hn E (fun vm0 hZ _ => nf_same (Z := s.setVm vm0) (a0 := args) (mv hZ (C.wrd w7)) he) (K.pays (C.wrd w4) (C.wrd w3) C.2.2.2.2.2.2.2.2 hf hl) (Nat.le_refl _) (fun v h' q => by obtain ⟨rfl, q⟩ := q; exact g h' q)
theorem Cxt.u0V (C : Cxt p m meth c Z a0 EL own mn bytes ml ret Ws) {idx : Nat} {y : MethodName} {yb : ByteArray} {yl : Nat} {yr : Option FieldType} {rm : Room} {F' : List Addr} {cls : String} {a : Addr}  {Qc : Heap → Prop} {nwc : Bool} (d : Dec bytes pc (.invokespecial idx) 3 nx) (hn1 : y.name ≠ "<init>") (w1 : Jvm.Cond.methodLink own idx y ∈ Ws) (w2 : Jvm.Cond.instanceMethod y ∈ Ws) (w5 : Jvm.Cond.superclass own y.cls ∈ Ws) (nf : NotFace Z y) (w3 : Jvm.Cond.initialized y.cls ∈ Ws) (w4 : Jvm.Cond.code y yb yl yr ∈ Ws) (hy : y.cls ≠ "java/lang/invoke/MethodHandle" ∧ y.cls ≠ "java/lang/invoke/VarHandle") (hpar : (parseMethodDescriptor y.desc).map (fun sg => sg.parameters.length) = some 0) (hsz : Ls.size = ml) (hF : ∀ x ∈ F', x ∈ F ∨ (w ≤ x ∧ x < h.size)) (E : Exa Z h a cls)
    (K : Con l Z EL nwc y yb yl yr rm F' #[.ref a] h (rV Qc)) (hf : rm.frames + 1 ≤ R.frames) (hl : (st.map fun v => v.category).sum + (yl + 11) + rm.locals ≤ R.locals) (hk : k + rm.cells ≤ R.cells) (hn : n + rm.slots ≤ R.slots) (g : ∀ h', Qc h' → Goes p l e R s m args below meth c Z EL nw Q F (wm nwc w h') h' (k + rm.cells) (n + rm.slots) (mkF m nx Ls st)) (hnw : nw = true → nwc = true := by first | exact id | exact fun _ => rfl) : Goes p l e R s m args below meth c Z EL nw Q F w h k n (mkF m pc Ls (.ref a :: st)) :=
  C.super hnw hF (argsL := []) (rest := st) d w1 w2 w5 nf hn1 w4 hy (len_par hpar rfl) rfl hsz hk hn E (K.pays (C.wrd w4) (C.wrd w3) C.2.2.2.2.2.2.2.2 hf hl) (Nat.le_refl _) (fun v h' q => by obtain ⟨rfl, q⟩ := q; exact g h' q)
theorem Cxt.p0R (C : Cxt p m meth c Z a0 EL own mn bytes ml ret Ws) {idx : Nat} {y : MethodName} {yb : ByteArray} {yl : Nat} {yr : Option FieldType} {rm : Room} {F' : List Addr} {cls : String} {a : Addr}  {Qc : Value → Heap → Prop} {nwc : Bool} (d : Dec bytes pc (.invokevirtual idx) 3 nx) (w1 : Jvm.Cond.methodLink own idx y ∈ Ws) (w5 : Jvm.Cond.selects cls y y ∈ Ws) (w6 : Jvm.Cond.instanceMethod y ∈ Ws) (w3 : Jvm.Cond.initialized y.cls ∈ Ws) (w4 : Jvm.Cond.code y yb yl yr ∈ Ws) (hy : y.cls ≠ "java/lang/invoke/MethodHandle" ∧ y.cls ≠ "java/lang/invoke/VarHandle") (hpar : (parseMethodDescriptor y.desc).map (fun sg => sg.parameters.length) = some 0) (hsz : Ls.size = ml) (hF : ∀ x ∈ F', x ∈ F ∨ (w ≤ x ∧ x < h.size)) (E : Exa Z h a cls)
    (nf : ∀ vm0 : Vm, (Jvm.Cond.selects cls y y).before args (s.setVm vm0) = true → NotFace (s.setVm vm0) y)
    (K : Con l Z EL nwc y yb yl yr rm F' #[.ref a] h (rR Qc)) (hf : rm.frames + 1 ≤ R.frames) (hl : (st.map fun v => v.category).sum + (yl + 11) + rm.locals ≤ R.locals) (hk : k + rm.cells ≤ R.cells) (hn : n + rm.slots ≤ R.slots) (g : ∀ v h', Qc v h' → Goes p l e R s m args below meth c Z EL nw Q F (wm nwc w h') h' (k + rm.cells) (n + rm.slots) (mkF m nx Ls (v :: st))) (hnw : nw = true → nwc = true := by first | exact id | exact fun _ => rfl) : Goes p l e R s m args below meth c Z EL nw Q F w h k n (mkF m pc Ls (.ref a :: st)) :=
  C.virtual hnw hF (argsL := []) (rest := st) d w1 (declares_of (C.wrd w6) (C.wrd w4)) w5 w6 hy (len_par hpar rfl) rfl hsz hk hn E (fun vm0 _ q => nf vm0 q) (K.pays (C.wrd w4) (C.wrd w3) C.2.2.2.2.2.2.2.2 hf hl) (Nat.le_refl _) (fun v h' q => by obtain ⟨v, rfl, q⟩ := q; exact g v h' q)
theorem Cxt.q0R (C : Cxt p m meth c Z a0 EL own mn bytes ml ret Ws) {idx : Nat} {y z z' : MethodName} {yb : ByteArray} {yl : Nat} {yr : Option FieldType} {rm : Room} {F' : List Addr} {cls cls' : String} {a : Addr}  {Qc : Value → Heap → Prop} {nwc : Bool} (d : Dec bytes pc (.invokevirtual idx) 3 nx) (w1 : Jvm.Cond.methodLink own idx y ∈ Ws) (w2 : Jvm.Cond.declares y ∈ Ws) (w5 : Jvm.Cond.selects cls y z ∈ Ws) (w7 : Jvm.Cond.selects cls' z' z' ∈ Ws) (he : z'.cls = y.cls) (w6 : Jvm.Cond.instanceMethod z ∈ Ws) (w3 : Jvm.Cond.initialized z.cls ∈ Ws) (w4 : Jvm.Cond.code z yb yl yr ∈ Ws) (hy : y.cls ≠ "java/lang/invoke/MethodHandle" ∧ y.cls ≠ "java/lang/invoke/VarHandle") (hpar : (parseMethodDescriptor y.desc).map (fun sg => sg.parameters.length) = some 0) (hsz : Ls.size = ml) (hF : ∀ x ∈ F', x ∈ F ∨ (w ≤ x ∧ x < h.size)) (E : Exa Z h a cls)
    (K : Con l Z EL nwc z yb yl yr rm F' #[.ref a] h (rR Qc)) (hf : rm.frames + 1 ≤ R.frames) (hl : (st.map fun v => v.category).sum + (yl + 11) + rm.locals ≤ R.locals) (hk : k + rm.cells ≤ R.cells) (hn : n + rm.slots ≤ R.slots) (g : ∀ v h', Qc v h' → Goes p l e R s m args below meth c Z EL nw Q F (wm nwc w h') h' (k + rm.cells) (n + rm.slots) (mkF m nx Ls (v :: st))) (hnw : nw = true → nwc = true := by first | exact id | exact fun _ => rfl) : Goes p l e R s m args below meth c Z EL nw Q F w h k n (mkF m pc Ls (.ref a :: st)) :=
  C.virtual hnw hF (argsL := []) (rest := st) d w1 (C.wrd w2) w5 w6 hy (len_par hpar rfl) rfl hsz hk hn E (fun vm0 hZ _ => nf_same (Z := s.setVm vm0) (a0 := args) (mv hZ (C.wrd w7)) he) (K.pays (C.wrd w4) (C.wrd w3) C.2.2.2.2.2.2.2.2 hf hl) (Nat.le_refl _) (fun v h' q => by obtain ⟨v, rfl, q⟩ := q; exact g v h' q)
theorem Cxt.u0R (C : Cxt p m meth c Z a0 EL own mn bytes ml ret Ws) {idx : Nat} {y : MethodName} {yb : ByteArray} {yl : Nat} {yr : Option FieldType} {rm : Room} {F' : List Addr} {cls : String} {a : Addr}  {Qc : Value → Heap → Prop} {nwc : Bool} (d : Dec bytes pc (.invokespecial idx) 3 nx) (hn1 : y.name ≠ "<init>") (w1 : Jvm.Cond.methodLink own idx y ∈ Ws) (w2 : Jvm.Cond.instanceMethod y ∈ Ws) (w5 : Jvm.Cond.superclass own y.cls ∈ Ws) (nf : NotFace Z y) (w3 : Jvm.Cond.initialized y.cls ∈ Ws) (w4 : Jvm.Cond.code y yb yl yr ∈ Ws) (hy : y.cls ≠ "java/lang/invoke/MethodHandle" ∧ y.cls ≠ "java/lang/invoke/VarHandle") (hpar : (parseMethodDescriptor y.desc).map (fun sg => sg.parameters.length) = some 0) (hsz : Ls.size = ml) (hF : ∀ x ∈ F', x ∈ F ∨ (w ≤ x ∧ x < h.size)) (E : Exa Z h a cls)
    (K : Con l Z EL nwc y yb yl yr rm F' #[.ref a] h (rR Qc)) (hf : rm.frames + 1 ≤ R.frames) (hl : (st.map fun v => v.category).sum + (yl + 11) + rm.locals ≤ R.locals) (hk : k + rm.cells ≤ R.cells) (hn : n + rm.slots ≤ R.slots) (g : ∀ v h', Qc v h' → Goes p l e R s m args below meth c Z EL nw Q F (wm nwc w h') h' (k + rm.cells) (n + rm.slots) (mkF m nx Ls (v :: st))) (hnw : nw = true → nwc = true := by first | exact id | exact fun _ => rfl) : Goes p l e R s m args below meth c Z EL nw Q F w h k n (mkF m pc Ls (.ref a :: st)) :=
  C.super hnw hF (argsL := []) (rest := st) d w1 w2 w5 nf hn1 w4 hy (len_par hpar rfl) rfl hsz hk hn E (K.pays (C.wrd w4) (C.wrd w3) C.2.2.2.2.2.2.2.2 hf hl) (Nat.le_refl _) (fun v h' q => by obtain ⟨v, rfl, q⟩ := q; exact g v h' q)
theorem Cxt.p1V (C : Cxt p m meth c Z a0 EL own mn bytes ml ret Ws) {idx : Nat} {y : MethodName} {yb : ByteArray} {yl : Nat} {yr : Option FieldType} {rm : Room} {F' : List Addr} {cls : String} {a : Addr} {x1 : Value} {Qc : Heap → Prop} {nwc : Bool} (d : Dec bytes pc (.invokevirtual idx) 3 nx) (w1 : Jvm.Cond.methodLink own idx y ∈ Ws) (w5 : Jvm.Cond.selects cls y y ∈ Ws) (w6 : Jvm.Cond.instanceMethod y ∈ Ws) (w3 : Jvm.Cond.initialized y.cls ∈ Ws) (w4 : Jvm.Cond.code y yb yl yr ∈ Ws) (hy : y.cls ≠ "java/lang/invoke/MethodHandle" ∧ y.cls ≠ "java/lang/invoke/VarHandle") (hpar : (parseMethodDescriptor y.desc).map (fun sg => sg.parameters.length) = some 1) (hsz : Ls.size = ml) (hF : ∀ x ∈ F', x ∈ F ∨ (w ≤ x ∧ x < h.size)) (E : Exa Z h a cls)
    (nf : ∀ vm0 : Vm, (Jvm.Cond.selects cls y y).before args (s.setVm vm0) = true → NotFace (s.setVm vm0) y)
    (K : Con l Z EL nwc y yb yl yr rm F' #[.ref a, x1] h (rV Qc)) (hf : rm.frames + 1 ≤ R.frames) (hl : (st.map fun v => v.category).sum + (yl + 11) + rm.locals ≤ R.locals) (hk : k + rm.cells ≤ R.cells) (hn : n + rm.slots ≤ R.slots) (g : ∀ h', Qc h' → Goes p l e R s m args below meth c Z EL nw Q F (wm nwc w h') h' (k + rm.cells) (n + rm.slots) (mkF m nx Ls st)) (hnw : nw = true → nwc = true := by first | exact id | exact fun _ => rfl) : Goes p l e R s m args below meth c Z EL nw Q F w h k n (mkF m pc Ls (x1 :: .ref a :: st)) :=
  C.virtual hnw hF (argsL := [x1]) (rest := st) d w1 (declares_of (C.wrd w6) (C.wrd w4)) w5 w6 hy (len_par hpar rfl) rfl hsz hk hn E (fun vm0 _ q => nf vm0 q) (K.pays (C.wrd w4) (C.wrd w3) C.2.2.2.2.2.2.2.2 hf hl) (Nat.le_refl _) (fun v h' q => by obtain ⟨rfl, q⟩ := q; exact g h' q)
theorem Cxt.q1V (C : Cxt p m meth c Z a0 EL own mn bytes ml ret Ws) {idx : Nat} {y z z' : MethodName} {yb : ByteArray} {yl : Nat} {yr : Option FieldType} {rm : Room} {F' : List Addr} {cls cls' : String} {a : Addr} {x1 : Value} {Qc : Heap → Prop} {nwc : Bool} (d : Dec bytes pc (.invokevirtual idx) 3 nx) (w1 : Jvm.Cond.methodLink own idx y ∈ Ws) (w2 : Jvm.Cond.declares y ∈ Ws) (w5 : Jvm.Cond.selects cls y z ∈ Ws) (w7 : Jvm.Cond.selects cls' z' z' ∈ Ws) (he : z'.cls = y.cls) (w6 : Jvm.Cond.instanceMethod z ∈ Ws) (w3 : Jvm.Cond.initialized z.cls ∈ Ws) (w4 : Jvm.Cond.code z yb yl yr ∈ Ws) (hy : y.cls ≠ "java/lang/invoke/MethodHandle" ∧ y.cls ≠ "java/lang/invoke/VarHandle") (hpar : (parseMethodDescriptor y.desc).map (fun sg => sg.parameters.length) = some 1) (hsz : Ls.size = ml) (hF : ∀ x ∈ F', x ∈ F ∨ (w ≤ x ∧ x < h.size)) (E : Exa Z h a cls)
    (K : Con l Z EL nwc z yb yl yr rm F' #[.ref a, x1] h (rV Qc)) (hf : rm.frames + 1 ≤ R.frames) (hl : (st.map fun v => v.category).sum + (yl + 11) + rm.locals ≤ R.locals) (hk : k + rm.cells ≤ R.cells) (hn : n + rm.slots ≤ R.slots) (g : ∀ h', Qc h' → Goes p l e R s m args below meth c Z EL nw Q F (wm nwc w h') h' (k + rm.cells) (n + rm.slots) (mkF m nx Ls st)) (hnw : nw = true → nwc = true := by first | exact id | exact fun _ => rfl) : Goes p l e R s m args below meth c Z EL nw Q F w h k n (mkF m pc Ls (x1 :: .ref a :: st)) :=
  C.virtual hnw hF (argsL := [x1]) (rest := st) d w1 (C.wrd w2) w5 w6 hy (len_par hpar rfl) rfl hsz hk hn E (fun vm0 hZ _ => nf_same (Z := s.setVm vm0) (a0 := args) (mv hZ (C.wrd w7)) he) (K.pays (C.wrd w4) (C.wrd w3) C.2.2.2.2.2.2.2.2 hf hl) (Nat.le_refl _) (fun v h' q => by obtain ⟨rfl, q⟩ := q; exact g h' q)
theorem Cxt.u1V (C : Cxt p m meth c Z a0 EL own mn bytes ml ret Ws) {idx : Nat} {y : MethodName} {yb : ByteArray} {yl : Nat} {yr : Option FieldType} {rm : Room} {F' : List Addr} {cls : String} {a : Addr} {x1 : Value} {Qc : Heap → Prop} {nwc : Bool} (d : Dec bytes pc (.invokespecial idx) 3 nx) (hn1 : y.name ≠ "<init>") (w1 : Jvm.Cond.methodLink own idx y ∈ Ws) (w2 : Jvm.Cond.instanceMethod y ∈ Ws) (w5 : Jvm.Cond.superclass own y.cls ∈ Ws) (nf : NotFace Z y) (w3 : Jvm.Cond.initialized y.cls ∈ Ws) (w4 : Jvm.Cond.code y yb yl yr ∈ Ws) (hy : y.cls ≠ "java/lang/invoke/MethodHandle" ∧ y.cls ≠ "java/lang/invoke/VarHandle") (hpar : (parseMethodDescriptor y.desc).map (fun sg => sg.parameters.length) = some 1) (hsz : Ls.size = ml) (hF : ∀ x ∈ F', x ∈ F ∨ (w ≤ x ∧ x < h.size)) (E : Exa Z h a cls)
    (K : Con l Z EL nwc y yb yl yr rm F' #[.ref a, x1] h (rV Qc)) (hf : rm.frames + 1 ≤ R.frames) (hl : (st.map fun v => v.category).sum + (yl + 11) + rm.locals ≤ R.locals) (hk : k + rm.cells ≤ R.cells) (hn : n + rm.slots ≤ R.slots) (g : ∀ h', Qc h' → Goes p l e R s m args below meth c Z EL nw Q F (wm nwc w h') h' (k + rm.cells) (n + rm.slots) (mkF m nx Ls st)) (hnw : nw = true → nwc = true := by first | exact id | exact fun _ => rfl) : Goes p l e R s m args below meth c Z EL nw Q F w h k n (mkF m pc Ls (x1 :: .ref a :: st)) :=
  C.super hnw hF (argsL := [x1]) (rest := st) d w1 w2 w5 nf hn1 w4 hy (len_par hpar rfl) rfl hsz hk hn E (K.pays (C.wrd w4) (C.wrd w3) C.2.2.2.2.2.2.2.2 hf hl) (Nat.le_refl _) (fun v h' q => by obtain ⟨rfl, q⟩ := q; exact g h' q)
theorem Cxt.p1R (C : Cxt p m meth c Z a0 EL own mn bytes ml ret Ws) {idx : Nat} {y : MethodName} {yb : ByteArray} {yl : Nat} {yr : Option FieldType} {rm : Room} {F' : List Addr} {cls : String} {a : Addr} {x1 : Value} {Qc : Value → Heap → Prop} {nwc : Bool} (d : Dec bytes pc (.invokevirtual idx) 3 nx) (w1 : Jvm.Cond.methodLink own idx y ∈ Ws) (w5 : Jvm.Cond.selects cls y y ∈ Ws) (w6 : Jvm.Cond.instanceMethod y ∈ Ws) (w3 : Jvm.Cond.initialized y.cls ∈ Ws) (w4 : Jvm.Cond.code y yb yl yr ∈ Ws) (hy : y.cls ≠ "java/lang/invoke/MethodHandle" ∧ y.cls ≠ "java/lang/invoke/VarHandle") (hpar : (parseMethodDescriptor y.desc).map (fun sg => sg.parameters.length) = some 1) (hsz : Ls.size = ml) (hF : ∀ x ∈ F', x ∈ F ∨ (w ≤ x ∧ x < h.size)) (E : Exa Z h a cls)
    (nf : ∀ vm0 : Vm, (Jvm.Cond.selects cls y y).before args (s.setVm vm0) = true → NotFace (s.setVm vm0) y)
    (K : Con l Z EL nwc y yb yl yr rm F' #[.ref a, x1] h (rR Qc)) (hf : rm.frames + 1 ≤ R.frames) (hl : (st.map fun v => v.category).sum + (yl + 11) + rm.locals ≤ R.locals) (hk : k + rm.cells ≤ R.cells) (hn : n + rm.slots ≤ R.slots) (g : ∀ v h', Qc v h' → Goes p l e R s m args below meth c Z EL nw Q F (wm nwc w h') h' (k + rm.cells) (n + rm.slots) (mkF m nx Ls (v :: st))) (hnw : nw = true → nwc = true := by first | exact id | exact fun _ => rfl) : Goes p l e R s m args below meth c Z EL nw Q F w h k n (mkF m pc Ls (x1 :: .ref a :: st)) :=
  C.virtual hnw hF (argsL := [x1]) (rest := st) d w1 (declares_of (C.wrd w6) (C.wrd w4)) w5 w6 hy (len_par hpar rfl) rfl hsz hk hn E (fun vm0 _ q => nf vm0 q) (K.pays (C.wrd w4) (C.wrd w3) C.2.2.2.2.2.2.2.2 hf hl) (Nat.le_refl _) (fun v h' q => by obtain ⟨v, rfl, q⟩ := q; exact g v h' q)
theorem Cxt.q1R (C : Cxt p m meth c Z a0 EL own mn bytes ml ret Ws) {idx : Nat} {y z z' : MethodName} {yb : ByteArray} {yl : Nat} {yr : Option FieldType} {rm : Room} {F' : List Addr} {cls cls' : String} {a : Addr} {x1 : Value} {Qc : Value → Heap → Prop} {nwc : Bool} (d : Dec bytes pc (.invokevirtual idx) 3 nx) (w1 : Jvm.Cond.methodLink own idx y ∈ Ws) (w2 : Jvm.Cond.declares y ∈ Ws) (w5 : Jvm.Cond.selects cls y z ∈ Ws) (w7 : Jvm.Cond.selects cls' z' z' ∈ Ws) (he : z'.cls = y.cls) (w6 : Jvm.Cond.instanceMethod z ∈ Ws) (w3 : Jvm.Cond.initialized z.cls ∈ Ws) (w4 : Jvm.Cond.code z yb yl yr ∈ Ws) (hy : y.cls ≠ "java/lang/invoke/MethodHandle" ∧ y.cls ≠ "java/lang/invoke/VarHandle") (hpar : (parseMethodDescriptor y.desc).map (fun sg => sg.parameters.length) = some 1) (hsz : Ls.size = ml) (hF : ∀ x ∈ F', x ∈ F ∨ (w ≤ x ∧ x < h.size)) (E : Exa Z h a cls)
    (K : Con l Z EL nwc z yb yl yr rm F' #[.ref a, x1] h (rR Qc)) (hf : rm.frames + 1 ≤ R.frames) (hl : (st.map fun v => v.category).sum + (yl + 11) + rm.locals ≤ R.locals) (hk : k + rm.cells ≤ R.cells) (hn : n + rm.slots ≤ R.slots) (g : ∀ v h', Qc v h' → Goes p l e R s m args below meth c Z EL nw Q F (wm nwc w h') h' (k + rm.cells) (n + rm.slots) (mkF m nx Ls (v :: st))) (hnw : nw = true → nwc = true := by first | exact id | exact fun _ => rfl) : Goes p l e R s m args below meth c Z EL nw Q F w h k n (mkF m pc Ls (x1 :: .ref a :: st)) :=
  C.virtual hnw hF (argsL := [x1]) (rest := st) d w1 (C.wrd w2) w5 w6 hy (len_par hpar rfl) rfl hsz hk hn E (fun vm0 hZ _ => nf_same (Z := s.setVm vm0) (a0 := args) (mv hZ (C.wrd w7)) he) (K.pays (C.wrd w4) (C.wrd w3) C.2.2.2.2.2.2.2.2 hf hl) (Nat.le_refl _) (fun v h' q => by obtain ⟨v, rfl, q⟩ := q; exact g v h' q)
theorem Cxt.u1R (C : Cxt p m meth c Z a0 EL own mn bytes ml ret Ws) {idx : Nat} {y : MethodName} {yb : ByteArray} {yl : Nat} {yr : Option FieldType} {rm : Room} {F' : List Addr} {cls : String} {a : Addr} {x1 : Value} {Qc : Value → Heap → Prop} {nwc : Bool} (d : Dec bytes pc (.invokespecial idx) 3 nx) (hn1 : y.name ≠ "<init>") (w1 : Jvm.Cond.methodLink own idx y ∈ Ws) (w2 : Jvm.Cond.instanceMethod y ∈ Ws) (w5 : Jvm.Cond.superclass own y.cls ∈ Ws) (nf : NotFace Z y) (w3 : Jvm.Cond.initialized y.cls ∈ Ws) (w4 : Jvm.Cond.code y yb yl yr ∈ Ws) (hy : y.cls ≠ "java/lang/invoke/MethodHandle" ∧ y.cls ≠ "java/lang/invoke/VarHandle") (hpar : (parseMethodDescriptor y.desc).map (fun sg => sg.parameters.length) = some 1) (hsz : Ls.size = ml) (hF : ∀ x ∈ F', x ∈ F ∨ (w ≤ x ∧ x < h.size)) (E : Exa Z h a cls)
    (K : Con l Z EL nwc y yb yl yr rm F' #[.ref a, x1] h (rR Qc)) (hf : rm.frames + 1 ≤ R.frames) (hl : (st.map fun v => v.category).sum + (yl + 11) + rm.locals ≤ R.locals) (hk : k + rm.cells ≤ R.cells) (hn : n + rm.slots ≤ R.slots) (g : ∀ v h', Qc v h' → Goes p l e R s m args below meth c Z EL nw Q F (wm nwc w h') h' (k + rm.cells) (n + rm.slots) (mkF m nx Ls (v :: st))) (hnw : nw = true → nwc = true := by first | exact id | exact fun _ => rfl) : Goes p l e R s m args below meth c Z EL nw Q F w h k n (mkF m pc Ls (x1 :: .ref a :: st)) :=
  C.super hnw hF (argsL := [x1]) (rest := st) d w1 w2 w5 nf hn1 w4 hy (len_par hpar rfl) rfl hsz hk hn E (K.pays (C.wrd w4) (C.wrd w3) C.2.2.2.2.2.2.2.2 hf hl) (Nat.le_refl _) (fun v h' q => by obtain ⟨v, rfl, q⟩ := q; exact g v h' q)
theorem Cxt.p2V (C : Cxt p m meth c Z a0 EL own mn bytes ml ret Ws) {idx : Nat} {y : MethodName} {yb : ByteArray} {yl : Nat} {yr : Option FieldType} {rm : Room} {F' : List Addr} {cls : String} {a : Addr} {x1 x2 : Value} {Qc : Heap → Prop} {nwc : Bool} (d : Dec bytes pc (.invokevirtual idx) 3 nx) (w1 : Jvm.Cond.methodLink own idx y ∈ Ws) (w5 : Jvm.Cond.selects cls y y ∈ Ws) (w6 : Jvm.Cond.instanceMethod y ∈ Ws) (w3 : Jvm.Cond.initialized y.cls ∈ Ws) (w4 : Jvm.Cond.code y yb yl yr ∈ Ws) (hy : y.cls ≠ "java/lang/invoke/MethodHandle" ∧ y.cls ≠ "java/lang/invoke/VarHandle") (hpar : (parseMethodDescriptor y.desc).map (fun sg => sg.parameters.length) = some 2) (hsz : Ls.size = ml) (hF : ∀ x ∈ F', x ∈ F ∨ (w ≤ x ∧ x < h.size)) (E : Exa Z h a cls)
    (nf : ∀ vm0 : Vm, (Jvm.Cond.selects cls y y).before args (s.setVm vm0) = true → NotFace (s.setVm vm0) y)
    (K : Con l Z EL nwc y yb yl yr rm F' #[.ref a, x1, x2] h (rV Qc)) (hf : rm.frames + 1 ≤ R.frames) (hl : (st.map fun v => v.category).sum + (yl + 11) + rm.locals ≤ R.locals) (hk : k + rm.cells ≤ R.cells) (hn : n + rm.slots ≤ R.slots) (g : ∀ h', Qc h' → Goes p l e R s m args below meth c Z EL nw Q F (wm nwc w h') h' (k + rm.cells) (n + rm.slots) (mkF m nx Ls st)) (hnw : nw = true → nwc = true := by first | exact id | exact fun _ => rfl) : Goes p l e R s m args below meth c Z EL nw Q F w h k n (mkF m pc Ls (x2 :: x1 :: .ref a :: st)) :=
  C.virtual hnw hF (argsL := [x1, x2]) (rest := st) d w1 (declares_of (C.wrd w6) (C.wrd w4)) w5 w6 hy (len_par hpar rfl) rfl hsz hk hn E (fun vm0 _ q => nf vm0 q) (K.pays (C.wrd w4) (C.wrd w3) C.2.2.2.2.2.2.2.2 hf hl) (Nat.le_refl _) (fun v h' q => by obtain ⟨rfl, q⟩ := q; exact g h' q)
theorem Cxt.q2V (C : Cxt p m meth c Z a0 EL own mn bytes ml ret Ws) {idx : Nat} {y z z' : MethodName} {yb : ByteArray} {yl : Nat} {yr : Option FieldType} {rm : Room} {F' : List Addr} {cls cls' : String} {a : Addr} {x1 x2 : Value} {Qc : Heap → Prop} {nwc : Bool} (d : Dec bytes pc (.invokevirtual idx) 3 nx) (w1 : Jvm.Cond.methodLink own idx y ∈ Ws) (w2 : Jvm.Cond.declares y ∈ Ws) (w5 : Jvm.Cond.selects cls y z ∈ Ws) (w7 : Jvm.Cond.selects cls' z' z' ∈ Ws) (he : z'.cls = y.cls) (w6 : Jvm.Cond.instanceMethod z ∈ Ws) (w3 : Jvm.Cond.initialized z.cls ∈ Ws) (w4 : Jvm.Cond.code z yb yl yr ∈ Ws) (hy : y.cls ≠ "java/lang/invoke/MethodHandle" ∧ y.cls ≠ "java/lang/invoke/VarHandle") (hpar : (parseMethodDescriptor y.desc).map (fun sg => sg.parameters.length) = some 2) (hsz : Ls.size = ml) (hF : ∀ x ∈ F', x ∈ F ∨ (w ≤ x ∧ x < h.size)) (E : Exa Z h a cls)
    (K : Con l Z EL nwc z yb yl yr rm F' #[.ref a, x1, x2] h (rV Qc)) (hf : rm.frames + 1 ≤ R.frames) (hl : (st.map fun v => v.category).sum + (yl + 11) + rm.locals ≤ R.locals) (hk : k + rm.cells ≤ R.cells) (hn : n + rm.slots ≤ R.slots) (g : ∀ h', Qc h' → Goes p l e R s m args below meth c Z EL nw Q F (wm nwc w h') h' (k + rm.cells) (n + rm.slots) (mkF m nx Ls st)) (hnw : nw = true → nwc = true := by first | exact id | exact fun _ => rfl) : Goes p l e R s m args below meth c Z EL nw Q F w h k n (mkF m pc Ls (x2 :: x1 :: .ref a :: st)) :=
  C.virtual hnw hF (argsL := [x1, x2]) (rest := st) d w1 (C.wrd w2) w5 w6 hy (len_par hpar rfl) rfl hsz hk hn E (fun vm0 hZ _ => nf_same (Z := s.setVm vm0) (a0 := args) (mv hZ (C.wrd w7)) he) (K.pays (C.wrd w4) (C.wrd w3) C.2.2.2.2.2.2.2.2 hf hl) (Nat.le_refl _) (fun v h' q => by obtain ⟨rfl, q⟩ := q; exact g h' q)
theorem Cxt.u2V (C : Cxt p m meth c Z a0 EL own mn bytes ml ret Ws) {idx : Nat} {y : MethodName} {yb : ByteArray} {yl : Nat} {yr : Option FieldType} {rm : Room} {F' : List Addr} {cls : String} {a : Addr} {x1 x2 : Value} {Qc : Heap → Prop} {nwc : Bool} (d : Dec bytes pc (.invokespecial idx) 3 nx) (hn1 : y.name ≠ "<init>") (w1 : Jvm.Cond.methodLink own idx y ∈ Ws) (w2 : Jvm.Cond.instanceMethod y ∈ Ws) (w5 : Jvm.Cond.superclass own y.cls ∈ Ws) (nf : NotFace Z y) (w3 : Jvm.Cond.initialized y.cls ∈ Ws) (w4 : Jvm.Cond.code y yb yl yr ∈ Ws) (hy : y.cls ≠ "java/lang/invoke/MethodHandle" ∧ y.cls ≠ "java/lang/invoke/VarHandle") (hpar : (parseMethodDescriptor y.desc).map (fun sg => sg.parameters.length) = some 2) (hsz : Ls.size = ml) (hF : ∀ x ∈ F', x ∈ F ∨ (w ≤ x ∧ x < h.size)) (E : Exa Z h a cls)
    (K : Con l Z EL nwc y yb yl yr rm F' #[.ref a, x1, x2] h (rV Qc)) (hf : rm.frames + 1 ≤ R.frames) (hl : (st.map fun v => v.category).sum + (yl + 11) + rm.locals ≤ R.locals) (hk : k + rm.cells ≤ R.cells) (hn : n + rm.slots ≤ R.slots) (g : ∀ h', Qc h' → Goes p l e R s m args below meth c Z EL nw Q F (wm nwc w h') h' (k + rm.cells) (n + rm.slots) (mkF m nx Ls st)) (hnw : nw = true → nwc = true := by first | exact id | exact fun _ => rfl) : Goes p l e R s m args below meth c Z EL nw Q F w h k n (mkF m pc Ls (x2 :: x1 :: .ref a :: st)) :=
  C.super hnw hF (argsL := [x1, x2]) (rest := st) d w1 w2 w5 nf hn1 w4 hy (len_par hpar rfl) rfl hsz hk hn E (K.pays (C.wrd w4) (C.wrd w3) C.2.2.2.2.2.2.2.2 hf hl) (Nat.le_refl _) (fun v h' q => by obtain ⟨rfl, q⟩ := q; exact g h' q)
theorem Cxt.p2R (C : Cxt p m meth c Z a0 EL own mn bytes ml ret Ws) {idx : Nat} {y : MethodName} {yb : ByteArray} {yl : Nat} {yr : Option FieldType} {rm : Room} {F' : List Addr} {cls : String} {a : Addr} {x1 x2 : Value} {Qc : Value → Heap → Prop} {nwc : Bool} (d : Dec bytes pc (.invokevirtual idx) 3 nx) (w1 : Jvm.Cond.methodLink own idx y ∈ Ws) (w5 : Jvm.Cond.selects cls y y ∈ Ws) (w6 : Jvm.Cond.instanceMethod y ∈ Ws) (w3 : Jvm.Cond.initialized y.cls ∈ Ws) (w4 : Jvm.Cond.code y yb yl yr ∈ Ws) (hy : y.cls ≠ "java/lang/invoke/MethodHandle" ∧ y.cls ≠ "java/lang/invoke/VarHandle") (hpar : (parseMethodDescriptor y.desc).map (fun sg => sg.parameters.length) = some 2) (hsz : Ls.size = ml) (hF : ∀ x ∈ F', x ∈ F ∨ (w ≤ x ∧ x < h.size)) (E : Exa Z h a cls)
    (nf : ∀ vm0 : Vm, (Jvm.Cond.selects cls y y).before args (s.setVm vm0) = true → NotFace (s.setVm vm0) y)
    (K : Con l Z EL nwc y yb yl yr rm F' #[.ref a, x1, x2] h (rR Qc)) (hf : rm.frames + 1 ≤ R.frames) (hl : (st.map fun v => v.category).sum + (yl + 11) + rm.locals ≤ R.locals) (hk : k + rm.cells ≤ R.cells) (hn : n + rm.slots ≤ R.slots) (g : ∀ v h', Qc v h' → Goes p l e R s m args below meth c Z EL nw Q F (wm nwc w h') h' (k + rm.cells) (n + rm.slots) (mkF m nx Ls (v :: st))) (hnw : nw = true → nwc = true := by first | exact id | exact fun _ => rfl) : Goes p l e R s m args below meth c Z EL nw Q F w h k n (mkF m pc Ls (x2 :: x1 :: .ref a :: st)) :=
  C.virtual hnw hF (argsL := [x1, x2]) (rest := st) d w1 (declares_of (C.wrd w6) (C.wrd w4)) w5 w6 hy (len_par hpar rfl) rfl hsz hk hn E (fun vm0 _ q => nf vm0 q) (K.pays (C.wrd w4) (C.wrd w3) C.2.2.2.2.2.2.2.2 hf hl) (Nat.le_refl _) (fun v h' q => by obtain ⟨v, rfl, q⟩ := q; exact g v h' q)
theorem Cxt.q2R (C : Cxt p m meth c Z a0 EL own mn bytes ml ret Ws) {idx : Nat} {y z z' : MethodName} {yb : ByteArray} {yl : Nat} {yr : Option FieldType} {rm : Room} {F' : List Addr} {cls cls' : String} {a : Addr} {x1 x2 : Value} {Qc : Value → Heap → Prop} {nwc : Bool} (d : Dec bytes pc (.invokevirtual idx) 3 nx) (w1 : Jvm.Cond.methodLink own idx y ∈ Ws) (w2 : Jvm.Cond.declares y ∈ Ws) (w5 : Jvm.Cond.selects cls y z ∈ Ws) (w7 : Jvm.Cond.selects cls' z' z' ∈ Ws) (he : z'.cls = y.cls) (w6 : Jvm.Cond.instanceMethod z ∈ Ws) (w3 : Jvm.Cond.initialized z.cls ∈ Ws) (w4 : Jvm.Cond.code z yb yl yr ∈ Ws) (hy : y.cls ≠ "java/lang/invoke/MethodHandle" ∧ y.cls ≠ "java/lang/invoke/VarHandle") (hpar : (parseMethodDescriptor y.desc).map (fun sg => sg.parameters.length) = some 2) (hsz : Ls.size = ml) (hF : ∀ x ∈ F', x ∈ F ∨ (w ≤ x ∧ x < h.size)) (E : Exa Z h a cls)
    (K : Con l Z EL nwc z yb yl yr rm F' #[.ref a, x1, x2] h (rR Qc)) (hf : rm.frames + 1 ≤ R.frames) (hl : (st.map fun v => v.category).sum + (yl + 11) + rm.locals ≤ R.locals) (hk : k + rm.cells ≤ R.cells) (hn : n + rm.slots ≤ R.slots) (g : ∀ v h', Qc v h' → Goes p l e R s m args below meth c Z EL nw Q F (wm nwc w h') h' (k + rm.cells) (n + rm.slots) (mkF m nx Ls (v :: st))) (hnw : nw = true → nwc = true := by first | exact id | exact fun _ => rfl) : Goes p l e R s m args below meth c Z EL nw Q F w h k n (mkF m pc Ls (x2 :: x1 :: .ref a :: st)) :=
  C.virtual hnw hF (argsL := [x1, x2]) (rest := st) d w1 (C.wrd w2) w5 w6 hy (len_par hpar rfl) rfl hsz hk hn E (fun vm0 hZ _ => nf_same (Z := s.setVm vm0) (a0 := args) (mv hZ (C.wrd w7)) he) (K.pays (C.wrd w4) (C.wrd w3) C.2.2.2.2.2.2.2.2 hf hl) (Nat.le_refl _) (fun v h' q => by obtain ⟨v, rfl, q⟩ := q; exact g v h' q)
theorem Cxt.u2R (C : Cxt p m meth c Z a0 EL own mn bytes ml ret Ws) {idx : Nat} {y : MethodName} {yb : ByteArray} {yl : Nat} {yr : Option FieldType} {rm : Room} {F' : List Addr} {cls : String} {a : Addr} {x1 x2 : Value} {Qc : Value → Heap → Prop} {nwc : Bool} (d : Dec bytes pc (.invokespecial idx) 3 nx) (hn1 : y.name ≠ "<init>") (w1 : Jvm.Cond.methodLink own idx y ∈ Ws) (w2 : Jvm.Cond.instanceMethod y ∈ Ws) (w5 : Jvm.Cond.superclass own y.cls ∈ Ws) (nf : NotFace Z y) (w3 : Jvm.Cond.initialized y.cls ∈ Ws) (w4 : Jvm.Cond.code y yb yl yr ∈ Ws) (hy : y.cls ≠ "java/lang/invoke/MethodHandle" ∧ y.cls ≠ "java/lang/invoke/VarHandle") (hpar : (parseMethodDescriptor y.desc).map (fun sg => sg.parameters.length) = some 2) (hsz : Ls.size = ml) (hF : ∀ x ∈ F', x ∈ F ∨ (w ≤ x ∧ x < h.size)) (E : Exa Z h a cls)
    (K : Con l Z EL nwc y yb yl yr rm F' #[.ref a, x1, x2] h (rR Qc)) (hf : rm.frames + 1 ≤ R.frames) (hl : (st.map fun v => v.category).sum + (yl + 11) + rm.locals ≤ R.locals) (hk : k + rm.cells ≤ R.cells) (hn : n + rm.slots ≤ R.slots) (g : ∀ v h', Qc v h' → Goes p l e R s m args below meth c Z EL nw Q F (wm nwc w h') h' (k + rm.cells) (n + rm.slots) (mkF m nx Ls (v :: st))) (hnw : nw = true → nwc = true := by first | exact id | exact fun _ => rfl) : Goes p l e R s m args below meth c Z EL nw Q F w h k n (mkF m pc Ls (x2 :: x1 :: .ref a :: st)) :=
  C.super hnw hF (argsL := [x1, x2]) (rest := st) d w1 w2 w5 nf hn1 w4 hy (len_par hpar rfl) rfl hsz hk hn E (K.pays (C.wrd w4) (C.wrd w3) C.2.2.2.2.2.2.2.2 hf hl) (Nat.le_refl _) (fun v h' q => by obtain ⟨v, rfl, q⟩ := q; exact g v h' q)
theorem Cxt.p3V (C : Cxt p m meth c Z a0 EL own mn bytes ml ret Ws) {idx : Nat} {y : MethodName} {yb : ByteArray} {yl : Nat} {yr : Option FieldType} {rm : Room} {F' : List Addr} {cls : String} {a : Addr} {x1 x2 x3 : Value} {Qc : Heap → Prop} {nwc : Bool} (d : Dec bytes pc (.invokevirtual idx) 3 nx) (w1 : Jvm.Cond.methodLink own idx y ∈ Ws) (w5 : Jvm.Cond.selects cls y y ∈ Ws) (w6 : Jvm.Cond.instanceMethod y ∈ Ws) (w3 : Jvm.Cond.initialized y.cls ∈ Ws) (w4 : Jvm.Cond.code y yb yl yr ∈ Ws) (hy : y.cls ≠ "java/lang/invoke/MethodHandle" ∧ y.cls ≠ "java/lang/invoke/VarHandle") (hpar : (parseMethodDescriptor y.desc).map (fun sg => sg.parameters.length) = some 3) (hsz : Ls.size = ml) (hF : ∀ x ∈ F', x ∈ F ∨ (w ≤ x ∧ x < h.size)) (E : Exa Z h a cls)
    (nf : ∀ vm0 : Vm, (Jvm.Cond.selects cls y y).before args (s.setVm vm0) = true → NotFace (s.setVm vm0) y)
    (K : Con l Z EL nwc y yb yl yr rm F' #[.ref a, x1, x2, x3] h (rV Qc)) (hf : rm.frames + 1 ≤ R.frames) (hl : (st.map fun v => v.category).sum + (yl + 11) + rm.locals ≤ R.locals) (hk : k + rm.cells ≤ R.cells) (hn : n + rm.slots ≤ R.slots) (g : ∀ h', Qc h' → Goes p l e R s m args below meth c Z EL nw Q F (wm nwc w h') h' (k + rm.cells) (n + rm.slots) (mkF m nx Ls st)) (hnw : nw = true → nwc = true := by first | exact id | exact fun _ => rfl) : Goes p l e R s m args below meth c Z EL nw Q F w h k n (mkF m pc Ls (x3 :: x2 :: x1 :: .ref a :: st)) :=
  C.virtual hnw hF (argsL := [x1, x2, x3]) (rest := st) d w1 (declares_of (C.wrd w6) (C.wrd w4)) w5 w6 hy (len_par hpar rfl) rfl hsz hk hn E (fun vm0 _ q => nf vm0 q) (K.pays (C.wrd w4) (C.wrd w3) C.2.2.2.2.2.2.2.2 hf hl) (Nat.le_refl _) (fun v h' q => by obtain ⟨rfl, q⟩ := q; exact g h' q)
theorem Cxt.q3V (C : Cxt p m meth c Z a0 EL own mn bytes ml ret Ws) {idx : Nat} {y z z' : MethodName} {yb : ByteArray} {yl : Nat} {yr : Option FieldType} {rm : Room} {F' : List Addr} {cls cls' : String} {a : Addr} {x1 x2 x3 : Value} {Qc : Heap → Prop} {nwc : Bool} (d : Dec bytes pc (.invokevirtual idx) 3 nx) (w1 : Jvm.Cond.methodLink own idx y ∈ Ws) (w2 : Jvm.Cond.declares y ∈ Ws) (w5 : Jvm.Cond.selects cls y z ∈ Ws) (w7 : Jvm.Cond.selects cls' z' z' ∈ Ws) (he : z'.cls = y.cls) (w6 : Jvm.Cond.instanceMethod z ∈ Ws) (w3 : Jvm.Cond.initialized z.cls ∈ Ws) (w4 : Jvm.Cond.code z yb yl yr ∈ Ws) (hy : y.cls ≠ "java/lang/invoke/MethodHandle" ∧ y.cls ≠ "java/lang/invoke/VarHandle") (hpar : (parseMethodDescriptor y.desc).map (fun sg => sg.parameters.length) = some 3) (hsz : Ls.size = ml) (hF : ∀ x ∈ F', x ∈ F ∨ (w ≤ x ∧ x < h.size)) (E : Exa Z h a cls)
    (K : Con l Z EL nwc z yb yl yr rm F' #[.ref a, x1, x2, x3] h (rV Qc)) (hf : rm.frames + 1 ≤ R.frames) (hl : (st.map fun v => v.category).sum + (yl + 11) + rm.locals ≤ R.locals) (hk : k + rm.cells ≤ R.cells) (hn : n + rm.slots ≤ R.slots) (g : ∀ h', Qc h' → Goes p l e R s m args below meth c Z EL nw Q F (wm nwc w h') h' (k + rm.cells) (n + rm.slots) (mkF m nx Ls st)) (hnw : nw = true → nwc = true := by first | exact id | exact fun _ => rfl) : Goes p l e R s m args below meth c Z EL nw Q F w h k n (mkF m pc Ls (x3 :: x2 :: x1 :: .ref a :: st)) :=
  C.virtual hnw hF (argsL := [x1, x2, x3]) (rest := st) d w1 (C.wrd w2) w5 w6 hy (len_par hpar rfl) rfl hsz hk hn E (fun vm0 hZ _ => nf_same (Z := s.setVm vm0) (a0 := args) (mv hZ (C.wrd w7)) he) (K.pays (C.wrd w4) (C.wrd w3) C.2.2.2.2.2.2.2.2 hf hl) (Nat.le_refl _) (fun v h' q => by obtain ⟨rfl, q⟩ := q; exact g h' q)
theorem Cxt.u3V (C : Cxt p m meth c Z a0 EL own mn bytes ml ret Ws) {idx : Nat} {y : MethodName} {yb : ByteArray} {yl : Nat} {yr : Option FieldType} {rm : Room} {F' : List Addr} {cls : String} {a : Addr} {x1 x2 x3 : Value} {Qc : Heap → Prop} {nwc : Bool} (d : Dec bytes pc (.invokespecial idx) 3 nx) (hn1 : y.name ≠ "<init>") (w1 : Jvm.Cond.methodLink own idx y ∈ Ws) (w2 : Jvm.Cond.instanceMethod y ∈ Ws) (w5 : Jvm.Cond.superclass own y.cls ∈ Ws) (nf : NotFace Z y) (w3 : Jvm.Cond.initialized y.cls ∈ Ws) (w4 : Jvm.Cond.code y yb yl yr ∈ Ws) (hy : y.cls ≠ "java/lang/invoke/MethodHandle" ∧ y.cls ≠ "java/lang/invoke/VarHandle") (hpar : (parseMethodDescriptor y.desc).map (fun sg => sg.parameters.length) = some 3) (hsz : Ls.size = ml) (hF : ∀ x ∈ F', x ∈ F ∨ (w ≤ x ∧ x < h.size)) (E : Exa Z h a cls)
    (K : Con l Z EL nwc y yb yl yr rm F' #[.ref a, x1, x2, x3] h (rV Qc)) (hf : rm.frames + 1 ≤ R.frames) (hl : (st.map fun v => v.category).sum + (yl + 11) + rm.locals ≤ R.locals) (hk : k + rm.cells ≤ R.cells) (hn : n + rm.slots ≤ R.slots) (g : ∀ h', Qc h' → Goes p l e R s m args below meth c Z EL nw Q F (wm nwc w h') h' (k + rm.cells) (n + rm.slots) (mkF m nx Ls st)) (hnw : nw = true → nwc = true := by first | exact id | exact fun _ => rfl) : Goes p l e R s m args below meth c Z EL nw Q F w h k n (mkF m pc Ls (x3 :: x2 :: x1 :: .ref a :: st)) :=
  C.super hnw hF (argsL := [x1, x2, x3]) (rest := st) d w1 w2 w5 nf hn1 w4 hy (len_par hpar rfl) rfl hsz hk hn E (K.pays (C.wrd w4) (C.wrd w3) C.2.2.2.2.2.2.2.2 hf hl) (Nat.le_refl _) (fun v h' q => by obtain ⟨rfl, q⟩ := q; exact g h' q)
theorem Cxt.p3R (C : Cxt p m meth c Z a0 EL own mn bytes ml ret Ws) {idx : Nat} {y : MethodName} {yb : ByteArray} {yl : Nat} {yr : Option FieldType} {rm : Room} {F' : List Addr} {cls : String} {a : Addr} {x1 x2 x3 : Value} {Qc : Value → Heap → Prop} {nwc : Bool} (d : Dec bytes pc (.invokevirtual idx) 3 nx) (w1 : Jvm.Cond.methodLink own idx y ∈ Ws) (w5 : Jvm.Cond.selects cls y y ∈ Ws) (w6 : Jvm.Cond.instanceMethod y ∈ Ws) (w3 : Jvm.Cond.initialized y.cls ∈ Ws) (w4 : Jvm.Cond.code y yb yl yr ∈ Ws) (hy : y.cls ≠ "java/lang/invoke/MethodHandle" ∧ y.cls ≠ "java/lang/invoke/VarHandle") (hpar : (parseMethodDescriptor y.desc).map (fun sg => sg.parameters.length) = some 3) (hsz : Ls.size = ml) (hF : ∀ x ∈ F', x ∈ F ∨ (w ≤ x ∧ x < h.size)) (E : Exa Z h a cls)
    (nf : ∀ vm0 : Vm, (Jvm.Cond.selects cls y y).before args (s.setVm vm0) = true → NotFace (s.setVm vm0) y)
    (K : Con l Z EL nwc y yb yl yr rm F' #[.ref a, x1, x2, x3] h (rR Qc)) (hf : rm.frames + 1 ≤ R.frames) (hl : (st.map fun v => v.category).sum + (yl + 11) + rm.locals ≤ R.locals) (hk : k + rm.cells ≤ R.cells) (hn : n + rm.slots ≤ R.slots) (g : ∀ v h', Qc v h' → Goes p l e R s m args below meth c Z EL nw Q F (wm nwc w h') h' (k + rm.cells) (n + rm.slots) (mkF m nx Ls (v :: st))) (hnw : nw = true → nwc = true := by first | exact id | exact fun _ => rfl) : Goes p l e R s m args below meth c Z EL nw Q F w h k n (mkF m pc Ls (x3 :: x2 :: x1 :: .ref a :: st)) :=
  C.virtual hnw hF (argsL := [x1, x2, x3]) (rest := st) d w1 (declares_of (C.wrd w6) (C.wrd w4)) w5 w6 hy (len_par hpar rfl) rfl hsz hk hn E (fun vm0 _ q => nf vm0 q) (K.pays (C.wrd w4) (C.wrd w3) C.2.2.2.2.2.2.2.2 hf hl) (Nat.le_refl _) (fun v h' q => by obtain ⟨v, rfl, q⟩ := q; exact g v h' q)
theorem Cxt.q3R (C : Cxt p m meth c Z a0 EL own mn bytes ml ret Ws) {idx : Nat} {y z z' : MethodName} {yb : ByteArray} {yl : Nat} {yr : Option FieldType} {rm : Room} {F' : List Addr} {cls cls' : String} {a : Addr} {x1 x2 x3 : Value} {Qc : Value → Heap → Prop} {nwc : Bool} (d : Dec bytes pc (.invokevirtual idx) 3 nx) (w1 : Jvm.Cond.methodLink own idx y ∈ Ws) (w2 : Jvm.Cond.declares y ∈ Ws) (w5 : Jvm.Cond.selects cls y z ∈ Ws) (w7 : Jvm.Cond.selects cls' z' z' ∈ Ws) (he : z'.cls = y.cls) (w6 : Jvm.Cond.instanceMethod z ∈ Ws) (w3 : Jvm.Cond.initialized z.cls ∈ Ws) (w4 : Jvm.Cond.code z yb yl yr ∈ Ws) (hy : y.cls ≠ "java/lang/invoke/MethodHandle" ∧ y.cls ≠ "java/lang/invoke/VarHandle") (hpar : (parseMethodDescriptor y.desc).map (fun sg => sg.parameters.length) = some 3) (hsz : Ls.size = ml) (hF : ∀ x ∈ F', x ∈ F ∨ (w ≤ x ∧ x < h.size)) (E : Exa Z h a cls)
    (K : Con l Z EL nwc z yb yl yr rm F' #[.ref a, x1, x2, x3] h (rR Qc)) (hf : rm.frames + 1 ≤ R.frames) (hl : (st.map fun v => v.category).sum + (yl + 11) + rm.locals ≤ R.locals) (hk : k + rm.cells ≤ R.cells) (hn : n + rm.slots ≤ R.slots) (g : ∀ v h', Qc v h' → Goes p l e R s m args below meth c Z EL nw Q F (wm nwc w h') h' (k + rm.cells) (n + rm.slots) (mkF m nx Ls (v :: st))) (hnw : nw = true → nwc = true := by first | exact id | exact fun _ => rfl) : Goes p l e R s m args below meth c Z EL nw Q F w h k n (mkF m pc Ls (x3 :: x2 :: x1 :: .ref a :: st)) :=
  C.virtual hnw hF (argsL := [x1, x2, x3]) (rest := st) d w1 (C.wrd w2) w5 w6 hy (len_par hpar rfl) rfl hsz hk hn E (fun vm0 hZ _ => nf_same (Z := s.setVm vm0) (a0 := args) (mv hZ (C.wrd w7)) he) (K.pays (C.wrd w4) (C.wrd w3) C.2.2.2.2.2.2.2.2 hf hl) (Nat.le_refl _) (fun v h' q => by obtain ⟨v, rfl, q⟩ := q; exact g v h' q)
theorem Cxt.u3R (C : Cxt p m meth c Z a0 EL own mn bytes ml ret Ws) {idx : Nat} {y : MethodName} {yb : ByteArray} {yl : Nat} {yr : Option FieldType} {rm : Room} {F' : List Addr} {cls : String} {a : Addr} {x1 x2 x3 : Value} {Qc : Value → Heap → Prop} {nwc : Bool} (d : Dec bytes pc (.invokespecial idx) 3 nx) (hn1 : y.name ≠ "<init>") (w1 : Jvm.Cond.methodLink own idx y ∈ Ws) (w2 : Jvm.Cond.instanceMethod y ∈ Ws) (w5 : Jvm.Cond.superclass own y.cls ∈ Ws) (nf : NotFace Z y) (w3 : Jvm.Cond.initialized y.cls ∈ Ws) (w4 : Jvm.Cond.code y yb yl yr ∈ Ws) (hy : y.cls ≠ "java/lang/invoke/MethodHandle" ∧ y.cls ≠ "java/lang/invoke/VarHandle") (hpar : (parseMethodDescriptor y.desc).map (fun sg => sg.parameters.length) = some 3) (hsz : Ls.size = ml) (hF : ∀ x ∈ F', x ∈ F ∨ (w ≤ x ∧ x < h.size)) (E : Exa Z h a cls)
    (K : Con l Z EL nwc y yb yl yr rm F' #[.ref a, x1, x2, x3] h (rR Qc)) (hf : rm.frames + 1 ≤ R.frames) (hl : (st.map fun v => v.category).sum + (yl + 11) + rm.locals ≤ R.locals) (hk : k + rm.cells ≤ R.cells) (hn : n + rm.slots ≤ R.slots) (g : ∀ v h', Qc v h' → Goes p l e R s m args below meth c Z EL nw Q F (wm nwc w h') h' (k + rm.cells) (n + rm.slots) (mkF m nx Ls (v :: st))) (hnw : nw = true → nwc = true := by first | exact id | exact fun _ => rfl) : Goes p l e R s m args below meth c Z EL nw Q F w h k n (mkF m pc Ls (x3 :: x2 :: x1 :: .ref a :: st)) :=
  C.super hnw hF (argsL := [x1, x2, x3]) (rest := st) d w1 w2 w5 nf hn1 w4 hy (len_par hpar rfl) rfl hsz hk hn E (K.pays (C.wrd w4) (C.wrd w3) C.2.2.2.2.2.2.2.2 hf hl) (Nat.le_refl _) (fun v h' q => by obtain ⟨v, rfl, q⟩ := q; exact g v h' q)
theorem Cxt.ldcInt (C : Cxt p m meth c Z a0 EL own mn bytes ml ret Ws) {idx : Nat} {v : Int32} (d : Dec bytes pc (.ldc idx) 2 nx) (ww : Jvm.Cond.constant own idx v ∈ Ws) (g : Goes p l e R s m args below meth c Z EL nw Q F w h k n (mkF m nx Ls (.int v :: st))) : Goes p l e R s m args below meth c Z EL nw Q F w h k n (mkF m pc Ls st) := by
  obtain ⟨d1, rfl⟩ := d
  intro T vm0 locs k0 H
  obtain ⟨t, v', L, h1, r⟩ := g T vm0 locs k0 H
  exact ⟨t, v', L, H.1.ldcInt C.1 (C.own_at H.2.2.2.2.2.1) (mv H.2.2.2.2.2.1 (C.wrd ww)) (g := mkF m pc Ls st) rfl (hb C.2.1 d1) _ h1, r⟩
theorem Cxt.ldc2Long (C : Cxt p m meth c Z a0 EL own mn bytes ml ret Ws) {idx : Nat} {v : Int64} (d : Dec bytes pc (.ldc2_w idx) 3 nx) (ww : Jvm.Cond.constantLong own idx v ∈ Ws) (g : Goes p l e R s m args below meth c Z EL nw Q F w h k n (mkF m nx Ls (.long v :: st))) : Goes p l e R s m args below meth c Z EL nw Q F w h k n (mkF m pc Ls st) := by
  obtain ⟨d1, rfl⟩ := d
  intro T vm0 locs k0 H
  obtain ⟨t, v', L, h1, r⟩ := g T vm0 locs k0 H
  exact ⟨t, v', L, H.1.ldc2Long C.1 (C.own_at H.2.2.2.2.2.1) (mv H.2.2.2.2.2.1 (C.wrd ww)) (g := mkF m pc Ls st) rfl (hb C.2.1 d1) _ h1, r⟩
theorem Cxt.checkcast (C : Cxt p m meth c Z a0 EL own mn bytes ml ret Ws) {idx : Nat} {K : String} {a : Addr} (d : Dec bytes pc (.checkcast idx) 3 nx) (ww : Jvm.Cond.classLink own idx K ∈ Ws) (I : Ins Z h a K true) (g : Goes p l e R s m args below meth c Z EL nw Q F w h k n (mkF m nx Ls (.ref a :: st))) : Goes p l e R s m args below meth c Z EL nw Q F w h k n (mkF m pc Ls (.ref a :: st)) := by
  obtain ⟨d1, rfl⟩ := d
  intro T vm0 locs k0 H
  obtain ⟨T', X', e', st'⟩ := castY H.1 C.1 H.2.2.2.2.2.1 (C.own_at H.2.2.2.2.2.1) (C.wrd ww) H.2.1 I (g := mkF m pc Ls (.ref a :: st)) rfl rfl (hb C.2.1 d1)
  obtain ⟨t, v, L, h1, r⟩ := g T' vm0 locs k0 (H.step X' e' H.2.2.1 (Keep.refl _ []) (fun x hx => nomatch hx))
  exact ⟨t, v, L, st' _ h1, r⟩
theorem Cxt.checkcastNull (C : Cxt p m meth c Z a0 EL own mn bytes ml ret Ws) {idx : Nat} (d : Dec bytes pc (.checkcast idx) 3 nx) (g : Goes p l e R s m args below meth c Z EL nw Q F w h k n (mkF m nx Ls (.null :: st))) : Goes p l e R s m args below meth c Z EL nw Q F w h k n (mkF m pc Ls (.null :: st)) := by
  obtain ⟨d1, rfl⟩ := d
  intro T vm0 locs k0 H
  obtain ⟨t, v', L, h1, r⟩ := g T vm0 locs k0 H
  exact ⟨t, v', L, H.1.checkcastNull C.1 (g := mkF m pc Ls (.null :: st)) rfl rfl (hb C.2.1 d1) _ h1, r⟩
theorem Cxt.instY (C : Cxt p m meth c Z a0 EL own mn bytes ml ret Ws) {idx : Nat} {K : String} {a : Addr} (d : Dec bytes pc (.instanceof idx) 3 nx) (ww : Jvm.Cond.classLink own idx K ∈ Ws) (I : Ins Z h a K true) (g : Goes p l e R s m args below meth c Z EL nw Q F w h k n (mkF m nx Ls (.int 1 :: st))) : Goes p l e R s m args below meth c Z EL nw Q F w h k n (mkF m pc Ls (.ref a :: st)) := by
  obtain ⟨d1, rfl⟩ := d
  intro T vm0 locs k0 H
  obtain ⟨T', X', e', st'⟩ := instY H.1 C.1 H.2.2.2.2.2.1 (C.own_at H.2.2.2.2.2.1) (C.wrd ww) H.2.1 I (g := mkF m pc Ls (.ref a :: st)) rfl rfl (hb C.2.1 d1)
  obtain ⟨t, v, L, h1, r⟩ := g T' vm0 locs k0 (H.step X' e' H.2.2.1 (Keep.refl _ []) (fun x hx => nomatch hx))
  exact ⟨t, v, L, st' _ h1, r⟩
theorem Cxt.instN (C : Cxt p m meth c Z a0 EL own mn bytes ml ret Ws) {idx : Nat} {K cls : String} {a : Addr} (d : Dec bytes pc (.instanceof idx) 3 nx) (ww : Jvm.Cond.classLink own idx K ∈ Ws) (I : Ins Z s.heap a K false) (E : Exa Z s.heap a cls) (g : Goes p l e R s m args below meth c Z EL nw Q F w h k n (mkF m nx Ls (.int 0 :: st))) : Goes p l e R s m args below meth c Z EL nw Q F w h k n (mkF m pc Ls (.ref a :: st)) := by
  obtain ⟨d1, rfl⟩ := d
  intro T vm0 locs k0 H
  obtain ⟨T', X', e', st'⟩ := instN (s := s.setVm vm0) H.1 C.1 H.2.2.2.2.2.1 (C.own_at H.2.2.2.2.2.1) (C.wrd ww) H.2.1 I E (g := mkF m pc Ls (.ref a :: st)) rfl rfl (hb C.2.1 d1)
  obtain ⟨t, v, L, h1, r⟩ := g T' vm0 locs k0 (H.step X' e' H.2.2.1 (Keep.refl _ []) (fun x hx => nomatch hx))
  exact ⟨t, v, L, st' _ h1, r⟩
theorem Cxt.instNo (C : Cxt p m meth c Z a0 EL own mn bytes ml ret Ws) {idx : Nat} {K cls : String} {a : Addr} (d : Dec bytes pc (.instanceof idx) 3 nx) (ww : Jvm.Cond.classLink own idx K ∈ Ws) (E : Exa Z h a cls) (I : ∃ c t, Z.vm.findClass cls = some c ∧ Z.vm.findClass K = some t ∧ Z.vm.assignable c t = false) (g : Goes p l e R s m args below meth c Z EL nw Q F w h k n (mkF m nx Ls (.int 0 :: st))) : Goes p l e R s m args below meth c Z EL nw Q F w h k n (mkF m pc Ls (.ref a :: st)) := by
  obtain ⟨d1, rfl⟩ := d
  intro T vm0 locs k0 H
  obtain ⟨T', X', e', st'⟩ := instNo H.1 C.1 H.2.2.2.2.2.1 (C.own_at H.2.2.2.2.2.1) (C.wrd ww) H.2.1 E I (g := mkF m pc Ls (.ref a :: st)) rfl rfl (hb C.2.1 d1)
  obtain ⟨t, v, L, h1, r⟩ := g T' vm0 locs k0 (H.step X' e' H.2.2.1 (Keep.refl _ []) (fun x hx => nomatch hx))
  exact ⟨t, v, L, st' _ h1, r⟩
theorem Cxt.instNull (C : Cxt p m meth c Z a0 EL own mn bytes ml ret Ws) {idx : Nat} (d : Dec bytes pc (.instanceof idx) 3 nx) (g : Goes p l e R s m args below meth c Z EL nw Q F w h k n (mkF m nx Ls (.int 0 :: st))) : Goes p l e R s m args below meth c Z EL nw Q F w h k n (mkF m pc Ls (.null :: st)) := by
  obtain ⟨d1, rfl⟩ := d
  intro T vm0 locs k0 H
  obtain ⟨t, v', L, h1, r⟩ := g T vm0 locs k0 H
  exact ⟨t, v', L, H.1.instanceofNull C.1 (g := mkF m pc Ls (.null :: st)) rfl rfl (hb C.2.1 d1) _ h1, r⟩
/-- a String constant, its text unread -/
theorem Cxt.ldcO (C : Cxt p m meth c Z a0 EL own mn bytes ml ret Ws) {idx : Nat} {text : String} (q : Nat) (d : Dec bytes pc (.ldc idx) 2 nx) (hnw : nw = false) (ww : Jvm.Cond.stringLink own idx text ∈ Ws) (wS : ∀ a ∈ Bundle.stringAtoms, a.before a0 Z = true) (hq : 4 * text.toList.length ≤ q) (hq2 : q ≤ 536870912) (hk : k + 2 ≤ R.cells) (hn : n + (q + 4) ≤ R.slots)
    (g : ∀ h' a, Ext h h' → Goes p l e R s m args below meth c Z EL nw Q F h'.size h' (k + 2) (n + (q + 4)) (mkF m nx Ls (.ref a :: st))) : Goes p l e R s m args below meth c Z EL nw Q F w h k n (mkF m pc Ls st) := by
  obtain ⟨d1, rfl⟩ := d
  intro T vm0 locs k0 H
  obtain ⟨X, eT, N, S, hk0, hZ, H1, hw, hF, O, hwm, hbk⟩ := id H
  obtain ⟨a, T', h', k1, X', e', E, S', hk1, hW, hf, hC, hL, st'⟩ := ldcOH X C.1 hZ (C.own_at (s := s) hZ) (C.wrd ww) wS eT S hk0 C.2.2.2.2.2.2.2.2 H1.1 (g := mkF m pc Ls st) rfl (hb C.2.1 d1) hq hq2 hk hn
  obtain ⟨t, v, L, h1, r⟩ := g h' a E T' T'.vm locs k1 ⟨X', e', N, S', hk1, hW, H1.trans hC, fun q => (by rw [hnw] at q; cases q), fun x hx => ⟨Nat.lt_of_lt_of_le (hF x hx).1 E.1, hC.safe (hF x hx).1 (hF x hx).2⟩, ext_trans O E, fun x hx => Safe.new hx, fun q => (by rw [hnw] at q; cases q)⟩
  exact ⟨t, v, L, st' _ h1, r⟩
/-- a String constant of EL, its text read -/
theorem Cxt.ldcS (C : Cxt p m meth c Z a0 EL own mn bytes ml ret Ws) {idx : Nat} {text : String} {vs : List Value} (q : Nat) (d : Dec bytes pc (.ldc idx) 2 nx) (hnw : nw = false) (ww : Jvm.Cond.stringLink own idx text ∈ Ws) (wS : ∀ a ∈ Bundle.stringAtoms, a.before a0 Z = true) (hmem : (own, idx) ∈ EL) (ht : (∀ c ∈ text.toList, c.toNat < 256) ∧ text.toList.map (fun c => Value.int (Jvm.Lit.byteI c.toNat.toUInt16)) = vs) (hlt : vs.length < 1000000)
    (hq : 4 * text.toList.length ≤ q) (hq2 : q ≤ 536870912) (hk : k + 2 ≤ R.cells) (hn : n + (q + 4) ≤ R.slots)
    (g : ∀ h' a b, Ext h h' → Exa Z h' a "java/lang/String" → Fld Z h' a "java/lang/String" "coder" "B" (.int 0) → Fld Z h' a "java/lang/String" "value" "[B" (.ref b) → Arl Z h' b .byte vs → (∀ x ∈ F, x ≠ a ∧ x ≠ b) → Goes p l e R s m args below meth c Z EL nw Q F h'.size h' (k + 2) (n + (q + 4)) (mkF m nx Ls (.ref a :: st))) : Goes p l e R s m args below meth c Z EL nw Q F w h k n (mkF m pc Ls st) := by
  obtain ⟨d1, rfl⟩ := d
  intro T vm0 locs k0 H
  obtain ⟨X, eT, N, S, hk0, hZ, H1, hw, hF, O, hwm, hbk⟩ := id H
  have hz : ¬ (Int32.ofNat vs.length) < 0 ∧ (Int32.ofNat vs.length).toNatClampNeg = vs.length := ofNat_idx (by omega)
  obtain ⟨a, T', h', k1, b, kb, X', e', E, S', hk1, hW, hf, hE, hc, hv, hA, la, lb, hC, hL, hS, st'⟩ := ldcCH X C.1 hZ (C.own_at (s := s) hZ) (C.wrd ww) wS eT S hk0 C.2.2.2.2.2.2.2.2 hmem H1.1 ht hz.1 hz.2 (g := mkF m pc Ls st) rfl (hb C.2.1 d1) hq hq2 hk hn
  have hF' : ∀ x ∈ F, x < h'.size ∧ Safe Z EL T'.vm h' x := fun x hx => ⟨Nat.lt_of_lt_of_le (hF x hx).1 E.1, hC.safe (hF x hx).1 (hF x hx).2⟩
  obtain ⟨t, v, L, h1, r⟩ := g h' a b E hE hc hv (arl_of_arv hA hz.2 (by omega)) (fun x hx => hS x (hF' x hx).2) T' T'.vm locs k1 ⟨X', e', N, S', hk1, hW, H1.trans hC, fun q => (by rw [hnw] at q; cases q), hF', ext_trans O E, fun x hx => Safe.new hx, fun q => (by rw [hnw] at q; cases q)⟩
  exact ⟨t, v, L, st' _ h1, r⟩
end
end Jvm.OwnW
namespace Jvm.OwnW
open Sem ClassFile Op Lib Jvm.Stand Jvm.Free Jvm.LawKit Jvm.RoadKit Bundle
abbrev ST : String := "java/lang/String"
def IsC (x : Int32) : Prop := ¬ x < 0 ∧ ¬ (65535 : Int32) < x
def IsL (x : Int32) : Prop := ¬ x < 0 ∧ ¬ (255 : Int32) < x
theorem nlt {x y : Int32} : ¬ x < y ↔ y.toInt ≤ x.toInt := by rw [Int32.lt_iff_toInt_lt]; omega
theorem ilt {x y : Int32} : x < y ↔ x.toInt < y.toInt := Int32.lt_iff_toInt_lt
theorem isC_iff {x : Int32} : IsC x ↔ 0 ≤ x.toInt ∧ x.toInt ≤ 65535 := by
  unfold IsC; rw [nlt, nlt]; exact Iff.rfl
theorem isL_iff {x : Int32} : IsL x ↔ 0 ≤ x.toInt ∧ x.toInt ≤ 255 := by
  unfold IsL; rw [nlt, nlt]; exact Iff.rfl
theorem IsL.isC {x : Int32} (h : IsL x) : IsC x := by rw [isL_iff] at h; rw [isC_iff]; omega
theorem isC_c16 (x : Int32) : IsC (c16 x) := by
  rw [isC_iff]; have := c_i2c x; unfold c16; omega
theorem c16_of {x : Int32} (h : IsC x) : c16 x = x := by
  rw [isC_iff] at h
  have q := c_i2c x
  apply Int32.toInt_inj.mp
  unfold c16; omega
theorem nar_c16 (x : Int32) : nar .char x = c16 x := rfl
theorem nar_char {x : Int32} (h : IsC x) : nar .char x = x := (nar_c16 x).trans (c16_of h)
theorem nar_b8 (x : Int32) : nar .byte x = b8 x := rfl
theorem narrow_char {x : Int32} (h : IsC x) : narrow .char (.int x) = .int x := by
  show Value.int (nar .char x) = _; rw [nar_char h]
theorem b8_bounds (x : Int32) : -128 ≤ (b8 x).toInt ∧ (b8 x).toInt ≤ 127 := by
  have h := rng_byte (fits_nar_byte x)
  rw [nlt, nlt] at h
  exact h
theorem b8_mod (x : Int32) : ((b8 x).toInt - x.toInt) % 256 = 0 := by
  have e : (b8 x).toInt = x.toInt.bmod 256 := by
    unfold b8
    rw [Int8.toInt_toInt32, Int32.toInt_toInt8]
  rw [e, Int.bmod_def]
  split <;> omega
theorem b8_b8 (x : Int32) : b8 (b8 x) = b8 x := by
  apply Int32.toInt_inj.mp
  have h1 := b8_bounds x; have h2 := b8_bounds (b8 x); have h3 := b8_mod (b8 x)
  omega
theorem narrow_byte (x : Int32) : narrow .byte (.int (b8 x)) = .int (b8 x) := by
  show Value.int (nar .byte (b8 x)) = _; rw [nar_b8, b8_b8]
theorem ofNat_toInt {i : Nat} (h : i < 2 ^ 31) : (Int32.ofNat i).toInt = i := by
  rw [Int32.toInt_ofNat']
  simp only [Int.bmod_def]
  have z : (Int32.size : Int) = 4294967296 := rfl
  rw [z]
  omega
theorem ofNat_succ (i : Nat) : Int32.ofNat i + 1 = Int32.ofNat (i + 1) := (Int32.ofNat_add i 1).symm
theorem ofNat_lt {i j : Nat} (hi : i < 2 ^ 31) (hj : j < 2 ^ 31) : Int32.ofNat i < Int32.ofNat j ↔ i < j := by
  rw [ilt, ofNat_toInt hi, ofNat_toInt hj]; omega
theorem ofNat_inj {i j : Nat} (hi : i < 2 ^ 31) (hj : j < 2 ^ 31) (h : Int32.ofNat i = Int32.ofNat j) : i = j := by
  have := congrArg Int32.toInt h; rw [ofNat_toInt hi, ofNat_toInt hj] at this; omega
def lat (cs : List Int32) : List Value := cs.map fun c => .int (b8 c)
def wid (cs : List Int32) : List Value := cs.flatMap fun c => [.int (b8 c), .int (b8 (c >>> 8))]
def ints (cs : List Int32) : List Value := cs.map Value.int
/-- the bytes vs under the coder cd spell the chars cs -/
def Txt (cs : List Int32) (cd : Int32) (vs : List Value) : Prop := (cd = 0 ∧ vs = lat cs ∧ ∀ c ∈ cs, ¬ (255 : Int32) < c) ∨ (cd = 1 ∧ vs = wid cs ∧ ∃ c ∈ cs, (255 : Int32) < c)
/-- the String at a spells cs -/
def StrAt (Z : State) (h : Heap) (a : Addr) (cs : List Int32) : Prop :=
  ∃ t cd vs, Exa Z h a ST ∧ Fld Z h a ST "value" "[B" (.ref t) ∧ Fld Z h a ST "coder" "B" (.int cd) ∧ Arl Z h t .byte vs ∧ Txt cs cd vs ∧ (∀ c ∈ cs, IsC c) ∧ cs.length ≤ 4000
theorem StrAt.ext {Z : State} {h h' : Heap} {a : Addr} {cs : List Int32} (S : StrAt Z h a cs) (E : Ext h h') : StrAt Z h' a cs := by
  obtain ⟨t, cd, vs, h1, h2, h3, h4, r⟩ := S
  exact ⟨t, cd, vs, h1.ext E, h2.ext E, h3.ext E, h4.ext E, r⟩
theorem StrAt.lt {Z : State} {h : Heap} {a : Addr} {cs : List Int32} (S : StrAt Z h a cs) : a < h.size := by
  obtain ⟨t, cd, vs, h1, -⟩ := S; exact h1.lt
theorem StrAt.exa {Z : State} {h : Heap} {a : Addr} {cs : List Int32} (S : StrAt Z h a cs) : Exa Z h a ST := by
  obtain ⟨t, cd, vs, h1, -⟩ := S; exact h1
/-- over a call that writes one object that is no String -/
theorem StrAt.keep {Z : State} {h h' : Heap} {a o : Addr} {cs : List Int32} {cls : String} {a0 : Array Value} {kk : Nat} (S : StrAt Z h a cs) (K : Keep h h' [o]) (E : Exa Z h o cls) (hn : cls ≠ ST) (wi : (Jvm.Cond.instantiable cls kk).before a0 Z = true) : StrAt Z h' a cs := by
  obtain ⟨t, cd, vs, h1, h2, h3, h4, r⟩ := S
  have n1 : a ∉ [o] := by
    intro q; cases List.mem_singleton.mp q; exact ne_exa E h1 hn rfl
  have n2 : t ∉ [o] := by
    intro q; cases List.mem_singleton.mp q
    obtain ⟨cl, A, -⟩ := h4
    exact ne_arr E wi A rfl
  exact ⟨t, cd, vs, h1.keep K, h2.keep K n1, h3.keep K n1, h4.keep K n2, r⟩
theorem ext_of_keep {h0 h h' : Heap} {ws : List Addr} (E : Ext h0 h) (K : Keep h h' ws) (q : ∀ w ∈ ws, h0.size ≤ w) : Ext h0 h' :=
  ⟨Nat.le_trans E.1 K.1, fun a c r => K.2.1 a c (E.2 a c r) fun z => absurd (Array.getElem?_eq_some_iff.mp r).1 (Nat.not_lt.mpr (q a z))⟩
theorem ext_of_wr {h0 h h' : Heap} {a : Addr} {sl : Nat} {v : Value} (E : Ext h0 h) (W : Wr h h' a sl v) (q : h0.size ≤ a) : Ext h0 h' :=
  ext_of_keep E (Keep.of_wr W) fun w hw => by cases List.mem_singleton.mp hw; exact q
theorem wid_length (cs : List Int32) : (wid cs).length = 2 * cs.length := by
  unfold wid; induction cs with
  | nil => rfl
  | cons c r ih => simp only [List.flatMap_cons, List.length_append, ih, List.length_cons, List.length_nil]; omega
theorem lat_length (cs : List Int32) : (lat cs).length = cs.length := by simp [lat]
theorem ints_length (cs : List Int32) : (ints cs).length = cs.length := by simp [ints]
theorem ints_get {cs : List Int32} {i : Nat} {c : Int32} (h : cs[i]? = some c) : (ints cs)[i]? = some (.int c) := by simp [ints, h]
theorem lat_get {cs : List Int32} {i : Nat} {c : Int32} (h : cs[i]? = some c) : (lat cs)[i]? = some (.int (b8 c)) := by simp [lat, h]
end Jvm.OwnW
namespace Jvm.OwnW
open Sem ClassFile Op Lib Jvm.Stand Jvm.Free Jvm.LawKit Jvm.RoadKit Bundle
abbrev RM (f lo c s : Nat) : Room := { frames := f, cells := c, slots := s, locals := lo }
theorem adr_ne {a b n : Nat} (h : a < n) (h2 : n ≤ b) : a ≠ b := by omega
theorem nof0 {F : List Addr} : ∀ x ∈ ([] : List Addr), x ∈ F := fun _ q => nomatch q
theorem nof {F : List Addr} {w : Nat} {h : Heap} : ∀ x ∈ ([] : List Addr), x ∈ F ∨ (w ≤ x ∧ x < h.size) := fun _ q => nomatch q
theorem fill_step {pre : List Value} {i r : Nat} {z v : Value} (h : pre.length = i) : (pre ++ List.replicate (r + 1) z).set i v = (pre ++ [v]) ++ List.replicate r z := by
  subst h
  rw [List.set_append_right _ _ (Nat.le_refl _)]
  simp [List.replicate_succ]
end Jvm.OwnW
namespace Jvm.OwnW
open Sem ClassFile Op Lib Jvm.Stand Jvm.Free Jvm.LawKit Jvm.RoadKit Bundle
theorem eq_stat {args : Array Value} {s : State} {C n d : String} {v : Int32} (h : (Jvm.Cond.eq (.static C n d) (.int v)).value args s none s [] = some true) : (Term.static C n d).eval args s none [] s = some (.int v) := by
  simp only [Cond.value, Term.int_eval] at h
  cases hv : (Term.static C n d).eval args s none [] s with
  | none => simp [hv] at h
  | some w => cases w <;> simp [hv] at h <;> simp [h]
theorem isL_and (x : Int32) : IsL (x &&& 255) := by
  rw [isL_iff]; have := c_and x 255 (by decide); exact this
theorem isC_isL {x : Int32} (h : IsL x) : c16 x = x := c16_of h.isC
end Jvm.OwnW
namespace Jvm.OwnW
open Sem ClassFile Op Lib Jvm.Stand Jvm.Free Jvm.LawKit Jvm.RoadKit Bundle
theorem st_exact {args : Array Value} {s : State} {C n d K : String} (h : (Jvm.Cond.exactly (.static C n d) K).value args s none s [] = some true) (wi : (Jvm.Cond.initialized C).before args s = true) (wl : (Jvm.Cond.laysStatic C n d).before args s = true) :
    ∃ a, (Term.static C n d).eval args s none [] s = some (.ref a) ∧ Sta s s.heap C n d (.ref a) ∧ Exa s s.heap a K := by
  obtain ⟨a, _, _, _, e, -⟩ := Cond.exactly_spec (Cond.before_iff.mpr h)
  exact ⟨a, e, Sta.start e (Or.inr ⟨wi, wl⟩), Exa.start e h⟩
theorem st_field {args : Array Value} {s : State} {t : Term} {O f fd : String} {a : Addr} {v : Int32} (ev : t.eval args s none [] s = some (.ref a)) (h : (Jvm.Cond.eq (.field t O f fd) (.int v)).value args s none s [] = some true) : Fld s s.heap a O f fd (.int v) := by
  apply Fld.start
  have e : (Term.field t O f fd).eval args s none [] s = s.fieldOf? a O f fd := by simp [Term.eval, ev]
  simp only [Cond.value, Term.int_eval, e] at h
  cases hv : s.fieldOf? a O f fd with
  | none => simp [hv] at h
  | some w => cases w <;> simp [hv] at h <;> simp [h]
end Jvm.OwnW
namespace Jvm.OwnW
open Sem ClassFile Op Lib Jvm.Stand Jvm.Free Jvm.LawKit Jvm.RoadKit Bundle
theorem pos30 (x : Int32) : ¬ ((x &&& 1073741823) + 1) < 1 := by
  have h := c_and x 1073741823 (by decide)
  have e : (1073741823 : Int32).toInt = 1073741823 := rfl
  rw [e] at h
  rw [nlt, Int32.toInt_add]
  have e1 : (1 : Int32).toInt = 1 := rfl
  rw [e1, Int.bmod_def]
  split <;> omega
end Jvm.OwnW
namespace Jvm.OwnW
open Sem ClassFile Op Lib Jvm.Stand Jvm.Free Jvm.LawKit Jvm.RoadKit Bundle
theorem Arl.intAt {Z : State} {h : Heap} {a : Addr} {vs : List Value} {v : Value} (A : Arl Z h a .byte vs) (hv : v ∈ vs) : ∃ x, v = .int x := by
  obtain ⟨cl, -, -, -, r⟩ := A
  exact fit_I (r v hv) (Or.inr (Or.inr (Or.inl rfl)))
theorem Txt.cd01 {cs : List Int32} {cd : Int32} {vs : List Value} (T : Txt cs cd vs) : cd = 0 ∨ cd = 1 := T.imp (·.1) (·.1)
theorem Txt.vlen {cs : List Int32} {cd : Int32} {vs : List Value} (T : Txt cs cd vs) : vs.length = cs.length ∨ vs.length = 2 * cs.length := by
  rcases T with ⟨-, rfl, -⟩ | ⟨-, rfl, -⟩
  · exact Or.inl (lat_length cs)
  · exact Or.inr (wid_length cs)
theorem Txt.len {cs : List Int32} {cd : Int32} {vs : List Value} (T : Txt cs cd vs) (hn : cs.length ≤ 4000) : Int32.ofNat vs.length >>> (cd &&& 31) = Int32.ofNat cs.length := by
  apply Int32.toInt_inj.mp
  rcases T with ⟨rfl, rfl, -⟩ | ⟨rfl, rfl, -⟩
  · rw [c_ishr _ _ 0 (by decide), lat_length]; simp
  · rw [c_ishr _ _ 1 (by decide), wid_length, ofNat_toInt (by omega), ofNat_toInt (by omega)]; omega
theorem Txt.coder {cs : List Int32} {cd ce : Int32} {vs ws : List Value} (T : Txt cs cd vs) (U : Txt cs ce ws) : cd = ce := by
  rcases T with ⟨rfl, -, q⟩ | ⟨rfl, -, c, q1, q2⟩ <;> rcases U with ⟨rfl, -, z⟩ | ⟨rfl, -, d, z1, z2⟩
  · rfl
  · exact absurd z2 (q d z1)
  · exact absurd q2 (z c q1)
  · rfl
theorem Txt.bytes {cs : List Int32} {cd ce : Int32} {vs ws : List Value} (T : Txt cs cd vs) (U : Txt cs ce ws) : vs = ws := by
  rcases T with ⟨rfl, rfl, q⟩ | ⟨rfl, rfl, c, q1, q2⟩ <;> rcases U with ⟨rfl, rfl, z⟩ | ⟨rfl, rfl, d, z1, z2⟩
  · rfl
  · exact absurd z2 (q d z1)
  · exact absurd q2 (z c q1)
  · rfl
theorem b8_inj_L {x y : Int32} (hx : IsL x) (hy : IsL y) (h : b8 x = b8 y) : x = y := by
  rw [isL_iff] at hx hy
  have h1 := b8_mod x; have h2 := b8_mod y
  rw [h] at h1
  apply Int32.toInt_inj.mp; omega
theorem shr8 (x : Int32) : (x >>> 8).toInt = x.toInt / 256 := by
  have := c_ishr x 8 8 (by decide)
  have e : (8 : Int32) &&& 31 = 8 := by decide
  rw [e] at this
  simpa using this
theorem b8_inj_W {x y : Int32} (hx : IsC x) (hy : IsC y) (h : b8 x = b8 y) (h' : b8 (x >>> 8) = b8 (y >>> 8)) : x = y := by
  rw [isC_iff] at hx hy
  have h1 := b8_mod x; have h2 := b8_mod y
  have h3 := b8_mod (x >>> 8); have h4 := b8_mod (y >>> 8)
  rw [h] at h1; rw [h'] at h3
  rw [shr8] at h3 h4
  apply Int32.toInt_inj.mp; omega
theorem lat_inj : ∀ {cs ds : List Int32}, (∀ c ∈ cs, IsL c) → (∀ c ∈ ds, IsL c) → lat cs = lat ds → cs = ds
  | [], [], _, _, _ => rfl
  | [], d :: ds, _, _, h => by simp [lat] at h
  | c :: cs, [], _, _, h => by simp [lat] at h
  | c :: cs, d :: ds, h1, h2, h => by
    simp only [lat, List.map_cons, List.cons.injEq, Value.int.injEq] at h
    rw [b8_inj_L (h1 c (List.mem_cons_self ..)) (h2 d (List.mem_cons_self ..)) h.1, lat_inj (fun x hx => h1 x (List.mem_cons_of_mem _ hx)) (fun x hx => h2 x (List.mem_cons_of_mem _ hx)) h.2]
theorem wid_inj : ∀ {cs ds : List Int32}, (∀ c ∈ cs, IsC c) → (∀ c ∈ ds, IsC c) → wid cs = wid ds → cs = ds
  | [], [], _, _, _ => rfl
  | [], d :: ds, _, _, h => by simp [wid] at h
  | c :: cs, [], _, _, h => by simp [wid] at h
  | c :: cs, d :: ds, h1, h2, h => by
    simp only [wid, List.flatMap_cons, List.cons_append, List.nil_append, List.cons.injEq, Value.int.injEq] at h
    rw [b8_inj_W (h1 c (List.mem_cons_self ..)) (h2 d (List.mem_cons_self ..)) h.1 h.2.1, wid_inj (fun x hx => h1 x (List.mem_cons_of_mem _ hx)) (fun x hx => h2 x (List.mem_cons_of_mem _ hx)) h.2.2]
theorem Txt.inj {cs ds : List Int32} {cd : Int32} {vs : List Value} (hC : ∀ c ∈ cs, IsC c) (hD : ∀ c ∈ ds, IsC c) (T : Txt cs cd vs) (U : Txt ds cd vs) : cs = ds := by
  rcases T with ⟨rfl, rfl, q⟩ | ⟨rfl, rfl, q⟩ <;> rcases U with ⟨e, e', z⟩ | ⟨e, e', z⟩
  · exact lat_inj (fun c hc => ⟨(hC c hc).1, q c hc⟩) (fun c hc => ⟨(hD c hc).1, z c hc⟩) e'
  · exact absurd e (by decide)
  · exact absurd e (by decide)
  · exact wid_inj hC hD e'
theorem fld_uniq {Z : State} {h : Heap} {a : Addr} {C n d : String} {v w : Value} (F : Fld Z h a C n d v) (G : Fld Z h a C n d w) : v = w := by
  obtain ⟨c1, cf, k, i, f, h1, h2, -, -, -, -, h7⟩ := F
  obtain ⟨c2, cf', k', i', f', g1, g2, -, -, -, -, g7⟩ := G
  cases h1.symm.trans g1
  cases h2.symm.trans g2
  exact Option.some.inj (h7.symm.trans g7)
theorem arl_uniq {Z : State} {h : Heap} {a : Addr} {ty : FieldType} {vs ws : List Value} (A : Arl Z h a ty vs) (D : Arl Z h a ty ws) : vs = ws := by
  obtain ⟨c1, A1, rfl, -⟩ := A
  obtain ⟨c2, A2, rfl, -⟩ := D
  cases A1.1.symm.trans A2.1
  rfl
theorem StrAt.uniq {Z : State} {h : Heap} {a : Addr} {cs ds : List Int32} (S : StrAt Z h a cs) (T : StrAt Z h a ds) : cs = ds := by
  obtain ⟨t, cd, vs, X, Fv, Fc, A, Tx, hC, hn⟩ := S
  obtain ⟨u, ce, ws, X', Fv', Fc', A', Tx', hC', hn'⟩ := T
  cases fld_uniq Fv Fv'
  cases fld_uniq Fc Fc'
  cases arl_uniq A A'
  exact Txt.inj hC hC' Tx Tx'
theorem unb8 {x : Int32} (h : IsL x) : c16 (b8 x &&& 255) = x := by
  have e : b8 x &&& 255 = x := by
    rw [isL_iff] at h
    apply Int32.toInt_inj.mp
    rw [c_mask _ 255 8 (by decide) (by decide)]
    have := b8_mod x
    omega
  rw [e, c16_of h.isC]
end Jvm.OwnW
namespace Jvm.OwnW
open Sem ClassFile Op Lib Jvm.Stand Jvm.Free Jvm.LawKit Jvm.RoadKit Bundle
theorem i32_bounds (x : Int32) : -2147483648 ≤ x.toInt ∧ x.toInt < 2147483648 := ⟨Int32.le_toInt x, Int32.toInt_lt x⟩
theorem shl1' {n : Nat} (hn : 2 * n < 2 ^ 31) : Int32.ofNat n <<< ((1 : Int32) &&& 31) = Int32.ofNat (2 * n) := by
  apply Int32.toInt_inj.mp
  have h := c_ishl (Int32.ofNat n) 1 1 (by decide)
  rw [ofNat_toInt (i := n) (by omega)] at h
  rw [ofNat_toInt hn]
  have b := i32_bounds (Int32.ofNat n <<< ((1 : Int32) &&& 31))
  have e : ((2 ^ 1 : Nat) : Int) = 2 := rfl
  rw [e] at h
  omega
theorem shl1 {n : Nat} (hn : n ≤ 4000) : Int32.ofNat n <<< ((1 : Int32) &&& 31) = Int32.ofNat (2 * n) := shl1' (by omega)
theorem shr0 (x : Int32) : x >>> ((0 : Int32) &&& 31) = x := by
  apply Int32.toInt_inj.mp
  rw [c_ishr x 0 0 (by decide)]; simp
theorem shr1 {cs : List Int32} (hn : cs.length ≤ 4000) : Int32.ofNat (wid cs).length >>> ((1 : Int32) &&& 31) = Int32.ofNat cs.length := by
  apply Int32.toInt_inj.mp
  rw [c_ishr _ _ 1 (by decide), wid_length, ofNat_toInt (by omega), ofNat_toInt (by omega)]; omega
theorem fill_step2 {pre : List Value} {i r : Nat} {z u v : Value} (h : pre.length = 2 * i) : ((pre ++ List.replicate (2 * (r + 1)) z).set (2 * i) u).set (2 * i + 1) v = (pre ++ [u, v]) ++ List.replicate (2 * r) z := by
  rw [← h, List.set_append_right _ _ (Nat.le_refl _), List.set_append_right _ _ (by omega)]
  have e : 2 * (r + 1) = 2 * r + 1 + 1 := by omega
  rw [e]
  simp [List.replicate_succ]
theorem wid_cons (c : Int32) (cs : List Int32) : wid (c :: cs) = .int (b8 c) :: .int (b8 (c >>> 8)) :: wid cs := rfl
theorem wid_lo : ∀ {cs : List Int32} {i : Nat} {c : Int32}, cs[i]? = some c → (wid cs)[2 * i]? = some (.int (b8 c))
  | [], i, c, h => by simp at h
  | d :: cs, 0, c, h => by simp at h; subst h; rfl
  | d :: cs, i + 1, c, h => by
    have e : 2 * (i + 1) = 2 * i + 1 + 1 := by omega
    rw [wid_cons, e, List.getElem?_cons_succ, List.getElem?_cons_succ]
    exact wid_lo (by simpa using h)
theorem wid_hi : ∀ {cs : List Int32} {i : Nat} {c : Int32}, cs[i]? = some c → (wid cs)[2 * i + 1]? = some (.int (b8 (c >>> 8)))
  | [], i, c, h => by simp at h
  | d :: cs, 0, c, h => by simp at h; subst h; rfl
  | d :: cs, i + 1, c, h => by
    have e : 2 * (i + 1) + 1 = (2 * i + 1) + 1 + 1 := by omega
    rw [wid_cons, e, List.getElem?_cons_succ, List.getElem?_cons_succ]
    exact wid_hi (by simpa using h)
theorem unwide {x : Int32} (h : IsC x) : c16 ((b8 x &&& 255) <<< ((0 : Int32) &&& 31) ||| (b8 (x >>> 8) &&& 255) <<< ((8 : Int32) &&& 31)) = x := by
  have hx := isC_iff.mp h
  have e1 : (b8 x &&& 255).toInt = x.toInt % 256 := by
    rw [c_mask _ 255 8 (by decide) (by decide)]; have := b8_mod x; omega
  have e2 : (b8 (x >>> 8) &&& 255).toInt = x.toInt / 256 := by
    rw [c_mask _ 255 8 (by decide) (by decide)]; have := b8_mod (x >>> 8); rw [shr8] at this; omega
  have e3 := c_ishl (b8 x &&& 255) 0 0 (by decide)
  have e4 := c_ishl (b8 (x >>> 8) &&& 255) 8 8 (by decide)
  generalize hA : (b8 x &&& 255) <<< ((0 : Int32) &&& 31) = A at *
  generalize hB : (b8 (x >>> 8) &&& 255) <<< ((8 : Int32) &&& 31) = D at *
  rw [e1] at e3; rw [e2] at e4
  have bA := i32_bounds A; have bD := i32_bounds D
  have p0 : ((2 ^ 0 : Nat) : Int) = 1 := rfl
  have p8 : ((2 ^ 8 : Nat) : Int) = 256 := rfl
  rw [p0] at e3; rw [p8] at e4
  have a1 : A.toInt = x.toInt % 256 := by omega
  have a2 : D.toInt = x.toInt / 256 * 256 := by omega
  have e5 := c_or' A D 8 (by decide) 256 rfl (by omega) (by omega) (by omega)
  have bO := i32_bounds (A ||| D)
  have e6 : A ||| D = x := by apply Int32.toInt_inj.mp; omega
  rw [e6, c16_of h]
theorem codU {n : Nat} (h0 : 0 < n) (hn : n ≤ 4000) : b8 (XT.ushr (Int32.ofNat n - Int32.ofNat (2 * n)) 31) = 1 := by
  have e := c_isub (Int32.ofNat n) (Int32.ofNat (2 * n))
  rw [ofNat_toInt (i := n) (by omega), ofNat_toInt (i := 2 * n) (by omega)] at e
  have b := i32_bounds (Int32.ofNat n - Int32.ofNat (2 * n))
  have u := c_iushr (Int32.ofNat n - Int32.ofNat (2 * n)) 31 31 (by decide) (by decide)
  have p : ((2 ^ 31 : Nat) : Int) = 2147483648 := rfl
  rw [p] at u
  have v : (XT.ushr (Int32.ofNat n - Int32.ofNat (2 * n)) 31).toInt = 1 := by unfold XT.ushr; omega
  have w : XT.ushr (Int32.ofNat n - Int32.ofNat (2 * n)) 31 = 1 := by apply Int32.toInt_inj.mp; rw [v]; rfl
  rw [w]; rfl
end Jvm.OwnW
namespace Jvm.OwnW
open Sem ClassFile Op Lib Jvm.Stand Jvm.Free Jvm.LawKit Jvm.RoadKit Bundle
theorem no_inst {Z : State} {a0 : Array Value} {C S K : String} {q : Nat} (w : (Jvm.Cond.superclass C S).before a0 Z = true) (wr : (Jvm.Cond.noSuperclass S).before a0 Z = true) (wi : (Jvm.Cond.instantiable K q).before a0 Z = true) (hn : C ≠ K) (hs : S ≠ K) : ∃ c t, Z.vm.findClass C = some c ∧ Z.vm.findClass K = some t ∧ Z.vm.assignable c t = false := by
  obtain ⟨t, kt, g0, g2, g5, g7, -⟩ := Cond.instantiable_spec wi
  obtain ⟨c, h0⟩ := found_sup w
  obtain ⟨p, k, kp, h1, h2, h3, h4, h5, -, h7⟩ := Cond.superclass_spec h0 w
  obtain ⟨r, kr, r1, r2, r3, -, -⟩ := Cond.noSuperclass_spec wr
  cases h1.symm.trans r1
  have ne := ids_ne h0 g0 hn
  have ne2 := ids_ne r1 g0 hs
  have n3 : ∀ fuel, Z.vm.isSubclassAux fuel p t = false := fun fuel => by
    cases fuel with
    | zero => rfl
    | succ f => simp [Vm.isSubclassAux, ne2, r2, r3]
  have n4 : ∀ fuel, Z.vm.isSubclassAux fuel c t = false := fun fuel => by
    cases fuel with
    | zero => rfl
    | succ f => simp [Vm.isSubclassAux, ne, h2, h4, n3]
  simp only [Bool.or_eq_false_iff] at g7
  refine ⟨c, t, h0, g0, ?_⟩
  show Z.vm.assignableAux (255 + 1) c t = false
  simp [Vm.assignableAux, ne, h2, g2, h5, g5, g7.1, Vm.isSubclass, n4]
end Jvm.OwnW
namespace Jvm.OwnW
open Sem ClassFile Op Lib Jvm.Stand Jvm.Free Jvm.LawKit Jvm.RoadKit Bundle
theorem codT {cs : List Int32} {cd : Int32} {vs : List Value} (T : Txt cs cd vs) (h0 : 0 < cs.length) (hn : cs.length ≤ 4000) : b8 (XT.ushr (Int32.ofNat cs.length - Int32.ofNat vs.length) 31) = cd := by
  rcases T with ⟨rfl, rfl, -⟩ | ⟨rfl, rfl, -⟩
  · rw [lat_length, Int32.sub_self]; rfl
  · rw [wid_length]; exact codU h0 hn
end Jvm.OwnW
namespace Jvm.OwnW
open Sem ClassFile Op Lib Jvm.Stand Jvm.Free Jvm.LawKit Jvm.RoadKit Bundle
theorem nar_ref {v : Value} {n : String} (h : v.isRef = true) : narrow (.object n) v = v := by rcases ref_cases h with rfl | ⟨_, rfl⟩ <;> rfl
theorem fits_ref' {v : Value} {n : String} (h : v.isRef = true) : fits (.object n) v = true := by rcases ref_cases h with rfl | ⟨_, rfl⟩ <;> rfl
theorem catle {v : Value} {st : List Value} {A D C : Nat} (h : v.isRef = true) (g : Nat.ble ((List.map (fun v : Value => v.category) (.null :: st)).sum + A + D) C = true) : (List.map (fun v : Value => v.category) (v :: st)).sum + A + D ≤ C := by
  rcases ref_cases h with rfl | ⟨_, rfl⟩ <;> exact le g
theorem catle2 {v x : Value} {st : List Value} {A D C : Nat} (h : v.isRef = true) (g : Nat.ble ((List.map (fun v : Value => v.category) (x :: .null :: st)).sum + A + D) C = true) : (List.map (fun v : Value => v.category) (x :: v :: st)).sum + A + D ≤ C := by
  rcases ref_cases h with rfl | ⟨_, rfl⟩ <;> exact le g
theorem catle3 {v u x : Value} {st : List Value} {A D C : Nat} (h : v.isRef = true) (h' : u.isRef = true) (g : Nat.ble ((List.map (fun v : Value => v.category) (.null :: x :: .null :: st)).sum + A + D) C = true) : (List.map (fun v : Value => v.category) (u :: x :: v :: st)).sum + A + D ≤ C := by
  rcases ref_cases h with rfl | ⟨_, rfl⟩ <;> rcases ref_cases h' with rfl | ⟨_, rfl⟩ <;> exact le g
end Jvm.OwnW
namespace Jvm.OwnW
open Sem ClassFile Op Lib Jvm.Stand Jvm.Free Jvm.LawKit Jvm.RoadKit Bundle
section
variable {args : Array Value} {s : State}
theorem ex_ev {t : Term} {K : String} (h : (Jvm.Cond.exactly t K).value args s none s [] = some true) : ∃ a, t.eval args s none [] s = some (.ref a) ∧ Exa s s.heap a K := by
  obtain ⟨a, _, _, _, e, -⟩ := Cond.exactly_spec (Cond.before_iff.mpr h)
  exact ⟨a, e, Exa.start e h⟩
theorem arr_ev {t : Term} {ty : FieldType} (h : (Jvm.Cond.arrayOf t ty).value args s none s [] = some true) : ∃ a, t.eval args s none [] s = some (.ref a) := by
  simp only [Cond.value] at h
  cases hv : t.eval args s none [] s with
  | none => simp [hv] at h
  | some w => cases w <;> simp [hv] at h <;> exact ⟨_, rfl⟩
theorem eq_int {t : Term} {v : Int32} (h : (Jvm.Cond.eq t (.int v)).value args s none s [] = some true) : t.eval args s none [] s = some (.int v) := by
  simp only [Cond.value, Term.int_eval] at h
  cases hv : t.eval args s none [] s with
  | none => simp [hv] at h
  | some w => cases w <;> simp [hv] at h <;> simp [h]
theorem eq_refR {t u : Term} {a : Addr} (eu : u.eval args s none [] s = some (.ref a)) (h : (Jvm.Cond.eq t u).value args s none s [] = some true) : t.eval args s none [] s = some (.ref a) := by
  simp only [Cond.value, eu] at h
  cases hv : t.eval args s none [] s with
  | none => simp [hv] at h
  | some w => cases w <;> simp [hv] at h <;> simp [h]
theorem fld_ev {t : Term} {O f fd : String} {a : Addr} {v : Value} (ev : t.eval args s none [] s = some (.ref a)) (e : (Term.field t O f fd).eval args s none [] s = some v) : Fld s s.heap a O f fd v := by
  apply Fld.start
  rw [← e]; simp [Term.eval, ev]
theorem arl_ev {t : Term} {a : Addr} {ty : FieldType} {vs : List Value} (hf : Fit s) (ev : t.eval args s none [] s = some (.ref a)) (ha : (Jvm.Cond.arrayOf t ty).value args s none s [] = some true) (hl : (Jvm.Cond.eq (.length t) (.int (Int32.ofNat vs.length))).value args s none s [] = some true) (hn : vs.length < 2 ^ 31)
    (he : ∀ i v, vs[i]? = some v → (Term.elem t (.int (Int32.ofNat i))).eval args s none [] s = some v) : Arl s s.heap a ty vs := by
  obtain ⟨cl, A⟩ := Arr.start ev ha
  have hat : s.arrayAt? a = some cl := A.fin (Vm.Alike.refl _)
  have e1 := eq_int hl
  have sz : cl.slots.size = vs.length := by
    simp only [Term.eval, ev, hat, Option.bind_eq_bind, Option.bind_some, Option.pure_def] at e1
    split at e1
    · rename_i q
      simp only [Option.some.injEq, Value.int.injEq] at e1
      exact ofNat_inj q hn e1
    · cases e1
  have key : ∀ i v, vs[i]? = some v → cl.slots[i]? = some v := fun i v hv => by
    have hi := (List.getElem?_eq_some_iff.mp hv).1
    have e2 := he i v hv
    have q := ofNat_idx (i := i) (by omega)
    simp only [Term.eval, ev, hat, Option.bind_eq_bind, Option.bind_some, q.1, if_false, q.2] at e2
    exact e2
  refine ⟨cl, A, ?_, hn, fun v hv => ?_⟩
  · apply List.ext_getElem?
    intro i
    rw [Array.getElem?_toList]
    cases hv : vs[i]? with
    | none => rw [List.getElem?_eq_none_iff] at hv; rw [Array.getElem?_eq_none_iff]; omega
    | some v => exact key i v hv
  · obtain ⟨i, hv⟩ := List.mem_iff_getElem?.mp hv
    have hi := (List.getElem?_eq_some_iff.mp hv).1
    have q := ofNat_idx (i := i) (by omega)
    exact elem_fits (j := Int32.ofNat i) hf A (by rw [q.2]; intro z; rcases z with z | z; exact q.1 z; omega) (by rw [q.2]; exact key i v hv)
theorem str_ev {t : Term} {cs : List Int32} (hf : Fit s) (hx : (Jvm.Cond.exactly t "java/lang/String").value args s none s [] = some true) (hc : (Jvm.Cond.eq (.field t "java/lang/String" "coder" "B") (.int 0)).value args s none s [] = some true)
    (ha : (Jvm.Cond.arrayOf (.field t "java/lang/String" "value" "[B") .byte).value args s none s [] = some true) (hl : (Jvm.Cond.eq (.length (.field t "java/lang/String" "value" "[B")) (.int (Int32.ofNat cs.length))).value args s none s [] = some true) (hn : cs.length ≤ 4000) (hL : ∀ c ∈ cs, b8 c = c ∧ IsL c)
    (he : ∀ i c, cs[i]? = some c → (Jvm.Cond.eq (.elem (.field t "java/lang/String" "value" "[B") (.int (Int32.ofNat i))) (.int c)).value args s none s [] = some true) : ∃ a, t.eval args s none [] s = some (.ref a) ∧ StrAt s s.heap a cs := by
  obtain ⟨a, ea, X⟩ := ex_ev hx
  obtain ⟨b, eb⟩ := arr_ev ha
  have hlat : lat cs = ints cs := by
    unfold lat ints; exact List.map_congr_left fun c hc => by rw [(hL c hc).1]
  have A : Arl s s.heap b .byte (lat cs) := by
    rw [hlat]
    refine arl_ev hf eb ha (by rw [ints_length]; exact hl) (by rw [ints_length]; omega) fun i v hv => ?_
    obtain ⟨c, hc1, rfl⟩ : ∃ c, cs[i]? = some c ∧ v = .int c := by
      unfold ints at hv; rw [List.getElem?_map] at hv
      cases hq : cs[i]? with
      | none => rw [hq] at hv; cases hv
      | some c => rw [hq] at hv; exact ⟨c, rfl, (Option.some.inj hv).symm⟩
    exact eq_int (he i c hc1)
  exact ⟨a, ea, b, 0, lat cs, X, fld_ev ea eb, fld_ev ea (eq_int hc), A, Or.inl ⟨rfl, rfl, fun c hc => (hL c hc).2.2⟩, fun c hc => (hL c hc).2.isC, hn⟩
end
end Jvm.OwnW
namespace Jvm.OwnW
open Sem ClassFile Op Lib Jvm.Stand Jvm.Free Jvm.LawKit Jvm.RoadKit Bundle
abbrev SBN : String := "java/lang/StringBuilder"
abbrev ASB : String := "java/lang/AbstractStringBuilder"
/-- the StringBuilder at a, over the byte[16] at t, holds the Latin-1 chars cs -/
def SBl (Z : State) (h : Heap) (a t : Addr) (cs : List Int32) : Prop :=
  Exa Z h a SBN ∧ Fld Z h a ASB "value" "[B" (.ref t) ∧ Fld Z h a ASB "coder" "B" (.int 0) ∧ Fld Z h a ASB "count" "I" (.int (Int32.ofNat cs.length)) ∧ Arl Z h t .byte (lat cs ++ List.replicate (16 - cs.length) (.int 0)) ∧ cs.length ≤ 16 ∧ (∀ c ∈ cs, IsL c) ∧ @Ne Nat a t
theorem SBl.ext {Z : State} {h h' : Heap} {a t : Addr} {cs : List Int32} (S : SBl Z h a t cs) (E : Ext h h') : SBl Z h' a t cs := by
  obtain ⟨h1, h2, h3, h4, h5, r⟩ := S
  exact ⟨h1.ext E, h2.ext E, h3.ext E, h4.ext E, h5.ext E, r⟩
theorem SBl.exa {Z : State} {h : Heap} {a t : Addr} {cs : List Int32} (S : SBl Z h a t cs) : Exa Z h a SBN := S.1
theorem keep_sub {h h' : Heap} {ws ws' : List Addr} (K : Keep h h' ws) (q : ∀ x ∈ ws, x ∈ ws') : Keep h h' ws' := ⟨K.1, fun x c e r => K.2.1 x c e (fun z => r (q x z)), K.2.2⟩
theorem shl0 (x : Int32) : x <<< ((0 : Int32) &&& 31) = x := by
  have e : ((0 : Int32) &&& 31) = 0 := by decide
  rw [e]; exact Int32.shiftLeft_zero
theorem sbl_len {cs : List Int32} (h : cs.length ≤ 16) : (lat cs ++ List.replicate (16 - cs.length) (Value.int 0)).length = 16 := by
  rw [List.length_append, lat_length, List.length_replicate]; omega
theorem sbl_put {cs ds : List Int32} (h : cs.length + ds.length ≤ 16) : (lat cs ++ List.replicate (16 - cs.length) (Value.int 0)).take cs.length ++ lat ds ++ (lat cs ++ List.replicate (16 - cs.length) (Value.int 0)).drop (cs.length + ds.length) = lat (cs ++ ds) ++ List.replicate (16 - (cs ++ ds).length) (Value.int 0) := by
  have e1 : (lat cs ++ List.replicate (16 - cs.length) (Value.int 0)).take cs.length = lat cs := by
    rw [List.take_append_of_le_length (by rw [lat_length]; exact Nat.le_refl _), List.take_of_length_le (by rw [lat_length]; exact Nat.le_refl _)]
  have e2 : (lat cs ++ List.replicate (16 - cs.length) (Value.int 0)).drop (cs.length + ds.length) = List.replicate (16 - (cs ++ ds).length) (Value.int 0) := by
    rw [List.drop_append, List.drop_of_length_le (by rw [lat_length]; omega), List.nil_append, lat_length, List.drop_replicate, List.length_append]
    congr 1; omega
  rw [e1, e2]; simp [lat]
theorem Arl.neExa {Z : State} {h : Heap} {a t : Addr} {ty : FieldType} {vs : List Value} {cls : String} {kk : Nat} {a0 : Array Value} {Ws : List Jvm.Cond} (A : Arl Z h t ty vs) (E : Exa Z h a cls) (w : Jvm.Cond.instantiable cls kk ∈ Ws) (hw : ∀ d ∈ Ws, d.before a0 Z = true) : @Ne Nat t a := by
  obtain ⟨kb, Av⟩ := A.arv .null
  exact (E.neArv Av (hw _ w)).symm
theorem StrAt.latin {Z : State} {h : Heap} {a : Addr} {cs : List Int32} (S : StrAt Z h a cs) (hL : ∀ c ∈ cs, ¬ (255 : Int32) < c) : ∃ u, Exa Z h a ST ∧ Fld Z h a ST "value" "[B" (.ref u) ∧ Fld Z h a ST "coder" "B" (.int 0) ∧ Arl Z h u .byte (lat cs) := by
  obtain ⟨u, cd, vs, h1, h2, h3, h4, h5, -⟩ := S
  rcases h5 with ⟨rfl, rfl, -⟩ | ⟨-, -, c, hc, hb⟩
  · exact ⟨u, h1, h2, h3, h4⟩
  · exact absurd hb (hL c hc)
end Jvm.OwnW
namespace Jvm.OwnW
open Sem ClassFile Op Lib Jvm.Stand Jvm.Free Jvm.LawKit Jvm.RoadKit Bundle
/-- the bytes of cs under the coder cd -/
def enc (cd : Int32) (cs : List Int32) : List Value := if cd = 0 then lat cs else wid cs
def kk (cd : Int32) : Nat := if cd = 0 then 1 else 2
theorem enc_len (cd : Int32) (cs : List Int32) : (enc cd cs).length = kk cd * cs.length := by
  unfold enc kk; split
  · rw [lat_length, Nat.one_mul]
  · rw [wid_length]
theorem enc_app (cd : Int32) (cs ds : List Int32) : enc cd (cs ++ ds) = enc cd cs ++ enc cd ds := by
  unfold enc; split <;> simp [lat, wid]
def buf (cd : Int32) (cs : List Int32) : List Value := enc cd cs ++ List.replicate (kk cd * 16 - kk cd * cs.length) (.int 0)
theorem buf_len {cd : Int32} {cs : List Int32} (h : cs.length ≤ 16) : (buf cd cs).length = kk cd * 16 := by
  have q : kk cd * cs.length ≤ kk cd * 16 := Nat.mul_le_mul_left _ h
  unfold buf; rw [List.length_append, enc_len, List.length_replicate]; omega
theorem buf_take (cd : Int32) (cs : List Int32) : (buf cd cs).take (kk cd * cs.length) = enc cd cs := by
  unfold buf
  rw [List.take_append_of_le_length (by rw [enc_len]; exact Nat.le_refl _), List.take_of_length_le (by rw [enc_len]; exact Nat.le_refl _)]
theorem buf_put {cd : Int32} {cs ds : List Int32} (h : cs.length + ds.length ≤ 16) : (buf cd cs).take (kk cd * cs.length) ++ enc cd ds ++ (buf cd cs).drop (kk cd * cs.length + kk cd * ds.length) = buf cd (cs ++ ds) := by
  have e2 : (buf cd cs).drop (kk cd * cs.length + kk cd * ds.length) = List.replicate (kk cd * 16 - kk cd * (cs ++ ds).length) (Value.int 0) := by
    unfold buf
    rw [List.drop_append, List.drop_of_length_le (by rw [enc_len]; omega), List.nil_append, enc_len, List.drop_replicate, List.length_append, Nat.mul_add]
    congr 1; omega
  rw [buf_take, e2]; unfold buf; rw [enc_app]
/-- the StringBuilder at a, over the array at t, holds the chars cs under the coder cd -/
def SBr (Z : State) (h : Heap) (a t : Addr) (cs : List Int32) (cd : Int32) : Prop :=
  Exa Z h a SBN ∧ Fld Z h a ASB "value" "[B" (.ref t) ∧ Fld Z h a ASB "coder" "B" (.int cd) ∧ Fld Z h a ASB "count" "I" (.int (Int32.ofNat cs.length)) ∧ Fld Z h a ASB "maybeLatin1" "Z" (.int 0) ∧ Arl Z h t .byte (buf cd cs) ∧ (cd = 0 ∨ cd = 1) ∧ (cd = 0 → ∀ c ∈ cs, ¬ (255 : Int32) < c) ∧ cs.length ≤ 16 ∧ (∀ c ∈ cs, IsC c) ∧ @Ne Nat a t
theorem SBr.ext {Z : State} {h h' : Heap} {a t : Addr} {cs : List Int32} {cd : Int32} (S : SBr Z h a t cs cd) (E : Ext h h') : SBr Z h' a t cs cd := by
  obtain ⟨h1, h2, h3, h4, h5, h6, r⟩ := S
  exact ⟨h1.ext E, h2.ext E, h3.ext E, h4.ext E, h5.ext E, h6.ext E, r⟩
theorem SBr.exa {Z : State} {h : Heap} {a t : Addr} {cs : List Int32} {cd : Int32} (S : SBr Z h a t cs cd) : Exa Z h a SBN := S.1
theorem SBr.arl {Z : State} {h : Heap} {a t : Addr} {cs : List Int32} {cd : Int32} (S : SBr Z h a t cs cd) : Arl Z h t .byte (buf cd cs) := S.2.2.2.2.2.1
def Big (cs : List Int32) (cd : Int32) : Prop := cd = 1 → ∃ c ∈ cs, (255 : Int32) < c
theorem StrAt.enc {Z : State} {h : Heap} {a : Addr} {cs : List Int32} (S : StrAt Z h a cs) : ∃ u ce, Exa Z h a ST ∧ Fld Z h a ST "value" "[B" (.ref u) ∧ Fld Z h a ST "coder" "B" (.int ce) ∧ Arl Z h u .byte (enc ce cs) ∧ (ce = 0 ∨ ce = 1) ∧ (ce = 0 → ∀ c ∈ cs, ¬ (255 : Int32) < c) ∧ Big cs ce ∧ ∀ c ∈ cs, IsC c := by
  obtain ⟨u, cd, vs, h1, h2, h3, h4, h5, h6, -⟩ := S
  rcases h5 with ⟨rfl, rfl, hL⟩ | ⟨rfl, rfl, hb⟩
  · exact ⟨u, 0, h1, h2, h3, h4, Or.inl rfl, fun _ => hL, fun q => absurd q (by decide), h6⟩
  · exact ⟨u, 1, h1, h2, h3, h4, Or.inr rfl, fun q => absurd q (by decide), fun _ => hb, h6⟩
theorem set2 {A D : List Value} {x y : Value} {i : Nat} (hi : A.length = i) (hd : 2 ≤ D.length) : ((A ++ D).set i x).set (i + 1) y = A ++ [x, y] ++ D.drop 2 := by
  subst hi
  match D, hd with
  | a :: b :: r, _ =>
    rw [List.set_append_right _ _ (Nat.le_refl _), Nat.sub_self, List.set_append_right _ _ (by omega)]
    simp
theorem byte_and {c : Int32} (h : IsL c) : b8 c &&& 255 = c := by
  have q := unb8 h
  rwa [isC_isL (isL_and _)] at q
theorem shr8_0 {c : Int32} (h : IsL c) : b8 (c >>> 8) = 0 := by
  have hx := isL_iff.mp h
  have e : c >>> 8 = 0 := by
    apply Int32.toInt_inj.mp
    have q := c_ishr c 8 8 (by decide)
    have z : (0 : Int32).toInt = 0 := rfl
    have e8 : ((8 : Int32) &&& 31) = 8 := by decide
    rw [e8] at q
    rw [q, z]; omega
  rw [e]; decide
end Jvm.OwnW
namespace Jvm.Pilot.@@N@@
open Jvm Jvm.ClassFile Sem Op Lib Jvm.Free Jvm.Stand Jvm.LawKit Jvm.RoadKit Bundle Jvm.Pilot.@@N@@.Jvm.D Jvm.OwnW
set_option maxRecDepth 65536
set_option maxHeartbeats 4000000
theorem tw0 : (Jvm.Cond.methodLink "com/example/dommel/dommel/KeySpaceKeyPinLaw" (36 : Nat) ({ cls := "com/example/dommel/dommel/KeySpaceKeyPinLaw", name := "pick", desc := "(II)Ljava/lang/String;" } : Jvm.MethodName)) ∈ tables_1 := List.mem_of_getElem? (i := 0) rfl
theorem tw1 : (Jvm.Cond.static ({ cls := "com/example/dommel/dommel/KeySpaceKeyPinLaw", name := "pick", desc := "(II)Ljava/lang/String;" } : Jvm.MethodName)) ∈ tables_1 := List.mem_of_getElem? (i := 1) rfl
theorem tw2 : (Jvm.Cond.initialized "com/example/dommel/dommel/KeySpaceKeyPinLaw") ∈ tables_1 := List.mem_of_getElem? (i := 2) rfl
theorem tw3 : (Jvm.Cond.code ({ cls := "com/example/dommel/dommel/KeySpaceKeyPinLaw", name := "pick", desc := "(II)Ljava/lang/String;" } : Jvm.MethodName) method_3_code (4 : Nat) (Option.some (Jvm.ClassFile.FieldType.object "java/lang/String"))) ∈ tables_1 := List.mem_of_getElem? (i := 3) rfl
theorem tw4 : (Jvm.Cond.constant "com/example/dommel/dommel/KeySpaceKeyPinLaw" (7 : Nat) (65535 : Int32)) ∈ tables_1 := List.mem_of_getElem? (i := 4) rfl
theorem tw5 : (Jvm.Cond.stringLink "com/example/dommel/dommel/KeySpaceKeyPinLaw" (11 : Nat) "") ∈ tables_1 := List.mem_of_getElem? (i := 5) rfl
theorem tw6 : (Jvm.Cond.initialized "java/lang/String") ∈ tables_1 := List.mem_of_getElem? (i := 6) rfl
theorem tw7 : (Jvm.Cond.instantiable "java/lang/String" (4 : Nat)) ∈ tables_1 := List.mem_of_getElem? (i := 7) rfl
theorem tw8 : (Jvm.Cond.arrayClass Jvm.ClassFile.FieldType.byte) ∈ tables_1 := List.mem_of_getElem? (i := 8) rfl
theorem tw9 : (Jvm.Cond.laysFinal "java/lang/String" "java/lang/String" "value" "[B") ∈ tables_1 := List.mem_of_getElem? (i := 9) rfl
theorem tw10 : (Jvm.Cond.laysFinal "java/lang/String" "java/lang/String" "coder" "B") ∈ tables_1 := List.mem_of_getElem? (i := 10) rfl
theorem tw13 : (Jvm.Cond.methodLink "com/example/dommel/dommel/KeySpaceKeyPinLaw" (40 : Nat) ({ cls := "com/example/dommel/dommel/KeySpaceKeyPinLaw", name := "safe", desc := "(I)C" } : Jvm.MethodName)) ∈ tables_1 := List.mem_of_getElem? (i := 13) rfl
theorem tw14 : (Jvm.Cond.static ({ cls := "com/example/dommel/dommel/KeySpaceKeyPinLaw", name := "safe", desc := "(I)C" } : Jvm.MethodName)) ∈ tables_1 := List.mem_of_getElem? (i := 14) rfl
theorem tw15 : (Jvm.Cond.code ({ cls := "com/example/dommel/dommel/KeySpaceKeyPinLaw", name := "safe", desc := "(I)C" } : Jvm.MethodName) method_2_code (2 : Nat) (Option.some Jvm.ClassFile.FieldType.char)) ∈ tables_1 := List.mem_of_getElem? (i := 15) rfl
theorem tw16 : (Jvm.Cond.constant "com/example/dommel/dommel/KeySpaceKeyPinLaw" (8 : Nat) (55296 : Int32)) ∈ tables_1 := List.mem_of_getElem? (i := 16) rfl
theorem tw17 : (Jvm.Cond.methodLink "com/example/dommel/dommel/KeySpaceKeyPinLaw" (13 : Nat) ({ cls := "java/lang/String", name := "valueOf", desc := "(C)Ljava/lang/String;" } : Jvm.MethodName)) ∈ tables_1 := List.mem_of_getElem? (i := 17) rfl
theorem tw18 : (Jvm.Cond.static ({ cls := "java/lang/String", name := "valueOf", desc := "(C)Ljava/lang/String;" } : Jvm.MethodName)) ∈ tables_1 := List.mem_of_getElem? (i := 18) rfl
theorem tw19 : (Jvm.Cond.code ({ cls := "java/lang/String", name := "valueOf", desc := "(C)Ljava/lang/String;" } : Jvm.MethodName) jdk_42_method_139_code (1 : Nat) (Option.some (Jvm.ClassFile.FieldType.object "java/lang/String"))) ∈ tables_1 := List.mem_of_getElem? (i := 19) rfl
theorem tw20 : (Jvm.Cond.fieldLink "java/lang/String" (38 : Nat) "java/lang/String" "COMPACT_STRINGS" "Z") ∈ tables_1 := List.mem_of_getElem? (i := 20) rfl
theorem tw21 : (Jvm.Cond.methodLink "java/lang/String" (1015 : Nat) ({ cls := "java/lang/StringLatin1", name := "canEncode", desc := "(C)Z" } : Jvm.MethodName)) ∈ tables_1 := List.mem_of_getElem? (i := 21) rfl
theorem tw22 : (Jvm.Cond.static ({ cls := "java/lang/StringLatin1", name := "canEncode", desc := "(C)Z" } : Jvm.MethodName)) ∈ tables_1 := List.mem_of_getElem? (i := 22) rfl
theorem tw23 : (Jvm.Cond.initialized "java/lang/StringLatin1") ∈ tables_1 := List.mem_of_getElem? (i := 23) rfl
theorem tw24 : (Jvm.Cond.code ({ cls := "java/lang/StringLatin1", name := "canEncode", desc := "(C)Z" } : Jvm.MethodName) jdk_43_method_3_code (1 : Nat) (Option.some Jvm.ClassFile.FieldType.boolean)) ∈ tables_1 := List.mem_of_getElem? (i := 24) rfl
theorem tw25 : (Jvm.Cond.classLink "java/lang/String" (10 : Nat) "java/lang/String") ∈ tables_1 := List.mem_of_getElem? (i := 25) rfl
theorem tw26 : (Jvm.Cond.methodLink "java/lang/String" (1018 : Nat) ({ cls := "java/lang/StringLatin1", name := "toBytes", desc := "(C)[B" } : Jvm.MethodName)) ∈ tables_1 := List.mem_of_getElem? (i := 26) rfl
theorem tw27 : (Jvm.Cond.static ({ cls := "java/lang/StringLatin1", name := "toBytes", desc := "(C)[B" } : Jvm.MethodName)) ∈ tables_1 := List.mem_of_getElem? (i := 27) rfl
theorem tw28 : (Jvm.Cond.code ({ cls := "java/lang/StringLatin1", name := "toBytes", desc := "(C)[B" } : Jvm.MethodName) jdk_43_method_46_code (1 : Nat) (Option.some (Jvm.ClassFile.FieldType.array Jvm.ClassFile.FieldType.byte))) ∈ tables_1 := List.mem_of_getElem? (i := 28) rfl
theorem tw29 : (Jvm.Cond.methodLink "java/lang/String" (209 : Nat) ({ cls := "java/lang/String", name := "<init>", desc := "([BB)V" } : Jvm.MethodName)) ∈ tables_1 := List.mem_of_getElem? (i := 29) rfl
theorem tw30 : (Jvm.Cond.instanceMethod ({ cls := "java/lang/String", name := "<init>", desc := "([BB)V" } : Jvm.MethodName)) ∈ tables_1 := List.mem_of_getElem? (i := 30) rfl
theorem tw32 : (Jvm.Cond.code ({ cls := "java/lang/String", name := "<init>", desc := "([BB)V" } : Jvm.MethodName) jdk_42_method_151_code (3 : Nat) (Option.none : Option Jvm.ClassFile.FieldType)) ∈ tables_1 := List.mem_of_getElem? (i := 32) rfl
theorem tw33 : (Jvm.Cond.methodLink "java/lang/String" (1 : Nat) ({ cls := "java/lang/Object", name := "<init>", desc := "()V" } : Jvm.MethodName)) ∈ tables_1 := List.mem_of_getElem? (i := 33) rfl
theorem tw34 : (Jvm.Cond.instanceMethod ({ cls := "java/lang/Object", name := "<init>", desc := "()V" } : Jvm.MethodName)) ∈ tables_1 := List.mem_of_getElem? (i := 34) rfl
theorem tw35 : (Jvm.Cond.code ({ cls := "java/lang/Object", name := "<init>", desc := "()V" } : Jvm.MethodName) object_method_1_code (1 : Nat) (Option.none : Option Jvm.ClassFile.FieldType)) ∈ tables_1 := List.mem_of_getElem? (i := 35) rfl
theorem tw36 : (Jvm.Cond.fieldLink "java/lang/String" (9 : Nat) "java/lang/String" "value" "[B") ∈ tables_1 := List.mem_of_getElem? (i := 36) rfl
theorem tw37 : (Jvm.Cond.fieldLink "java/lang/String" (15 : Nat) "java/lang/String" "coder" "B") ∈ tables_1 := List.mem_of_getElem? (i := 37) rfl
theorem tw38 : (Jvm.Cond.classLink "com/example/dommel/dommel/KeySpaceKeyPinLaw" (44 : Nat) "com/example/dommel/dommel/KeySpace") ∈ tables_1 := List.mem_of_getElem? (i := 38) rfl
theorem tw39 : (Jvm.Cond.instantiable "com/example/dommel/dommel/KeySpace" (1 : Nat)) ∈ tables_1 := List.mem_of_getElem? (i := 39) rfl
theorem tw40 : (Jvm.Cond.initialized "com/example/dommel/dommel/KeySpace") ∈ tables_1 := List.mem_of_getElem? (i := 40) rfl
theorem tw41 : (Jvm.Cond.methodLink "com/example/dommel/dommel/KeySpaceKeyPinLaw" (46 : Nat) ({ cls := "com/example/dommel/dommel/KeySpace", name := "<init>", desc := "(Ljava/lang/String;)V" } : Jvm.MethodName)) ∈ tables_1 := List.mem_of_getElem? (i := 41) rfl
theorem tw42 : (Jvm.Cond.instanceMethod ({ cls := "com/example/dommel/dommel/KeySpace", name := "<init>", desc := "(Ljava/lang/String;)V" } : Jvm.MethodName)) ∈ tables_1 := List.mem_of_getElem? (i := 42) rfl
theorem tw43 : (Jvm.Cond.code ({ cls := "com/example/dommel/dommel/KeySpace", name := "<init>", desc := "(Ljava/lang/String;)V" } : Jvm.MethodName) prog_8_method_1_code (2 : Nat) (Option.none : Option Jvm.ClassFile.FieldType)) ∈ tables_1 := List.mem_of_getElem? (i := 43) rfl
theorem tw44 : (Jvm.Cond.methodLink "com/example/dommel/dommel/KeySpace" (1 : Nat) ({ cls := "java/lang/Object", name := "<init>", desc := "()V" } : Jvm.MethodName)) ∈ tables_1 := List.mem_of_getElem? (i := 44) rfl
theorem tw45 : (Jvm.Cond.stringLink "com/example/dommel/dommel/KeySpace" (7 : Nat) "prefix") ∈ tables_1 := List.mem_of_getElem? (i := 45) rfl
theorem tw46 : (Jvm.Cond.methodLink "com/example/dommel/dommel/KeySpace" (9 : Nat) ({ cls := "java/util/Objects", name := "requireNonNull", desc := "(Ljava/lang/Object;Ljava/lang/String;)Ljava/lang/Object;" } : Jvm.MethodName)) ∈ tables_1 := List.mem_of_getElem? (i := 46) rfl
theorem tw47 : (Jvm.Cond.static ({ cls := "java/util/Objects", name := "requireNonNull", desc := "(Ljava/lang/Object;Ljava/lang/String;)Ljava/lang/Object;" } : Jvm.MethodName)) ∈ tables_1 := List.mem_of_getElem? (i := 47) rfl
theorem tw48 : (Jvm.Cond.initialized "java/util/Objects") ∈ tables_1 := List.mem_of_getElem? (i := 48) rfl
theorem tw49 : (Jvm.Cond.code ({ cls := "java/util/Objects", name := "requireNonNull", desc := "(Ljava/lang/Object;Ljava/lang/String;)Ljava/lang/Object;" } : Jvm.MethodName) jdk_31_method_11_code (2 : Nat) (Option.some (Jvm.ClassFile.FieldType.object "java/lang/Object"))) ∈ tables_1 := List.mem_of_getElem? (i := 49) rfl
theorem tw50 : (Jvm.Cond.classLink "com/example/dommel/dommel/KeySpace" (15 : Nat) "java/lang/String") ∈ tables_1 := List.mem_of_getElem? (i := 50) rfl
theorem tw51 : (Jvm.Cond.fieldLink "com/example/dommel/dommel/KeySpace" (17 : Nat) "com/example/dommel/dommel/KeySpace" "prefix" "Ljava/lang/String;") ∈ tables_1 := List.mem_of_getElem? (i := 51) rfl
theorem tw52 : (Jvm.Cond.laysFinal "com/example/dommel/dommel/KeySpace" "com/example/dommel/dommel/KeySpace" "prefix" "Ljava/lang/String;") ∈ tables_1 := List.mem_of_getElem? (i := 52) rfl
theorem tw53 : (Jvm.Cond.methodLink "com/example/dommel/dommel/KeySpaceKeyPinLaw" (49 : Nat) ({ cls := "com/example/dommel/dommel/KeySpace", name := "key", desc := "(Ljava/lang/String;Ljava/lang/String;)Ljava/lang/String;" } : Jvm.MethodName)) ∈ tables_1 := List.mem_of_getElem? (i := 53) rfl
theorem tw54 : (Jvm.Cond.declares ({ cls := "com/example/dommel/dommel/KeySpace", name := "key", desc := "(Ljava/lang/String;Ljava/lang/String;)Ljava/lang/String;" } : Jvm.MethodName)) ∈ tables_1 := List.mem_of_getElem? (i := 54) rfl
theorem tw55 : (Jvm.Cond.instanceMethod ({ cls := "com/example/dommel/dommel/KeySpace", name := "key", desc := "(Ljava/lang/String;Ljava/lang/String;)Ljava/lang/String;" } : Jvm.MethodName)) ∈ tables_1 := List.mem_of_getElem? (i := 55) rfl
theorem tw56 : (Jvm.Cond.selects "com/example/dommel/dommel/KeySpace" ({ cls := "com/example/dommel/dommel/KeySpace", name := "key", desc := "(Ljava/lang/String;Ljava/lang/String;)Ljava/lang/String;" } : Jvm.MethodName) ({ cls := "com/example/dommel/dommel/KeySpace", name := "key", desc := "(Ljava/lang/String;Ljava/lang/String;)Ljava/lang/String;" } : Jvm.MethodName)) ∈ tables_1 := List.mem_of_getElem? (i := 56) rfl
theorem tw57 : (Jvm.Cond.code ({ cls := "com/example/dommel/dommel/KeySpace", name := "key", desc := "(Ljava/lang/String;Ljava/lang/String;)Ljava/lang/String;" } : Jvm.MethodName) prog_8_method_2_code (3 : Nat) (Option.some (Jvm.ClassFile.FieldType.object "java/lang/String"))) ∈ tables_1 := List.mem_of_getElem? (i := 57) rfl
theorem tw58 : (Jvm.Cond.classLink "com/example/dommel/dommel/KeySpace" (22 : Nat) "java/lang/StringBuilder") ∈ tables_1 := List.mem_of_getElem? (i := 58) rfl
theorem tw59 : (Jvm.Cond.instantiable "java/lang/StringBuilder" (4 : Nat)) ∈ tables_1 := List.mem_of_getElem? (i := 59) rfl
theorem tw60 : (Jvm.Cond.initialized "java/lang/StringBuilder") ∈ tables_1 := List.mem_of_getElem? (i := 60) rfl
theorem tw61 : (Jvm.Cond.methodLink "com/example/dommel/dommel/KeySpace" (24 : Nat) ({ cls := "java/lang/StringBuilder", name := "<init>", desc := "()V" } : Jvm.MethodName)) ∈ tables_1 := List.mem_of_getElem? (i := 61) rfl
theorem tw62 : (Jvm.Cond.instanceMethod ({ cls := "java/lang/StringBuilder", name := "<init>", desc := "()V" } : Jvm.MethodName)) ∈ tables_1 := List.mem_of_getElem? (i := 62) rfl
theorem tw63 : (Jvm.Cond.code ({ cls := "java/lang/StringBuilder", name := "<init>", desc := "()V" } : Jvm.MethodName) jdk_67_method_1_code (1 : Nat) (Option.none : Option Jvm.ClassFile.FieldType)) ∈ tables_1 := List.mem_of_getElem? (i := 63) rfl
theorem tw64 : (Jvm.Cond.methodLink "java/lang/StringBuilder" (1 : Nat) ({ cls := "java/lang/AbstractStringBuilder", name := "<init>", desc := "(I)V" } : Jvm.MethodName)) ∈ tables_1 := List.mem_of_getElem? (i := 64) rfl
theorem tw65 : (Jvm.Cond.instanceMethod ({ cls := "java/lang/AbstractStringBuilder", name := "<init>", desc := "(I)V" } : Jvm.MethodName)) ∈ tables_1 := List.mem_of_getElem? (i := 65) rfl
theorem tw68 : (Jvm.Cond.initialized "java/lang/AbstractStringBuilder") ∈ tables_1 := List.mem_of_getElem? (i := 68) rfl
theorem tw69 : (Jvm.Cond.code ({ cls := "java/lang/AbstractStringBuilder", name := "<init>", desc := "(I)V" } : Jvm.MethodName) jdk_68_method_2_code (2 : Nat) (Option.none : Option Jvm.ClassFile.FieldType)) ∈ tables_1 := List.mem_of_getElem? (i := 69) rfl
theorem tw70 : (Jvm.Cond.methodLink "java/lang/AbstractStringBuilder" (3 : Nat) ({ cls := "java/lang/Object", name := "<init>", desc := "()V" } : Jvm.MethodName)) ∈ tables_1 := List.mem_of_getElem? (i := 70) rfl
theorem tw71 : (Jvm.Cond.fieldLink "java/lang/AbstractStringBuilder" (18 : Nat) "java/lang/String" "COMPACT_STRINGS" "Z") ∈ tables_1 := List.mem_of_getElem? (i := 71) rfl
theorem tw72 : (Jvm.Cond.fieldLink "java/lang/AbstractStringBuilder" (15 : Nat) "java/lang/AbstractStringBuilder" "value" "[B") ∈ tables_1 := List.mem_of_getElem? (i := 72) rfl
theorem tw73 : (Jvm.Cond.lays "java/lang/StringBuilder" "java/lang/AbstractStringBuilder" "value" "[B") ∈ tables_1 := List.mem_of_getElem? (i := 73) rfl
theorem tw74 : (Jvm.Cond.fieldLink "java/lang/AbstractStringBuilder" (22 : Nat) "java/lang/AbstractStringBuilder" "coder" "B") ∈ tables_1 := List.mem_of_getElem? (i := 74) rfl
theorem tw75 : (Jvm.Cond.lays "java/lang/StringBuilder" "java/lang/AbstractStringBuilder" "coder" "B") ∈ tables_1 := List.mem_of_getElem? (i := 75) rfl
theorem tw76 : (Jvm.Cond.methodLink "com/example/dommel/dommel/KeySpace" (25 : Nat) ({ cls := "java/lang/StringBuilder", name := "append", desc := "(Ljava/lang/String;)Ljava/lang/StringBuilder;" } : Jvm.MethodName)) ∈ tables_1 := List.mem_of_getElem? (i := 76) rfl
theorem tw77 : (Jvm.Cond.declares ({ cls := "java/lang/StringBuilder", name := "append", desc := "(Ljava/lang/String;)Ljava/lang/StringBuilder;" } : Jvm.MethodName)) ∈ tables_1 := List.mem_of_getElem? (i := 77) rfl
theorem tw78 : (Jvm.Cond.instanceMethod ({ cls := "java/lang/StringBuilder", name := "append", desc := "(Ljava/lang/String;)Ljava/lang/StringBuilder;" } : Jvm.MethodName)) ∈ tables_1 := List.mem_of_getElem? (i := 78) rfl
theorem tw79 : (Jvm.Cond.selects "java/lang/StringBuilder" ({ cls := "java/lang/StringBuilder", name := "append", desc := "(Ljava/lang/String;)Ljava/lang/StringBuilder;" } : Jvm.MethodName) ({ cls := "java/lang/StringBuilder", name := "append", desc := "(Ljava/lang/String;)Ljava/lang/StringBuilder;" } : Jvm.MethodName)) ∈ tables_1 := List.mem_of_getElem? (i := 79) rfl
theorem tw80 : (Jvm.Cond.code ({ cls := "java/lang/StringBuilder", name := "append", desc := "(Ljava/lang/String;)Ljava/lang/StringBuilder;" } : Jvm.MethodName) jdk_67_method_7_code (2 : Nat) (Option.some (Jvm.ClassFile.FieldType.object "java/lang/StringBuilder"))) ∈ tables_1 := List.mem_of_getElem? (i := 80) rfl
theorem tw81 : (Jvm.Cond.methodLink "java/lang/StringBuilder" (29 : Nat) ({ cls := "java/lang/AbstractStringBuilder", name := "append", desc := "(Ljava/lang/String;)Ljava/lang/AbstractStringBuilder;" } : Jvm.MethodName)) ∈ tables_1 := List.mem_of_getElem? (i := 81) rfl
theorem tw82 : (Jvm.Cond.instanceMethod ({ cls := "java/lang/AbstractStringBuilder", name := "append", desc := "(Ljava/lang/String;)Ljava/lang/AbstractStringBuilder;" } : Jvm.MethodName)) ∈ tables_1 := List.mem_of_getElem? (i := 82) rfl
theorem tw83 : (Jvm.Cond.superclass "java/lang/StringBuilder" "java/lang/AbstractStringBuilder") ∈ tables_1 := List.mem_of_getElem? (i := 83) rfl
theorem tw85 : (Jvm.Cond.code ({ cls := "java/lang/AbstractStringBuilder", name := "append", desc := "(Ljava/lang/String;)Ljava/lang/AbstractStringBuilder;" } : Jvm.MethodName) jdk_68_method_22_code (3 : Nat) (Option.some (Jvm.ClassFile.FieldType.object "java/lang/AbstractStringBuilder"))) ∈ tables_1 := List.mem_of_getElem? (i := 85) rfl
theorem tw86 : (Jvm.Cond.methodLink "java/lang/AbstractStringBuilder" (32 : Nat) ({ cls := "java/lang/String", name := "length", desc := "()I" } : Jvm.MethodName)) ∈ tables_1 := List.mem_of_getElem? (i := 86) rfl
theorem tw87 : (Jvm.Cond.declares ({ cls := "java/lang/String", name := "length", desc := "()I" } : Jvm.MethodName)) ∈ tables_1 := List.mem_of_getElem? (i := 87) rfl
theorem tw88 : (Jvm.Cond.instanceMethod ({ cls := "java/lang/String", name := "length", desc := "()I" } : Jvm.MethodName)) ∈ tables_1 := List.mem_of_getElem? (i := 88) rfl
theorem tw89 : (Jvm.Cond.selects "java/lang/String" ({ cls := "java/lang/String", name := "length", desc := "()I" } : Jvm.MethodName) ({ cls := "java/lang/String", name := "length", desc := "()I" } : Jvm.MethodName)) ∈ tables_1 := List.mem_of_getElem? (i := 89) rfl
theorem tw90 : (Jvm.Cond.code ({ cls := "java/lang/String", name := "length", desc := "()I" } : Jvm.MethodName) jdk_42_method_54_code (1 : Nat) (Option.some Jvm.ClassFile.FieldType.int)) ∈ tables_1 := List.mem_of_getElem? (i := 90) rfl
theorem tw91 : (Jvm.Cond.methodLink "java/lang/String" (335 : Nat) ({ cls := "java/lang/String", name := "coder", desc := "()B" } : Jvm.MethodName)) ∈ tables_1 := List.mem_of_getElem? (i := 91) rfl
theorem tw92 : (Jvm.Cond.declares ({ cls := "java/lang/String", name := "coder", desc := "()B" } : Jvm.MethodName)) ∈ tables_1 := List.mem_of_getElem? (i := 92) rfl
theorem tw93 : (Jvm.Cond.instanceMethod ({ cls := "java/lang/String", name := "coder", desc := "()B" } : Jvm.MethodName)) ∈ tables_1 := List.mem_of_getElem? (i := 93) rfl
theorem tw94 : (Jvm.Cond.selects "java/lang/String" ({ cls := "java/lang/String", name := "coder", desc := "()B" } : Jvm.MethodName) ({ cls := "java/lang/String", name := "coder", desc := "()B" } : Jvm.MethodName)) ∈ tables_1 := List.mem_of_getElem? (i := 94) rfl
theorem tw95 : (Jvm.Cond.code ({ cls := "java/lang/String", name := "coder", desc := "()B" } : Jvm.MethodName) jdk_42_method_152_code (1 : Nat) (Option.some Jvm.ClassFile.FieldType.byte)) ∈ tables_1 := List.mem_of_getElem? (i := 95) rfl
theorem tw96 : (Jvm.Cond.fieldLink "java/lang/AbstractStringBuilder" (79 : Nat) "java/lang/AbstractStringBuilder" "count" "I") ∈ tables_1 := List.mem_of_getElem? (i := 96) rfl
theorem tw97 : (Jvm.Cond.lays "java/lang/StringBuilder" "java/lang/AbstractStringBuilder" "count" "I") ∈ tables_1 := List.mem_of_getElem? (i := 97) rfl
theorem tw98 : (Jvm.Cond.methodLink "java/lang/AbstractStringBuilder" (100 : Nat) ({ cls := "java/lang/AbstractStringBuilder", name := "ensureCapacityInternal", desc := "(I)V" } : Jvm.MethodName)) ∈ tables_1 := List.mem_of_getElem? (i := 98) rfl
theorem tw99 : (Jvm.Cond.instanceMethod ({ cls := "java/lang/AbstractStringBuilder", name := "ensureCapacityInternal", desc := "(I)V" } : Jvm.MethodName)) ∈ tables_1 := List.mem_of_getElem? (i := 99) rfl
theorem tw101 : (Jvm.Cond.selects "java/lang/StringBuilder" ({ cls := "java/lang/AbstractStringBuilder", name := "ensureCapacityInternal", desc := "(I)V" } : Jvm.MethodName) ({ cls := "java/lang/AbstractStringBuilder", name := "ensureCapacityInternal", desc := "(I)V" } : Jvm.MethodName)) ∈ tables_1 := List.mem_of_getElem? (i := 101) rfl
theorem tw102 : (Jvm.Cond.code ({ cls := "java/lang/AbstractStringBuilder", name := "ensureCapacityInternal", desc := "(I)V" } : Jvm.MethodName) jdk_68_method_9_code (3 : Nat) (Option.none : Option Jvm.ClassFile.FieldType)) ∈ tables_1 := List.mem_of_getElem? (i := 102) rfl
theorem tw103 : (Jvm.Cond.methodLink "java/lang/AbstractStringBuilder" (208 : Nat) ({ cls := "java/lang/AbstractStringBuilder", name := "putStringAt", desc := "(ILjava/lang/String;)V" } : Jvm.MethodName)) ∈ tables_1 := List.mem_of_getElem? (i := 103) rfl
theorem tw104 : (Jvm.Cond.instanceMethod ({ cls := "java/lang/AbstractStringBuilder", name := "putStringAt", desc := "(ILjava/lang/String;)V" } : Jvm.MethodName)) ∈ tables_1 := List.mem_of_getElem? (i := 104) rfl
theorem tw106 : (Jvm.Cond.selects "java/lang/StringBuilder" ({ cls := "java/lang/AbstractStringBuilder", name := "putStringAt", desc := "(ILjava/lang/String;)V" } : Jvm.MethodName) ({ cls := "java/lang/AbstractStringBuilder", name := "putStringAt", desc := "(ILjava/lang/String;)V" } : Jvm.MethodName)) ∈ tables_1 := List.mem_of_getElem? (i := 106) rfl
theorem tw107 : (Jvm.Cond.code ({ cls := "java/lang/AbstractStringBuilder", name := "putStringAt", desc := "(ILjava/lang/String;)V" } : Jvm.MethodName) jdk_68_method_73_code (3 : Nat) (Option.none : Option Jvm.ClassFile.FieldType)) ∈ tables_1 := List.mem_of_getElem? (i := 107) rfl
theorem tw108 : (Jvm.Cond.methodLink "java/lang/AbstractStringBuilder" (397 : Nat) ({ cls := "java/lang/AbstractStringBuilder", name := "inflateIfNeededFor", desc := "(Ljava/lang/String;)V" } : Jvm.MethodName)) ∈ tables_1 := List.mem_of_getElem? (i := 108) rfl
theorem tw109 : (Jvm.Cond.instanceMethod ({ cls := "java/lang/AbstractStringBuilder", name := "inflateIfNeededFor", desc := "(Ljava/lang/String;)V" } : Jvm.MethodName)) ∈ tables_1 := List.mem_of_getElem? (i := 109) rfl
theorem tw111 : (Jvm.Cond.selects "java/lang/StringBuilder" ({ cls := "java/lang/AbstractStringBuilder", name := "inflateIfNeededFor", desc := "(Ljava/lang/String;)V" } : Jvm.MethodName) ({ cls := "java/lang/AbstractStringBuilder", name := "inflateIfNeededFor", desc := "(Ljava/lang/String;)V" } : Jvm.MethodName)) ∈ tables_1 := List.mem_of_getElem? (i := 111) rfl
theorem tw112 : (Jvm.Cond.code ({ cls := "java/lang/AbstractStringBuilder", name := "inflateIfNeededFor", desc := "(Ljava/lang/String;)V" } : Jvm.MethodName) jdk_68_method_71_code (2 : Nat) (Option.none : Option Jvm.ClassFile.FieldType)) ∈ tables_1 := List.mem_of_getElem? (i := 112) rfl
theorem tw113 : (Jvm.Cond.methodLink "java/lang/AbstractStringBuilder" (40 : Nat) ({ cls := "java/lang/String", name := "coder", desc := "()B" } : Jvm.MethodName)) ∈ tables_1 := List.mem_of_getElem? (i := 113) rfl
theorem tw114 : (Jvm.Cond.methodLink "java/lang/AbstractStringBuilder" (399 : Nat) ({ cls := "java/lang/String", name := "getBytes", desc := "([BIB)V" } : Jvm.MethodName)) ∈ tables_1 := List.mem_of_getElem? (i := 114) rfl
theorem tw115 : (Jvm.Cond.declares ({ cls := "java/lang/String", name := "getBytes", desc := "([BIB)V" } : Jvm.MethodName)) ∈ tables_1 := List.mem_of_getElem? (i := 115) rfl
theorem tw116 : (Jvm.Cond.instanceMethod ({ cls := "java/lang/String", name := "getBytes", desc := "([BIB)V" } : Jvm.MethodName)) ∈ tables_1 := List.mem_of_getElem? (i := 116) rfl
theorem tw117 : (Jvm.Cond.selects "java/lang/String" ({ cls := "java/lang/String", name := "getBytes", desc := "([BIB)V" } : Jvm.MethodName) ({ cls := "java/lang/String", name := "getBytes", desc := "([BIB)V" } : Jvm.MethodName)) ∈ tables_1 := List.mem_of_getElem? (i := 117) rfl
theorem tw118 : (Jvm.Cond.code ({ cls := "java/lang/String", name := "getBytes", desc := "([BIB)V" } : Jvm.MethodName) jdk_42_method_147_code (4 : Nat) (Option.none : Option Jvm.ClassFile.FieldType)) ∈ tables_1 := List.mem_of_getElem? (i := 118) rfl
theorem tw119 : (Jvm.Cond.methodLink "java/lang/String" (212 : Nat) ({ cls := "java/lang/System", name := "arraycopy", desc := "(Ljava/lang/Object;ILjava/lang/Object;II)V" } : Jvm.MethodName)) ∈ tables_1 := List.mem_of_getElem? (i := 119) rfl
theorem tw120 : (Jvm.Cond.static ({ cls := "java/lang/System", name := "arraycopy", desc := "(Ljava/lang/Object;ILjava/lang/Object;II)V" } : Jvm.MethodName)) ∈ tables_1 := List.mem_of_getElem? (i := 120) rfl
theorem tw121 : (Jvm.Cond.initialized "java/lang/System") ∈ tables_1 := List.mem_of_getElem? (i := 121) rfl
theorem tw122 : (Jvm.Cond.native ({ cls := "java/lang/System", name := "arraycopy", desc := "(Ljava/lang/Object;ILjava/lang/Object;II)V" } : Jvm.MethodName)) ∈ tables_1 := List.mem_of_getElem? (i := 122) rfl
theorem tw123 : (Jvm.Cond.stringLink "com/example/dommel/dommel/KeySpace" (29 : Nat) ":") ∈ tables_1 := List.mem_of_getElem? (i := 123) rfl
theorem tw124 : (Jvm.Cond.methodLink "com/example/dommel/dommel/KeySpace" (31 : Nat) ({ cls := "com/example/dommel/dommel/KeySpace", name := "requireName", desc := "(Ljava/lang/String;)Ljava/lang/String;" } : Jvm.MethodName)) ∈ tables_1 := List.mem_of_getElem? (i := 124) rfl
theorem tw125 : (Jvm.Cond.static ({ cls := "com/example/dommel/dommel/KeySpace", name := "requireName", desc := "(Ljava/lang/String;)Ljava/lang/String;" } : Jvm.MethodName)) ∈ tables_1 := List.mem_of_getElem? (i := 125) rfl
theorem tw126 : (Jvm.Cond.code ({ cls := "com/example/dommel/dommel/KeySpace", name := "requireName", desc := "(Ljava/lang/String;)Ljava/lang/String;" } : Jvm.MethodName) prog_8_method_4_code (4 : Nat) (Option.some (Jvm.ClassFile.FieldType.object "java/lang/String"))) ∈ tables_1 := List.mem_of_getElem? (i := 126) rfl
theorem tw127 : (Jvm.Cond.stringLink "com/example/dommel/dommel/KeySpace" (39 : Nat) "name") ∈ tables_1 := List.mem_of_getElem? (i := 127) rfl
theorem tw128 : (Jvm.Cond.methodLink "com/example/dommel/dommel/KeySpace" (41 : Nat) ({ cls := "java/lang/String", name := "isEmpty", desc := "()Z" } : Jvm.MethodName)) ∈ tables_1 := List.mem_of_getElem? (i := 128) rfl
theorem tw129 : (Jvm.Cond.declares ({ cls := "java/lang/String", name := "isEmpty", desc := "()Z" } : Jvm.MethodName)) ∈ tables_1 := List.mem_of_getElem? (i := 129) rfl
theorem tw130 : (Jvm.Cond.instanceMethod ({ cls := "java/lang/String", name := "isEmpty", desc := "()Z" } : Jvm.MethodName)) ∈ tables_1 := List.mem_of_getElem? (i := 130) rfl
theorem tw131 : (Jvm.Cond.selects "java/lang/String" ({ cls := "java/lang/String", name := "isEmpty", desc := "()Z" } : Jvm.MethodName) ({ cls := "java/lang/String", name := "isEmpty", desc := "()Z" } : Jvm.MethodName)) ∈ tables_1 := List.mem_of_getElem? (i := 131) rfl
theorem tw132 : (Jvm.Cond.code ({ cls := "java/lang/String", name := "isEmpty", desc := "()Z" } : Jvm.MethodName) jdk_42_method_55_code (1 : Nat) (Option.some Jvm.ClassFile.FieldType.boolean)) ∈ tables_1 := List.mem_of_getElem? (i := 132) rfl
theorem tw133 : (Jvm.Cond.methodLink "com/example/dommel/dommel/KeySpace" (52 : Nat) ({ cls := "java/lang/String", name := "length", desc := "()I" } : Jvm.MethodName)) ∈ tables_1 := List.mem_of_getElem? (i := 133) rfl
theorem tw134 : (Jvm.Cond.methodLink "com/example/dommel/dommel/KeySpace" (56 : Nat) ({ cls := "java/lang/String", name := "charAt", desc := "(I)C" } : Jvm.MethodName)) ∈ tables_1 := List.mem_of_getElem? (i := 134) rfl
theorem tw135 : (Jvm.Cond.declares ({ cls := "java/lang/String", name := "charAt", desc := "(I)C" } : Jvm.MethodName)) ∈ tables_1 := List.mem_of_getElem? (i := 135) rfl
theorem tw136 : (Jvm.Cond.instanceMethod ({ cls := "java/lang/String", name := "charAt", desc := "(I)C" } : Jvm.MethodName)) ∈ tables_1 := List.mem_of_getElem? (i := 136) rfl
theorem tw137 : (Jvm.Cond.selects "java/lang/String" ({ cls := "java/lang/String", name := "charAt", desc := "(I)C" } : Jvm.MethodName) ({ cls := "java/lang/String", name := "charAt", desc := "(I)C" } : Jvm.MethodName)) ∈ tables_1 := List.mem_of_getElem? (i := 137) rfl
theorem tw138 : (Jvm.Cond.code ({ cls := "java/lang/String", name := "charAt", desc := "(I)C" } : Jvm.MethodName) jdk_42_method_56_code (2 : Nat) (Option.some Jvm.ClassFile.FieldType.char)) ∈ tables_1 := List.mem_of_getElem? (i := 138) rfl
theorem tw139 : (Jvm.Cond.methodLink "java/lang/String" (492 : Nat) ({ cls := "java/lang/String", name := "isLatin1", desc := "()Z" } : Jvm.MethodName)) ∈ tables_1 := List.mem_of_getElem? (i := 139) rfl
theorem tw140 : (Jvm.Cond.declares ({ cls := "java/lang/String", name := "isLatin1", desc := "()Z" } : Jvm.MethodName)) ∈ tables_1 := List.mem_of_getElem? (i := 140) rfl
theorem tw141 : (Jvm.Cond.instanceMethod ({ cls := "java/lang/String", name := "isLatin1", desc := "()Z" } : Jvm.MethodName)) ∈ tables_1 := List.mem_of_getElem? (i := 141) rfl
theorem tw142 : (Jvm.Cond.selects "java/lang/String" ({ cls := "java/lang/String", name := "isLatin1", desc := "()Z" } : Jvm.MethodName) ({ cls := "java/lang/String", name := "isLatin1", desc := "()Z" } : Jvm.MethodName)) ∈ tables_1 := List.mem_of_getElem? (i := 142) rfl
theorem tw143 : (Jvm.Cond.code ({ cls := "java/lang/String", name := "isLatin1", desc := "()Z" } : Jvm.MethodName) jdk_42_method_154_code (1 : Nat) (Option.some Jvm.ClassFile.FieldType.boolean)) ∈ tables_1 := List.mem_of_getElem? (i := 143) rfl
theorem tw144 : (Jvm.Cond.methodLink "java/lang/String" (495 : Nat) ({ cls := "java/lang/StringLatin1", name := "charAt", desc := "([BI)C" } : Jvm.MethodName)) ∈ tables_1 := List.mem_of_getElem? (i := 144) rfl
theorem tw145 : (Jvm.Cond.static ({ cls := "java/lang/StringLatin1", name := "charAt", desc := "([BI)C" } : Jvm.MethodName)) ∈ tables_1 := List.mem_of_getElem? (i := 145) rfl
theorem tw146 : (Jvm.Cond.code ({ cls := "java/lang/StringLatin1", name := "charAt", desc := "([BI)C" } : Jvm.MethodName) jdk_43_method_2_code (2 : Nat) (Option.some Jvm.ClassFile.FieldType.char)) ∈ tables_1 := List.mem_of_getElem? (i := 146) rfl
theorem tw147 : (Jvm.Cond.methodLink "java/lang/StringLatin1" (9 : Nat) ({ cls := "java/lang/String", name := "checkIndex", desc := "(II)V" } : Jvm.MethodName)) ∈ tables_1 := List.mem_of_getElem? (i := 147) rfl
theorem tw148 : (Jvm.Cond.static ({ cls := "java/lang/String", name := "checkIndex", desc := "(II)V" } : Jvm.MethodName)) ∈ tables_1 := List.mem_of_getElem? (i := 148) rfl
theorem tw149 : (Jvm.Cond.code ({ cls := "java/lang/String", name := "checkIndex", desc := "(II)V" } : Jvm.MethodName) jdk_42_method_155_code (2 : Nat) (Option.none : Option Jvm.ClassFile.FieldType)) ∈ tables_1 := List.mem_of_getElem? (i := 149) rfl
theorem tw150 : (Jvm.Cond.fieldLink "java/lang/String" (1053 : Nat) "jdk/internal/util/Preconditions" "SIOOBE_FORMATTER" "Ljava/util/function/BiFunction;") ∈ tables_1 := List.mem_of_getElem? (i := 150) rfl
theorem tw151 : (Jvm.Cond.initialized "jdk/internal/util/Preconditions") ∈ tables_1 := List.mem_of_getElem? (i := 151) rfl
theorem tw152 : (Jvm.Cond.methodLink "java/lang/String" (1059 : Nat) ({ cls := "jdk/internal/util/Preconditions", name := "checkIndex", desc := "(IILjava/util/function/BiFunction;)I" } : Jvm.MethodName)) ∈ tables_1 := List.mem_of_getElem? (i := 152) rfl
theorem tw153 : (Jvm.Cond.static ({ cls := "jdk/internal/util/Preconditions", name := "checkIndex", desc := "(IILjava/util/function/BiFunction;)I" } : Jvm.MethodName)) ∈ tables_1 := List.mem_of_getElem? (i := 153) rfl
theorem tw154 : (Jvm.Cond.code ({ cls := "jdk/internal/util/Preconditions", name := "checkIndex", desc := "(IILjava/util/function/BiFunction;)I" } : Jvm.MethodName) jdk_41_method_11_code (3 : Nat) (Option.some Jvm.ClassFile.FieldType.int)) ∈ tables_1 := List.mem_of_getElem? (i := 154) rfl
theorem tw155 : (Jvm.Cond.methodLink "com/example/dommel/dommel/KeySpace" (35 : Nat) ({ cls := "java/lang/StringBuilder", name := "toString", desc := "()Ljava/lang/String;" } : Jvm.MethodName)) ∈ tables_1 := List.mem_of_getElem? (i := 155) rfl
theorem tw156 : (Jvm.Cond.declares ({ cls := "java/lang/StringBuilder", name := "toString", desc := "()Ljava/lang/String;" } : Jvm.MethodName)) ∈ tables_1 := List.mem_of_getElem? (i := 156) rfl
theorem tw157 : (Jvm.Cond.instanceMethod ({ cls := "java/lang/StringBuilder", name := "toString", desc := "()Ljava/lang/String;" } : Jvm.MethodName)) ∈ tables_1 := List.mem_of_getElem? (i := 157) rfl
theorem tw158 : (Jvm.Cond.selects "java/lang/StringBuilder" ({ cls := "java/lang/StringBuilder", name := "toString", desc := "()Ljava/lang/String;" } : Jvm.MethodName) ({ cls := "java/lang/StringBuilder", name := "toString", desc := "()Ljava/lang/String;" } : Jvm.MethodName)) ∈ tables_1 := List.mem_of_getElem? (i := 158) rfl
theorem tw159 : (Jvm.Cond.code ({ cls := "java/lang/StringBuilder", name := "toString", desc := "()Ljava/lang/String;" } : Jvm.MethodName) jdk_67_method_42_code (1 : Nat) (Option.some (Jvm.ClassFile.FieldType.object "java/lang/String"))) ∈ tables_1 := List.mem_of_getElem? (i := 159) rfl
theorem tw160 : (Jvm.Cond.classLink "java/lang/StringBuilder" (18 : Nat) "java/lang/String") ∈ tables_1 := List.mem_of_getElem? (i := 160) rfl
theorem tw161 : (Jvm.Cond.methodLink "java/lang/StringBuilder" (137 : Nat) ({ cls := "java/lang/String", name := "<init>", desc := "(Ljava/lang/StringBuilder;)V" } : Jvm.MethodName)) ∈ tables_1 := List.mem_of_getElem? (i := 161) rfl
theorem tw162 : (Jvm.Cond.instanceMethod ({ cls := "java/lang/String", name := "<init>", desc := "(Ljava/lang/StringBuilder;)V" } : Jvm.MethodName)) ∈ tables_1 := List.mem_of_getElem? (i := 162) rfl
theorem tw163 : (Jvm.Cond.code ({ cls := "java/lang/String", name := "<init>", desc := "(Ljava/lang/StringBuilder;)V" } : Jvm.MethodName) jdk_42_method_53_code (2 : Nat) (Option.none : Option Jvm.ClassFile.FieldType)) ∈ tables_1 := List.mem_of_getElem? (i := 163) rfl
theorem tw164 : (Jvm.Cond.methodLink "java/lang/String" (489 : Nat) ({ cls := "java/lang/String", name := "<init>", desc := "(Ljava/lang/AbstractStringBuilder;Ljava/lang/Void;)V" } : Jvm.MethodName)) ∈ tables_1 := List.mem_of_getElem? (i := 164) rfl
theorem tw165 : (Jvm.Cond.instanceMethod ({ cls := "java/lang/String", name := "<init>", desc := "(Ljava/lang/AbstractStringBuilder;Ljava/lang/Void;)V" } : Jvm.MethodName)) ∈ tables_1 := List.mem_of_getElem? (i := 165) rfl
theorem tw166 : (Jvm.Cond.code ({ cls := "java/lang/String", name := "<init>", desc := "(Ljava/lang/AbstractStringBuilder;Ljava/lang/Void;)V" } : Jvm.MethodName) jdk_42_method_150_code (5 : Nat) (Option.none : Option Jvm.ClassFile.FieldType)) ∈ tables_1 := List.mem_of_getElem? (i := 166) rfl
theorem tw167 : (Jvm.Cond.methodLink "java/lang/String" (552 : Nat) ({ cls := "java/lang/AbstractStringBuilder", name := "getValue", desc := "()[B" } : Jvm.MethodName)) ∈ tables_1 := List.mem_of_getElem? (i := 167) rfl
theorem tw168 : (Jvm.Cond.declares ({ cls := "java/lang/AbstractStringBuilder", name := "getValue", desc := "()[B" } : Jvm.MethodName)) ∈ tables_1 := List.mem_of_getElem? (i := 168) rfl
theorem tw169 : (Jvm.Cond.instanceMethod ({ cls := "java/lang/AbstractStringBuilder", name := "getValue", desc := "()[B" } : Jvm.MethodName)) ∈ tables_1 := List.mem_of_getElem? (i := 169) rfl
theorem tw170 : (Jvm.Cond.selects "java/lang/StringBuilder" ({ cls := "java/lang/AbstractStringBuilder", name := "getValue", desc := "()[B" } : Jvm.MethodName) ({ cls := "java/lang/AbstractStringBuilder", name := "getValue", desc := "()[B" } : Jvm.MethodName)) ∈ tables_1 := List.mem_of_getElem? (i := 170) rfl
theorem tw171 : (Jvm.Cond.code ({ cls := "java/lang/AbstractStringBuilder", name := "getValue", desc := "()[B" } : Jvm.MethodName) jdk_68_method_64_code (1 : Nat) (Option.some (Jvm.ClassFile.FieldType.array Jvm.ClassFile.FieldType.byte))) ∈ tables_1 := List.mem_of_getElem? (i := 171) rfl
theorem tw172 : (Jvm.Cond.methodLink "java/lang/String" (549 : Nat) ({ cls := "java/lang/AbstractStringBuilder", name := "length", desc := "()I" } : Jvm.MethodName)) ∈ tables_1 := List.mem_of_getElem? (i := 172) rfl
theorem tw173 : (Jvm.Cond.declares ({ cls := "java/lang/AbstractStringBuilder", name := "length", desc := "()I" } : Jvm.MethodName)) ∈ tables_1 := List.mem_of_getElem? (i := 173) rfl
theorem tw174 : (Jvm.Cond.instanceMethod ({ cls := "java/lang/AbstractStringBuilder", name := "length", desc := "()I" } : Jvm.MethodName)) ∈ tables_1 := List.mem_of_getElem? (i := 174) rfl
theorem tw175 : (Jvm.Cond.selects "java/lang/StringBuilder" ({ cls := "java/lang/AbstractStringBuilder", name := "length", desc := "()I" } : Jvm.MethodName) ({ cls := "java/lang/StringBuilder", name := "length", desc := "()I" } : Jvm.MethodName)) ∈ tables_1 := List.mem_of_getElem? (i := 175) rfl
theorem tw176 : (Jvm.Cond.instanceMethod ({ cls := "java/lang/StringBuilder", name := "length", desc := "()I" } : Jvm.MethodName)) ∈ tables_1 := List.mem_of_getElem? (i := 176) rfl
theorem tw177 : (Jvm.Cond.code ({ cls := "java/lang/StringBuilder", name := "length", desc := "()I" } : Jvm.MethodName) jdk_67_method_93_code (1 : Nat) (Option.some Jvm.ClassFile.FieldType.int)) ∈ tables_1 := List.mem_of_getElem? (i := 177) rfl
theorem tw178 : (Jvm.Cond.methodLink "java/lang/StringBuilder" (343 : Nat) ({ cls := "java/lang/AbstractStringBuilder", name := "length", desc := "()I" } : Jvm.MethodName)) ∈ tables_1 := List.mem_of_getElem? (i := 178) rfl
theorem tw179 : (Jvm.Cond.code ({ cls := "java/lang/AbstractStringBuilder", name := "length", desc := "()I" } : Jvm.MethodName) jdk_68_method_6_code (1 : Nat) (Option.some Jvm.ClassFile.FieldType.int)) ∈ tables_1 := List.mem_of_getElem? (i := 179) rfl
theorem tw180 : (Jvm.Cond.methodLink "java/lang/String" (1047 : Nat) ({ cls := "java/lang/AbstractStringBuilder", name := "isLatin1", desc := "()Z" } : Jvm.MethodName)) ∈ tables_1 := List.mem_of_getElem? (i := 180) rfl
theorem tw181 : (Jvm.Cond.declares ({ cls := "java/lang/AbstractStringBuilder", name := "isLatin1", desc := "()Z" } : Jvm.MethodName)) ∈ tables_1 := List.mem_of_getElem? (i := 181) rfl
theorem tw182 : (Jvm.Cond.instanceMethod ({ cls := "java/lang/AbstractStringBuilder", name := "isLatin1", desc := "()Z" } : Jvm.MethodName)) ∈ tables_1 := List.mem_of_getElem? (i := 182) rfl
theorem tw183 : (Jvm.Cond.selects "java/lang/StringBuilder" ({ cls := "java/lang/AbstractStringBuilder", name := "isLatin1", desc := "()Z" } : Jvm.MethodName) ({ cls := "java/lang/AbstractStringBuilder", name := "isLatin1", desc := "()Z" } : Jvm.MethodName)) ∈ tables_1 := List.mem_of_getElem? (i := 183) rfl
theorem tw184 : (Jvm.Cond.code ({ cls := "java/lang/AbstractStringBuilder", name := "isLatin1", desc := "()Z" } : Jvm.MethodName) jdk_68_method_68_code (1 : Nat) (Option.some Jvm.ClassFile.FieldType.boolean)) ∈ tables_1 := List.mem_of_getElem? (i := 184) rfl
theorem tw185 : (Jvm.Cond.methodLink "java/lang/String" (54 : Nat) ({ cls := "java/util/Arrays", name := "copyOfRange", desc := "([BII)[B" } : Jvm.MethodName)) ∈ tables_1 := List.mem_of_getElem? (i := 185) rfl
theorem tw186 : (Jvm.Cond.static ({ cls := "java/util/Arrays", name := "copyOfRange", desc := "([BII)[B" } : Jvm.MethodName)) ∈ tables_1 := List.mem_of_getElem? (i := 186) rfl
theorem tw187 : (Jvm.Cond.initialized "java/util/Arrays") ∈ tables_1 := List.mem_of_getElem? (i := 187) rfl
theorem tw188 : (Jvm.Cond.code ({ cls := "java/util/Arrays", name := "copyOfRange", desc := "([BII)[B" } : Jvm.MethodName) jdk_65_method_132_code (3 : Nat) (Option.some (Jvm.ClassFile.FieldType.array Jvm.ClassFile.FieldType.byte))) ∈ tables_1 := List.mem_of_getElem? (i := 188) rfl
theorem tw189 : (Jvm.Cond.methodLink "java/util/Arrays" (339 : Nat) ({ cls := "java/util/Arrays", name := "copyOfRangeByte", desc := "([BII)[B" } : Jvm.MethodName)) ∈ tables_1 := List.mem_of_getElem? (i := 189) rfl
theorem tw190 : (Jvm.Cond.static ({ cls := "java/util/Arrays", name := "copyOfRangeByte", desc := "([BII)[B" } : Jvm.MethodName)) ∈ tables_1 := List.mem_of_getElem? (i := 190) rfl
theorem tw191 : (Jvm.Cond.code ({ cls := "java/util/Arrays", name := "copyOfRangeByte", desc := "([BII)[B" } : Jvm.MethodName) jdk_65_method_133_code (5 : Nat) (Option.some (Jvm.ClassFile.FieldType.array Jvm.ClassFile.FieldType.byte))) ∈ tables_1 := List.mem_of_getElem? (i := 191) rfl
theorem tw192 : (Jvm.Cond.methodLink "java/util/Arrays" (343 : Nat) ({ cls := "java/util/Arrays", name := "checkLength", desc := "(II)V" } : Jvm.MethodName)) ∈ tables_1 := List.mem_of_getElem? (i := 192) rfl
theorem tw193 : (Jvm.Cond.static ({ cls := "java/util/Arrays", name := "checkLength", desc := "(II)V" } : Jvm.MethodName)) ∈ tables_1 := List.mem_of_getElem? (i := 193) rfl
theorem tw194 : (Jvm.Cond.code ({ cls := "java/util/Arrays", name := "checkLength", desc := "(II)V" } : Jvm.MethodName) jdk_65_method_131_code (2 : Nat) (Option.none : Option Jvm.ClassFile.FieldType)) ∈ tables_1 := List.mem_of_getElem? (i := 194) rfl
theorem tw195 : (Jvm.Cond.methodLink "java/util/Arrays" (304 : Nat) ({ cls := "java/lang/Math", name := "min", desc := "(II)I" } : Jvm.MethodName)) ∈ tables_1 := List.mem_of_getElem? (i := 195) rfl
theorem tw196 : (Jvm.Cond.static ({ cls := "java/lang/Math", name := "min", desc := "(II)I" } : Jvm.MethodName)) ∈ tables_1 := List.mem_of_getElem? (i := 196) rfl
theorem tw197 : (Jvm.Cond.initialized "java/lang/Math") ∈ tables_1 := List.mem_of_getElem? (i := 197) rfl
theorem tw198 : (Jvm.Cond.code ({ cls := "java/lang/Math", name := "min", desc := "(II)I" } : Jvm.MethodName) jdk_29_method_69_code (2 : Nat) (Option.some Jvm.ClassFile.FieldType.int)) ∈ tables_1 := List.mem_of_getElem? (i := 198) rfl
theorem tw199 : (Jvm.Cond.methodLink "java/util/Arrays" (150 : Nat) ({ cls := "java/lang/System", name := "arraycopy", desc := "(Ljava/lang/Object;ILjava/lang/Object;II)V" } : Jvm.MethodName)) ∈ tables_1 := List.mem_of_getElem? (i := 199) rfl
theorem tw200 : (Jvm.Cond.methodLink "com/example/dommel/dommel/KeySpaceKeyPinLaw" (22 : Nat) ({ cls := "java/lang/String", name := "length", desc := "()I" } : Jvm.MethodName)) ∈ tables_1 := List.mem_of_getElem? (i := 200) rfl
theorem tw201 : (Jvm.Cond.methodLink "com/example/dommel/dommel/KeySpaceKeyPinLaw" (53 : Nat) ({ cls := "com/example/dommel/dommel/KeySpaceKeyPinLaw", name := "same", desc := "(Ljava/lang/String;Ljava/lang/String;Ljava/lang/String;Ljava/lang/String;I)Z" } : Jvm.MethodName)) ∈ tables_1 := List.mem_of_getElem? (i := 201) rfl
theorem tw202 : (Jvm.Cond.static ({ cls := "com/example/dommel/dommel/KeySpaceKeyPinLaw", name := "same", desc := "(Ljava/lang/String;Ljava/lang/String;Ljava/lang/String;Ljava/lang/String;I)Z" } : Jvm.MethodName)) ∈ tables_1 := List.mem_of_getElem? (i := 202) rfl
theorem tw203 : (Jvm.Cond.code ({ cls := "com/example/dommel/dommel/KeySpaceKeyPinLaw", name := "same", desc := "(Ljava/lang/String;Ljava/lang/String;Ljava/lang/String;Ljava/lang/String;I)Z" } : Jvm.MethodName) method_5_code (5 : Nat) (Option.some Jvm.ClassFile.FieldType.boolean)) ∈ tables_1 := List.mem_of_getElem? (i := 203) rfl
theorem tw204 : (Jvm.Cond.methodLink "com/example/dommel/dommel/KeySpaceKeyPinLaw" (26 : Nat) ({ cls := "java/lang/String", name := "charAt", desc := "(I)C" } : Jvm.MethodName)) ∈ tables_1 := List.mem_of_getElem? (i := 204) rfl
theorem tw205 : (Jvm.Cond.methodLink "com/example/dommel/dommel/KeySpaceKeyPinLaw" (30 : Nat) ({ cls := "com/example/dommel/dommel/KeySpaceKeyPinLaw", name := "at", desc := "(Ljava/lang/String;Ljava/lang/String;Ljava/lang/String;I)C" } : Jvm.MethodName)) ∈ tables_1 := List.mem_of_getElem? (i := 205) rfl
theorem tw206 : (Jvm.Cond.static ({ cls := "com/example/dommel/dommel/KeySpaceKeyPinLaw", name := "at", desc := "(Ljava/lang/String;Ljava/lang/String;Ljava/lang/String;I)C" } : Jvm.MethodName)) ∈ tables_1 := List.mem_of_getElem? (i := 206) rfl
theorem tw207 : (Jvm.Cond.code ({ cls := "com/example/dommel/dommel/KeySpaceKeyPinLaw", name := "at", desc := "(Ljava/lang/String;Ljava/lang/String;Ljava/lang/String;I)C" } : Jvm.MethodName) method_4_code (5 : Nat) (Option.some Jvm.ClassFile.FieldType.char)) ∈ tables_1 := List.mem_of_getElem? (i := 207) rfl
theorem tw208 : (Jvm.Cond.classLink "com/example/dommel/dommel/KeySpaceKeyPinLaw" (14 : Nat) "java/lang/String") ∈ tables_1 := List.mem_of_getElem? (i := 208) rfl
theorem tw209 : (Jvm.Cond.arrayClass Jvm.ClassFile.FieldType.char) ∈ tables_1 := List.mem_of_getElem? (i := 209) rfl
theorem tw210 : (Jvm.Cond.methodLink "com/example/dommel/dommel/KeySpaceKeyPinLaw" (19 : Nat) ({ cls := "java/lang/String", name := "<init>", desc := "([C)V" } : Jvm.MethodName)) ∈ tables_1 := List.mem_of_getElem? (i := 210) rfl
theorem tw211 : (Jvm.Cond.instanceMethod ({ cls := "java/lang/String", name := "<init>", desc := "([C)V" } : Jvm.MethodName)) ∈ tables_1 := List.mem_of_getElem? (i := 211) rfl
theorem tw212 : (Jvm.Cond.code ({ cls := "java/lang/String", name := "<init>", desc := "([C)V" } : Jvm.MethodName) jdk_42_method_3_code (2 : Nat) (Option.none : Option Jvm.ClassFile.FieldType)) ∈ tables_1 := List.mem_of_getElem? (i := 212) rfl
theorem tw213 : (Jvm.Cond.methodLink "java/lang/String" (27 : Nat) ({ cls := "java/lang/String", name := "<init>", desc := "([CIILjava/lang/Void;)V" } : Jvm.MethodName)) ∈ tables_1 := List.mem_of_getElem? (i := 213) rfl
theorem tw214 : (Jvm.Cond.instanceMethod ({ cls := "java/lang/String", name := "<init>", desc := "([CIILjava/lang/Void;)V" } : Jvm.MethodName)) ∈ tables_1 := List.mem_of_getElem? (i := 214) rfl
theorem tw215 : (Jvm.Cond.code ({ cls := "java/lang/String", name := "<init>", desc := "([CIILjava/lang/Void;)V" } : Jvm.MethodName) jdk_42_method_149_code (6 : Nat) (Option.none : Option Jvm.ClassFile.FieldType)) ∈ tables_1 := List.mem_of_getElem? (i := 215) rfl
theorem tw216 : (Jvm.Cond.methodLink "java/lang/String" (177 : Nat) ({ cls := "java/lang/StringUTF16", name := "compress", desc := "([CII)[B" } : Jvm.MethodName)) ∈ tables_1 := List.mem_of_getElem? (i := 216) rfl
theorem tw217 : (Jvm.Cond.static ({ cls := "java/lang/StringUTF16", name := "compress", desc := "([CII)[B" } : Jvm.MethodName)) ∈ tables_1 := List.mem_of_getElem? (i := 217) rfl
theorem tw218 : (Jvm.Cond.initialized "java/lang/StringUTF16") ∈ tables_1 := List.mem_of_getElem? (i := 218) rfl
theorem tw219 : (Jvm.Cond.code ({ cls := "java/lang/StringUTF16", name := "compress", desc := "([CII)[B" } : Jvm.MethodName) jdk_52_method_16_code (6 : Nat) (Option.some (Jvm.ClassFile.FieldType.array Jvm.ClassFile.FieldType.byte))) ∈ tables_1 := List.mem_of_getElem? (i := 219) rfl
theorem tw220 : (Jvm.Cond.methodLink "java/lang/StringUTF16" (115 : Nat) ({ cls := "java/lang/StringUTF16", name := "compress", desc := "([CI[BII)I" } : Jvm.MethodName)) ∈ tables_1 := List.mem_of_getElem? (i := 220) rfl
theorem tw221 : (Jvm.Cond.static ({ cls := "java/lang/StringUTF16", name := "compress", desc := "([CI[BII)I" } : Jvm.MethodName)) ∈ tables_1 := List.mem_of_getElem? (i := 221) rfl
theorem tw222 : (Jvm.Cond.code ({ cls := "java/lang/StringUTF16", name := "compress", desc := "([CI[BII)I" } : Jvm.MethodName) jdk_52_method_21_code (7 : Nat) (Option.some Jvm.ClassFile.FieldType.int)) ∈ tables_1 := List.mem_of_getElem? (i := 222) rfl
theorem tw223 : (Jvm.Cond.methodLink "java/lang/String" (47 : Nat) ({ cls := "java/lang/StringUTF16", name := "coderFromArrayLen", desc := "([BI)B" } : Jvm.MethodName)) ∈ tables_1 := List.mem_of_getElem? (i := 223) rfl
theorem tw224 : (Jvm.Cond.static ({ cls := "java/lang/StringUTF16", name := "coderFromArrayLen", desc := "([BI)B" } : Jvm.MethodName)) ∈ tables_1 := List.mem_of_getElem? (i := 224) rfl
theorem tw225 : (Jvm.Cond.code ({ cls := "java/lang/StringUTF16", name := "coderFromArrayLen", desc := "([BI)B" } : Jvm.MethodName) jdk_52_method_15_code (2 : Nat) (Option.some Jvm.ClassFile.FieldType.byte)) ∈ tables_1 := List.mem_of_getElem? (i := 225) rfl
theorem tw226 : (Jvm.Cond.constant "com/example/dommel/dommel/KeySpaceKeyPinLaw" (43 : Nat) (56320 : Int32)) ∈ tables_1 := List.mem_of_getElem? (i := 226) rfl
theorem tw227 : (Jvm.Cond.methodLink "java/lang/StringUTF16" (119 : Nat) ({ cls := "java/lang/StringUTF16", name := "toBytes", desc := "([CII)[B" } : Jvm.MethodName)) ∈ tables_1 := List.mem_of_getElem? (i := 227) rfl
theorem tw228 : (Jvm.Cond.static ({ cls := "java/lang/StringUTF16", name := "toBytes", desc := "([CII)[B" } : Jvm.MethodName)) ∈ tables_1 := List.mem_of_getElem? (i := 228) rfl
theorem tw229 : (Jvm.Cond.code ({ cls := "java/lang/StringUTF16", name := "toBytes", desc := "([CII)[B" } : Jvm.MethodName) jdk_52_method_14_code (5 : Nat) (Option.some (Jvm.ClassFile.FieldType.array Jvm.ClassFile.FieldType.byte))) ∈ tables_1 := List.mem_of_getElem? (i := 229) rfl
theorem tw230 : (Jvm.Cond.methodLink "java/lang/StringUTF16" (107 : Nat) ({ cls := "java/lang/StringUTF16", name := "newBytesFor", desc := "(I)[B" } : Jvm.MethodName)) ∈ tables_1 := List.mem_of_getElem? (i := 230) rfl
theorem tw231 : (Jvm.Cond.static ({ cls := "java/lang/StringUTF16", name := "newBytesFor", desc := "(I)[B" } : Jvm.MethodName)) ∈ tables_1 := List.mem_of_getElem? (i := 231) rfl
theorem tw232 : (Jvm.Cond.code ({ cls := "java/lang/StringUTF16", name := "newBytesFor", desc := "(I)[B" } : Jvm.MethodName) jdk_52_method_2_code (1 : Nat) (Option.some (Jvm.ClassFile.FieldType.array Jvm.ClassFile.FieldType.byte))) ∈ tables_1 := List.mem_of_getElem? (i := 232) rfl
theorem tw233 : (Jvm.Cond.methodLink "java/lang/StringUTF16" (11 : Nat) ({ cls := "java/lang/StringUTF16", name := "newBytesLength", desc := "(I)I" } : Jvm.MethodName)) ∈ tables_1 := List.mem_of_getElem? (i := 233) rfl
theorem tw234 : (Jvm.Cond.static ({ cls := "java/lang/StringUTF16", name := "newBytesLength", desc := "(I)I" } : Jvm.MethodName)) ∈ tables_1 := List.mem_of_getElem? (i := 234) rfl
theorem tw235 : (Jvm.Cond.code ({ cls := "java/lang/StringUTF16", name := "newBytesLength", desc := "(I)I" } : Jvm.MethodName) jdk_52_method_3_code (1 : Nat) (Option.some Jvm.ClassFile.FieldType.int)) ∈ tables_1 := List.mem_of_getElem? (i := 235) rfl
theorem tw236 : (Jvm.Cond.constant "java/lang/StringUTF16" (20 : Nat) (1073741823 : Int32)) ∈ tables_1 := List.mem_of_getElem? (i := 236) rfl
theorem tw237 : (Jvm.Cond.methodLink "java/lang/StringUTF16" (111 : Nat) ({ cls := "java/lang/StringUTF16", name := "putChar", desc := "([BII)V" } : Jvm.MethodName)) ∈ tables_1 := List.mem_of_getElem? (i := 237) rfl
theorem tw238 : (Jvm.Cond.static ({ cls := "java/lang/StringUTF16", name := "putChar", desc := "([BII)V" } : Jvm.MethodName)) ∈ tables_1 := List.mem_of_getElem? (i := 238) rfl
theorem tw239 : (Jvm.Cond.code ({ cls := "java/lang/StringUTF16", name := "putChar", desc := "([BII)V" } : Jvm.MethodName) jdk_52_method_4_code (3 : Nat) (Option.none : Option Jvm.ClassFile.FieldType)) ∈ tables_1 := List.mem_of_getElem? (i := 239) rfl
theorem tw240 : (Jvm.Cond.fieldLink "java/lang/StringUTF16" (44 : Nat) "java/lang/StringUTF16" "$assertionsDisabled" "Z") ∈ tables_1 := List.mem_of_getElem? (i := 240) rfl
theorem tw241 : (Jvm.Cond.fieldLink "java/lang/StringUTF16" (59 : Nat) "java/lang/StringUTF16" "HI_BYTE_SHIFT" "I") ∈ tables_1 := List.mem_of_getElem? (i := 241) rfl
theorem tw242 : (Jvm.Cond.fieldLink "java/lang/StringUTF16" (63 : Nat) "java/lang/StringUTF16" "LO_BYTE_SHIFT" "I") ∈ tables_1 := List.mem_of_getElem? (i := 242) rfl
theorem tw243 : (Jvm.Cond.methodLink "java/lang/StringUTF16" (71 : Nat) ({ cls := "java/lang/StringUTF16", name := "getChar", desc := "([BI)C" } : Jvm.MethodName)) ∈ tables_1 := List.mem_of_getElem? (i := 243) rfl
theorem tw244 : (Jvm.Cond.static ({ cls := "java/lang/StringUTF16", name := "getChar", desc := "([BI)C" } : Jvm.MethodName)) ∈ tables_1 := List.mem_of_getElem? (i := 244) rfl
theorem tw245 : (Jvm.Cond.code ({ cls := "java/lang/StringUTF16", name := "getChar", desc := "([BI)C" } : Jvm.MethodName) jdk_52_method_5_code (2 : Nat) (Option.some Jvm.ClassFile.FieldType.char)) ∈ tables_1 := List.mem_of_getElem? (i := 245) rfl
theorem tw246 : (Jvm.Cond.methodLink "java/lang/String" (498 : Nat) ({ cls := "java/lang/StringUTF16", name := "charAt", desc := "([BI)C" } : Jvm.MethodName)) ∈ tables_1 := List.mem_of_getElem? (i := 246) rfl
theorem tw247 : (Jvm.Cond.static ({ cls := "java/lang/StringUTF16", name := "charAt", desc := "([BI)C" } : Jvm.MethodName)) ∈ tables_1 := List.mem_of_getElem? (i := 247) rfl
theorem tw248 : (Jvm.Cond.code ({ cls := "java/lang/StringUTF16", name := "charAt", desc := "([BI)C" } : Jvm.MethodName) jdk_52_method_83_code (2 : Nat) (Option.some Jvm.ClassFile.FieldType.char)) ∈ tables_1 := List.mem_of_getElem? (i := 248) rfl
theorem tw249 : (Jvm.Cond.methodLink "java/lang/StringUTF16" (67 : Nat) ({ cls := "java/lang/StringUTF16", name := "checkIndex", desc := "(I[B)V" } : Jvm.MethodName)) ∈ tables_1 := List.mem_of_getElem? (i := 249) rfl
theorem tw250 : (Jvm.Cond.static ({ cls := "java/lang/StringUTF16", name := "checkIndex", desc := "(I[B)V" } : Jvm.MethodName)) ∈ tables_1 := List.mem_of_getElem? (i := 250) rfl
theorem tw251 : (Jvm.Cond.code ({ cls := "java/lang/StringUTF16", name := "checkIndex", desc := "(I[B)V" } : Jvm.MethodName) jdk_52_method_91_code (2 : Nat) (Option.none : Option Jvm.ClassFile.FieldType)) ∈ tables_1 := List.mem_of_getElem? (i := 251) rfl
theorem tw252 : (Jvm.Cond.methodLink "java/lang/StringUTF16" (48 : Nat) ({ cls := "java/lang/StringUTF16", name := "length", desc := "([B)I" } : Jvm.MethodName)) ∈ tables_1 := List.mem_of_getElem? (i := 252) rfl
theorem tw253 : (Jvm.Cond.static ({ cls := "java/lang/StringUTF16", name := "length", desc := "([B)I" } : Jvm.MethodName)) ∈ tables_1 := List.mem_of_getElem? (i := 253) rfl
theorem tw254 : (Jvm.Cond.code ({ cls := "java/lang/StringUTF16", name := "length", desc := "([B)I" } : Jvm.MethodName) jdk_52_method_6_code (1 : Nat) (Option.some Jvm.ClassFile.FieldType.int)) ∈ tables_1 := List.mem_of_getElem? (i := 254) rfl
theorem tw255 : (Jvm.Cond.methodLink "java/lang/StringUTF16" (414 : Nat) ({ cls := "java/lang/String", name := "checkIndex", desc := "(II)V" } : Jvm.MethodName)) ∈ tables_1 := List.mem_of_getElem? (i := 255) rfl
theorem tw256 : (Jvm.Cond.methodLink "com/example/dommel/dommel/KeySpace" (60 : Nat) ({ cls := "java/lang/Character", name := "isSurrogate", desc := "(C)Z" } : Jvm.MethodName)) ∈ tables_1 := List.mem_of_getElem? (i := 256) rfl
theorem tw257 : (Jvm.Cond.static ({ cls := "java/lang/Character", name := "isSurrogate", desc := "(C)Z" } : Jvm.MethodName)) ∈ tables_1 := List.mem_of_getElem? (i := 257) rfl
theorem tw258 : (Jvm.Cond.initialized "java/lang/Character") ∈ tables_1 := List.mem_of_getElem? (i := 258) rfl
theorem tw259 : (Jvm.Cond.code ({ cls := "java/lang/Character", name := "isSurrogate", desc := "(C)Z" } : Jvm.MethodName) jdk_89_method_16_code (1 : Nat) (Option.some Jvm.ClassFile.FieldType.boolean)) ∈ tables_1 := List.mem_of_getElem? (i := 259) rfl
theorem tw260 : (Jvm.Cond.constant "java/lang/Character" (75 : Nat) (55296 : Int32)) ∈ tables_1 := List.mem_of_getElem? (i := 260) rfl
theorem tw261 : (Jvm.Cond.constant "java/lang/Character" (77 : Nat) (57344 : Int32)) ∈ tables_1 := List.mem_of_getElem? (i := 261) rfl
theorem tw262 : (Jvm.Cond.methodLink "com/example/dommel/dommel/KeySpace" (66 : Nat) ({ cls := "java/lang/Character", name := "isHighSurrogate", desc := "(C)Z" } : Jvm.MethodName)) ∈ tables_1 := List.mem_of_getElem? (i := 262) rfl
theorem tw263 : (Jvm.Cond.static ({ cls := "java/lang/Character", name := "isHighSurrogate", desc := "(C)Z" } : Jvm.MethodName)) ∈ tables_1 := List.mem_of_getElem? (i := 263) rfl
theorem tw264 : (Jvm.Cond.code ({ cls := "java/lang/Character", name := "isHighSurrogate", desc := "(C)Z" } : Jvm.MethodName) jdk_89_method_14_code (1 : Nat) (Option.some Jvm.ClassFile.FieldType.boolean)) ∈ tables_1 := List.mem_of_getElem? (i := 264) rfl
theorem tw265 : (Jvm.Cond.constant "java/lang/Character" (76 : Nat) (56320 : Int32)) ∈ tables_1 := List.mem_of_getElem? (i := 265) rfl
theorem tw266 : (Jvm.Cond.methodLink "com/example/dommel/dommel/KeySpace" (69 : Nat) ({ cls := "java/lang/Character", name := "isLowSurrogate", desc := "(C)Z" } : Jvm.MethodName)) ∈ tables_1 := List.mem_of_getElem? (i := 266) rfl
theorem tw267 : (Jvm.Cond.static ({ cls := "java/lang/Character", name := "isLowSurrogate", desc := "(C)Z" } : Jvm.MethodName)) ∈ tables_1 := List.mem_of_getElem? (i := 267) rfl
theorem tw268 : (Jvm.Cond.code ({ cls := "java/lang/Character", name := "isLowSurrogate", desc := "(C)Z" } : Jvm.MethodName) jdk_89_method_15_code (1 : Nat) (Option.some Jvm.ClassFile.FieldType.boolean)) ∈ tables_1 := List.mem_of_getElem? (i := 268) rfl
theorem tw269 : (Jvm.Cond.methodLink "java/lang/AbstractStringBuilder" (195 : Nat) ({ cls := "java/lang/AbstractStringBuilder", name := "inflate", desc := "()V" } : Jvm.MethodName)) ∈ tables_1 := List.mem_of_getElem? (i := 269) rfl
theorem tw270 : (Jvm.Cond.instanceMethod ({ cls := "java/lang/AbstractStringBuilder", name := "inflate", desc := "()V" } : Jvm.MethodName)) ∈ tables_1 := List.mem_of_getElem? (i := 270) rfl
theorem tw272 : (Jvm.Cond.selects "java/lang/StringBuilder" ({ cls := "java/lang/AbstractStringBuilder", name := "inflate", desc := "()V" } : Jvm.MethodName) ({ cls := "java/lang/AbstractStringBuilder", name := "inflate", desc := "()V" } : Jvm.MethodName)) ∈ tables_1 := List.mem_of_getElem? (i := 272) rfl
theorem tw273 : (Jvm.Cond.code ({ cls := "java/lang/AbstractStringBuilder", name := "inflate", desc := "()V" } : Jvm.MethodName) jdk_68_method_11_code (2 : Nat) (Option.none : Option Jvm.ClassFile.FieldType)) ∈ tables_1 := List.mem_of_getElem? (i := 273) rfl
theorem tw274 : (Jvm.Cond.methodLink "java/lang/AbstractStringBuilder" (83 : Nat) ({ cls := "java/lang/AbstractStringBuilder", name := "isLatin1", desc := "()Z" } : Jvm.MethodName)) ∈ tables_1 := List.mem_of_getElem? (i := 274) rfl
theorem tw275 : (Jvm.Cond.methodLink "java/lang/AbstractStringBuilder" (26 : Nat) ({ cls := "java/lang/StringUTF16", name := "newBytesFor", desc := "(I)[B" } : Jvm.MethodName)) ∈ tables_1 := List.mem_of_getElem? (i := 275) rfl
theorem tw276 : (Jvm.Cond.methodLink "java/lang/AbstractStringBuilder" (125 : Nat) ({ cls := "java/lang/StringLatin1", name := "inflate", desc := "([BI[BII)V" } : Jvm.MethodName)) ∈ tables_1 := List.mem_of_getElem? (i := 276) rfl
theorem tw277 : (Jvm.Cond.static ({ cls := "java/lang/StringLatin1", name := "inflate", desc := "([BI[BII)V" } : Jvm.MethodName)) ∈ tables_1 := List.mem_of_getElem? (i := 277) rfl
theorem tw278 : (Jvm.Cond.code ({ cls := "java/lang/StringLatin1", name := "inflate", desc := "([BI[BII)V" } : Jvm.MethodName) jdk_43_method_50_code (5 : Nat) (Option.none : Option Jvm.ClassFile.FieldType)) ∈ tables_1 := List.mem_of_getElem? (i := 278) rfl
theorem tw279 : (Jvm.Cond.methodLink "java/lang/StringLatin1" (240 : Nat) ({ cls := "java/lang/StringUTF16", name := "inflate", desc := "([BI[BII)V" } : Jvm.MethodName)) ∈ tables_1 := List.mem_of_getElem? (i := 279) rfl
theorem tw280 : (Jvm.Cond.static ({ cls := "java/lang/StringUTF16", name := "inflate", desc := "([BI[BII)V" } : Jvm.MethodName)) ∈ tables_1 := List.mem_of_getElem? (i := 280) rfl
theorem tw281 : (Jvm.Cond.code ({ cls := "java/lang/StringUTF16", name := "inflate", desc := "([BI[BII)V" } : Jvm.MethodName) jdk_52_method_86_code (6 : Nat) (Option.none : Option Jvm.ClassFile.FieldType)) ∈ tables_1 := List.mem_of_getElem? (i := 281) rfl
theorem tw282 : (Jvm.Cond.methodLink "java/lang/StringUTF16" (173 : Nat) ({ cls := "java/lang/StringUTF16", name := "checkBoundsOffCount", desc := "(II[B)V" } : Jvm.MethodName)) ∈ tables_1 := List.mem_of_getElem? (i := 282) rfl
theorem tw283 : (Jvm.Cond.static ({ cls := "java/lang/StringUTF16", name := "checkBoundsOffCount", desc := "(II[B)V" } : Jvm.MethodName)) ∈ tables_1 := List.mem_of_getElem? (i := 283) rfl
theorem tw284 : (Jvm.Cond.code ({ cls := "java/lang/StringUTF16", name := "checkBoundsOffCount", desc := "(II[B)V" } : Jvm.MethodName) jdk_52_method_94_code (3 : Nat) (Option.none : Option Jvm.ClassFile.FieldType)) ∈ tables_1 := List.mem_of_getElem? (i := 284) rfl
theorem tw285 : (Jvm.Cond.methodLink "java/lang/StringUTF16" (419 : Nat) ({ cls := "java/lang/String", name := "checkBoundsOffCount", desc := "(III)I" } : Jvm.MethodName)) ∈ tables_1 := List.mem_of_getElem? (i := 285) rfl
theorem tw286 : (Jvm.Cond.static ({ cls := "java/lang/String", name := "checkBoundsOffCount", desc := "(III)I" } : Jvm.MethodName)) ∈ tables_1 := List.mem_of_getElem? (i := 286) rfl
theorem tw287 : (Jvm.Cond.code ({ cls := "java/lang/String", name := "checkBoundsOffCount", desc := "(III)I" } : Jvm.MethodName) jdk_42_method_157_code (3 : Nat) (Option.some Jvm.ClassFile.FieldType.int)) ∈ tables_1 := List.mem_of_getElem? (i := 287) rfl
theorem tw288 : (Jvm.Cond.methodLink "java/lang/String" (1065 : Nat) ({ cls := "jdk/internal/util/Preconditions", name := "checkFromIndexSize", desc := "(IIILjava/util/function/BiFunction;)I" } : Jvm.MethodName)) ∈ tables_1 := List.mem_of_getElem? (i := 288) rfl
theorem tw289 : (Jvm.Cond.static ({ cls := "jdk/internal/util/Preconditions", name := "checkFromIndexSize", desc := "(IIILjava/util/function/BiFunction;)I" } : Jvm.MethodName)) ∈ tables_1 := List.mem_of_getElem? (i := 289) rfl
theorem tw290 : (Jvm.Cond.code ({ cls := "jdk/internal/util/Preconditions", name := "checkFromIndexSize", desc := "(IIILjava/util/function/BiFunction;)I" } : Jvm.MethodName) jdk_41_method_13_code (4 : Nat) (Option.some Jvm.ClassFile.FieldType.int)) ∈ tables_1 := List.mem_of_getElem? (i := 290) rfl
theorem tw291 : (Jvm.Cond.fieldLink "java/lang/String" (1048 : Nat) "java/lang/AbstractStringBuilder" "maybeLatin1" "Z") ∈ tables_1 := List.mem_of_getElem? (i := 291) rfl
theorem tw292 : (Jvm.Cond.lays "java/lang/StringBuilder" "java/lang/AbstractStringBuilder" "maybeLatin1" "Z") ∈ tables_1 := List.mem_of_getElem? (i := 292) rfl
theorem tw293 : (Jvm.Cond.methodLink "java/lang/String" (106 : Nat) ({ cls := "java/lang/StringLatin1", name := "inflate", desc := "([BI[BII)V" } : Jvm.MethodName)) ∈ tables_1 := List.mem_of_getElem? (i := 293) rfl
theorem tw294 : (Jvm.Cond.methodLink "java/lang/String" (1021 : Nat) ({ cls := "java/lang/StringUTF16", name := "toBytes", desc := "(C)[B" } : Jvm.MethodName)) ∈ tables_1 := List.mem_of_getElem? (i := 294) rfl
theorem tw295 : (Jvm.Cond.static ({ cls := "java/lang/StringUTF16", name := "toBytes", desc := "(C)[B" } : Jvm.MethodName)) ∈ tables_1 := List.mem_of_getElem? (i := 295) rfl
theorem tw296 : (Jvm.Cond.code ({ cls := "java/lang/StringUTF16", name := "toBytes", desc := "(C)[B" } : Jvm.MethodName) jdk_52_method_24_code (2 : Nat) (Option.some (Jvm.ClassFile.FieldType.array Jvm.ClassFile.FieldType.byte))) ∈ tables_1 := List.mem_of_getElem? (i := 296) rfl
theorem tw297 : (Jvm.Cond.constant "com/example/dommel/dommel/KeySpaceKeyPinLaw" (9 : Nat) (57344 : Int32)) ∈ tables_1 := List.mem_of_getElem? (i := 297) rfl
theorem tw298 : (Jvm.Cond.constant "com/example/dommel/dommel/KeySpaceKeyPinLaw" (10 : Nat) (32768 : Int32)) ∈ tables_1 := List.mem_of_getElem? (i := 298) rfl
theorem db0_3 : Dec jdk_52_method_21_code 3 (.iload 5) 2 5 := ⟨by decide +kernel, rfl⟩
theorem db0_5 : Dec jdk_52_method_21_code 5 (.iload 4) 2 7 := ⟨by decide +kernel, rfl⟩
theorem db0_7 : DecJ jdk_52_method_21_code 7 (.if_icmp .ge 37) (37) 10 44 := ⟨by decide +kernel, rfl, by decide, by decide⟩
theorem db0_44 : Dec jdk_52_method_21_code 44 (.iload 4) 2 46 := ⟨by decide +kernel, rfl⟩
theorem db0_46 : Dec jdk_52_method_21_code 46 (.ireturn) 1 47 := ⟨by decide +kernel, rfl⟩
theorem db0_10 : Dec jdk_52_method_21_code 10 (.aload_n 0) 1 11 := ⟨by decide +kernel, rfl⟩
theorem db0_11 : Dec jdk_52_method_21_code 11 (.iload_n 1) 1 12 := ⟨by decide +kernel, rfl⟩
theorem db0_12 : Dec jdk_52_method_21_code 12 (.caload) 1 13 := ⟨by decide +kernel, rfl⟩
theorem db0_13 : Dec jdk_52_method_21_code 13 (.istore 6) 2 15 := ⟨by decide +kernel, rfl⟩
theorem db0_15 : Dec jdk_52_method_21_code 15 (.iload 6) 2 17 := ⟨by decide +kernel, rfl⟩
theorem db0_17 : Dec jdk_52_method_21_code 17 (.sipush 255) 3 20 := ⟨by decide +kernel, rfl⟩
theorem db0_20 : DecJ jdk_52_method_21_code 20 (.if_icmp .le 6) (6) 23 26 := ⟨by decide +kernel, rfl, by decide, by decide⟩
theorem db0_26 : Dec jdk_52_method_21_code 26 (.aload_n 2) 1 27 := ⟨by decide +kernel, rfl⟩
theorem db0_27 : Dec jdk_52_method_21_code 27 (.iload_n 3) 1 28 := ⟨by decide +kernel, rfl⟩
theorem db0_28 : Dec jdk_52_method_21_code 28 (.iload 6) 2 30 := ⟨by decide +kernel, rfl⟩
theorem db0_30 : Dec jdk_52_method_21_code 30 (.i2b) 1 31 := ⟨by decide +kernel, rfl⟩
theorem db0_31 : Dec jdk_52_method_21_code 31 (.bastore) 1 32 := ⟨by decide +kernel, rfl⟩
theorem db0_32 : Dec jdk_52_method_21_code 32 (.iinc 1 1) 3 35 := ⟨by decide +kernel, rfl⟩
theorem db0_35 : Dec jdk_52_method_21_code 35 (.iinc 3 1) 3 38 := ⟨by decide +kernel, rfl⟩
theorem db0_38 : Dec jdk_52_method_21_code 38 (.iinc 5 1) 3 41 := ⟨by decide +kernel, rfl⟩
theorem db0_41 : DecJ jdk_52_method_21_code 41 (.goto (-38)) (-38) 44 3 := ⟨by decide +kernel, rfl, by decide, by decide⟩
theorem db0_23 : Dec jdk_52_method_21_code 23 (.iload 5) 2 25 := ⟨by decide +kernel, rfl⟩
theorem db0_25 : Dec jdk_52_method_21_code 25 (.ireturn) 1 26 := ⟨by decide +kernel, rfl⟩
theorem db0_0 : Dec jdk_52_method_21_code 0 (.iconst 0) 1 1 := ⟨by decide +kernel, rfl⟩
theorem db0_1 : Dec jdk_52_method_21_code 1 (.istore 5) 2 3 := ⟨by decide +kernel, rfl⟩
theorem db1_0 : Dec jdk_52_method_15_code 0 (.iload_n 1) 1 1 := ⟨by decide +kernel, rfl⟩
theorem db1_1 : Dec jdk_52_method_15_code 1 (.aload_n 0) 1 2 := ⟨by decide +kernel, rfl⟩
theorem db1_2 : Dec jdk_52_method_15_code 2 (.arraylength) 1 3 := ⟨by decide +kernel, rfl⟩
theorem db1_3 : Dec jdk_52_method_15_code 3 (.isub) 1 4 := ⟨by decide +kernel, rfl⟩
theorem db1_4 : Dec jdk_52_method_15_code 4 (.bipush 31) 2 6 := ⟨by decide +kernel, rfl⟩
theorem db1_6 : Dec jdk_52_method_15_code 6 (.iushr) 1 7 := ⟨by decide +kernel, rfl⟩
theorem db1_7 : Dec jdk_52_method_15_code 7 (.i2b) 1 8 := ⟨by decide +kernel, rfl⟩
theorem db1_8 : Dec jdk_52_method_15_code 8 (.ireturn) 1 9 := ⟨by decide +kernel, rfl⟩
theorem db2_0 : Dec jdk_31_method_11_code 0 (.aload_n 0) 1 1 := ⟨by decide +kernel, rfl⟩
theorem db2_1 : DecJ jdk_31_method_11_code 1 (.ifnonnull 12) (12) 4 13 := ⟨by decide +kernel, rfl, by decide, by decide⟩
theorem db2_13 : Dec jdk_31_method_11_code 13 (.aload_n 0) 1 14 := ⟨by decide +kernel, rfl⟩
theorem db2_14 : Dec jdk_31_method_11_code 14 (.areturn) 1 15 := ⟨by decide +kernel, rfl⟩
theorem db3_0 : Dec jdk_42_method_152_code 0 (.getstatic 38) 3 3 := ⟨by decide +kernel, rfl⟩
theorem db3_3 : DecJ jdk_42_method_152_code 3 (.ifCond .eq 10) (10) 6 13 := ⟨by decide +kernel, rfl, by decide, by decide⟩
theorem db3_6 : Dec jdk_42_method_152_code 6 (.aload_n 0) 1 7 := ⟨by decide +kernel, rfl⟩
theorem db3_7 : Dec jdk_42_method_152_code 7 (.getfield 15) 3 10 := ⟨by decide +kernel, rfl⟩
theorem db3_10 : DecJ jdk_42_method_152_code 10 (.goto 4) (4) 13 14 := ⟨by decide +kernel, rfl, by decide, by decide⟩
theorem db3_14 : Dec jdk_42_method_152_code 14 (.ireturn) 1 15 := ⟨by decide +kernel, rfl⟩
theorem db4_0 : Dec jdk_42_method_54_code 0 (.aload_n 0) 1 1 := ⟨by decide +kernel, rfl⟩
theorem db4_1 : Dec jdk_42_method_54_code 1 (.getfield 9) 3 4 := ⟨by decide +kernel, rfl⟩
theorem db4_4 : Dec jdk_42_method_54_code 4 (.arraylength) 1 5 := ⟨by decide +kernel, rfl⟩
theorem db4_5 : Dec jdk_42_method_54_code 5 (.aload_n 0) 1 6 := ⟨by decide +kernel, rfl⟩
theorem db4_6 : Dec jdk_42_method_54_code 6 (.invokevirtual 335) 3 9 := ⟨by decide +kernel, rfl⟩
theorem db4_9 : Dec jdk_42_method_54_code 9 (.ishr) 1 10 := ⟨by decide +kernel, rfl⟩
theorem db4_10 : Dec jdk_42_method_54_code 10 (.ireturn) 1 11 := ⟨by decide +kernel, rfl⟩
theorem db5_0 : Dec jdk_42_method_154_code 0 (.getstatic 38) 3 3 := ⟨by decide +kernel, rfl⟩
theorem db5_3 : DecJ jdk_42_method_154_code 3 (.ifCond .eq 14) (14) 6 17 := ⟨by decide +kernel, rfl, by decide, by decide⟩
theorem db5_6 : Dec jdk_42_method_154_code 6 (.aload_n 0) 1 7 := ⟨by decide +kernel, rfl⟩
theorem db5_7 : Dec jdk_42_method_154_code 7 (.getfield 15) 3 10 := ⟨by decide +kernel, rfl⟩
theorem db5_10 : DecJ jdk_42_method_154_code 10 (.ifCond .ne 7) (7) 13 17 := ⟨by decide +kernel, rfl, by decide, by decide⟩
theorem db5_17 : Dec jdk_42_method_154_code 17 (.iconst 0) 1 18 := ⟨by decide +kernel, rfl⟩
theorem db5_18 : Dec jdk_42_method_154_code 18 (.ireturn) 1 19 := ⟨by decide +kernel, rfl⟩
theorem db5_13 : Dec jdk_42_method_154_code 13 (.iconst 1) 1 14 := ⟨by decide +kernel, rfl⟩
theorem db5_14 : DecJ jdk_42_method_154_code 14 (.goto 4) (4) 17 18 := ⟨by decide +kernel, rfl, by decide, by decide⟩
theorem db6_0 : Dec jdk_41_method_11_code 0 (.iload_n 0) 1 1 := ⟨by decide +kernel, rfl⟩
theorem db6_1 : DecJ jdk_41_method_11_code 1 (.ifCond .lt 8) (8) 4 9 := ⟨by decide +kernel, rfl, by decide, by decide⟩
theorem db6_4 : Dec jdk_41_method_11_code 4 (.iload_n 0) 1 5 := ⟨by decide +kernel, rfl⟩
theorem db6_5 : Dec jdk_41_method_11_code 5 (.iload_n 1) 1 6 := ⟨by decide +kernel, rfl⟩
theorem db6_6 : DecJ jdk_41_method_11_code 6 (.if_icmp .lt 10) (10) 9 16 := ⟨by decide +kernel, rfl, by decide, by decide⟩
theorem db6_16 : Dec jdk_41_method_11_code 16 (.iload_n 0) 1 17 := ⟨by decide +kernel, rfl⟩
theorem db6_17 : Dec jdk_41_method_11_code 17 (.ireturn) 1 18 := ⟨by decide +kernel, rfl⟩
theorem db7_0 : Dec jdk_42_method_155_code 0 (.iload_n 0) 1 1 := ⟨by decide +kernel, rfl⟩
theorem db7_1 : Dec jdk_42_method_155_code 1 (.iload_n 1) 1 2 := ⟨by decide +kernel, rfl⟩
theorem db7_2 : Dec jdk_42_method_155_code 2 (.getstatic 1053) 3 5 := ⟨by decide +kernel, rfl⟩
theorem db7_5 : Dec jdk_42_method_155_code 5 (.invokestatic 1059) 3 8 := ⟨by decide +kernel, rfl⟩
theorem db7_8 : Dec jdk_42_method_155_code 8 (.pop) 1 9 := ⟨by decide +kernel, rfl⟩
theorem db7_9 : Dec jdk_42_method_155_code 9 (.return_) 1 10 := ⟨by decide +kernel, rfl⟩
theorem db8_0 : Dec jdk_43_method_2_code 0 (.iload_n 1) 1 1 := ⟨by decide +kernel, rfl⟩
theorem db8_1 : Dec jdk_43_method_2_code 1 (.aload_n 0) 1 2 := ⟨by decide +kernel, rfl⟩
theorem db8_2 : Dec jdk_43_method_2_code 2 (.arraylength) 1 3 := ⟨by decide +kernel, rfl⟩
theorem db8_3 : Dec jdk_43_method_2_code 3 (.invokestatic 9) 3 6 := ⟨by decide +kernel, rfl⟩
theorem db8_6 : Dec jdk_43_method_2_code 6 (.aload_n 0) 1 7 := ⟨by decide +kernel, rfl⟩
theorem db8_7 : Dec jdk_43_method_2_code 7 (.iload_n 1) 1 8 := ⟨by decide +kernel, rfl⟩
theorem db8_8 : Dec jdk_43_method_2_code 8 (.baload) 1 9 := ⟨by decide +kernel, rfl⟩
theorem db8_9 : Dec jdk_43_method_2_code 9 (.sipush 255) 3 12 := ⟨by decide +kernel, rfl⟩
theorem db8_12 : Dec jdk_43_method_2_code 12 (.iand) 1 13 := ⟨by decide +kernel, rfl⟩
theorem db8_13 : Dec jdk_43_method_2_code 13 (.i2c) 1 14 := ⟨by decide +kernel, rfl⟩
theorem db8_14 : Dec jdk_43_method_2_code 14 (.ireturn) 1 15 := ⟨by decide +kernel, rfl⟩
theorem db9_0 : Dec jdk_42_method_55_code 0 (.aload_n 0) 1 1 := ⟨by decide +kernel, rfl⟩
theorem db9_1 : Dec jdk_42_method_55_code 1 (.getfield 9) 3 4 := ⟨by decide +kernel, rfl⟩
theorem db9_4 : Dec jdk_42_method_55_code 4 (.arraylength) 1 5 := ⟨by decide +kernel, rfl⟩
theorem db9_5 : DecJ jdk_42_method_55_code 5 (.ifCond .ne 7) (7) 8 12 := ⟨by decide +kernel, rfl, by decide, by decide⟩
theorem db9_12 : Dec jdk_42_method_55_code 12 (.iconst 0) 1 13 := ⟨by decide +kernel, rfl⟩
theorem db9_13 : Dec jdk_42_method_55_code 13 (.ireturn) 1 14 := ⟨by decide +kernel, rfl⟩
theorem db9_8 : Dec jdk_42_method_55_code 8 (.iconst 1) 1 9 := ⟨by decide +kernel, rfl⟩
theorem db9_9 : DecJ jdk_42_method_55_code 9 (.goto 4) (4) 12 13 := ⟨by decide +kernel, rfl, by decide, by decide⟩
theorem db10_0 : Dec jdk_52_method_3_code 0 (.iload_n 0) 1 1 := ⟨by decide +kernel, rfl⟩
theorem db10_1 : DecJ jdk_52_method_3_code 1 (.ifCond .ge 11) (11) 4 12 := ⟨by decide +kernel, rfl, by decide, by decide⟩
theorem db10_12 : Dec jdk_52_method_3_code 12 (.iload_n 0) 1 13 := ⟨by decide +kernel, rfl⟩
theorem db10_13 : Dec jdk_52_method_3_code 13 (.ldc 20) 2 15 := ⟨by decide +kernel, rfl⟩
theorem db10_15 : DecJ jdk_52_method_3_code 15 (.if_icmp .lt 40) (40) 18 55 := ⟨by decide +kernel, rfl, by decide, by decide⟩
theorem db10_55 : Dec jdk_52_method_3_code 55 (.iload_n 0) 1 56 := ⟨by decide +kernel, rfl⟩
theorem db10_56 : Dec jdk_52_method_3_code 56 (.iconst 1) 1 57 := ⟨by decide +kernel, rfl⟩
theorem db10_57 : Dec jdk_52_method_3_code 57 (.ishl) 1 58 := ⟨by decide +kernel, rfl⟩
theorem db10_58 : Dec jdk_52_method_3_code 58 (.ireturn) 1 59 := ⟨by decide +kernel, rfl⟩
theorem db11_0 : Dec jdk_52_method_2_code 0 (.iload_n 0) 1 1 := ⟨by decide +kernel, rfl⟩
theorem db11_1 : Dec jdk_52_method_2_code 1 (.invokestatic 11) 3 4 := ⟨by decide +kernel, rfl⟩
theorem db11_4 : Dec jdk_52_method_2_code 4 (.newarray .byte) 2 6 := ⟨by decide +kernel, rfl⟩
theorem db11_6 : Dec jdk_52_method_2_code 6 (.areturn) 1 7 := ⟨by decide +kernel, rfl⟩
theorem db12_0 : Dec jdk_52_method_4_code 0 (.getstatic 44) 3 3 := ⟨by decide +kernel, rfl⟩
theorem db12_3 : DecJ jdk_52_method_4_code 3 (.ifCond .ne 25) (25) 6 28 := ⟨by decide +kernel, rfl, by decide, by decide⟩
theorem db12_28 : Dec jdk_52_method_4_code 28 (.iload_n 1) 1 29 := ⟨by decide +kernel, rfl⟩
theorem db12_29 : Dec jdk_52_method_4_code 29 (.iconst 1) 1 30 := ⟨by decide +kernel, rfl⟩
theorem db12_30 : Dec jdk_52_method_4_code 30 (.ishl) 1 31 := ⟨by decide +kernel, rfl⟩
theorem db12_31 : Dec jdk_52_method_4_code 31 (.istore_n 1) 1 32 := ⟨by decide +kernel, rfl⟩
theorem db12_32 : Dec jdk_52_method_4_code 32 (.aload_n 0) 1 33 := ⟨by decide +kernel, rfl⟩
theorem db12_33 : Dec jdk_52_method_4_code 33 (.iload_n 1) 1 34 := ⟨by decide +kernel, rfl⟩
theorem db12_34 : Dec jdk_52_method_4_code 34 (.iinc 1 1) 3 37 := ⟨by decide +kernel, rfl⟩
theorem db12_37 : Dec jdk_52_method_4_code 37 (.iload_n 2) 1 38 := ⟨by decide +kernel, rfl⟩
theorem db12_38 : Dec jdk_52_method_4_code 38 (.getstatic 59) 3 41 := ⟨by decide +kernel, rfl⟩
theorem db12_41 : Dec jdk_52_method_4_code 41 (.ishr) 1 42 := ⟨by decide +kernel, rfl⟩
theorem db12_42 : Dec jdk_52_method_4_code 42 (.i2b) 1 43 := ⟨by decide +kernel, rfl⟩
theorem db12_43 : Dec jdk_52_method_4_code 43 (.bastore) 1 44 := ⟨by decide +kernel, rfl⟩
theorem db12_44 : Dec jdk_52_method_4_code 44 (.aload_n 0) 1 45 := ⟨by decide +kernel, rfl⟩
theorem db12_45 : Dec jdk_52_method_4_code 45 (.iload_n 1) 1 46 := ⟨by decide +kernel, rfl⟩
theorem db12_46 : Dec jdk_52_method_4_code 46 (.iload_n 2) 1 47 := ⟨by decide +kernel, rfl⟩
theorem db12_47 : Dec jdk_52_method_4_code 47 (.getstatic 63) 3 50 := ⟨by decide +kernel, rfl⟩
theorem db12_50 : Dec jdk_52_method_4_code 50 (.ishr) 1 51 := ⟨by decide +kernel, rfl⟩
theorem db12_51 : Dec jdk_52_method_4_code 51 (.i2b) 1 52 := ⟨by decide +kernel, rfl⟩
theorem db12_52 : Dec jdk_52_method_4_code 52 (.bastore) 1 53 := ⟨by decide +kernel, rfl⟩
theorem db12_53 : Dec jdk_52_method_4_code 53 (.return_) 1 54 := ⟨by decide +kernel, rfl⟩
theorem db13_8 : Dec jdk_52_method_14_code 8 (.iload 4) 2 10 := ⟨by decide +kernel, rfl⟩
theorem db13_10 : Dec jdk_52_method_14_code 10 (.iload_n 2) 1 11 := ⟨by decide +kernel, rfl⟩
theorem db13_11 : DecJ jdk_52_method_14_code 11 (.if_icmp .ge 21) (21) 14 32 := ⟨by decide +kernel, rfl, by decide, by decide⟩
theorem db13_32 : Dec jdk_52_method_14_code 32 (.aload_n 3) 1 33 := ⟨by decide +kernel, rfl⟩
theorem db13_33 : Dec jdk_52_method_14_code 33 (.areturn) 1 34 := ⟨by decide +kernel, rfl⟩
theorem db13_14 : Dec jdk_52_method_14_code 14 (.aload_n 3) 1 15 := ⟨by decide +kernel, rfl⟩
theorem db13_15 : Dec jdk_52_method_14_code 15 (.iload 4) 2 17 := ⟨by decide +kernel, rfl⟩
theorem db13_17 : Dec jdk_52_method_14_code 17 (.aload_n 0) 1 18 := ⟨by decide +kernel, rfl⟩
theorem db13_18 : Dec jdk_52_method_14_code 18 (.iload_n 1) 1 19 := ⟨by decide +kernel, rfl⟩
theorem db13_19 : Dec jdk_52_method_14_code 19 (.caload) 1 20 := ⟨by decide +kernel, rfl⟩
theorem db13_20 : Dec jdk_52_method_14_code 20 (.invokestatic 111) 3 23 := ⟨by decide +kernel, rfl⟩
theorem db13_23 : Dec jdk_52_method_14_code 23 (.iinc 1 1) 3 26 := ⟨by decide +kernel, rfl⟩
theorem db13_26 : Dec jdk_52_method_14_code 26 (.iinc 4 1) 3 29 := ⟨by decide +kernel, rfl⟩
theorem db13_29 : DecJ jdk_52_method_14_code 29 (.goto (-21)) (-21) 32 8 := ⟨by decide +kernel, rfl, by decide, by decide⟩
theorem db13_0 : Dec jdk_52_method_14_code 0 (.iload_n 2) 1 1 := ⟨by decide +kernel, rfl⟩
theorem db13_1 : Dec jdk_52_method_14_code 1 (.invokestatic 107) 3 4 := ⟨by decide +kernel, rfl⟩
theorem db13_4 : Dec jdk_52_method_14_code 4 (.astore_n 3) 1 5 := ⟨by decide +kernel, rfl⟩
theorem db13_5 : Dec jdk_52_method_14_code 5 (.iconst 0) 1 6 := ⟨by decide +kernel, rfl⟩
theorem db13_6 : Dec jdk_52_method_14_code 6 (.istore 4) 2 8 := ⟨by decide +kernel, rfl⟩
theorem db14_0 : Dec jdk_52_method_5_code 0 (.getstatic 44) 3 3 := ⟨by decide +kernel, rfl⟩
theorem db14_3 : DecJ jdk_52_method_5_code 3 (.ifCond .ne 25) (25) 6 28 := ⟨by decide +kernel, rfl, by decide, by decide⟩
theorem db14_28 : Dec jdk_52_method_5_code 28 (.iload_n 1) 1 29 := ⟨by decide +kernel, rfl⟩
theorem db14_29 : Dec jdk_52_method_5_code 29 (.iconst 1) 1 30 := ⟨by decide +kernel, rfl⟩
theorem db14_30 : Dec jdk_52_method_5_code 30 (.ishl) 1 31 := ⟨by decide +kernel, rfl⟩
theorem db14_31 : Dec jdk_52_method_5_code 31 (.istore_n 1) 1 32 := ⟨by decide +kernel, rfl⟩
theorem db14_32 : Dec jdk_52_method_5_code 32 (.aload_n 0) 1 33 := ⟨by decide +kernel, rfl⟩
theorem db14_33 : Dec jdk_52_method_5_code 33 (.iload_n 1) 1 34 := ⟨by decide +kernel, rfl⟩
theorem db14_34 : Dec jdk_52_method_5_code 34 (.iinc 1 1) 3 37 := ⟨by decide +kernel, rfl⟩
theorem db14_37 : Dec jdk_52_method_5_code 37 (.baload) 1 38 := ⟨by decide +kernel, rfl⟩
theorem db14_38 : Dec jdk_52_method_5_code 38 (.sipush 255) 3 41 := ⟨by decide +kernel, rfl⟩
theorem db14_41 : Dec jdk_52_method_5_code 41 (.iand) 1 42 := ⟨by decide +kernel, rfl⟩
theorem db14_42 : Dec jdk_52_method_5_code 42 (.getstatic 59) 3 45 := ⟨by decide +kernel, rfl⟩
theorem db14_45 : Dec jdk_52_method_5_code 45 (.ishl) 1 46 := ⟨by decide +kernel, rfl⟩
theorem db14_46 : Dec jdk_52_method_5_code 46 (.aload_n 0) 1 47 := ⟨by decide +kernel, rfl⟩
theorem db14_47 : Dec jdk_52_method_5_code 47 (.iload_n 1) 1 48 := ⟨by decide +kernel, rfl⟩
theorem db14_48 : Dec jdk_52_method_5_code 48 (.baload) 1 49 := ⟨by decide +kernel, rfl⟩
theorem db14_49 : Dec jdk_52_method_5_code 49 (.sipush 255) 3 52 := ⟨by decide +kernel, rfl⟩
theorem db14_52 : Dec jdk_52_method_5_code 52 (.iand) 1 53 := ⟨by decide +kernel, rfl⟩
theorem db14_53 : Dec jdk_52_method_5_code 53 (.getstatic 63) 3 56 := ⟨by decide +kernel, rfl⟩
theorem db14_56 : Dec jdk_52_method_5_code 56 (.ishl) 1 57 := ⟨by decide +kernel, rfl⟩
theorem db14_57 : Dec jdk_52_method_5_code 57 (.ior) 1 58 := ⟨by decide +kernel, rfl⟩
theorem db14_58 : Dec jdk_52_method_5_code 58 (.i2c) 1 59 := ⟨by decide +kernel, rfl⟩
theorem db14_59 : Dec jdk_52_method_5_code 59 (.ireturn) 1 60 := ⟨by decide +kernel, rfl⟩
theorem db15_0 : Dec jdk_52_method_16_code 0 (.iload_n 2) 1 1 := ⟨by decide +kernel, rfl⟩
theorem db15_1 : Dec jdk_52_method_16_code 1 (.newarray .byte) 2 3 := ⟨by decide +kernel, rfl⟩
theorem db15_3 : Dec jdk_52_method_16_code 3 (.astore_n 3) 1 4 := ⟨by decide +kernel, rfl⟩
theorem db15_4 : Dec jdk_52_method_16_code 4 (.aload_n 0) 1 5 := ⟨by decide +kernel, rfl⟩
theorem db15_5 : Dec jdk_52_method_16_code 5 (.iload_n 1) 1 6 := ⟨by decide +kernel, rfl⟩
theorem db15_6 : Dec jdk_52_method_16_code 6 (.aload_n 3) 1 7 := ⟨by decide +kernel, rfl⟩
theorem db15_7 : Dec jdk_52_method_16_code 7 (.iconst 0) 1 8 := ⟨by decide +kernel, rfl⟩
theorem db15_8 : Dec jdk_52_method_16_code 8 (.iload_n 2) 1 9 := ⟨by decide +kernel, rfl⟩
theorem db15_9 : Dec jdk_52_method_16_code 9 (.invokestatic 115) 3 12 := ⟨by decide +kernel, rfl⟩
theorem db15_12 : Dec jdk_52_method_16_code 12 (.istore 4) 2 14 := ⟨by decide +kernel, rfl⟩
theorem db15_14 : Dec jdk_52_method_16_code 14 (.iload 4) 2 16 := ⟨by decide +kernel, rfl⟩
theorem db15_16 : Dec jdk_52_method_16_code 16 (.iload_n 2) 1 17 := ⟨by decide +kernel, rfl⟩
theorem db15_17 : DecJ jdk_52_method_16_code 17 (.if_icmp .eq 40) (40) 20 57 := ⟨by decide +kernel, rfl, by decide, by decide⟩
theorem db15_57 : Dec jdk_52_method_16_code 57 (.aload_n 3) 1 58 := ⟨by decide +kernel, rfl⟩
theorem db15_58 : Dec jdk_52_method_16_code 58 (.areturn) 1 59 := ⟨by decide +kernel, rfl⟩
theorem db15_20 : Dec jdk_52_method_16_code 20 (.aload_n 0) 1 21 := ⟨by decide +kernel, rfl⟩
theorem db15_21 : Dec jdk_52_method_16_code 21 (.iload_n 1) 1 22 := ⟨by decide +kernel, rfl⟩
theorem db15_22 : Dec jdk_52_method_16_code 22 (.iload_n 2) 1 23 := ⟨by decide +kernel, rfl⟩
theorem db15_23 : Dec jdk_52_method_16_code 23 (.invokestatic 119) 3 26 := ⟨by decide +kernel, rfl⟩
theorem db15_26 : Dec jdk_52_method_16_code 26 (.astore 5) 2 28 := ⟨by decide +kernel, rfl⟩
theorem db15_28 : Dec jdk_52_method_16_code 28 (.aload 5) 2 30 := ⟨by decide +kernel, rfl⟩
theorem db15_30 : Dec jdk_52_method_16_code 30 (.iload 4) 2 32 := ⟨by decide +kernel, rfl⟩
theorem db15_32 : Dec jdk_52_method_16_code 32 (.invokestatic 71) 3 35 := ⟨by decide +kernel, rfl⟩
theorem db15_35 : Dec jdk_52_method_16_code 35 (.sipush 255) 3 38 := ⟨by decide +kernel, rfl⟩
theorem db15_38 : DecJ jdk_52_method_16_code 38 (.if_icmp .gt 16) (16) 41 54 := ⟨by decide +kernel, rfl, by decide, by decide⟩
theorem db15_54 : Dec jdk_52_method_16_code 54 (.aload 5) 2 56 := ⟨by decide +kernel, rfl⟩
theorem db15_56 : Dec jdk_52_method_16_code 56 (.areturn) 1 57 := ⟨by decide +kernel, rfl⟩
theorem db16_0 : Dec jdk_42_method_149_code 0 (.aload_n 0) 1 1 := ⟨by decide +kernel, rfl⟩
theorem db16_1 : Dec jdk_42_method_149_code 1 (.invokespecial 1) 3 4 := ⟨by decide +kernel, rfl⟩
theorem db16_4 : Dec jdk_42_method_149_code 4 (.iload_n 3) 1 5 := ⟨by decide +kernel, rfl⟩
theorem db16_5 : DecJ jdk_42_method_149_code 5 (.ifCond .ne 22) (22) 8 27 := ⟨by decide +kernel, rfl, by decide, by decide⟩
theorem db16_27 : Dec jdk_42_method_149_code 27 (.getstatic 38) 3 30 := ⟨by decide +kernel, rfl⟩
theorem db16_30 : DecJ jdk_42_method_149_code 30 (.ifCond .eq 28) (28) 33 58 := ⟨by decide +kernel, rfl, by decide, by decide⟩
theorem db16_33 : Dec jdk_42_method_149_code 33 (.aload_n 1) 1 34 := ⟨by decide +kernel, rfl⟩
theorem db16_34 : Dec jdk_42_method_149_code 34 (.iload_n 2) 1 35 := ⟨by decide +kernel, rfl⟩
theorem db16_35 : Dec jdk_42_method_149_code 35 (.iload_n 3) 1 36 := ⟨by decide +kernel, rfl⟩
theorem db16_36 : Dec jdk_42_method_149_code 36 (.invokestatic 177) 3 39 := ⟨by decide +kernel, rfl⟩
theorem db16_39 : Dec jdk_42_method_149_code 39 (.astore 5) 2 41 := ⟨by decide +kernel, rfl⟩
theorem db16_41 : Dec jdk_42_method_149_code 41 (.aload_n 0) 1 42 := ⟨by decide +kernel, rfl⟩
theorem db16_42 : Dec jdk_42_method_149_code 42 (.aload 5) 2 44 := ⟨by decide +kernel, rfl⟩
theorem db16_44 : Dec jdk_42_method_149_code 44 (.iload_n 3) 1 45 := ⟨by decide +kernel, rfl⟩
theorem db16_45 : Dec jdk_42_method_149_code 45 (.invokestatic 47) 3 48 := ⟨by decide +kernel, rfl⟩
theorem db16_48 : Dec jdk_42_method_149_code 48 (.putfield 15) 3 51 := ⟨by decide +kernel, rfl⟩
theorem db16_51 : Dec jdk_42_method_149_code 51 (.aload_n 0) 1 52 := ⟨by decide +kernel, rfl⟩
theorem db16_52 : Dec jdk_42_method_149_code 52 (.aload 5) 2 54 := ⟨by decide +kernel, rfl⟩
theorem db16_54 : Dec jdk_42_method_149_code 54 (.putfield 9) 3 57 := ⟨by decide +kernel, rfl⟩
theorem db16_57 : Dec jdk_42_method_149_code 57 (.return_) 1 58 := ⟨by decide +kernel, rfl⟩
theorem db17_0 : Dec jdk_42_method_3_code 0 (.aload_n 0) 1 1 := ⟨by decide +kernel, rfl⟩
theorem db17_1 : Dec jdk_42_method_3_code 1 (.aload_n 1) 1 2 := ⟨by decide +kernel, rfl⟩
theorem db17_2 : Dec jdk_42_method_3_code 2 (.iconst 0) 1 3 := ⟨by decide +kernel, rfl⟩
theorem db17_3 : Dec jdk_42_method_3_code 3 (.aload_n 1) 1 4 := ⟨by decide +kernel, rfl⟩
theorem db17_4 : Dec jdk_42_method_3_code 4 (.arraylength) 1 5 := ⟨by decide +kernel, rfl⟩
theorem db17_5 : Dec jdk_42_method_3_code 5 (.aconst_null) 1 6 := ⟨by decide +kernel, rfl⟩
theorem db17_6 : Dec jdk_42_method_3_code 6 (.invokespecial 27) 3 9 := ⟨by decide +kernel, rfl⟩
theorem db17_9 : Dec jdk_42_method_3_code 9 (.return_) 1 10 := ⟨by decide +kernel, rfl⟩
theorem db18_0 : Dec jdk_52_method_6_code 0 (.aload_n 0) 1 1 := ⟨by decide +kernel, rfl⟩
theorem db18_1 : Dec jdk_52_method_6_code 1 (.arraylength) 1 2 := ⟨by decide +kernel, rfl⟩
theorem db18_2 : Dec jdk_52_method_6_code 2 (.iconst 1) 1 3 := ⟨by decide +kernel, rfl⟩
theorem db18_3 : Dec jdk_52_method_6_code 3 (.ishr) 1 4 := ⟨by decide +kernel, rfl⟩
theorem db18_4 : Dec jdk_52_method_6_code 4 (.ireturn) 1 5 := ⟨by decide +kernel, rfl⟩
theorem db19_0 : Dec jdk_52_method_91_code 0 (.iload_n 0) 1 1 := ⟨by decide +kernel, rfl⟩
theorem db19_1 : Dec jdk_52_method_91_code 1 (.aload_n 1) 1 2 := ⟨by decide +kernel, rfl⟩
theorem db19_2 : Dec jdk_52_method_91_code 2 (.invokestatic 48) 3 5 := ⟨by decide +kernel, rfl⟩
theorem db19_5 : Dec jdk_52_method_91_code 5 (.invokestatic 414) 3 8 := ⟨by decide +kernel, rfl⟩
theorem db19_8 : Dec jdk_52_method_91_code 8 (.return_) 1 9 := ⟨by decide +kernel, rfl⟩
theorem db20_0 : Dec jdk_52_method_83_code 0 (.iload_n 1) 1 1 := ⟨by decide +kernel, rfl⟩
theorem db20_1 : Dec jdk_52_method_83_code 1 (.aload_n 0) 1 2 := ⟨by decide +kernel, rfl⟩
theorem db20_2 : Dec jdk_52_method_83_code 2 (.invokestatic 67) 3 5 := ⟨by decide +kernel, rfl⟩
theorem db20_5 : Dec jdk_52_method_83_code 5 (.aload_n 0) 1 6 := ⟨by decide +kernel, rfl⟩
theorem db20_6 : Dec jdk_52_method_83_code 6 (.iload_n 1) 1 7 := ⟨by decide +kernel, rfl⟩
theorem db20_7 : Dec jdk_52_method_83_code 7 (.invokestatic 71) 3 10 := ⟨by decide +kernel, rfl⟩
theorem db20_10 : Dec jdk_52_method_83_code 10 (.ireturn) 1 11 := ⟨by decide +kernel, rfl⟩
theorem db21_0 : Dec jdk_42_method_56_code 0 (.aload_n 0) 1 1 := ⟨by decide +kernel, rfl⟩
theorem db21_1 : Dec jdk_42_method_56_code 1 (.invokevirtual 492) 3 4 := ⟨by decide +kernel, rfl⟩
theorem db21_4 : DecJ jdk_42_method_56_code 4 (.ifCond .eq 12) (12) 7 16 := ⟨by decide +kernel, rfl, by decide, by decide⟩
theorem db21_7 : Dec jdk_42_method_56_code 7 (.aload_n 0) 1 8 := ⟨by decide +kernel, rfl⟩
theorem db21_8 : Dec jdk_42_method_56_code 8 (.getfield 9) 3 11 := ⟨by decide +kernel, rfl⟩
theorem db21_11 : Dec jdk_42_method_56_code 11 (.iload_n 1) 1 12 := ⟨by decide +kernel, rfl⟩
theorem db21_12 : Dec jdk_42_method_56_code 12 (.invokestatic 495) 3 15 := ⟨by decide +kernel, rfl⟩
theorem db21_15 : Dec jdk_42_method_56_code 15 (.ireturn) 1 16 := ⟨by decide +kernel, rfl⟩
theorem db21_16 : Dec jdk_42_method_56_code 16 (.aload_n 0) 1 17 := ⟨by decide +kernel, rfl⟩
theorem db21_17 : Dec jdk_42_method_56_code 17 (.getfield 9) 3 20 := ⟨by decide +kernel, rfl⟩
theorem db21_20 : Dec jdk_42_method_56_code 20 (.iload_n 1) 1 21 := ⟨by decide +kernel, rfl⟩
theorem db21_21 : Dec jdk_42_method_56_code 21 (.invokestatic 498) 3 24 := ⟨by decide +kernel, rfl⟩
theorem db21_24 : Dec jdk_42_method_56_code 24 (.ireturn) 1 25 := ⟨by decide +kernel, rfl⟩
theorem db22_0 : Dec jdk_43_method_3_code 0 (.iload_n 0) 1 1 := ⟨by decide +kernel, rfl⟩
theorem db22_1 : Dec jdk_43_method_3_code 1 (.sipush 255) 3 4 := ⟨by decide +kernel, rfl⟩
theorem db22_4 : DecJ jdk_43_method_3_code 4 (.if_icmp .gt 7) (7) 7 11 := ⟨by decide +kernel, rfl, by decide, by decide⟩
theorem db22_11 : Dec jdk_43_method_3_code 11 (.iconst 0) 1 12 := ⟨by decide +kernel, rfl⟩
theorem db22_12 : Dec jdk_43_method_3_code 12 (.ireturn) 1 13 := ⟨by decide +kernel, rfl⟩
theorem db22_7 : Dec jdk_43_method_3_code 7 (.iconst 1) 1 8 := ⟨by decide +kernel, rfl⟩
theorem db22_8 : DecJ jdk_43_method_3_code 8 (.goto 4) (4) 11 12 := ⟨by decide +kernel, rfl, by decide, by decide⟩
theorem db23_0 : Dec jdk_43_method_46_code 0 (.iconst 1) 1 1 := ⟨by decide +kernel, rfl⟩
theorem db23_1 : Dec jdk_43_method_46_code 1 (.newarray .byte) 2 3 := ⟨by decide +kernel, rfl⟩
theorem db23_3 : Dec jdk_43_method_46_code 3 (.dup) 1 4 := ⟨by decide +kernel, rfl⟩
theorem db23_4 : Dec jdk_43_method_46_code 4 (.iconst 0) 1 5 := ⟨by decide +kernel, rfl⟩
theorem db23_5 : Dec jdk_43_method_46_code 5 (.iload_n 0) 1 6 := ⟨by decide +kernel, rfl⟩
theorem db23_6 : Dec jdk_43_method_46_code 6 (.i2b) 1 7 := ⟨by decide +kernel, rfl⟩
theorem db23_7 : Dec jdk_43_method_46_code 7 (.bastore) 1 8 := ⟨by decide +kernel, rfl⟩
theorem db23_8 : Dec jdk_43_method_46_code 8 (.areturn) 1 9 := ⟨by decide +kernel, rfl⟩
theorem db24_0 : Dec jdk_42_method_151_code 0 (.aload_n 0) 1 1 := ⟨by decide +kernel, rfl⟩
theorem db24_1 : Dec jdk_42_method_151_code 1 (.invokespecial 1) 3 4 := ⟨by decide +kernel, rfl⟩
theorem db24_4 : Dec jdk_42_method_151_code 4 (.aload_n 0) 1 5 := ⟨by decide +kernel, rfl⟩
theorem db24_5 : Dec jdk_42_method_151_code 5 (.aload_n 1) 1 6 := ⟨by decide +kernel, rfl⟩
theorem db24_6 : Dec jdk_42_method_151_code 6 (.putfield 9) 3 9 := ⟨by decide +kernel, rfl⟩
theorem db24_9 : Dec jdk_42_method_151_code 9 (.aload_n 0) 1 10 := ⟨by decide +kernel, rfl⟩
theorem db24_10 : Dec jdk_42_method_151_code 10 (.iload_n 2) 1 11 := ⟨by decide +kernel, rfl⟩
theorem db24_11 : Dec jdk_42_method_151_code 11 (.putfield 15) 3 14 := ⟨by decide +kernel, rfl⟩
theorem db24_14 : Dec jdk_42_method_151_code 14 (.return_) 1 15 := ⟨by decide +kernel, rfl⟩
theorem db25_0 : Dec jdk_42_method_139_code 0 (.getstatic 38) 3 3 := ⟨by decide +kernel, rfl⟩
theorem db25_3 : DecJ jdk_42_method_139_code 3 (.ifCond .eq 23) (23) 6 26 := ⟨by decide +kernel, rfl, by decide, by decide⟩
theorem db25_6 : Dec jdk_42_method_139_code 6 (.iload_n 0) 1 7 := ⟨by decide +kernel, rfl⟩
theorem db25_7 : Dec jdk_42_method_139_code 7 (.invokestatic 1015) 3 10 := ⟨by decide +kernel, rfl⟩
theorem db25_10 : DecJ jdk_42_method_139_code 10 (.ifCond .eq 16) (16) 13 26 := ⟨by decide +kernel, rfl, by decide, by decide⟩
theorem db25_13 : Dec jdk_42_method_139_code 13 (.new 10) 3 16 := ⟨by decide +kernel, rfl⟩
theorem db25_16 : Dec jdk_42_method_139_code 16 (.dup) 1 17 := ⟨by decide +kernel, rfl⟩
theorem db25_17 : Dec jdk_42_method_139_code 17 (.iload_n 0) 1 18 := ⟨by decide +kernel, rfl⟩
theorem db25_18 : Dec jdk_42_method_139_code 18 (.invokestatic 1018) 3 21 := ⟨by decide +kernel, rfl⟩
theorem db25_21 : Dec jdk_42_method_139_code 21 (.iconst 0) 1 22 := ⟨by decide +kernel, rfl⟩
theorem db25_22 : Dec jdk_42_method_139_code 22 (.invokespecial 209) 3 25 := ⟨by decide +kernel, rfl⟩
theorem db25_25 : Dec jdk_42_method_139_code 25 (.areturn) 1 26 := ⟨by decide +kernel, rfl⟩
theorem db26_0 : Dec jdk_41_method_13_code 0 (.iload_n 2) 1 1 := ⟨by decide +kernel, rfl⟩
theorem db26_1 : Dec jdk_41_method_13_code 1 (.iload_n 0) 1 2 := ⟨by decide +kernel, rfl⟩
theorem db26_2 : Dec jdk_41_method_13_code 2 (.ior) 1 3 := ⟨by decide +kernel, rfl⟩
theorem db26_3 : Dec jdk_41_method_13_code 3 (.iload_n 1) 1 4 := ⟨by decide +kernel, rfl⟩
theorem db26_4 : Dec jdk_41_method_13_code 4 (.ior) 1 5 := ⟨by decide +kernel, rfl⟩
theorem db26_5 : DecJ jdk_41_method_13_code 5 (.ifCond .lt 10) (10) 8 15 := ⟨by decide +kernel, rfl, by decide, by decide⟩
theorem db26_8 : Dec jdk_41_method_13_code 8 (.iload_n 1) 1 9 := ⟨by decide +kernel, rfl⟩
theorem db26_9 : Dec jdk_41_method_13_code 9 (.iload_n 2) 1 10 := ⟨by decide +kernel, rfl⟩
theorem db26_10 : Dec jdk_41_method_13_code 10 (.iload_n 0) 1 11 := ⟨by decide +kernel, rfl⟩
theorem db26_11 : Dec jdk_41_method_13_code 11 (.isub) 1 12 := ⟨by decide +kernel, rfl⟩
theorem db26_12 : DecJ jdk_41_method_13_code 12 (.if_icmp .le 11) (11) 15 23 := ⟨by decide +kernel, rfl, by decide, by decide⟩
theorem db26_23 : Dec jdk_41_method_13_code 23 (.iload_n 0) 1 24 := ⟨by decide +kernel, rfl⟩
theorem db26_24 : Dec jdk_41_method_13_code 24 (.ireturn) 1 25 := ⟨by decide +kernel, rfl⟩
theorem db27_0 : Dec jdk_42_method_157_code 0 (.iload_n 0) 1 1 := ⟨by decide +kernel, rfl⟩
theorem db27_1 : Dec jdk_42_method_157_code 1 (.iload_n 1) 1 2 := ⟨by decide +kernel, rfl⟩
theorem db27_2 : Dec jdk_42_method_157_code 2 (.iload_n 2) 1 3 := ⟨by decide +kernel, rfl⟩
theorem db27_3 : Dec jdk_42_method_157_code 3 (.getstatic 1053) 3 6 := ⟨by decide +kernel, rfl⟩
theorem db27_6 : Dec jdk_42_method_157_code 6 (.invokestatic 1065) 3 9 := ⟨by decide +kernel, rfl⟩
theorem db27_9 : Dec jdk_42_method_157_code 9 (.ireturn) 1 10 := ⟨by decide +kernel, rfl⟩
theorem db28_0 : Dec jdk_52_method_94_code 0 (.iload_n 0) 1 1 := ⟨by decide +kernel, rfl⟩
theorem db28_1 : Dec jdk_52_method_94_code 1 (.iload_n 1) 1 2 := ⟨by decide +kernel, rfl⟩
theorem db28_2 : Dec jdk_52_method_94_code 2 (.aload_n 2) 1 3 := ⟨by decide +kernel, rfl⟩
theorem db28_3 : Dec jdk_52_method_94_code 3 (.invokestatic 48) 3 6 := ⟨by decide +kernel, rfl⟩
theorem db28_6 : Dec jdk_52_method_94_code 6 (.invokestatic 419) 3 9 := ⟨by decide +kernel, rfl⟩
theorem db28_9 : Dec jdk_52_method_94_code 9 (.pop) 1 10 := ⟨by decide +kernel, rfl⟩
theorem db28_10 : Dec jdk_52_method_94_code 10 (.return_) 1 11 := ⟨by decide +kernel, rfl⟩
theorem db29_10 : Dec jdk_52_method_86_code 10 (.iload 5) 2 12 := ⟨by decide +kernel, rfl⟩
theorem db29_12 : Dec jdk_52_method_86_code 12 (.iload 4) 2 14 := ⟨by decide +kernel, rfl⟩
theorem db29_14 : DecJ jdk_52_method_86_code 14 (.if_icmp .ge 27) (27) 17 41 := ⟨by decide +kernel, rfl, by decide, by decide⟩
theorem db29_41 : Dec jdk_52_method_86_code 41 (.return_) 1 42 := ⟨by decide +kernel, rfl⟩
theorem db29_17 : Dec jdk_52_method_86_code 17 (.aload_n 2) 1 18 := ⟨by decide +kernel, rfl⟩
theorem db29_18 : Dec jdk_52_method_86_code 18 (.iload_n 3) 1 19 := ⟨by decide +kernel, rfl⟩
theorem db29_19 : Dec jdk_52_method_86_code 19 (.iinc 3 1) 3 22 := ⟨by decide +kernel, rfl⟩
theorem db29_22 : Dec jdk_52_method_86_code 22 (.aload_n 0) 1 23 := ⟨by decide +kernel, rfl⟩
theorem db29_23 : Dec jdk_52_method_86_code 23 (.iload_n 1) 1 24 := ⟨by decide +kernel, rfl⟩
theorem db29_24 : Dec jdk_52_method_86_code 24 (.iinc 1 1) 3 27 := ⟨by decide +kernel, rfl⟩
theorem db29_27 : Dec jdk_52_method_86_code 27 (.baload) 1 28 := ⟨by decide +kernel, rfl⟩
theorem db29_28 : Dec jdk_52_method_86_code 28 (.sipush 255) 3 31 := ⟨by decide +kernel, rfl⟩
theorem db29_31 : Dec jdk_52_method_86_code 31 (.iand) 1 32 := ⟨by decide +kernel, rfl⟩
theorem db29_32 : Dec jdk_52_method_86_code 32 (.invokestatic 111) 3 35 := ⟨by decide +kernel, rfl⟩
theorem db29_35 : Dec jdk_52_method_86_code 35 (.iinc 5 1) 3 38 := ⟨by decide +kernel, rfl⟩
theorem db29_38 : DecJ jdk_52_method_86_code 38 (.goto (-28)) (-28) 41 10 := ⟨by decide +kernel, rfl, by decide, by decide⟩
theorem db29_0 : Dec jdk_52_method_86_code 0 (.iload_n 3) 1 1 := ⟨by decide +kernel, rfl⟩
theorem db29_1 : Dec jdk_52_method_86_code 1 (.iload 4) 2 3 := ⟨by decide +kernel, rfl⟩
theorem db29_3 : Dec jdk_52_method_86_code 3 (.aload_n 2) 1 4 := ⟨by decide +kernel, rfl⟩
theorem db29_4 : Dec jdk_52_method_86_code 4 (.invokestatic 173) 3 7 := ⟨by decide +kernel, rfl⟩
theorem db29_7 : Dec jdk_52_method_86_code 7 (.iconst 0) 1 8 := ⟨by decide +kernel, rfl⟩
theorem db29_8 : Dec jdk_52_method_86_code 8 (.istore 5) 2 10 := ⟨by decide +kernel, rfl⟩
theorem db30_0 : Dec jdk_43_method_50_code 0 (.aload_n 0) 1 1 := ⟨by decide +kernel, rfl⟩
theorem db30_1 : Dec jdk_43_method_50_code 1 (.iload_n 1) 1 2 := ⟨by decide +kernel, rfl⟩
theorem db30_2 : Dec jdk_43_method_50_code 2 (.aload_n 2) 1 3 := ⟨by decide +kernel, rfl⟩
theorem db30_3 : Dec jdk_43_method_50_code 3 (.iload_n 3) 1 4 := ⟨by decide +kernel, rfl⟩
theorem db30_4 : Dec jdk_43_method_50_code 4 (.iload 4) 2 6 := ⟨by decide +kernel, rfl⟩
theorem db30_6 : Dec jdk_43_method_50_code 6 (.invokestatic 240) 3 9 := ⟨by decide +kernel, rfl⟩
theorem db30_9 : Dec jdk_43_method_50_code 9 (.return_) 1 10 := ⟨by decide +kernel, rfl⟩
theorem db31_0 : Dec jdk_65_method_131_code 0 (.iload_n 1) 1 1 := ⟨by decide +kernel, rfl⟩
theorem db31_1 : Dec jdk_65_method_131_code 1 (.iload_n 0) 1 2 := ⟨by decide +kernel, rfl⟩
theorem db31_2 : DecJ jdk_65_method_131_code 2 (.if_icmp .ge 35) (35) 5 37 := ⟨by decide +kernel, rfl, by decide, by decide⟩
theorem db31_37 : Dec jdk_65_method_131_code 37 (.return_) 1 38 := ⟨by decide +kernel, rfl⟩
theorem db32_0 : Dec jdk_29_method_69_code 0 (.iload_n 0) 1 1 := ⟨by decide +kernel, rfl⟩
theorem db32_1 : Dec jdk_29_method_69_code 1 (.iload_n 1) 1 2 := ⟨by decide +kernel, rfl⟩
theorem db32_2 : DecJ jdk_29_method_69_code 2 (.if_icmp .gt 7) (7) 5 9 := ⟨by decide +kernel, rfl, by decide, by decide⟩
theorem db32_9 : Dec jdk_29_method_69_code 9 (.iload_n 1) 1 10 := ⟨by decide +kernel, rfl⟩
theorem db32_10 : Dec jdk_29_method_69_code 10 (.ireturn) 1 11 := ⟨by decide +kernel, rfl⟩
theorem db33_0 : Dec jdk_65_method_133_code 0 (.iload_n 1) 1 1 := ⟨by decide +kernel, rfl⟩
theorem db33_1 : Dec jdk_65_method_133_code 1 (.iload_n 2) 1 2 := ⟨by decide +kernel, rfl⟩
theorem db33_2 : Dec jdk_65_method_133_code 2 (.invokestatic 343) 3 5 := ⟨by decide +kernel, rfl⟩
theorem db33_5 : Dec jdk_65_method_133_code 5 (.iload_n 2) 1 6 := ⟨by decide +kernel, rfl⟩
theorem db33_6 : Dec jdk_65_method_133_code 6 (.iload_n 1) 1 7 := ⟨by decide +kernel, rfl⟩
theorem db33_7 : Dec jdk_65_method_133_code 7 (.isub) 1 8 := ⟨by decide +kernel, rfl⟩
theorem db33_8 : Dec jdk_65_method_133_code 8 (.istore_n 3) 1 9 := ⟨by decide +kernel, rfl⟩
theorem db33_9 : Dec jdk_65_method_133_code 9 (.iload_n 3) 1 10 := ⟨by decide +kernel, rfl⟩
theorem db33_10 : Dec jdk_65_method_133_code 10 (.newarray .byte) 2 12 := ⟨by decide +kernel, rfl⟩
theorem db33_12 : Dec jdk_65_method_133_code 12 (.astore 4) 2 14 := ⟨by decide +kernel, rfl⟩
theorem db33_14 : Dec jdk_65_method_133_code 14 (.aload_n 0) 1 15 := ⟨by decide +kernel, rfl⟩
theorem db33_15 : Dec jdk_65_method_133_code 15 (.iload_n 1) 1 16 := ⟨by decide +kernel, rfl⟩
theorem db33_16 : Dec jdk_65_method_133_code 16 (.aload 4) 2 18 := ⟨by decide +kernel, rfl⟩
theorem db33_18 : Dec jdk_65_method_133_code 18 (.iconst 0) 1 19 := ⟨by decide +kernel, rfl⟩
theorem db33_19 : Dec jdk_65_method_133_code 19 (.aload_n 0) 1 20 := ⟨by decide +kernel, rfl⟩
theorem db33_20 : Dec jdk_65_method_133_code 20 (.arraylength) 1 21 := ⟨by decide +kernel, rfl⟩
theorem db33_21 : Dec jdk_65_method_133_code 21 (.iload_n 1) 1 22 := ⟨by decide +kernel, rfl⟩
theorem db33_22 : Dec jdk_65_method_133_code 22 (.isub) 1 23 := ⟨by decide +kernel, rfl⟩
theorem db33_23 : Dec jdk_65_method_133_code 23 (.iload_n 3) 1 24 := ⟨by decide +kernel, rfl⟩
theorem db33_24 : Dec jdk_65_method_133_code 24 (.invokestatic 304) 3 27 := ⟨by decide +kernel, rfl⟩
theorem db33_27 : Dec jdk_65_method_133_code 27 (.invokestatic 150) 3 30 := ⟨by decide +kernel, rfl⟩
theorem db33_30 : Dec jdk_65_method_133_code 30 (.aload 4) 2 32 := ⟨by decide +kernel, rfl⟩
theorem db33_32 : Dec jdk_65_method_133_code 32 (.areturn) 1 33 := ⟨by decide +kernel, rfl⟩
theorem db34_0 : Dec jdk_65_method_132_code 0 (.iload_n 1) 1 1 := ⟨by decide +kernel, rfl⟩
theorem db34_1 : DecJ jdk_65_method_132_code 1 (.ifCond .ne 9) (9) 4 10 := ⟨by decide +kernel, rfl, by decide, by decide⟩
theorem db34_4 : Dec jdk_65_method_132_code 4 (.iload_n 2) 1 5 := ⟨by decide +kernel, rfl⟩
theorem db34_5 : Dec jdk_65_method_132_code 5 (.aload_n 0) 1 6 := ⟨by decide +kernel, rfl⟩
theorem db34_6 : Dec jdk_65_method_132_code 6 (.arraylength) 1 7 := ⟨by decide +kernel, rfl⟩
theorem db34_7 : DecJ jdk_65_method_132_code 7 (.if_icmp .eq 10) (10) 10 17 := ⟨by decide +kernel, rfl, by decide, by decide⟩
theorem db34_10 : Dec jdk_65_method_132_code 10 (.aload_n 0) 1 11 := ⟨by decide +kernel, rfl⟩
theorem db34_11 : Dec jdk_65_method_132_code 11 (.iload_n 1) 1 12 := ⟨by decide +kernel, rfl⟩
theorem db34_12 : Dec jdk_65_method_132_code 12 (.iload_n 2) 1 13 := ⟨by decide +kernel, rfl⟩
theorem db34_13 : Dec jdk_65_method_132_code 13 (.invokestatic 339) 3 16 := ⟨by decide +kernel, rfl⟩
theorem db34_16 : Dec jdk_65_method_132_code 16 (.areturn) 1 17 := ⟨by decide +kernel, rfl⟩
theorem db35_0 : Dec jdk_68_method_2_code 0 (.aload_n 0) 1 1 := ⟨by decide +kernel, rfl⟩
theorem db35_1 : Dec jdk_68_method_2_code 1 (.invokespecial 3) 3 4 := ⟨by decide +kernel, rfl⟩
theorem db35_4 : Dec jdk_68_method_2_code 4 (.getstatic 18) 3 7 := ⟨by decide +kernel, rfl⟩
theorem db35_7 : DecJ jdk_68_method_2_code 7 (.ifCond .eq 18) (18) 10 25 := ⟨by decide +kernel, rfl, by decide, by decide⟩
theorem db35_10 : Dec jdk_68_method_2_code 10 (.aload_n 0) 1 11 := ⟨by decide +kernel, rfl⟩
theorem db35_11 : Dec jdk_68_method_2_code 11 (.iload_n 1) 1 12 := ⟨by decide +kernel, rfl⟩
theorem db35_12 : Dec jdk_68_method_2_code 12 (.newarray .byte) 2 14 := ⟨by decide +kernel, rfl⟩
theorem db35_14 : Dec jdk_68_method_2_code 14 (.putfield 15) 3 17 := ⟨by decide +kernel, rfl⟩
theorem db35_17 : Dec jdk_68_method_2_code 17 (.aload_n 0) 1 18 := ⟨by decide +kernel, rfl⟩
theorem db35_18 : Dec jdk_68_method_2_code 18 (.iconst 0) 1 19 := ⟨by decide +kernel, rfl⟩
theorem db35_19 : Dec jdk_68_method_2_code 19 (.putfield 22) 3 22 := ⟨by decide +kernel, rfl⟩
theorem db35_22 : DecJ jdk_68_method_2_code 22 (.goto 16) (16) 25 38 := ⟨by decide +kernel, rfl, by decide, by decide⟩
theorem db35_38 : Dec jdk_68_method_2_code 38 (.return_) 1 39 := ⟨by decide +kernel, rfl⟩
theorem db36_0 : Dec jdk_67_method_1_code 0 (.aload_n 0) 1 1 := ⟨by decide +kernel, rfl⟩
theorem db36_1 : Dec jdk_67_method_1_code 1 (.bipush 16) 2 3 := ⟨by decide +kernel, rfl⟩
theorem db36_3 : Dec jdk_67_method_1_code 3 (.invokespecial 1) 3 6 := ⟨by decide +kernel, rfl⟩
theorem db36_6 : Dec jdk_67_method_1_code 6 (.return_) 1 7 := ⟨by decide +kernel, rfl⟩
theorem db37_0 : Dec jdk_68_method_9_code 0 (.aload_n 0) 1 1 := ⟨by decide +kernel, rfl⟩
theorem db37_1 : Dec jdk_68_method_9_code 1 (.getfield 15) 3 4 := ⟨by decide +kernel, rfl⟩
theorem db37_4 : Dec jdk_68_method_9_code 4 (.arraylength) 1 5 := ⟨by decide +kernel, rfl⟩
theorem db37_5 : Dec jdk_68_method_9_code 5 (.aload_n 0) 1 6 := ⟨by decide +kernel, rfl⟩
theorem db37_6 : Dec jdk_68_method_9_code 6 (.getfield 22) 3 9 := ⟨by decide +kernel, rfl⟩
theorem db37_9 : Dec jdk_68_method_9_code 9 (.ishr) 1 10 := ⟨by decide +kernel, rfl⟩
theorem db37_10 : Dec jdk_68_method_9_code 10 (.istore_n 2) 1 11 := ⟨by decide +kernel, rfl⟩
theorem db37_11 : Dec jdk_68_method_9_code 11 (.iload_n 1) 1 12 := ⟨by decide +kernel, rfl⟩
theorem db37_12 : Dec jdk_68_method_9_code 12 (.iload_n 2) 1 13 := ⟨by decide +kernel, rfl⟩
theorem db37_13 : Dec jdk_68_method_9_code 13 (.isub) 1 14 := ⟨by decide +kernel, rfl⟩
theorem db37_14 : DecJ jdk_68_method_9_code 14 (.ifCond .le 24) (24) 17 38 := ⟨by decide +kernel, rfl, by decide, by decide⟩
theorem db37_38 : Dec jdk_68_method_9_code 38 (.return_) 1 39 := ⟨by decide +kernel, rfl⟩
theorem db38_0 : Dec jdk_68_method_68_code 0 (.getstatic 18) 3 3 := ⟨by decide +kernel, rfl⟩
theorem db38_3 : DecJ jdk_68_method_68_code 3 (.ifCond .eq 14) (14) 6 17 := ⟨by decide +kernel, rfl, by decide, by decide⟩
theorem db38_6 : Dec jdk_68_method_68_code 6 (.aload_n 0) 1 7 := ⟨by decide +kernel, rfl⟩
theorem db38_7 : Dec jdk_68_method_68_code 7 (.getfield 22) 3 10 := ⟨by decide +kernel, rfl⟩
theorem db38_10 : DecJ jdk_68_method_68_code 10 (.ifCond .ne 7) (7) 13 17 := ⟨by decide +kernel, rfl, by decide, by decide⟩
theorem db38_17 : Dec jdk_68_method_68_code 17 (.iconst 0) 1 18 := ⟨by decide +kernel, rfl⟩
theorem db38_18 : Dec jdk_68_method_68_code 18 (.ireturn) 1 19 := ⟨by decide +kernel, rfl⟩
theorem db38_13 : Dec jdk_68_method_68_code 13 (.iconst 1) 1 14 := ⟨by decide +kernel, rfl⟩
theorem db38_14 : DecJ jdk_68_method_68_code 14 (.goto 4) (4) 17 18 := ⟨by decide +kernel, rfl, by decide, by decide⟩
theorem db39_0 : Dec jdk_68_method_11_code 0 (.aload_n 0) 1 1 := ⟨by decide +kernel, rfl⟩
theorem db39_1 : Dec jdk_68_method_11_code 1 (.invokevirtual 83) 3 4 := ⟨by decide +kernel, rfl⟩
theorem db39_4 : DecJ jdk_68_method_11_code 4 (.ifCond .ne 4) (4) 7 8 := ⟨by decide +kernel, rfl, by decide, by decide⟩
theorem db39_7 : Dec jdk_68_method_11_code 7 (.return_) 1 8 := ⟨by decide +kernel, rfl⟩
theorem db39_8 : Dec jdk_68_method_11_code 8 (.aload_n 0) 1 9 := ⟨by decide +kernel, rfl⟩
theorem db39_9 : Dec jdk_68_method_11_code 9 (.getfield 15) 3 12 := ⟨by decide +kernel, rfl⟩
theorem db39_12 : Dec jdk_68_method_11_code 12 (.arraylength) 1 13 := ⟨by decide +kernel, rfl⟩
theorem db39_13 : Dec jdk_68_method_11_code 13 (.invokestatic 26) 3 16 := ⟨by decide +kernel, rfl⟩
theorem db39_16 : Dec jdk_68_method_11_code 16 (.astore_n 1) 1 17 := ⟨by decide +kernel, rfl⟩
theorem db39_17 : Dec jdk_68_method_11_code 17 (.aload_n 0) 1 18 := ⟨by decide +kernel, rfl⟩
theorem db39_18 : Dec jdk_68_method_11_code 18 (.getfield 15) 3 21 := ⟨by decide +kernel, rfl⟩
theorem db39_21 : Dec jdk_68_method_11_code 21 (.iconst 0) 1 22 := ⟨by decide +kernel, rfl⟩
theorem db39_22 : Dec jdk_68_method_11_code 22 (.aload_n 1) 1 23 := ⟨by decide +kernel, rfl⟩
theorem db39_23 : Dec jdk_68_method_11_code 23 (.iconst 0) 1 24 := ⟨by decide +kernel, rfl⟩
theorem db39_24 : Dec jdk_68_method_11_code 24 (.aload_n 0) 1 25 := ⟨by decide +kernel, rfl⟩
theorem db39_25 : Dec jdk_68_method_11_code 25 (.getfield 79) 3 28 := ⟨by decide +kernel, rfl⟩
theorem db39_28 : Dec jdk_68_method_11_code 28 (.invokestatic 125) 3 31 := ⟨by decide +kernel, rfl⟩
theorem db39_31 : Dec jdk_68_method_11_code 31 (.aload_n 0) 1 32 := ⟨by decide +kernel, rfl⟩
theorem db39_32 : Dec jdk_68_method_11_code 32 (.aload_n 1) 1 33 := ⟨by decide +kernel, rfl⟩
theorem db39_33 : Dec jdk_68_method_11_code 33 (.putfield 15) 3 36 := ⟨by decide +kernel, rfl⟩
theorem db39_36 : Dec jdk_68_method_11_code 36 (.aload_n 0) 1 37 := ⟨by decide +kernel, rfl⟩
theorem db39_37 : Dec jdk_68_method_11_code 37 (.iconst 1) 1 38 := ⟨by decide +kernel, rfl⟩
theorem db39_38 : Dec jdk_68_method_11_code 38 (.putfield 22) 3 41 := ⟨by decide +kernel, rfl⟩
theorem db39_41 : Dec jdk_68_method_11_code 41 (.return_) 1 42 := ⟨by decide +kernel, rfl⟩
theorem db40_0 : Dec jdk_68_method_71_code 0 (.getstatic 18) 3 3 := ⟨by decide +kernel, rfl⟩
theorem db40_3 : DecJ jdk_68_method_71_code 3 (.ifCond .eq 18) (18) 6 21 := ⟨by decide +kernel, rfl, by decide, by decide⟩
theorem db40_6 : Dec jdk_68_method_71_code 6 (.aload_n 0) 1 7 := ⟨by decide +kernel, rfl⟩
theorem db40_7 : Dec jdk_68_method_71_code 7 (.getfield 22) 3 10 := ⟨by decide +kernel, rfl⟩
theorem db40_10 : Dec jdk_68_method_71_code 10 (.aload_n 1) 1 11 := ⟨by decide +kernel, rfl⟩
theorem db40_11 : Dec jdk_68_method_71_code 11 (.invokevirtual 40) 3 14 := ⟨by decide +kernel, rfl⟩
theorem db40_14 : DecJ jdk_68_method_71_code 14 (.if_icmp .eq 7) (7) 17 21 := ⟨by decide +kernel, rfl, by decide, by decide⟩
theorem db40_21 : Dec jdk_68_method_71_code 21 (.return_) 1 22 := ⟨by decide +kernel, rfl⟩
theorem db40_17 : Dec jdk_68_method_71_code 17 (.aload_n 0) 1 18 := ⟨by decide +kernel, rfl⟩
theorem db40_18 : Dec jdk_68_method_71_code 18 (.invokevirtual 195) 3 21 := ⟨by decide +kernel, rfl⟩
theorem db41_0 : Dec jdk_42_method_147_code 0 (.aload_n 0) 1 1 := ⟨by decide +kernel, rfl⟩
theorem db41_1 : Dec jdk_42_method_147_code 1 (.invokevirtual 335) 3 4 := ⟨by decide +kernel, rfl⟩
theorem db41_4 : Dec jdk_42_method_147_code 4 (.iload_n 3) 1 5 := ⟨by decide +kernel, rfl⟩
theorem db41_5 : DecJ jdk_42_method_147_code 5 (.if_icmp .ne 23) (23) 8 28 := ⟨by decide +kernel, rfl, by decide, by decide⟩
theorem db41_8 : Dec jdk_42_method_147_code 8 (.aload_n 0) 1 9 := ⟨by decide +kernel, rfl⟩
theorem db41_9 : Dec jdk_42_method_147_code 9 (.getfield 9) 3 12 := ⟨by decide +kernel, rfl⟩
theorem db41_12 : Dec jdk_42_method_147_code 12 (.iconst 0) 1 13 := ⟨by decide +kernel, rfl⟩
theorem db41_13 : Dec jdk_42_method_147_code 13 (.aload_n 1) 1 14 := ⟨by decide +kernel, rfl⟩
theorem db41_14 : Dec jdk_42_method_147_code 14 (.iload_n 2) 1 15 := ⟨by decide +kernel, rfl⟩
theorem db41_15 : Dec jdk_42_method_147_code 15 (.iload_n 3) 1 16 := ⟨by decide +kernel, rfl⟩
theorem db41_16 : Dec jdk_42_method_147_code 16 (.ishl) 1 17 := ⟨by decide +kernel, rfl⟩
theorem db41_17 : Dec jdk_42_method_147_code 17 (.aload_n 0) 1 18 := ⟨by decide +kernel, rfl⟩
theorem db41_18 : Dec jdk_42_method_147_code 18 (.getfield 9) 3 21 := ⟨by decide +kernel, rfl⟩
theorem db41_21 : Dec jdk_42_method_147_code 21 (.arraylength) 1 22 := ⟨by decide +kernel, rfl⟩
theorem db41_22 : Dec jdk_42_method_147_code 22 (.invokestatic 212) 3 25 := ⟨by decide +kernel, rfl⟩
theorem db41_25 : DecJ jdk_42_method_147_code 25 (.goto 18) (18) 28 43 := ⟨by decide +kernel, rfl, by decide, by decide⟩
theorem db41_43 : Dec jdk_42_method_147_code 43 (.return_) 1 44 := ⟨by decide +kernel, rfl⟩
theorem db41_28 : Dec jdk_42_method_147_code 28 (.aload_n 0) 1 29 := ⟨by decide +kernel, rfl⟩
theorem db41_29 : Dec jdk_42_method_147_code 29 (.getfield 9) 3 32 := ⟨by decide +kernel, rfl⟩
theorem db41_32 : Dec jdk_42_method_147_code 32 (.iconst 0) 1 33 := ⟨by decide +kernel, rfl⟩
theorem db41_33 : Dec jdk_42_method_147_code 33 (.aload_n 1) 1 34 := ⟨by decide +kernel, rfl⟩
theorem db41_34 : Dec jdk_42_method_147_code 34 (.iload_n 2) 1 35 := ⟨by decide +kernel, rfl⟩
theorem db41_35 : Dec jdk_42_method_147_code 35 (.aload_n 0) 1 36 := ⟨by decide +kernel, rfl⟩
theorem db41_36 : Dec jdk_42_method_147_code 36 (.getfield 9) 3 39 := ⟨by decide +kernel, rfl⟩
theorem db41_39 : Dec jdk_42_method_147_code 39 (.arraylength) 1 40 := ⟨by decide +kernel, rfl⟩
theorem db41_40 : Dec jdk_42_method_147_code 40 (.invokestatic 106) 3 43 := ⟨by decide +kernel, rfl⟩
theorem db42_0 : Dec jdk_68_method_73_code 0 (.aload_n 0) 1 1 := ⟨by decide +kernel, rfl⟩
theorem db42_1 : Dec jdk_68_method_73_code 1 (.aload_n 2) 1 2 := ⟨by decide +kernel, rfl⟩
theorem db42_2 : Dec jdk_68_method_73_code 2 (.invokevirtual 397) 3 5 := ⟨by decide +kernel, rfl⟩
theorem db42_5 : Dec jdk_68_method_73_code 5 (.aload_n 2) 1 6 := ⟨by decide +kernel, rfl⟩
theorem db42_6 : Dec jdk_68_method_73_code 6 (.aload_n 0) 1 7 := ⟨by decide +kernel, rfl⟩
theorem db42_7 : Dec jdk_68_method_73_code 7 (.getfield 15) 3 10 := ⟨by decide +kernel, rfl⟩
theorem db42_10 : Dec jdk_68_method_73_code 10 (.iload_n 1) 1 11 := ⟨by decide +kernel, rfl⟩
theorem db42_11 : Dec jdk_68_method_73_code 11 (.aload_n 0) 1 12 := ⟨by decide +kernel, rfl⟩
theorem db42_12 : Dec jdk_68_method_73_code 12 (.getfield 22) 3 15 := ⟨by decide +kernel, rfl⟩
theorem db42_15 : Dec jdk_68_method_73_code 15 (.invokevirtual 399) 3 18 := ⟨by decide +kernel, rfl⟩
theorem db42_18 : Dec jdk_68_method_73_code 18 (.return_) 1 19 := ⟨by decide +kernel, rfl⟩
theorem db43_0 : Dec jdk_68_method_22_code 0 (.aload_n 1) 1 1 := ⟨by decide +kernel, rfl⟩
theorem db43_1 : DecJ jdk_68_method_22_code 1 (.ifnonnull 8) (8) 4 9 := ⟨by decide +kernel, rfl, by decide, by decide⟩
theorem db43_9 : Dec jdk_68_method_22_code 9 (.aload_n 1) 1 10 := ⟨by decide +kernel, rfl⟩
theorem db43_10 : Dec jdk_68_method_22_code 10 (.invokevirtual 32) 3 13 := ⟨by decide +kernel, rfl⟩
theorem db43_13 : Dec jdk_68_method_22_code 13 (.istore_n 2) 1 14 := ⟨by decide +kernel, rfl⟩
theorem db43_14 : Dec jdk_68_method_22_code 14 (.aload_n 0) 1 15 := ⟨by decide +kernel, rfl⟩
theorem db43_15 : Dec jdk_68_method_22_code 15 (.aload_n 0) 1 16 := ⟨by decide +kernel, rfl⟩
theorem db43_16 : Dec jdk_68_method_22_code 16 (.getfield 79) 3 19 := ⟨by decide +kernel, rfl⟩
theorem db43_19 : Dec jdk_68_method_22_code 19 (.iload_n 2) 1 20 := ⟨by decide +kernel, rfl⟩
theorem db43_20 : Dec jdk_68_method_22_code 20 (.iadd) 1 21 := ⟨by decide +kernel, rfl⟩
theorem db43_21 : Dec jdk_68_method_22_code 21 (.invokevirtual 100) 3 24 := ⟨by decide +kernel, rfl⟩
theorem db43_24 : Dec jdk_68_method_22_code 24 (.aload_n 0) 1 25 := ⟨by decide +kernel, rfl⟩
theorem db43_25 : Dec jdk_68_method_22_code 25 (.aload_n 0) 1 26 := ⟨by decide +kernel, rfl⟩
theorem db43_26 : Dec jdk_68_method_22_code 26 (.getfield 79) 3 29 := ⟨by decide +kernel, rfl⟩
theorem db43_29 : Dec jdk_68_method_22_code 29 (.aload_n 1) 1 30 := ⟨by decide +kernel, rfl⟩
theorem db43_30 : Dec jdk_68_method_22_code 30 (.invokevirtual 208) 3 33 := ⟨by decide +kernel, rfl⟩
theorem db43_33 : Dec jdk_68_method_22_code 33 (.aload_n 0) 1 34 := ⟨by decide +kernel, rfl⟩
theorem db43_34 : Dec jdk_68_method_22_code 34 (.dup) 1 35 := ⟨by decide +kernel, rfl⟩
theorem db43_35 : Dec jdk_68_method_22_code 35 (.getfield 79) 3 38 := ⟨by decide +kernel, rfl⟩
theorem db43_38 : Dec jdk_68_method_22_code 38 (.iload_n 2) 1 39 := ⟨by decide +kernel, rfl⟩
theorem db43_39 : Dec jdk_68_method_22_code 39 (.iadd) 1 40 := ⟨by decide +kernel, rfl⟩
theorem db43_40 : Dec jdk_68_method_22_code 40 (.putfield 79) 3 43 := ⟨by decide +kernel, rfl⟩
theorem db43_43 : Dec jdk_68_method_22_code 43 (.aload_n 0) 1 44 := ⟨by decide +kernel, rfl⟩
theorem db43_44 : Dec jdk_68_method_22_code 44 (.areturn) 1 45 := ⟨by decide +kernel, rfl⟩
theorem db44_0 : Dec jdk_67_method_7_code 0 (.aload_n 0) 1 1 := ⟨by decide +kernel, rfl⟩
theorem db44_1 : Dec jdk_67_method_7_code 1 (.aload_n 1) 1 2 := ⟨by decide +kernel, rfl⟩
theorem db44_2 : Dec jdk_67_method_7_code 2 (.invokespecial 29) 3 5 := ⟨by decide +kernel, rfl⟩
theorem db44_5 : Dec jdk_67_method_7_code 5 (.pop) 1 6 := ⟨by decide +kernel, rfl⟩
theorem db44_6 : Dec jdk_67_method_7_code 6 (.aload_n 0) 1 7 := ⟨by decide +kernel, rfl⟩
theorem db44_7 : Dec jdk_67_method_7_code 7 (.areturn) 1 8 := ⟨by decide +kernel, rfl⟩
theorem db45_0 : Dec jdk_68_method_64_code 0 (.aload_n 0) 1 1 := ⟨by decide +kernel, rfl⟩
theorem db45_1 : Dec jdk_68_method_64_code 1 (.getfield 15) 3 4 := ⟨by decide +kernel, rfl⟩
theorem db45_4 : Dec jdk_68_method_64_code 4 (.areturn) 1 5 := ⟨by decide +kernel, rfl⟩
theorem db46_0 : Dec jdk_68_method_6_code 0 (.aload_n 0) 1 1 := ⟨by decide +kernel, rfl⟩
theorem db46_1 : Dec jdk_68_method_6_code 1 (.getfield 79) 3 4 := ⟨by decide +kernel, rfl⟩
theorem db46_4 : Dec jdk_68_method_6_code 4 (.ireturn) 1 5 := ⟨by decide +kernel, rfl⟩
theorem db47_0 : Dec jdk_67_method_93_code 0 (.aload_n 0) 1 1 := ⟨by decide +kernel, rfl⟩
theorem db47_1 : Dec jdk_67_method_93_code 1 (.invokespecial 343) 3 4 := ⟨by decide +kernel, rfl⟩
theorem db47_4 : Dec jdk_67_method_93_code 4 (.ireturn) 1 5 := ⟨by decide +kernel, rfl⟩
theorem db48_0 : Dec jdk_42_method_150_code 0 (.aload_n 0) 1 1 := ⟨by decide +kernel, rfl⟩
theorem db48_1 : Dec jdk_42_method_150_code 1 (.invokespecial 1) 3 4 := ⟨by decide +kernel, rfl⟩
theorem db48_4 : Dec jdk_42_method_150_code 4 (.aload_n 1) 1 5 := ⟨by decide +kernel, rfl⟩
theorem db48_5 : Dec jdk_42_method_150_code 5 (.invokevirtual 552) 3 8 := ⟨by decide +kernel, rfl⟩
theorem db48_8 : Dec jdk_42_method_150_code 8 (.astore_n 3) 1 9 := ⟨by decide +kernel, rfl⟩
theorem db48_9 : Dec jdk_42_method_150_code 9 (.aload_n 1) 1 10 := ⟨by decide +kernel, rfl⟩
theorem db48_10 : Dec jdk_42_method_150_code 10 (.invokevirtual 549) 3 13 := ⟨by decide +kernel, rfl⟩
theorem db48_13 : Dec jdk_42_method_150_code 13 (.istore 4) 2 15 := ⟨by decide +kernel, rfl⟩
theorem db48_15 : Dec jdk_42_method_150_code 15 (.aload_n 1) 1 16 := ⟨by decide +kernel, rfl⟩
theorem db48_16 : Dec jdk_42_method_150_code 16 (.invokevirtual 1047) 3 19 := ⟨by decide +kernel, rfl⟩
theorem db48_19 : DecJ jdk_42_method_150_code 19 (.ifCond .eq 22) (22) 22 41 := ⟨by decide +kernel, rfl, by decide, by decide⟩
theorem db48_22 : Dec jdk_42_method_150_code 22 (.aload_n 0) 1 23 := ⟨by decide +kernel, rfl⟩
theorem db48_23 : Dec jdk_42_method_150_code 23 (.iconst 0) 1 24 := ⟨by decide +kernel, rfl⟩
theorem db48_24 : Dec jdk_42_method_150_code 24 (.putfield 15) 3 27 := ⟨by decide +kernel, rfl⟩
theorem db48_27 : Dec jdk_42_method_150_code 27 (.aload_n 0) 1 28 := ⟨by decide +kernel, rfl⟩
theorem db48_28 : Dec jdk_42_method_150_code 28 (.aload_n 3) 1 29 := ⟨by decide +kernel, rfl⟩
theorem db48_29 : Dec jdk_42_method_150_code 29 (.iconst 0) 1 30 := ⟨by decide +kernel, rfl⟩
theorem db48_30 : Dec jdk_42_method_150_code 30 (.iload 4) 2 32 := ⟨by decide +kernel, rfl⟩
theorem db48_32 : Dec jdk_42_method_150_code 32 (.invokestatic 54) 3 35 := ⟨by decide +kernel, rfl⟩
theorem db48_35 : Dec jdk_42_method_150_code 35 (.putfield 9) 3 38 := ⟨by decide +kernel, rfl⟩
theorem db48_38 : DecJ jdk_42_method_150_code 38 (.goto 59) (59) 41 97 := ⟨by decide +kernel, rfl, by decide, by decide⟩
theorem db48_97 : Dec jdk_42_method_150_code 97 (.return_) 1 98 := ⟨by decide +kernel, rfl⟩
theorem db48_41 : Dec jdk_42_method_150_code 41 (.getstatic 38) 3 44 := ⟨by decide +kernel, rfl⟩
theorem db48_44 : DecJ jdk_42_method_150_code 44 (.ifCond .eq 35) (35) 47 79 := ⟨by decide +kernel, rfl, by decide, by decide⟩
theorem db48_47 : Dec jdk_42_method_150_code 47 (.aload_n 1) 1 48 := ⟨by decide +kernel, rfl⟩
theorem db48_48 : Dec jdk_42_method_150_code 48 (.getfield 1048) 3 51 := ⟨by decide +kernel, rfl⟩
theorem db48_51 : DecJ jdk_42_method_150_code 51 (.ifCond .eq 28) (28) 54 79 := ⟨by decide +kernel, rfl, by decide, by decide⟩
theorem db48_79 : Dec jdk_42_method_150_code 79 (.aload_n 0) 1 80 := ⟨by decide +kernel, rfl⟩
theorem db48_80 : Dec jdk_42_method_150_code 80 (.iconst 1) 1 81 := ⟨by decide +kernel, rfl⟩
theorem db48_81 : Dec jdk_42_method_150_code 81 (.putfield 15) 3 84 := ⟨by decide +kernel, rfl⟩
theorem db48_84 : Dec jdk_42_method_150_code 84 (.aload_n 0) 1 85 := ⟨by decide +kernel, rfl⟩
theorem db48_85 : Dec jdk_42_method_150_code 85 (.aload_n 3) 1 86 := ⟨by decide +kernel, rfl⟩
theorem db48_86 : Dec jdk_42_method_150_code 86 (.iconst 0) 1 87 := ⟨by decide +kernel, rfl⟩
theorem db48_87 : Dec jdk_42_method_150_code 87 (.iload 4) 2 89 := ⟨by decide +kernel, rfl⟩
theorem db48_89 : Dec jdk_42_method_150_code 89 (.iconst 1) 1 90 := ⟨by decide +kernel, rfl⟩
theorem db48_90 : Dec jdk_42_method_150_code 90 (.ishl) 1 91 := ⟨by decide +kernel, rfl⟩
theorem db48_91 : Dec jdk_42_method_150_code 91 (.invokestatic 54) 3 94 := ⟨by decide +kernel, rfl⟩
theorem db48_94 : Dec jdk_42_method_150_code 94 (.putfield 9) 3 97 := ⟨by decide +kernel, rfl⟩
theorem db49_0 : Dec jdk_42_method_53_code 0 (.aload_n 0) 1 1 := ⟨by decide +kernel, rfl⟩
theorem db49_1 : Dec jdk_42_method_53_code 1 (.aload_n 1) 1 2 := ⟨by decide +kernel, rfl⟩
theorem db49_2 : Dec jdk_42_method_53_code 2 (.aconst_null) 1 3 := ⟨by decide +kernel, rfl⟩
theorem db49_3 : Dec jdk_42_method_53_code 3 (.invokespecial 489) 3 6 := ⟨by decide +kernel, rfl⟩
theorem db49_6 : Dec jdk_42_method_53_code 6 (.return_) 1 7 := ⟨by decide +kernel, rfl⟩
theorem db50_0 : Dec jdk_67_method_42_code 0 (.new 18) 3 3 := ⟨by decide +kernel, rfl⟩
theorem db50_3 : Dec jdk_67_method_42_code 3 (.dup) 1 4 := ⟨by decide +kernel, rfl⟩
theorem db50_4 : Dec jdk_67_method_42_code 4 (.aload_n 0) 1 5 := ⟨by decide +kernel, rfl⟩
theorem db50_5 : Dec jdk_67_method_42_code 5 (.invokespecial 137) 3 8 := ⟨by decide +kernel, rfl⟩
theorem db50_8 : Dec jdk_67_method_42_code 8 (.areturn) 1 9 := ⟨by decide +kernel, rfl⟩
theorem db51_0 : Dec jdk_89_method_16_code 0 (.iload_n 0) 1 1 := ⟨by decide +kernel, rfl⟩
theorem db51_1 : Dec jdk_89_method_16_code 1 (.ldc 75) 2 3 := ⟨by decide +kernel, rfl⟩
theorem db51_3 : DecJ jdk_89_method_16_code 3 (.if_icmp .lt 13) (13) 6 16 := ⟨by decide +kernel, rfl, by decide, by decide⟩
theorem db51_16 : Dec jdk_89_method_16_code 16 (.iconst 0) 1 17 := ⟨by decide +kernel, rfl⟩
theorem db51_17 : Dec jdk_89_method_16_code 17 (.ireturn) 1 18 := ⟨by decide +kernel, rfl⟩
theorem db51_6 : Dec jdk_89_method_16_code 6 (.iload_n 0) 1 7 := ⟨by decide +kernel, rfl⟩
theorem db51_7 : Dec jdk_89_method_16_code 7 (.ldc 77) 2 9 := ⟨by decide +kernel, rfl⟩
theorem db51_9 : DecJ jdk_89_method_16_code 9 (.if_icmp .ge 7) (7) 12 16 := ⟨by decide +kernel, rfl, by decide, by decide⟩
theorem db51_12 : Dec jdk_89_method_16_code 12 (.iconst 1) 1 13 := ⟨by decide +kernel, rfl⟩
theorem db51_13 : DecJ jdk_89_method_16_code 13 (.goto 4) (4) 16 17 := ⟨by decide +kernel, rfl, by decide, by decide⟩
theorem db52_0 : Dec jdk_89_method_14_code 0 (.iload_n 0) 1 1 := ⟨by decide +kernel, rfl⟩
theorem db52_1 : Dec jdk_89_method_14_code 1 (.ldc 75) 2 3 := ⟨by decide +kernel, rfl⟩
theorem db52_3 : DecJ jdk_89_method_14_code 3 (.if_icmp .lt 13) (13) 6 16 := ⟨by decide +kernel, rfl, by decide, by decide⟩
theorem db52_16 : Dec jdk_89_method_14_code 16 (.iconst 0) 1 17 := ⟨by decide +kernel, rfl⟩
theorem db52_17 : Dec jdk_89_method_14_code 17 (.ireturn) 1 18 := ⟨by decide +kernel, rfl⟩
theorem db52_6 : Dec jdk_89_method_14_code 6 (.iload_n 0) 1 7 := ⟨by decide +kernel, rfl⟩
theorem db52_7 : Dec jdk_89_method_14_code 7 (.ldc 76) 2 9 := ⟨by decide +kernel, rfl⟩
theorem db52_9 : DecJ jdk_89_method_14_code 9 (.if_icmp .ge 7) (7) 12 16 := ⟨by decide +kernel, rfl, by decide, by decide⟩
theorem db52_12 : Dec jdk_89_method_14_code 12 (.iconst 1) 1 13 := ⟨by decide +kernel, rfl⟩
theorem db52_13 : DecJ jdk_89_method_14_code 13 (.goto 4) (4) 16 17 := ⟨by decide +kernel, rfl, by decide, by decide⟩
theorem db53_0 : Dec jdk_89_method_15_code 0 (.iload_n 0) 1 1 := ⟨by decide +kernel, rfl⟩
theorem db53_1 : Dec jdk_89_method_15_code 1 (.ldc 76) 2 3 := ⟨by decide +kernel, rfl⟩
theorem db53_3 : DecJ jdk_89_method_15_code 3 (.if_icmp .lt 13) (13) 6 16 := ⟨by decide +kernel, rfl, by decide, by decide⟩
theorem db53_16 : Dec jdk_89_method_15_code 16 (.iconst 0) 1 17 := ⟨by decide +kernel, rfl⟩
theorem db53_17 : Dec jdk_89_method_15_code 17 (.ireturn) 1 18 := ⟨by decide +kernel, rfl⟩
theorem db53_6 : Dec jdk_89_method_15_code 6 (.iload_n 0) 1 7 := ⟨by decide +kernel, rfl⟩
theorem db53_7 : Dec jdk_89_method_15_code 7 (.ldc 77) 2 9 := ⟨by decide +kernel, rfl⟩
theorem db53_9 : DecJ jdk_89_method_15_code 9 (.if_icmp .ge 7) (7) 12 16 := ⟨by decide +kernel, rfl, by decide, by decide⟩
theorem db53_12 : Dec jdk_89_method_15_code 12 (.iconst 1) 1 13 := ⟨by decide +kernel, rfl⟩
theorem db53_13 : DecJ jdk_89_method_15_code 13 (.goto 4) (4) 16 17 := ⟨by decide +kernel, rfl, by decide, by decide⟩
theorem db54_147 : Dec prog_8_method_4_code 147 (.iinc 2 1) 3 150 := ⟨by decide +kernel, rfl⟩
theorem db54_150 : DecJ prog_8_method_4_code 150 (.goto (-122)) (-122) 153 28 := ⟨by decide +kernel, rfl, by decide, by decide⟩
theorem db54_28 : Dec prog_8_method_4_code 28 (.iload_n 2) 1 29 := ⟨by decide +kernel, rfl⟩
theorem db54_29 : Dec prog_8_method_4_code 29 (.aload_n 0) 1 30 := ⟨by decide +kernel, rfl⟩
theorem db54_30 : Dec prog_8_method_4_code 30 (.invokevirtual 52) 3 33 := ⟨by decide +kernel, rfl⟩
theorem db54_33 : DecJ prog_8_method_4_code 33 (.if_icmp .ge 120) (120) 36 153 := ⟨by decide +kernel, rfl, by decide, by decide⟩
theorem db54_153 : Dec prog_8_method_4_code 153 (.iload_n 1) 1 154 := ⟨by decide +kernel, rfl⟩
theorem db54_154 : Dec prog_8_method_4_code 154 (.sipush 512) 3 157 := ⟨by decide +kernel, rfl⟩
theorem db54_157 : DecJ prog_8_method_4_code 157 (.if_icmp .le 30) (30) 160 187 := ⟨by decide +kernel, rfl, by decide, by decide⟩
theorem db54_187 : Dec prog_8_method_4_code 187 (.aload_n 0) 1 188 := ⟨by decide +kernel, rfl⟩
theorem db54_188 : Dec prog_8_method_4_code 188 (.areturn) 1 189 := ⟨by decide +kernel, rfl⟩
theorem db54_36 : Dec prog_8_method_4_code 36 (.aload_n 0) 1 37 := ⟨by decide +kernel, rfl⟩
theorem db54_37 : Dec prog_8_method_4_code 37 (.iload_n 2) 1 38 := ⟨by decide +kernel, rfl⟩
theorem db54_38 : Dec prog_8_method_4_code 38 (.invokevirtual 56) 3 41 := ⟨by decide +kernel, rfl⟩
theorem db54_41 : Dec prog_8_method_4_code 41 (.istore_n 3) 1 42 := ⟨by decide +kernel, rfl⟩
theorem db54_42 : Dec prog_8_method_4_code 42 (.iload_n 3) 1 43 := ⟨by decide +kernel, rfl⟩
theorem db54_43 : Dec prog_8_method_4_code 43 (.sipush 128) 3 46 := ⟨by decide +kernel, rfl⟩
theorem db54_46 : DecJ prog_8_method_4_code 46 (.if_icmp .ge 9) (9) 49 55 := ⟨by decide +kernel, rfl, by decide, by decide⟩
theorem db54_49 : Dec prog_8_method_4_code 49 (.iinc 1 1) 3 52 := ⟨by decide +kernel, rfl⟩
theorem db54_52 : DecJ prog_8_method_4_code 52 (.goto 95) (95) 55 147 := ⟨by decide +kernel, rfl, by decide, by decide⟩
theorem db54_55 : Dec prog_8_method_4_code 55 (.iload_n 3) 1 56 := ⟨by decide +kernel, rfl⟩
theorem db54_56 : Dec prog_8_method_4_code 56 (.sipush 2048) 3 59 := ⟨by decide +kernel, rfl⟩
theorem db54_59 : DecJ prog_8_method_4_code 59 (.if_icmp .ge 9) (9) 62 68 := ⟨by decide +kernel, rfl, by decide, by decide⟩
theorem db54_62 : Dec prog_8_method_4_code 62 (.iinc 1 2) 3 65 := ⟨by decide +kernel, rfl⟩
theorem db54_65 : DecJ prog_8_method_4_code 65 (.goto 82) (82) 68 147 := ⟨by decide +kernel, rfl, by decide, by decide⟩
theorem db54_68 : Dec prog_8_method_4_code 68 (.iload_n 3) 1 69 := ⟨by decide +kernel, rfl⟩
theorem db54_69 : Dec prog_8_method_4_code 69 (.invokestatic 60) 3 72 := ⟨by decide +kernel, rfl⟩
theorem db54_72 : DecJ prog_8_method_4_code 72 (.ifCond .ne 9) (9) 75 81 := ⟨by decide +kernel, rfl, by decide, by decide⟩
theorem db54_75 : Dec prog_8_method_4_code 75 (.iinc 1 3) 3 78 := ⟨by decide +kernel, rfl⟩
theorem db54_78 : DecJ prog_8_method_4_code 78 (.goto 69) (69) 81 147 := ⟨by decide +kernel, rfl, by decide, by decide⟩
theorem db54_81 : Dec prog_8_method_4_code 81 (.iload_n 3) 1 82 := ⟨by decide +kernel, rfl⟩
theorem db54_82 : Dec prog_8_method_4_code 82 (.invokestatic 66) 3 85 := ⟨by decide +kernel, rfl⟩
theorem db54_85 : DecJ prog_8_method_4_code 85 (.ifCond .eq 35) (35) 88 120 := ⟨by decide +kernel, rfl, by decide, by decide⟩
theorem db54_88 : Dec prog_8_method_4_code 88 (.iload_n 2) 1 89 := ⟨by decide +kernel, rfl⟩
theorem db54_89 : Dec prog_8_method_4_code 89 (.iconst 1) 1 90 := ⟨by decide +kernel, rfl⟩
theorem db54_90 : Dec prog_8_method_4_code 90 (.iadd) 1 91 := ⟨by decide +kernel, rfl⟩
theorem db54_91 : Dec prog_8_method_4_code 91 (.aload_n 0) 1 92 := ⟨by decide +kernel, rfl⟩
theorem db54_92 : Dec prog_8_method_4_code 92 (.invokevirtual 52) 3 95 := ⟨by decide +kernel, rfl⟩
theorem db54_95 : DecJ prog_8_method_4_code 95 (.if_icmp .ge 25) (25) 98 120 := ⟨by decide +kernel, rfl, by decide, by decide⟩
theorem db54_98 : Dec prog_8_method_4_code 98 (.aload_n 0) 1 99 := ⟨by decide +kernel, rfl⟩
theorem db54_99 : Dec prog_8_method_4_code 99 (.iload_n 2) 1 100 := ⟨by decide +kernel, rfl⟩
theorem db54_100 : Dec prog_8_method_4_code 100 (.iconst 1) 1 101 := ⟨by decide +kernel, rfl⟩
theorem db54_101 : Dec prog_8_method_4_code 101 (.iadd) 1 102 := ⟨by decide +kernel, rfl⟩
theorem db54_102 : Dec prog_8_method_4_code 102 (.invokevirtual 56) 3 105 := ⟨by decide +kernel, rfl⟩
theorem db54_105 : Dec prog_8_method_4_code 105 (.invokestatic 69) 3 108 := ⟨by decide +kernel, rfl⟩
theorem db54_108 : DecJ prog_8_method_4_code 108 (.ifCond .eq 12) (12) 111 120 := ⟨by decide +kernel, rfl, by decide, by decide⟩
theorem db54_111 : Dec prog_8_method_4_code 111 (.iinc 1 4) 3 114 := ⟨by decide +kernel, rfl⟩
theorem db54_114 : Dec prog_8_method_4_code 114 (.iinc 2 1) 3 117 := ⟨by decide +kernel, rfl⟩
theorem db54_117 : DecJ prog_8_method_4_code 117 (.goto 30) (30) 120 147 := ⟨by decide +kernel, rfl, by decide, by decide⟩
theorem db54_0 : Dec prog_8_method_4_code 0 (.aload_n 0) 1 1 := ⟨by decide +kernel, rfl⟩
theorem db54_1 : Dec prog_8_method_4_code 1 (.ldc 39) 2 3 := ⟨by decide +kernel, rfl⟩
theorem db54_3 : Dec prog_8_method_4_code 3 (.invokestatic 9) 3 6 := ⟨by decide +kernel, rfl⟩
theorem db54_6 : Dec prog_8_method_4_code 6 (.pop) 1 7 := ⟨by decide +kernel, rfl⟩
theorem db54_7 : Dec prog_8_method_4_code 7 (.aload_n 0) 1 8 := ⟨by decide +kernel, rfl⟩
theorem db54_8 : Dec prog_8_method_4_code 8 (.invokevirtual 41) 3 11 := ⟨by decide +kernel, rfl⟩
theorem db54_11 : DecJ prog_8_method_4_code 11 (.ifCond .eq 13) (13) 14 24 := ⟨by decide +kernel, rfl, by decide, by decide⟩
theorem db54_24 : Dec prog_8_method_4_code 24 (.iconst 0) 1 25 := ⟨by decide +kernel, rfl⟩
theorem db54_25 : Dec prog_8_method_4_code 25 (.istore_n 1) 1 26 := ⟨by decide +kernel, rfl⟩
theorem db54_26 : Dec prog_8_method_4_code 26 (.iconst 0) 1 27 := ⟨by decide +kernel, rfl⟩
theorem db54_27 : Dec prog_8_method_4_code 27 (.istore_n 2) 1 28 := ⟨by decide +kernel, rfl⟩
theorem db55_0 : Dec jdk_52_method_24_code 0 (.iconst 2) 1 1 := ⟨by decide +kernel, rfl⟩
theorem db55_1 : Dec jdk_52_method_24_code 1 (.newarray .byte) 2 3 := ⟨by decide +kernel, rfl⟩
theorem db55_3 : Dec jdk_52_method_24_code 3 (.astore_n 1) 1 4 := ⟨by decide +kernel, rfl⟩
theorem db55_4 : Dec jdk_52_method_24_code 4 (.aload_n 1) 1 5 := ⟨by decide +kernel, rfl⟩
theorem db55_5 : Dec jdk_52_method_24_code 5 (.iconst 0) 1 6 := ⟨by decide +kernel, rfl⟩
theorem db55_6 : Dec jdk_52_method_24_code 6 (.iload_n 0) 1 7 := ⟨by decide +kernel, rfl⟩
theorem db55_7 : Dec jdk_52_method_24_code 7 (.invokestatic 111) 3 10 := ⟨by decide +kernel, rfl⟩
theorem db55_10 : Dec jdk_52_method_24_code 10 (.aload_n 1) 1 11 := ⟨by decide +kernel, rfl⟩
theorem db55_11 : Dec jdk_52_method_24_code 11 (.areturn) 1 12 := ⟨by decide +kernel, rfl⟩
theorem db25_26 : Dec jdk_42_method_139_code 26 (.new 10) 3 29 := ⟨by decide +kernel, rfl⟩
theorem db25_29 : Dec jdk_42_method_139_code 29 (.dup) 1 30 := ⟨by decide +kernel, rfl⟩
theorem db25_30 : Dec jdk_42_method_139_code 30 (.iload_n 0) 1 31 := ⟨by decide +kernel, rfl⟩
theorem db25_31 : Dec jdk_42_method_139_code 31 (.invokestatic 1021) 3 34 := ⟨by decide +kernel, rfl⟩
theorem db25_34 : Dec jdk_42_method_139_code 34 (.iconst 1) 1 35 := ⟨by decide +kernel, rfl⟩
theorem db25_35 : Dec jdk_42_method_139_code 35 (.invokespecial 209) 3 38 := ⟨by decide +kernel, rfl⟩
theorem db25_38 : Dec jdk_42_method_139_code 38 (.areturn) 1 39 := ⟨by decide +kernel, rfl⟩
theorem db56_0 : Dec method_2_code 0 (.iload_n 0) 1 1 := ⟨by decide +kernel, rfl⟩
theorem db56_1 : Dec method_2_code 1 (.ldc 7) 2 3 := ⟨by decide +kernel, rfl⟩
theorem db56_3 : Dec method_2_code 3 (.iand) 1 4 := ⟨by decide +kernel, rfl⟩
theorem db56_4 : Dec method_2_code 4 (.istore_n 1) 1 5 := ⟨by decide +kernel, rfl⟩
theorem db56_5 : Dec method_2_code 5 (.iload_n 1) 1 6 := ⟨by decide +kernel, rfl⟩
theorem db56_6 : Dec method_2_code 6 (.ldc 8) 2 8 := ⟨by decide +kernel, rfl⟩
theorem db56_8 : DecJ method_2_code 8 (.if_icmp .lt 14) (14) 11 22 := ⟨by decide +kernel, rfl, by decide, by decide⟩
theorem db56_22 : Dec method_2_code 22 (.iload_n 1) 1 23 := ⟨by decide +kernel, rfl⟩
theorem db56_23 : Dec method_2_code 23 (.i2c) 1 24 := ⟨by decide +kernel, rfl⟩
theorem db56_24 : Dec method_2_code 24 (.ireturn) 1 25 := ⟨by decide +kernel, rfl⟩
theorem db56_11 : Dec method_2_code 11 (.iload_n 1) 1 12 := ⟨by decide +kernel, rfl⟩
theorem db56_12 : Dec method_2_code 12 (.ldc 9) 2 14 := ⟨by decide +kernel, rfl⟩
theorem db56_14 : DecJ method_2_code 14 (.if_icmp .ge 8) (8) 17 22 := ⟨by decide +kernel, rfl, by decide, by decide⟩
theorem db56_17 : Dec method_2_code 17 (.iload_n 1) 1 18 := ⟨by decide +kernel, rfl⟩
theorem db56_18 : Dec method_2_code 18 (.ldc 10) 2 20 := ⟨by decide +kernel, rfl⟩
theorem db56_20 : Dec method_2_code 20 (.ixor) 1 21 := ⟨by decide +kernel, rfl⟩
theorem db56_21 : Dec method_2_code 21 (.istore_n 1) 1 22 := ⟨by decide +kernel, rfl⟩
theorem db57_0 : Dec method_3_code 0 (.iload_n 0) 1 1 := ⟨by decide +kernel, rfl⟩
theorem db57_1 : Dec method_3_code 1 (.ldc 7) 2 3 := ⟨by decide +kernel, rfl⟩
theorem db57_3 : Dec method_3_code 3 (.iand) 1 4 := ⟨by decide +kernel, rfl⟩
theorem db57_4 : Dec method_3_code 4 (.i2c) 1 5 := ⟨by decide +kernel, rfl⟩
theorem db57_5 : Dec method_3_code 5 (.istore_n 2) 1 6 := ⟨by decide +kernel, rfl⟩
theorem db57_6 : Dec method_3_code 6 (.iload_n 0) 1 7 := ⟨by decide +kernel, rfl⟩
theorem db57_7 : Dec method_3_code 7 (.bipush 16) 2 9 := ⟨by decide +kernel, rfl⟩
theorem db57_9 : Dec method_3_code 9 (.iushr) 1 10 := ⟨by decide +kernel, rfl⟩
theorem db57_10 : Dec method_3_code 10 (.ldc 7) 2 12 := ⟨by decide +kernel, rfl⟩
theorem db57_12 : Dec method_3_code 12 (.iand) 1 13 := ⟨by decide +kernel, rfl⟩
theorem db57_13 : Dec method_3_code 13 (.i2c) 1 14 := ⟨by decide +kernel, rfl⟩
theorem db57_14 : Dec method_3_code 14 (.istore_n 3) 1 15 := ⟨by decide +kernel, rfl⟩
theorem db57_15 : Dec method_3_code 15 (.iload_n 1) 1 16 := ⟨by decide +kernel, rfl⟩
theorem db57_16 : DecJ method_3_code 16 (.ifCond .ne 6) (6) 19 22 := ⟨by decide +kernel, rfl, by decide, by decide⟩
theorem db57_19 : Dec method_3_code 19 (.ldc 11) 2 21 := ⟨by decide +kernel, rfl⟩
theorem db57_21 : Dec method_3_code 21 (.areturn) 1 22 := ⟨by decide +kernel, rfl⟩
theorem db57_22 : Dec method_3_code 22 (.iload_n 1) 1 23 := ⟨by decide +kernel, rfl⟩
theorem db57_23 : Dec method_3_code 23 (.iconst 1) 1 24 := ⟨by decide +kernel, rfl⟩
theorem db57_24 : DecJ method_3_code 24 (.if_icmp .ne 8) (8) 27 32 := ⟨by decide +kernel, rfl, by decide, by decide⟩
theorem db57_27 : Dec method_3_code 27 (.iload_n 2) 1 28 := ⟨by decide +kernel, rfl⟩
theorem db57_28 : Dec method_3_code 28 (.invokestatic 13) 3 31 := ⟨by decide +kernel, rfl⟩
theorem db57_31 : Dec method_3_code 31 (.areturn) 1 32 := ⟨by decide +kernel, rfl⟩
theorem db57_32 : Dec method_3_code 32 (.new 14) 3 35 := ⟨by decide +kernel, rfl⟩
theorem db57_35 : Dec method_3_code 35 (.dup) 1 36 := ⟨by decide +kernel, rfl⟩
theorem db57_36 : Dec method_3_code 36 (.iconst 2) 1 37 := ⟨by decide +kernel, rfl⟩
theorem db57_37 : Dec method_3_code 37 (.newarray .char) 2 39 := ⟨by decide +kernel, rfl⟩
theorem db57_39 : Dec method_3_code 39 (.dup) 1 40 := ⟨by decide +kernel, rfl⟩
theorem db57_40 : Dec method_3_code 40 (.iconst 0) 1 41 := ⟨by decide +kernel, rfl⟩
theorem db57_41 : Dec method_3_code 41 (.iload_n 2) 1 42 := ⟨by decide +kernel, rfl⟩
theorem db57_42 : Dec method_3_code 42 (.castore) 1 43 := ⟨by decide +kernel, rfl⟩
theorem db57_43 : Dec method_3_code 43 (.dup) 1 44 := ⟨by decide +kernel, rfl⟩
theorem db57_44 : Dec method_3_code 44 (.iconst 1) 1 45 := ⟨by decide +kernel, rfl⟩
theorem db57_45 : Dec method_3_code 45 (.iload_n 3) 1 46 := ⟨by decide +kernel, rfl⟩
theorem db57_46 : Dec method_3_code 46 (.castore) 1 47 := ⟨by decide +kernel, rfl⟩
theorem db57_47 : Dec method_3_code 47 (.invokespecial 19) 3 50 := ⟨by decide +kernel, rfl⟩
theorem db57_50 : Dec method_3_code 50 (.areturn) 1 51 := ⟨by decide +kernel, rfl⟩
theorem db58_0 : Dec prog_8_method_1_code 0 (.aload_n 0) 1 1 := ⟨by decide +kernel, rfl⟩
theorem db58_1 : Dec prog_8_method_1_code 1 (.invokespecial 1) 3 4 := ⟨by decide +kernel, rfl⟩
theorem db58_4 : Dec prog_8_method_1_code 4 (.aload_n 0) 1 5 := ⟨by decide +kernel, rfl⟩
theorem db58_5 : Dec prog_8_method_1_code 5 (.aload_n 1) 1 6 := ⟨by decide +kernel, rfl⟩
theorem db58_6 : Dec prog_8_method_1_code 6 (.ldc 7) 2 8 := ⟨by decide +kernel, rfl⟩
theorem db58_8 : Dec prog_8_method_1_code 8 (.invokestatic 9) 3 11 := ⟨by decide +kernel, rfl⟩
theorem db58_11 : Dec prog_8_method_1_code 11 (.checkcast 15) 3 14 := ⟨by decide +kernel, rfl⟩
theorem db58_14 : Dec prog_8_method_1_code 14 (.putfield 17) 3 17 := ⟨by decide +kernel, rfl⟩
theorem db58_17 : Dec prog_8_method_1_code 17 (.return_) 1 18 := ⟨by decide +kernel, rfl⟩
theorem db59_0 : Dec prog_8_method_2_code 0 (.new 22) 3 3 := ⟨by decide +kernel, rfl⟩
theorem db59_3 : Dec prog_8_method_2_code 3 (.dup) 1 4 := ⟨by decide +kernel, rfl⟩
theorem db59_4 : Dec prog_8_method_2_code 4 (.invokespecial 24) 3 7 := ⟨by decide +kernel, rfl⟩
theorem db59_7 : Dec prog_8_method_2_code 7 (.aload_n 0) 1 8 := ⟨by decide +kernel, rfl⟩
theorem db59_8 : Dec prog_8_method_2_code 8 (.getfield 17) 3 11 := ⟨by decide +kernel, rfl⟩
theorem db59_11 : Dec prog_8_method_2_code 11 (.invokevirtual 25) 3 14 := ⟨by decide +kernel, rfl⟩
theorem db59_14 : Dec prog_8_method_2_code 14 (.aload_n 1) 1 15 := ⟨by decide +kernel, rfl⟩
theorem db59_15 : Dec prog_8_method_2_code 15 (.invokevirtual 25) 3 18 := ⟨by decide +kernel, rfl⟩
theorem db59_18 : Dec prog_8_method_2_code 18 (.ldc 29) 2 20 := ⟨by decide +kernel, rfl⟩
theorem db59_20 : Dec prog_8_method_2_code 20 (.invokevirtual 25) 3 23 := ⟨by decide +kernel, rfl⟩
theorem db59_23 : Dec prog_8_method_2_code 23 (.aload_n 2) 1 24 := ⟨by decide +kernel, rfl⟩
theorem db59_24 : Dec prog_8_method_2_code 24 (.invokestatic 31) 3 27 := ⟨by decide +kernel, rfl⟩
theorem db59_27 : Dec prog_8_method_2_code 27 (.invokevirtual 25) 3 30 := ⟨by decide +kernel, rfl⟩
theorem db59_30 : Dec prog_8_method_2_code 30 (.invokevirtual 35) 3 33 := ⟨by decide +kernel, rfl⟩
theorem db59_33 : Dec prog_8_method_2_code 33 (.areturn) 1 34 := ⟨by decide +kernel, rfl⟩
theorem db60_0 : Dec method_4_code 0 (.iload_n 3) 1 1 := ⟨by decide +kernel, rfl⟩
theorem db60_1 : Dec method_4_code 1 (.aload_n 0) 1 2 := ⟨by decide +kernel, rfl⟩
theorem db60_2 : Dec method_4_code 2 (.invokevirtual 22) 3 5 := ⟨by decide +kernel, rfl⟩
theorem db60_5 : DecJ method_4_code 5 (.if_icmp .ge 9) (9) 8 14 := ⟨by decide +kernel, rfl, by decide, by decide⟩
theorem db60_14 : Dec method_4_code 14 (.iload_n 3) 1 15 := ⟨by decide +kernel, rfl⟩
theorem db60_15 : Dec method_4_code 15 (.aload_n 0) 1 16 := ⟨by decide +kernel, rfl⟩
theorem db60_16 : Dec method_4_code 16 (.invokevirtual 22) 3 19 := ⟨by decide +kernel, rfl⟩
theorem db60_19 : Dec method_4_code 19 (.isub) 1 20 := ⟨by decide +kernel, rfl⟩
theorem db60_20 : Dec method_4_code 20 (.istore 4) 2 22 := ⟨by decide +kernel, rfl⟩
theorem db60_22 : Dec method_4_code 22 (.iload 4) 2 24 := ⟨by decide +kernel, rfl⟩
theorem db60_24 : Dec method_4_code 24 (.aload_n 1) 1 25 := ⟨by decide +kernel, rfl⟩
theorem db60_25 : Dec method_4_code 25 (.invokevirtual 22) 3 28 := ⟨by decide +kernel, rfl⟩
theorem db60_28 : DecJ method_4_code 28 (.if_icmp .ge 10) (10) 31 38 := ⟨by decide +kernel, rfl, by decide, by decide⟩
theorem db60_38 : Dec method_4_code 38 (.iload 4) 2 40 := ⟨by decide +kernel, rfl⟩
theorem db60_40 : Dec method_4_code 40 (.aload_n 1) 1 41 := ⟨by decide +kernel, rfl⟩
theorem db60_41 : Dec method_4_code 41 (.invokevirtual 22) 3 44 := ⟨by decide +kernel, rfl⟩
theorem db60_44 : Dec method_4_code 44 (.isub) 1 45 := ⟨by decide +kernel, rfl⟩
theorem db60_45 : Dec method_4_code 45 (.istore 4) 2 47 := ⟨by decide +kernel, rfl⟩
theorem db60_47 : Dec method_4_code 47 (.iload 4) 2 49 := ⟨by decide +kernel, rfl⟩
theorem db60_49 : DecJ method_4_code 49 (.ifCond .ne 6) (6) 52 55 := ⟨by decide +kernel, rfl, by decide, by decide⟩
theorem db60_52 : Dec method_4_code 52 (.bipush 58) 2 54 := ⟨by decide +kernel, rfl⟩
theorem db60_54 : Dec method_4_code 54 (.ireturn) 1 55 := ⟨by decide +kernel, rfl⟩
theorem db60_55 : Dec method_4_code 55 (.iload 4) 2 57 := ⟨by decide +kernel, rfl⟩
theorem db60_57 : Dec method_4_code 57 (.iconst 1) 1 58 := ⟨by decide +kernel, rfl⟩
theorem db60_58 : Dec method_4_code 58 (.isub) 1 59 := ⟨by decide +kernel, rfl⟩
theorem db60_59 : Dec method_4_code 59 (.istore 4) 2 61 := ⟨by decide +kernel, rfl⟩
theorem db60_61 : Dec method_4_code 61 (.iload 4) 2 63 := ⟨by decide +kernel, rfl⟩
theorem db60_63 : Dec method_4_code 63 (.aload_n 2) 1 64 := ⟨by decide +kernel, rfl⟩
theorem db60_64 : Dec method_4_code 64 (.invokevirtual 22) 3 67 := ⟨by decide +kernel, rfl⟩
theorem db60_67 : DecJ method_4_code 67 (.if_icmp .ge 10) (10) 70 77 := ⟨by decide +kernel, rfl, by decide, by decide⟩
theorem db60_70 : Dec method_4_code 70 (.aload_n 2) 1 71 := ⟨by decide +kernel, rfl⟩
theorem db60_71 : Dec method_4_code 71 (.iload 4) 2 73 := ⟨by decide +kernel, rfl⟩
theorem db60_73 : Dec method_4_code 73 (.invokevirtual 26) 3 76 := ⟨by decide +kernel, rfl⟩
theorem db60_76 : Dec method_4_code 76 (.ireturn) 1 77 := ⟨by decide +kernel, rfl⟩
theorem db60_31 : Dec method_4_code 31 (.aload_n 1) 1 32 := ⟨by decide +kernel, rfl⟩
theorem db60_32 : Dec method_4_code 32 (.iload 4) 2 34 := ⟨by decide +kernel, rfl⟩
theorem db60_34 : Dec method_4_code 34 (.invokevirtual 26) 3 37 := ⟨by decide +kernel, rfl⟩
theorem db60_37 : Dec method_4_code 37 (.ireturn) 1 38 := ⟨by decide +kernel, rfl⟩
theorem db60_8 : Dec method_4_code 8 (.aload_n 0) 1 9 := ⟨by decide +kernel, rfl⟩
theorem db60_9 : Dec method_4_code 9 (.iload_n 3) 1 10 := ⟨by decide +kernel, rfl⟩
theorem db60_10 : Dec method_4_code 10 (.invokevirtual 26) 3 13 := ⟨by decide +kernel, rfl⟩
theorem db60_13 : Dec method_4_code 13 (.ireturn) 1 14 := ⟨by decide +kernel, rfl⟩
theorem db61_0 : Dec method_5_code 0 (.iload 4) 2 2 := ⟨by decide +kernel, rfl⟩
theorem db61_2 : Dec method_5_code 2 (.aload_n 0) 1 3 := ⟨by decide +kernel, rfl⟩
theorem db61_3 : Dec method_5_code 3 (.invokevirtual 22) 3 6 := ⟨by decide +kernel, rfl⟩
theorem db61_6 : DecJ method_5_code 6 (.if_icmp .lt 5) (5) 9 11 := ⟨by decide +kernel, rfl, by decide, by decide⟩
theorem db61_11 : Dec method_5_code 11 (.aload_n 0) 1 12 := ⟨by decide +kernel, rfl⟩
theorem db61_12 : Dec method_5_code 12 (.iload 4) 2 14 := ⟨by decide +kernel, rfl⟩
theorem db61_14 : Dec method_5_code 14 (.invokevirtual 26) 3 17 := ⟨by decide +kernel, rfl⟩
theorem db61_17 : Dec method_5_code 17 (.aload_n 1) 1 18 := ⟨by decide +kernel, rfl⟩
theorem db61_18 : Dec method_5_code 18 (.aload_n 2) 1 19 := ⟨by decide +kernel, rfl⟩
theorem db61_19 : Dec method_5_code 19 (.aload_n 3) 1 20 := ⟨by decide +kernel, rfl⟩
theorem db61_20 : Dec method_5_code 20 (.iload 4) 2 22 := ⟨by decide +kernel, rfl⟩
theorem db61_22 : Dec method_5_code 22 (.invokestatic 30) 3 25 := ⟨by decide +kernel, rfl⟩
theorem db61_25 : DecJ method_5_code 25 (.if_icmp .ne 7) (7) 28 32 := ⟨by decide +kernel, rfl, by decide, by decide⟩
theorem db61_28 : Dec method_5_code 28 (.iconst 1) 1 29 := ⟨by decide +kernel, rfl⟩
theorem db61_29 : DecJ method_5_code 29 (.goto 4) (4) 32 33 := ⟨by decide +kernel, rfl, by decide, by decide⟩
theorem db61_33 : Dec method_5_code 33 (.ireturn) 1 34 := ⟨by decide +kernel, rfl⟩
theorem db61_9 : Dec method_5_code 9 (.iconst 1) 1 10 := ⟨by decide +kernel, rfl⟩
theorem db61_10 : Dec method_5_code 10 (.ireturn) 1 11 := ⟨by decide +kernel, rfl⟩
theorem dL_201 : Dec code 201 (.new 44) 3 204 := ⟨by decide +kernel, rfl⟩
theorem dL_204 : Dec code 204 (.dup) 1 205 := ⟨by decide +kernel, rfl⟩
theorem dL_205 : Dec code 205 (.aload 8) 2 207 := ⟨by decide +kernel, rfl⟩
theorem dL_207 : Dec code 207 (.invokespecial 46) 3 210 := ⟨by decide +kernel, rfl⟩
theorem dL_210 : Dec code 210 (.astore 11) 2 212 := ⟨by decide +kernel, rfl⟩
theorem dL_212 : Dec code 212 (.aload 11) 2 214 := ⟨by decide +kernel, rfl⟩
theorem dL_214 : Dec code 214 (.aload 9) 2 216 := ⟨by decide +kernel, rfl⟩
theorem dL_216 : Dec code 216 (.aload 10) 2 218 := ⟨by decide +kernel, rfl⟩
theorem dL_218 : Dec code 218 (.invokevirtual 49) 3 221 := ⟨by decide +kernel, rfl⟩
theorem dL_221 : Dec code 221 (.astore 12) 2 223 := ⟨by decide +kernel, rfl⟩
theorem dL_223 : Dec code 223 (.aload 12) 2 225 := ⟨by decide +kernel, rfl⟩
theorem dL_225 : Dec code 225 (.invokevirtual 22) 3 228 := ⟨by decide +kernel, rfl⟩
theorem dL_228 : Dec code 228 (.aload 8) 2 230 := ⟨by decide +kernel, rfl⟩
theorem dL_230 : Dec code 230 (.invokevirtual 22) 3 233 := ⟨by decide +kernel, rfl⟩
theorem dL_233 : Dec code 233 (.aload 9) 2 235 := ⟨by decide +kernel, rfl⟩
theorem dL_235 : Dec code 235 (.invokevirtual 22) 3 238 := ⟨by decide +kernel, rfl⟩
theorem dL_238 : Dec code 238 (.iadd) 1 239 := ⟨by decide +kernel, rfl⟩
theorem dL_239 : Dec code 239 (.iconst 1) 1 240 := ⟨by decide +kernel, rfl⟩
theorem dL_240 : Dec code 240 (.iadd) 1 241 := ⟨by decide +kernel, rfl⟩
theorem dL_241 : Dec code 241 (.aload 10) 2 243 := ⟨by decide +kernel, rfl⟩
theorem dL_243 : Dec code 243 (.invokevirtual 22) 3 246 := ⟨by decide +kernel, rfl⟩
theorem dL_246 : Dec code 246 (.iadd) 1 247 := ⟨by decide +kernel, rfl⟩
theorem dL_247 : DecJ code 247 (.if_icmp .ne 129) (129) 250 376 := ⟨by decide +kernel, rfl, by decide, by decide⟩
theorem dL_250 : Dec code 250 (.aload 12) 2 252 := ⟨by decide +kernel, rfl⟩
theorem dL_252 : Dec code 252 (.aload 8) 2 254 := ⟨by decide +kernel, rfl⟩
theorem dL_254 : Dec code 254 (.aload 9) 2 256 := ⟨by decide +kernel, rfl⟩
theorem dL_256 : Dec code 256 (.aload 10) 2 258 := ⟨by decide +kernel, rfl⟩
theorem dL_258 : Dec code 258 (.iconst 0) 1 259 := ⟨by decide +kernel, rfl⟩
theorem dL_259 : Dec code 259 (.invokestatic 53) 3 262 := ⟨by decide +kernel, rfl⟩
theorem dL_262 : DecJ code 262 (.ifCond .eq 114) (114) 265 376 := ⟨by decide +kernel, rfl, by decide, by decide⟩
theorem dL_265 : Dec code 265 (.aload 12) 2 267 := ⟨by decide +kernel, rfl⟩
theorem dL_267 : Dec code 267 (.aload 8) 2 269 := ⟨by decide +kernel, rfl⟩
theorem dL_269 : Dec code 269 (.aload 9) 2 271 := ⟨by decide +kernel, rfl⟩
theorem dL_271 : Dec code 271 (.aload 10) 2 273 := ⟨by decide +kernel, rfl⟩
theorem dL_273 : Dec code 273 (.iconst 1) 1 274 := ⟨by decide +kernel, rfl⟩
theorem dL_274 : Dec code 274 (.invokestatic 53) 3 277 := ⟨by decide +kernel, rfl⟩
theorem dL_277 : DecJ code 277 (.ifCond .eq 99) (99) 280 376 := ⟨by decide +kernel, rfl, by decide, by decide⟩
theorem dL_280 : Dec code 280 (.aload 12) 2 282 := ⟨by decide +kernel, rfl⟩
theorem dL_282 : Dec code 282 (.aload 8) 2 284 := ⟨by decide +kernel, rfl⟩
theorem dL_284 : Dec code 284 (.aload 9) 2 286 := ⟨by decide +kernel, rfl⟩
theorem dL_286 : Dec code 286 (.aload 10) 2 288 := ⟨by decide +kernel, rfl⟩
theorem dL_288 : Dec code 288 (.iconst 2) 1 289 := ⟨by decide +kernel, rfl⟩
theorem dL_289 : Dec code 289 (.invokestatic 53) 3 292 := ⟨by decide +kernel, rfl⟩
theorem dL_292 : DecJ code 292 (.ifCond .eq 84) (84) 295 376 := ⟨by decide +kernel, rfl, by decide, by decide⟩
theorem dL_295 : Dec code 295 (.aload 12) 2 297 := ⟨by decide +kernel, rfl⟩
theorem dL_297 : Dec code 297 (.aload 8) 2 299 := ⟨by decide +kernel, rfl⟩
theorem dL_299 : Dec code 299 (.aload 9) 2 301 := ⟨by decide +kernel, rfl⟩
theorem dL_301 : Dec code 301 (.aload 10) 2 303 := ⟨by decide +kernel, rfl⟩
theorem dL_303 : Dec code 303 (.iconst 3) 1 304 := ⟨by decide +kernel, rfl⟩
theorem dL_304 : Dec code 304 (.invokestatic 53) 3 307 := ⟨by decide +kernel, rfl⟩
theorem dL_307 : DecJ code 307 (.ifCond .eq 69) (69) 310 376 := ⟨by decide +kernel, rfl, by decide, by decide⟩
theorem dL_310 : Dec code 310 (.aload 12) 2 312 := ⟨by decide +kernel, rfl⟩
theorem dL_312 : Dec code 312 (.aload 8) 2 314 := ⟨by decide +kernel, rfl⟩
theorem dL_314 : Dec code 314 (.aload 9) 2 316 := ⟨by decide +kernel, rfl⟩
theorem dL_316 : Dec code 316 (.aload 10) 2 318 := ⟨by decide +kernel, rfl⟩
theorem dL_318 : Dec code 318 (.iconst 4) 1 319 := ⟨by decide +kernel, rfl⟩
theorem dL_319 : Dec code 319 (.invokestatic 53) 3 322 := ⟨by decide +kernel, rfl⟩
theorem dL_322 : DecJ code 322 (.ifCond .eq 54) (54) 325 376 := ⟨by decide +kernel, rfl, by decide, by decide⟩
theorem dL_325 : Dec code 325 (.aload 12) 2 327 := ⟨by decide +kernel, rfl⟩
theorem dL_327 : Dec code 327 (.aload 8) 2 329 := ⟨by decide +kernel, rfl⟩
theorem dL_329 : Dec code 329 (.aload 9) 2 331 := ⟨by decide +kernel, rfl⟩
theorem dL_331 : Dec code 331 (.aload 10) 2 333 := ⟨by decide +kernel, rfl⟩
theorem dL_333 : Dec code 333 (.iconst 5) 1 334 := ⟨by decide +kernel, rfl⟩
theorem dL_334 : Dec code 334 (.invokestatic 53) 3 337 := ⟨by decide +kernel, rfl⟩
theorem dL_337 : DecJ code 337 (.ifCond .eq 39) (39) 340 376 := ⟨by decide +kernel, rfl, by decide, by decide⟩
theorem dL_340 : Dec code 340 (.aload 12) 2 342 := ⟨by decide +kernel, rfl⟩
theorem dL_342 : Dec code 342 (.aload 8) 2 344 := ⟨by decide +kernel, rfl⟩
theorem dL_344 : Dec code 344 (.aload 9) 2 346 := ⟨by decide +kernel, rfl⟩
theorem dL_346 : Dec code 346 (.aload 10) 2 348 := ⟨by decide +kernel, rfl⟩
theorem dL_348 : Dec code 348 (.bipush 6) 2 350 := ⟨by decide +kernel, rfl⟩
theorem dL_350 : Dec code 350 (.invokestatic 53) 3 353 := ⟨by decide +kernel, rfl⟩
theorem dL_353 : DecJ code 353 (.ifCond .eq 23) (23) 356 376 := ⟨by decide +kernel, rfl, by decide, by decide⟩
theorem dL_356 : Dec code 356 (.aload 12) 2 358 := ⟨by decide +kernel, rfl⟩
theorem dL_358 : Dec code 358 (.aload 8) 2 360 := ⟨by decide +kernel, rfl⟩
theorem dL_360 : Dec code 360 (.aload 9) 2 362 := ⟨by decide +kernel, rfl⟩
theorem dL_362 : Dec code 362 (.aload 10) 2 364 := ⟨by decide +kernel, rfl⟩
theorem dL_364 : Dec code 364 (.bipush 7) 2 366 := ⟨by decide +kernel, rfl⟩
theorem dL_366 : Dec code 366 (.invokestatic 53) 3 369 := ⟨by decide +kernel, rfl⟩
theorem dL_369 : DecJ code 369 (.ifCond .eq 7) (7) 372 376 := ⟨by decide +kernel, rfl, by decide, by decide⟩
theorem dL_372 : Dec code 372 (.iconst 1) 1 373 := ⟨by decide +kernel, rfl⟩
theorem dL_373 : DecJ code 373 (.goto 4) (4) 376 377 := ⟨by decide +kernel, rfl, by decide, by decide⟩
theorem dL_377 : Dec code 377 (.ireturn) 1 378 := ⟨by decide +kernel, rfl⟩
theorem dL_0 : Dec code 0 (.iload 4) 2 2 := ⟨by decide +kernel, rfl⟩
theorem dL_2 : Dec code 2 (.iconst 3) 1 3 := ⟨by decide +kernel, rfl⟩
theorem dL_3 : Dec code 3 (.iand) 1 4 := ⟨by decide +kernel, rfl⟩
theorem dL_4 : Dec code 4 (.iconst 3) 1 5 := ⟨by decide +kernel, rfl⟩
theorem dL_5 : Dec code 5 (.irem) 1 6 := ⟨by decide +kernel, rfl⟩
theorem dL_6 : Dec code 6 (.istore 5) 2 8 := ⟨by decide +kernel, rfl⟩
theorem dL_8 : Dec code 8 (.iload 4) 2 10 := ⟨by decide +kernel, rfl⟩
theorem dL_10 : Dec code 10 (.iconst 2) 1 11 := ⟨by decide +kernel, rfl⟩
theorem dL_11 : Dec code 11 (.iushr) 1 12 := ⟨by decide +kernel, rfl⟩
theorem dL_12 : Dec code 12 (.iconst 3) 1 13 := ⟨by decide +kernel, rfl⟩
theorem dL_13 : Dec code 13 (.iand) 1 14 := ⟨by decide +kernel, rfl⟩
theorem dL_14 : Dec code 14 (.iconst 3) 1 15 := ⟨by decide +kernel, rfl⟩
theorem dL_15 : Dec code 15 (.irem) 1 16 := ⟨by decide +kernel, rfl⟩
theorem dL_16 : Dec code 16 (.istore 6) 2 18 := ⟨by decide +kernel, rfl⟩
theorem dL_18 : Dec code 18 (.iload 4) 2 20 := ⟨by decide +kernel, rfl⟩
theorem dL_20 : Dec code 20 (.iconst 4) 1 21 := ⟨by decide +kernel, rfl⟩
theorem dL_21 : Dec code 21 (.iushr) 1 22 := ⟨by decide +kernel, rfl⟩
theorem dL_22 : Dec code 22 (.iconst 3) 1 23 := ⟨by decide +kernel, rfl⟩
theorem dL_23 : Dec code 23 (.iand) 1 24 := ⟨by decide +kernel, rfl⟩
theorem dL_24 : Dec code 24 (.istore 7) 2 26 := ⟨by decide +kernel, rfl⟩
theorem dL_26 : Dec code 26 (.iload_n 0) 1 27 := ⟨by decide +kernel, rfl⟩
theorem dL_27 : Dec code 27 (.iload 5) 2 29 := ⟨by decide +kernel, rfl⟩
theorem dL_29 : Dec code 29 (.invokestatic 36) 3 32 := ⟨by decide +kernel, rfl⟩
theorem dL_32 : Dec code 32 (.astore 8) 2 34 := ⟨by decide +kernel, rfl⟩
theorem dL_34 : Dec code 34 (.iload_n 1) 1 35 := ⟨by decide +kernel, rfl⟩
theorem dL_35 : Dec code 35 (.iload 6) 2 37 := ⟨by decide +kernel, rfl⟩
theorem dL_37 : Dec code 37 (.invokestatic 36) 3 40 := ⟨by decide +kernel, rfl⟩
theorem dL_40 : Dec code 40 (.astore 9) 2 42 := ⟨by decide +kernel, rfl⟩
theorem dL_42 : Dec code 42 (.iload 7) 2 44 := ⟨by decide +kernel, rfl⟩
theorem dL_44 : DecJ code 44 (.ifCond .ne 15) (15) 47 59 := ⟨by decide +kernel, rfl, by decide, by decide⟩
theorem dL_47 : Dec code 47 (.iload_n 2) 1 48 := ⟨by decide +kernel, rfl⟩
theorem dL_48 : Dec code 48 (.invokestatic 40) 3 51 := ⟨by decide +kernel, rfl⟩
theorem dL_51 : Dec code 51 (.invokestatic 13) 3 54 := ⟨by decide +kernel, rfl⟩
theorem dL_54 : Dec code 54 (.astore 10) 2 56 := ⟨by decide +kernel, rfl⟩
theorem dL_56 : DecJ code 56 (.goto 145) (145) 59 201 := ⟨by decide +kernel, rfl, by decide, by decide⟩
theorem dL_59 : Dec code 59 (.iload 7) 2 61 := ⟨by decide +kernel, rfl⟩
theorem dL_61 : Dec code 61 (.iconst 1) 1 62 := ⟨by decide +kernel, rfl⟩
theorem dL_62 : DecJ code 62 (.if_icmp .ne 32) (32) 65 94 := ⟨by decide +kernel, rfl, by decide, by decide⟩
theorem dL_65 : Dec code 65 (.new 14) 3 68 := ⟨by decide +kernel, rfl⟩
theorem dL_68 : Dec code 68 (.dup) 1 69 := ⟨by decide +kernel, rfl⟩
theorem dL_69 : Dec code 69 (.iconst 2) 1 70 := ⟨by decide +kernel, rfl⟩
theorem dL_70 : Dec code 70 (.newarray .char) 2 72 := ⟨by decide +kernel, rfl⟩
theorem dL_72 : Dec code 72 (.dup) 1 73 := ⟨by decide +kernel, rfl⟩
theorem dL_73 : Dec code 73 (.iconst 0) 1 74 := ⟨by decide +kernel, rfl⟩
theorem dL_74 : Dec code 74 (.iload_n 2) 1 75 := ⟨by decide +kernel, rfl⟩
theorem dL_75 : Dec code 75 (.invokestatic 40) 3 78 := ⟨by decide +kernel, rfl⟩
theorem dL_78 : Dec code 78 (.castore) 1 79 := ⟨by decide +kernel, rfl⟩
theorem dL_79 : Dec code 79 (.dup) 1 80 := ⟨by decide +kernel, rfl⟩
theorem dL_80 : Dec code 80 (.iconst 1) 1 81 := ⟨by decide +kernel, rfl⟩
theorem dL_81 : Dec code 81 (.iload_n 3) 1 82 := ⟨by decide +kernel, rfl⟩
theorem dL_82 : Dec code 82 (.invokestatic 40) 3 85 := ⟨by decide +kernel, rfl⟩
theorem dL_85 : Dec code 85 (.castore) 1 86 := ⟨by decide +kernel, rfl⟩
theorem dL_86 : Dec code 86 (.invokespecial 19) 3 89 := ⟨by decide +kernel, rfl⟩
theorem dL_89 : Dec code 89 (.astore 10) 2 91 := ⟨by decide +kernel, rfl⟩
theorem dL_91 : DecJ code 91 (.goto 110) (110) 94 201 := ⟨by decide +kernel, rfl, by decide, by decide⟩
theorem dL_94 : Dec code 94 (.iload 7) 2 96 := ⟨by decide +kernel, rfl⟩
theorem dL_96 : Dec code 96 (.iconst 2) 1 97 := ⟨by decide +kernel, rfl⟩
theorem dL_97 : DecJ code 97 (.if_icmp .ne 50) (50) 100 147 := ⟨by decide +kernel, rfl, by decide, by decide⟩
theorem dL_100 : Dec code 100 (.ldc 8) 2 102 := ⟨by decide +kernel, rfl⟩
theorem dL_102 : Dec code 102 (.iload_n 2) 1 103 := ⟨by decide +kernel, rfl⟩
theorem dL_103 : Dec code 103 (.sipush 1023) 3 106 := ⟨by decide +kernel, rfl⟩
theorem dL_106 : Dec code 106 (.iand) 1 107 := ⟨by decide +kernel, rfl⟩
theorem dL_107 : Dec code 107 (.ior) 1 108 := ⟨by decide +kernel, rfl⟩
theorem dL_108 : Dec code 108 (.i2c) 1 109 := ⟨by decide +kernel, rfl⟩
theorem dL_109 : Dec code 109 (.istore 11) 2 111 := ⟨by decide +kernel, rfl⟩
theorem dL_111 : Dec code 111 (.ldc 43) 2 113 := ⟨by decide +kernel, rfl⟩
theorem dL_113 : Dec code 113 (.iload_n 3) 1 114 := ⟨by decide +kernel, rfl⟩
theorem dL_114 : Dec code 114 (.sipush 1023) 3 117 := ⟨by decide +kernel, rfl⟩
theorem dL_117 : Dec code 117 (.iand) 1 118 := ⟨by decide +kernel, rfl⟩
theorem dL_118 : Dec code 118 (.ior) 1 119 := ⟨by decide +kernel, rfl⟩
theorem dL_119 : Dec code 119 (.i2c) 1 120 := ⟨by decide +kernel, rfl⟩
theorem dL_120 : Dec code 120 (.istore 12) 2 122 := ⟨by decide +kernel, rfl⟩
theorem dL_122 : Dec code 122 (.new 14) 3 125 := ⟨by decide +kernel, rfl⟩
theorem dL_125 : Dec code 125 (.dup) 1 126 := ⟨by decide +kernel, rfl⟩
theorem dL_126 : Dec code 126 (.iconst 2) 1 127 := ⟨by decide +kernel, rfl⟩
theorem dL_127 : Dec code 127 (.newarray .char) 2 129 := ⟨by decide +kernel, rfl⟩
theorem dL_129 : Dec code 129 (.dup) 1 130 := ⟨by decide +kernel, rfl⟩
theorem dL_130 : Dec code 130 (.iconst 0) 1 131 := ⟨by decide +kernel, rfl⟩
theorem dL_131 : Dec code 131 (.iload 11) 2 133 := ⟨by decide +kernel, rfl⟩
theorem dL_133 : Dec code 133 (.castore) 1 134 := ⟨by decide +kernel, rfl⟩
theorem dL_134 : Dec code 134 (.dup) 1 135 := ⟨by decide +kernel, rfl⟩
theorem dL_135 : Dec code 135 (.iconst 1) 1 136 := ⟨by decide +kernel, rfl⟩
theorem dL_136 : Dec code 136 (.iload 12) 2 138 := ⟨by decide +kernel, rfl⟩
theorem dL_138 : Dec code 138 (.castore) 1 139 := ⟨by decide +kernel, rfl⟩
theorem dL_139 : Dec code 139 (.invokespecial 19) 3 142 := ⟨by decide +kernel, rfl⟩
theorem dL_142 : Dec code 142 (.astore 10) 2 144 := ⟨by decide +kernel, rfl⟩
theorem dL_144 : DecJ code 144 (.goto 57) (57) 147 201 := ⟨by decide +kernel, rfl, by decide, by decide⟩
theorem dL_147 : Dec code 147 (.ldc 8) 2 149 := ⟨by decide +kernel, rfl⟩
theorem dL_149 : Dec code 149 (.iload_n 3) 1 150 := ⟨by decide +kernel, rfl⟩
theorem dL_150 : Dec code 150 (.sipush 1023) 3 153 := ⟨by decide +kernel, rfl⟩
theorem dL_153 : Dec code 153 (.iand) 1 154 := ⟨by decide +kernel, rfl⟩
theorem dL_154 : Dec code 154 (.ior) 1 155 := ⟨by decide +kernel, rfl⟩
theorem dL_155 : Dec code 155 (.i2c) 1 156 := ⟨by decide +kernel, rfl⟩
theorem dL_156 : Dec code 156 (.istore 11) 2 158 := ⟨by decide +kernel, rfl⟩
theorem dL_158 : Dec code 158 (.ldc 43) 2 160 := ⟨by decide +kernel, rfl⟩
theorem dL_160 : Dec code 160 (.iload_n 3) 1 161 := ⟨by decide +kernel, rfl⟩
theorem dL_161 : Dec code 161 (.bipush 10) 2 163 := ⟨by decide +kernel, rfl⟩
theorem dL_163 : Dec code 163 (.iushr) 1 164 := ⟨by decide +kernel, rfl⟩
theorem dL_164 : Dec code 164 (.sipush 1023) 3 167 := ⟨by decide +kernel, rfl⟩
theorem dL_167 : Dec code 167 (.iand) 1 168 := ⟨by decide +kernel, rfl⟩
theorem dL_168 : Dec code 168 (.ior) 1 169 := ⟨by decide +kernel, rfl⟩
theorem dL_169 : Dec code 169 (.i2c) 1 170 := ⟨by decide +kernel, rfl⟩
theorem dL_170 : Dec code 170 (.istore 12) 2 172 := ⟨by decide +kernel, rfl⟩
theorem dL_172 : Dec code 172 (.new 14) 3 175 := ⟨by decide +kernel, rfl⟩
theorem dL_175 : Dec code 175 (.dup) 1 176 := ⟨by decide +kernel, rfl⟩
theorem dL_176 : Dec code 176 (.iconst 3) 1 177 := ⟨by decide +kernel, rfl⟩
theorem dL_177 : Dec code 177 (.newarray .char) 2 179 := ⟨by decide +kernel, rfl⟩
theorem dL_179 : Dec code 179 (.dup) 1 180 := ⟨by decide +kernel, rfl⟩
theorem dL_180 : Dec code 180 (.iconst 0) 1 181 := ⟨by decide +kernel, rfl⟩
theorem dL_181 : Dec code 181 (.iload_n 2) 1 182 := ⟨by decide +kernel, rfl⟩
theorem dL_182 : Dec code 182 (.invokestatic 40) 3 185 := ⟨by decide +kernel, rfl⟩
theorem dL_185 : Dec code 185 (.castore) 1 186 := ⟨by decide +kernel, rfl⟩
theorem dL_186 : Dec code 186 (.dup) 1 187 := ⟨by decide +kernel, rfl⟩
theorem dL_187 : Dec code 187 (.iconst 1) 1 188 := ⟨by decide +kernel, rfl⟩
theorem dL_188 : Dec code 188 (.iload 11) 2 190 := ⟨by decide +kernel, rfl⟩
theorem dL_190 : Dec code 190 (.castore) 1 191 := ⟨by decide +kernel, rfl⟩
theorem dL_191 : Dec code 191 (.dup) 1 192 := ⟨by decide +kernel, rfl⟩
theorem dL_192 : Dec code 192 (.iconst 2) 1 193 := ⟨by decide +kernel, rfl⟩
theorem dL_193 : Dec code 193 (.iload 12) 2 195 := ⟨by decide +kernel, rfl⟩
theorem dL_195 : Dec code 195 (.castore) 1 196 := ⟨by decide +kernel, rfl⟩
theorem dL_196 : Dec code 196 (.invokespecial 19) 3 199 := ⟨by decide +kernel, rfl⟩
theorem dL_199 : Dec code 199 (.astore 10) 2 201 := ⟨by decide +kernel, rfl⟩
def Base (Z : State) (a0 : Array Value) (EL : List (String × Nat)) : Prop := (∀ d ∈ tables_1, d.before a0 Z = true) ∧ EW Z a0 EL ∧ (∃ z, Sta Z Z.heap ST "COMPACT_STRINGS" "Z" (.int z) ∧ ¬ z = 0) ∧ (∃ v, Sta Z Z.heap "jdk/internal/util/Preconditions" "SIOOBE_FORMATTER" "Ljava/util/function/BiFunction;" v ∧ v.isRef = true) ∧ (Sta Z Z.heap "java/lang/StringUTF16" "$assertionsDisabled" "Z" (.int 1) ∧ Sta Z Z.heap "java/lang/StringUTF16" "HI_BYTE_SHIFT" "I" (.int 0) ∧ Sta Z Z.heap "java/lang/StringUTF16" "LO_BYTE_SHIFT" "I" (.int 8))
section
variable {l : Launch} {Z : State} {a0 : Array Value} {EL : List (String × Nat)} {nw : Bool}
def Qcmp5 (Z : State) (h : Heap) (d : Addr) (cs : List Int32) : Value → Heap → Prop := fun v h' => Keep h h' [d] ∧ h'.size = h.size ∧ ((v = .int (Int32.ofNat cs.length) ∧ (∀ c ∈ cs, ¬ (255 : Int32) < c) ∧ Arl Z h' d .byte (lat cs)) ∨ (∃ i c, i < cs.length ∧ v = .int (Int32.ofNat i) ∧ cs[i]? = some c ∧ (255 : Int32) < c))
theorem J_cmp5L {p : Program} {e : Env} {R : Room} {s : State} {m : MethodId} {args : Array Value} {below : List Frame} {meth : Method} {c : Code} {own mn : String} {w : Nat} {h : Heap} {b d : Addr} {cs : List Int32} (C : Cxt p m meth c Z a0 EL own mn jdk_52_method_21_code 7 (some .int) tables_1) (A : Arl Z h b .char (ints cs)) (nd : Z.heap.size ≤ d) (hbd : b ≠ d) :
    ∀ (r i : Nat) (hi : Heap) (x6 : Slot), okS x6 = true → i + r = cs.length → Keep h hi [d] → hi.size = h.size → Arl Z hi d .byte (lat (cs.take i) ++ List.replicate r (.int 0)) → (∀ c ∈ cs.take i, ¬ (255 : Int32) < c) →
      Goes p l e R s m args below meth c Z EL nw (rR (Qcmp5 Z h d cs)) [d] w hi 0 0 (mkF m 3 ⟨[.val (.ref b), .val (.int (Int32.ofNat i)), .val (.ref d), .val (.int (Int32.ofNat i)), .val (.int (Int32.ofNat cs.length)), .val (.int (Int32.ofNat i)), x6]⟩ []) := by
  have hN : cs.length < 2 ^ 31 := by have := A.len; rwa [ints_length] at this
  intro r
  induction r with
  | zero =>
    intro i hi x6 hx hir K sz AD hl
    obtain rfl : i = cs.length := by omega
    refine C.iload db0_3 rfl ?_
    refine C.iload db0_5 rfl ?_
    refine C.icmp_ge db0_7 (fun _ => ?_) (fun q => absurd q (fun q => by rw [ofNat_lt hN hN] at q; omega))
    refine C.iload db0_44 rfl ?_
    exact C.ireturn db0_46 rfl (Or.inl rfl) rfl ⟨_, rfl, K, sz, Or.inl ⟨rfl, by simpa using hl, by simpa using AD⟩⟩ (Nat.zero_le _) (Nat.zero_le _)
  | succ r ih =>
    intro i hi x6 hx hir K sz AD hl
    have hlt : i < cs.length := by omega
    have hch : cs[i]? = some cs[i] := List.getElem?_eq_getElem hlt
    generalize cs[i] = ch at hch
    have hI := ofNat_idx (i := i) (by omega)
    refine C.iload db0_3 rfl ?_
    refine C.iload db0_5 rfl ?_
    refine C.icmp_ge db0_7 (fun q => absurd ((ofNat_lt (by omega) hN).mpr hlt) q) (fun _ => ?_)
    refine C.aloadN db0_10 rfl rfl ?_
    refine C.iloadN db0_11 rfl ?_
    refine C.caload db0_12 (A.keep K (by simpa using hbd)) hI.1 hI.2 (ints_get hch) ?_
    refine C.istore db0_13 rfl hx ?_
    refine C.iload db0_15 rfl ?_
    refine C.sipush (255) db0_17 rfl ?_
    refine C.icmp_le db0_20 (fun q => ?_) (fun q => ?_)
    · refine C.aloadN db0_26 rfl rfl ?_
      refine C.iloadN db0_27 rfl ?_
      refine C.iload db0_28 rfl ?_
      refine C.i2b db0_30 ?_
      refine C.bastore db0_31 AD hI.1 hI.2 (by simp [lat]; omega) nd (Or.inl (List.mem_singleton.mpr rfl)) ?_
      intro h2 W2 A2
      refine C.iinc (1) db0_32 rfl rfl ?_
      refine C.iinc (1) db0_35 rfl rfl ?_
      refine C.iinc (1) db0_38 rfl rfl ?_
      refine C.goto db0_41 ?_
      rw [ofNat_succ]
      refine ih (i + 1) h2 _ rfl (by omega) (K.wr W2 (Or.inl (List.mem_singleton.mpr rfl))) (W2.size.trans sz) ?_ ?_
      · have e : lat (cs.take (i + 1)) = lat (cs.take i) ++ [.int (nar .byte (b8 ch))] := by
          rw [List.take_add_one, hch]; simp [lat, nar_b8, b8_b8]
        rw [e, ← fill_step (i := i) (by rw [lat_length, List.length_take]; omega)]; exact A2
      · rw [List.take_add_one, hch]
        intro c hc
        rcases List.mem_append.mp hc with z | z
        · exact hl c z
        · simp at z; subst z; exact q
    · refine C.iload db0_23 rfl ?_
      exact C.ireturn db0_25 rfl (Or.inl rfl) rfl ⟨_, rfl, K, sz, Or.inr ⟨i, ch, hlt, rfl, hch, q⟩⟩ (Nat.zero_le _) (Nat.zero_le _)
theorem J_cmp5 (B : Base Z a0 EL) {h : Heap} {b d : Addr} {cs : List Int32} (A : Arl Z h b .char (ints cs)) (AD : Arl Z h d .byte (List.replicate cs.length (.int 0))) (nd : Z.heap.size ≤ d) (hbd : b ≠ d) :
    Con l Z EL nw (⟨"java/lang/StringUTF16", "compress", "([CI[BII)I"⟩ : MethodName) jdk_52_method_21_code 7 (some .int) (RM 0 0 0 0) [d] #[.ref b, .int 0, .ref d, .int 0, .int (Int32.ofNat cs.length)] h (rR (Qcmp5 Z h d cs)) := by
  refine Con.of (plainFor_of_name (by decide +kernel)) B.1 B.2.1 ⟨[.val (.ref b), .val (.int 0), .val (.ref d), .val (.int 0), .val (.int (Int32.ofNat cs.length)), .unset, .unset]⟩ (fun m => rfl) ?_
  intro p e s m below meth c _ C
  refine C.iconst (0) db0_0 rfl ?_
  refine C.istore db0_1 rfl rfl ?_
  exact J_cmp5L C A nd hbd cs.length 0 h .unset rfl (by omega) (Keep.refl _ _) rfl (by simpa [lat] using AD) (by simp)
theorem J_codl (B : Base Z a0 EL) {h : Heap} {d : Addr} {vs : List Value} {n : Nat} {r : Int32} (A : Arl Z h d .byte vs) (hr : b8 (XT.ushr (Int32.ofNat n - Int32.ofNat vs.length) 31) = r) :
    Con l Z EL nw (⟨"java/lang/StringUTF16", "coderFromArrayLen", "([BI)B"⟩ : MethodName) jdk_52_method_15_code 2 (some .byte) (RM 0 0 0 0) [] #[.ref d, .int (Int32.ofNat n)] h (rR fun v h' => v = .int r ∧ h = h') := by
  refine Con.of (plainFor_of_name (by decide +kernel)) B.1 B.2.1 ⟨[.val (.ref d), .val (.int (Int32.ofNat n))]⟩ (fun m => rfl) ?_
  intro p e s m below meth c _ C
  refine C.iloadN db1_0 rfl ?_
  refine C.aloadN db1_1 rfl rfl ?_
  refine C.arraylength db1_2 A ?_
  refine C.isub db1_3 ?_
  refine C.bipush (31) db1_4 rfl ?_
  refine C.iushr db1_6 ?_
  refine C.i2b db1_7 ?_
  exact C.ireturn db1_8 rfl (Or.inr (Or.inr (Or.inl rfl))) (narrow_byte _) ⟨_, rfl, by rw [hr], rfl⟩ (Nat.zero_le _) (Nat.zero_le _)
theorem J_atoms (B : Base Z a0 EL) : ∀ a ∈ Bundle.stringAtoms, a.before a0 Z = true := fun d hd => B.1 d ((by decide +kernel : ∀ d ∈ Bundle.stringAtoms, d ∈ tables_1) d hd)
theorem J_rnn (B : Base Z a0 EL) {h : Heap} {a b : Addr} : Con l Z EL nw (⟨"java/util/Objects", "requireNonNull", "(Ljava/lang/Object;Ljava/lang/String;)Ljava/lang/Object;"⟩ : MethodName) jdk_31_method_11_code 2 (some (.object "java/lang/Object")) (RM 0 0 0 0) [] #[.ref a, .ref b] h (rR fun v h' => v = .ref a ∧ h = h') := by
  refine Con.of (plainFor_of_name (by decide +kernel)) B.1 B.2.1 ⟨[.val (.ref a), .val (.ref b)]⟩ (fun m => rfl) ?_
  intro p e s m below meth c _ C
  refine C.aloadN db2_0 rfl rfl ?_
  refine C.ifnonnullY db2_1 ?_
  refine C.aloadN db2_13 rfl rfl ?_
  exact C.areturn db2_14 rfl rfl rfl rfl ⟨_, rfl, rfl, rfl⟩ (le rfl) (le rfl)
theorem J_coder (B : Base Z a0 EL) {h : Heap} {a : Addr} {cd : Int32} (F : Fld Z h a ST "coder" "B" (.int cd)) (hcd : cd = 0 ∨ cd = 1) : Con l Z EL nw (⟨"java/lang/String", "coder", "()B"⟩ : MethodName) jdk_42_method_152_code 1 (some .byte) (RM 0 0 0 0) [] #[.ref a] h (rR fun v h' => v = .int cd ∧ h = h') := by
  obtain ⟨z, Sz, hz⟩ := B.2.2.1
  refine Con.of (plainFor_of_name (by decide +kernel)) B.1 B.2.1 ⟨[.val (.ref a)]⟩ (fun m => rfl) ?_
  intro p e s m below meth c _ C
  refine C.getS db3_0 tw20 Sz ?_
  refine C.if_eq db3_3 (fun q => absurd q hz) (fun _ => ?_)
  refine C.aloadN db3_6 rfl rfl ?_
  refine C.getF db3_7 tw37 F ?_
  refine C.goto db3_10 ?_
  exact C.ireturn db3_14 rfl (Or.inr (Or.inr (Or.inl rfl))) (by rcases hcd with rfl | rfl <;> rfl) ⟨_, rfl, rfl, rfl⟩ (le rfl) (le rfl)
theorem J_len (B : Base Z a0 EL) {h : Heap} {a : Addr} {cs : List Int32} (S : StrAt Z h a cs) : Con l Z EL nw (⟨"java/lang/String", "length", "()I"⟩ : MethodName) jdk_42_method_54_code 1 (some .int) (RM 1 13 0 0) [] #[.ref a] h (rR fun v h' => v = .int (Int32.ofNat cs.length) ∧ h = h') := by
  obtain ⟨t, cd, vs, X, Fv, Fc, A, T, hC, hn⟩ := S
  refine Con.of (plainFor_of_name (by decide +kernel)) B.1 B.2.1 ⟨[.val (.ref a)]⟩ (fun m => rfl) ?_
  intro p e s m below meth c _ C
  refine C.aloadN db4_0 rfl rfl ?_
  refine C.getF db4_1 tw36 Fv ?_
  refine C.arraylength db4_4 A ?_
  refine C.aloadN db4_5 rfl rfl ?_
  refine C.v0R db4_6 tw91 tw92 tw94 tw93 tw6 tw95 (by decide) (by decide +kernel) rfl nof (X) (fun _ q => notFace_of_selects q) (J_coder B Fc T.cd01) (le rfl) (le rfl) (le rfl) (le rfl) ?_
  rintro _ _ ⟨rfl, rfl⟩
  refine C.ishr db4_9 ?_
  exact C.ireturn db4_10 rfl (Or.inl rfl) rfl ⟨_, rfl, by rw [T.len hn], rfl⟩ (le rfl) (le rfl)
theorem J_isl (B : Base Z a0 EL) {h : Heap} {a : Addr} {cd : Int32} (F : Fld Z h a ST "coder" "B" (.int cd)) : Con l Z EL nw (⟨"java/lang/String", "isLatin1", "()Z"⟩ : MethodName) jdk_42_method_154_code 1 (some .boolean) (RM 0 0 0 0) [] #[.ref a] h (rR fun v h' => ((v = .int 1 ∧ cd = 0) ∨ (v = .int 0 ∧ ¬ cd = 0)) ∧ h = h') := by
  obtain ⟨z, Sz, hz⟩ := B.2.2.1
  refine Con.of (plainFor_of_name (by decide +kernel)) B.1 B.2.1 ⟨[.val (.ref a)]⟩ (fun m => rfl) ?_
  intro p e s m below meth c _ C
  refine C.getS db5_0 tw20 Sz ?_
  refine C.if_eq db5_3 (fun q => absurd q hz) (fun _ => ?_)
  refine C.aloadN db5_6 rfl rfl ?_
  refine C.getF db5_7 tw37 F ?_
  refine C.if_ne db5_10 (fun q => ?_) (fun q => ?_)
  · refine C.iconst (0) db5_17 rfl ?_
    exact C.ireturn db5_18 rfl (Or.inr (Or.inl rfl)) rfl ⟨_, rfl, Or.inr ⟨rfl, q⟩, rfl⟩ (le rfl) (le rfl)
  · refine C.iconst (1) db5_13 rfl ?_
    refine C.goto db5_14 ?_
    exact C.ireturn db5_18 rfl (Or.inr (Or.inl rfl)) rfl ⟨_, rfl, Or.inl ⟨rfl, q⟩, rfl⟩ (le rfl) (le rfl)
theorem J_pci' (B : Base Z a0 EL) {h : Heap} {i n : Int32} {v : Value} (h0 : ¬ i < 0) (h1 : i < n) (hv : ∀ m, entryFrame m #[.int i, .int n, v] 3 = mkF m 0 ⟨[.val (.int i), .val (.int n), .val v]⟩ []) : Con l Z EL nw (⟨"jdk/internal/util/Preconditions", "checkIndex", "(IILjava/util/function/BiFunction;)I"⟩ : MethodName) jdk_41_method_11_code 3 (some .int) (RM 0 0 0 0) [] #[.int i, .int n, v] h (rR fun w h' => w = .int i ∧ h = h') := by
  refine Con.of (plainFor_of_name (by decide +kernel)) B.1 B.2.1 ⟨[.val (.int i), .val (.int n), .val v]⟩ hv ?_
  intro p e s m below meth c _ C
  refine C.iloadN db6_0 rfl ?_
  refine C.if_lt db6_1 (fun q => absurd q h0) (fun _ => ?_)
  refine C.iloadN db6_4 rfl ?_
  refine C.iloadN db6_5 rfl ?_
  refine C.icmp_lt db6_6 (fun _ => ?_) (fun q => absurd h1 q)
  refine C.iloadN db6_16 rfl ?_
  exact C.ireturn db6_17 rfl (Or.inl rfl) rfl ⟨_, rfl, rfl, rfl⟩ (le rfl) (le rfl)
theorem J_pci (B : Base Z a0 EL) {h : Heap} {i n : Int32} {v : Value} (h0 : ¬ i < 0) (h1 : i < n) (hr : v.isRef = true) : Con l Z EL nw (⟨"jdk/internal/util/Preconditions", "checkIndex", "(IILjava/util/function/BiFunction;)I"⟩ : MethodName) jdk_41_method_11_code 3 (some .int) (RM 0 0 0 0) [] #[.int i, .int n, v] h (rR fun w h' => w = .int i ∧ h = h') := by
  cases v with
  | ref r => exact J_pci' B h0 h1 (fun m => rfl)
  | null => exact J_pci' B h0 h1 (fun m => rfl)
  | _ => cases hr
theorem J_sci (B : Base Z a0 EL) {h : Heap} {i n : Int32} (h0 : ¬ i < 0) (h1 : i < n) : Con l Z EL nw (⟨"java/lang/String", "checkIndex", "(II)V"⟩ : MethodName) jdk_42_method_155_code 2 none (RM 1 14 0 0) [] #[.int i, .int n] h (rV fun h' => h = h') := by
  obtain ⟨sf, Ssf, rsf⟩ := B.2.2.2.1
  refine Con.of (plainFor_of_name (by decide +kernel)) B.1 B.2.1 ⟨[.val (.int i), .val (.int n)]⟩ (fun m => rfl) ?_
  intro p e s m below meth c _ C
  refine C.iloadN db7_0 rfl ?_
  refine C.iloadN db7_1 rfl ?_
  refine C.getS db7_2 tw150 Ssf ?_
  refine C.s3R db7_5 tw152 tw153 tw151 tw154 (by decide) (by decide +kernel) rfl nof (J_pci B h0 h1 rsf) (le rfl) (le rfl) (le rfl) (le rfl) ?_
  rintro _ _ ⟨rfl, rfl⟩
  refine C.pop db7_8 rfl ?_
  exact C.return_ db7_9 rfl ⟨rfl, rfl⟩ (le rfl) (le rfl)
theorem J_lch (B : Base Z a0 EL) {h : Heap} {t : Addr} {vs : List Value} {i : Nat} {b : Int32} (A : Arl Z h t .byte vs) (hi : vs[i]? = some (.int b)) : Con l Z EL nw (⟨"java/lang/StringLatin1", "charAt", "([BI)C"⟩ : MethodName) jdk_43_method_2_code 2 (some .char) (RM 2 27 0 0) [] #[.ref t, .int (Int32.ofNat i)] h (rR fun v h' => v = .int (c16 (b &&& 255)) ∧ h = h') := by
  have hlt : i < vs.length := (List.getElem?_eq_some_iff.mp hi).1
  have hl := A.len
  have hI := ofNat_idx (i := i) (by omega)
  refine Con.of (plainFor_of_name (by decide +kernel)) B.1 B.2.1 ⟨[.val (.ref t), .val (.int (Int32.ofNat i))]⟩ (fun m => rfl) ?_
  intro p e s m below meth c _ C
  refine C.iloadN db8_0 rfl ?_
  refine C.aloadN db8_1 rfl rfl ?_
  refine C.arraylength db8_2 A ?_
  refine C.s2V db8_3 tw147 tw148 tw6 tw149 (by decide) (by decide +kernel) rfl nof (J_sci B hI.1 ((ofNat_lt (by omega) hl).mpr hlt)) (le rfl) (le rfl) (le rfl) (le rfl) ?_
  rintro _ rfl
  refine C.aloadN db8_6 rfl rfl ?_
  refine C.iloadN db8_7 rfl ?_
  refine C.baload db8_8 A hI.1 hI.2 hi ?_
  refine C.sipush (255) db8_9 rfl ?_
  refine C.iand db8_12 ?_
  refine C.i2c db8_13 ?_
  exact C.ireturn db8_14 rfl (Or.inr (Or.inr (Or.inr (Or.inl rfl)))) (narrow_char (isC_c16 _)) ⟨_, rfl, rfl, rfl⟩ (le rfl) (le rfl)
theorem J_emp (B : Base Z a0 EL) {h : Heap} {a : Addr} {cs : List Int32} (S : StrAt Z h a cs) : Con l Z EL nw (⟨"java/lang/String", "isEmpty", "()Z"⟩ : MethodName) jdk_42_method_55_code 1 (some .boolean) (RM 0 0 0 0) [] #[.ref a] h (rR fun v h' => ((v = .int 1 ∧ cs = []) ∨ (v = .int 0 ∧ cs ≠ [])) ∧ h = h') := by
  obtain ⟨t, cd, vs, X, Fv, Fc, A, T, hC, hn⟩ := S
  refine Con.of (plainFor_of_name (by decide +kernel)) B.1 B.2.1 ⟨[.val (.ref a)]⟩ (fun m => rfl) ?_
  intro p e s m below meth c _ C
  refine C.aloadN db9_0 rfl rfl ?_
  refine C.getF db9_1 tw36 Fv ?_
  refine C.arraylength db9_4 A ?_
  have hl := T.vlen
  refine C.if_ne db9_5 (fun q => ?_) (fun q => ?_)
  · refine C.iconst (0) db9_12 rfl ?_
    exact C.ireturn db9_13 rfl (Or.inr (Or.inl rfl)) rfl ⟨_, rfl, Or.inr ⟨rfl, fun z => q (by subst z; rcases hl with z | z <;> (rw [z]; rfl))⟩, rfl⟩ (le rfl) (le rfl)
  · refine C.iconst (1) db9_8 rfl ?_
    refine C.goto db9_9 ?_
    have e := ofNat_inj (j := 0) A.len (by omega) q
    exact C.ireturn db9_13 rfl (Or.inr (Or.inl rfl)) rfl ⟨_, rfl, Or.inl ⟨rfl, List.length_eq_zero_iff.mp (by rcases hl with z | z <;> omega)⟩, rfl⟩ (le rfl) (le rfl)
theorem J_nbl (B : Base Z a0 EL) {h : Heap} {n : Nat} (hn : n ≤ 4000) : Con l Z EL nw (⟨"java/lang/StringUTF16", "newBytesLength", "(I)I"⟩ : MethodName) jdk_52_method_3_code 1 (some .int) (RM 0 0 0 0) [] #[.int (Int32.ofNat n)] h (rR fun v h' => v = .int (Int32.ofNat (2 * n)) ∧ h = h') := by
  have hI := ofNat_idx (i := n) (by omega)
  refine Con.of (plainFor_of_name (by decide +kernel)) B.1 B.2.1 ⟨[.val (.int (Int32.ofNat n))]⟩ (fun m => rfl) ?_
  intro p e s m below meth c _ C
  refine C.iloadN db10_0 rfl ?_
  refine C.if_ge db10_1 (fun _ => ?_) (fun q => absurd q hI.1)
  refine C.iloadN db10_12 rfl ?_
  refine C.ldcInt db10_13 tw236 ?_
  refine C.icmp_lt db10_15 (fun _ => ?_) (fun q => absurd (ilt.mpr (by rw [ofNat_toInt (by omega)]; show (n : Int) < 1073741823; omega)) q)
  refine C.iloadN db10_55 rfl ?_
  refine C.iconst (1) db10_56 rfl ?_
  refine C.ishl db10_57 ?_
  exact C.ireturn db10_58 rfl (Or.inl rfl) rfl ⟨_, rfl, by rw [shl1 hn], rfl⟩ (le rfl) (le rfl)
theorem J_nbf (B : Base Z a0 EL) {h : Heap} {n : Nat} (hn : n ≤ 4000) : Con l Z EL nw (⟨"java/lang/StringUTF16", "newBytesFor", "(I)[B"⟩ : MethodName) jdk_52_method_2_code 1 (some (.array .byte)) (RM 1 12 1 (2 * n)) [] #[.int (Int32.ofNat n)] h (rR fun v h' => v = .ref h.size ∧ Ext h h' ∧ Arl Z h' h.size .byte (List.replicate (2 * n) (.int 0))) := by
  have hI := ofNat_idx (i := 2 * n) (by omega)
  refine Con.of (plainFor_of_name (by decide +kernel)) B.1 B.2.1 ⟨[.val (.int (Int32.ofNat n))]⟩ (fun m => rfl) ?_
  intro p e s m below meth c _ C
  refine C.iloadN db11_0 rfl ?_
  refine C.s1R db11_1 tw233 tw234 tw218 tw235 (by decide) (by decide +kernel) rfl nof (J_nbl B hn) (le rfl) (le rfl) (le rfl) (Nat.zero_le _) ?_
  rintro _ _ ⟨rfl, rfl⟩
  refine C.newarray db11_4 tw8 hI.1 hI.2 (by omega) (le rfl) (by show 0 + 0 + 2 * n ≤ 2 * n; omega) ?_
  intro h1 t g1 E1 l1 A1
  subst g1
  exact C.areturn db11_6 rfl rfl rfl rfl ⟨_, rfl, rfl, E1, A1⟩ (le rfl) (by show 0 + 0 + 2 * n ≤ 2 * n; omega)
theorem J_putc (B : Base Z a0 EL) {h : Heap} {t : Addr} {vs : List Value} {i : Nat} {ch : Int32} (A : Arl Z h t .byte vs) (hi : 2 * i + 1 < vs.length) (nt : Z.heap.size ≤ t) :
    Con l Z EL nw (⟨"java/lang/StringUTF16", "putChar", "([BII)V"⟩ : MethodName) jdk_52_method_4_code 3 none (RM 0 0 0 0) [t] #[.ref t, .int (Int32.ofNat i), .int ch] h (rV fun h' => Keep h h' [t] ∧ h'.size = h.size ∧ Arl Z h' t .byte ((vs.set (2 * i) (.int (b8 ch))).set (2 * i + 1) (.int (b8 (ch >>> 8))))) := by
  have hl := A.len
  have hI := ofNat_idx (i := 2 * i) (by omega)
  have hJ := ofNat_idx (i := 2 * i + 1) (by omega)
  obtain ⟨U1, U2, U3⟩ := B.2.2.2.2
  refine Con.of (plainFor_of_name (by decide +kernel)) B.1 B.2.1 ⟨[.val (.ref t), .val (.int (Int32.ofNat i)), .val (.int ch)]⟩ (fun m => rfl) ?_
  intro p e s m below meth c _ C
  refine C.getS db12_0 tw240 U1 ?_
  refine C.if_ne db12_3 (fun _ => ?_) (fun q => absurd q (by decide))
  refine C.iloadN db12_28 rfl ?_
  refine C.iconst (1) db12_29 rfl ?_
  refine C.ishl db12_30 ?_
  rw [shl1' (by omega)]
  refine C.istoreN db12_31 rfl rfl ?_
  refine C.aloadN db12_32 rfl rfl ?_
  refine C.iloadN db12_33 rfl ?_
  refine C.iinc (1) db12_34 rfl rfl ?_
  refine C.iloadN db12_37 rfl ?_
  refine C.getS db12_38 tw241 U2 ?_
  refine C.ishr db12_41 ?_
  refine C.i2b db12_42 ?_
  refine C.bastore db12_43 A hI.1 hI.2 (by omega) nt (Or.inl (List.mem_singleton.mpr rfl)) ?_
  intro h1 W1 A1
  rw [ofNat_succ]
  refine C.aloadN db12_44 rfl rfl ?_
  refine C.iloadN db12_45 rfl ?_
  refine C.iloadN db12_46 rfl ?_
  refine C.getS db12_47 tw242 U3 ?_
  refine C.ishr db12_50 ?_
  refine C.i2b db12_51 ?_
  refine C.bastore db12_52 A1 hJ.1 hJ.2 (by simpa using hi) nt (Or.inl (List.mem_singleton.mpr rfl)) ?_
  intro h2 W2 A2
  refine C.return_ db12_53 rfl ⟨rfl, ((Keep.of_wr W1).wr W2 (Or.inl (List.mem_singleton.mpr rfl))), W2.size.trans W1.size, ?_⟩ (le rfl) (le rfl)
  have e1 : (ch >>> ((0 : Int32) &&& 31)) = ch := shr0 ch
  have e2 : (ch >>> ((8 : Int32) &&& 31)) = ch >>> 8 := rfl
  rw [e1, e2, nar_b8, nar_b8, b8_b8, b8_b8] at A2
  exact A2
def Qtob (Z : State) (h : Heap) (cs : List Int32) : Value → Heap → Prop := fun v h' => v = .ref h.size ∧ Ext h h' ∧ Arl Z h' h.size .byte (wid cs)
theorem J_tobL (B : Base Z a0 EL) {p : Program} {e : Env} {s : State} {m : MethodId} {args : Array Value} {below : List Frame} {meth : Method} {c : Code} {own mn : String} {h h1 : Heap} {b : Addr} {cs : List Int32} (C : Cxt p m meth c Z a0 EL "java/lang/StringUTF16" mn jdk_52_method_14_code 5 (some (.array .byte)) tables_1) (hn : cs.length ≤ 4000) (A : Arl Z h b .char (ints cs)) (E1 : Ext h h1) (nt : Z.heap.size ≤ h.size) :
    ∀ (r i : Nat) (hi : Heap), i + r = cs.length → Ext h hi → Arl Z hi h.size .byte (wid (cs.take i) ++ List.replicate (2 * r) (.int 0)) →
      Goes p l e (RM 2 24 1 (2 * cs.length)) s m args below meth c Z EL nw (rR (Qtob Z h cs)) [] h.size hi 1 (2 * cs.length) (mkF m 8 ⟨[.val (.ref b), .val (.int (Int32.ofNat i)), .val (.int (Int32.ofNat cs.length)), .val (.ref h.size), .val (.int (Int32.ofNat i))]⟩ []) := by
  intro r
  induction r with
  | zero =>
    intro i hi hir Ei Ai
    obtain rfl : i = cs.length := by omega
    refine C.iload db13_8 rfl ?_
    refine C.iloadN db13_10 rfl ?_
    refine C.icmp_ge db13_11 (fun _ => ?_) (fun q => absurd q (fun q => by rw [ofNat_lt (by omega) (by omega)] at q; omega))
    refine C.aloadN db13_32 rfl rfl ?_
    exact C.areturn db13_33 rfl rfl rfl rfl ⟨_, rfl, rfl, Ei, by simpa using Ai⟩ (le rfl) (Nat.le_refl _)
  | succ r ih =>
    intro i hi hir Ei Ai
    have hlt : i < cs.length := by omega
    have hch : cs[i]? = some cs[i] := List.getElem?_eq_getElem hlt
    generalize cs[i] = ch at hch
    have hI := ofNat_idx (i := i) (by omega)
    refine C.iload db13_8 rfl ?_
    refine C.iloadN db13_10 rfl ?_
    refine C.icmp_ge db13_11 (fun q => absurd ((ofNat_lt (by omega) (by omega)).mpr hlt) q) (fun _ => ?_)
    refine C.aloadN db13_14 rfl rfl ?_
    refine C.iload db13_15 rfl ?_
    refine C.aloadN db13_17 rfl rfl ?_
    refine C.iloadN db13_18 rfl ?_
    refine C.caload db13_19 (A.ext Ei) hI.1 hI.2 (ints_get hch) ?_
    refine C.s3V db13_20 tw237 tw238 tw218 tw239 (by decide) (by decide +kernel) rfl (fun x q => by simp at q; subst q; exact Or.inr ⟨Nat.le_refl _, Ai.lt⟩) (J_putc (nw := true) B (i := i) (ch := ch) Ai (by rw [List.length_append, wid_length, List.length_take, List.length_replicate]; omega) nt) (le rfl) (le rfl) (le rfl) (Nat.le_refl _) ?_
    rintro h2 ⟨K2, sz2, A2⟩
    refine C.iinc (1) db13_23 rfl rfl ?_
    refine C.iinc (1) db13_26 rfl rfl ?_
    refine C.goto db13_29 ?_
    rw [ofNat_succ]
    refine ih (i + 1) h2 (by omega) (ext_of_keep Ei K2 (by simp)) ?_
    have e : wid (cs.take (i + 1)) = wid (cs.take i) ++ [.int (b8 ch), .int (b8 (ch >>> 8))] := by
      rw [List.take_add_one, hch]; simp [wid]
    rw [e, ← fill_step2 (i := i) (by rw [wid_length, List.length_take]; omega)]; exact A2
theorem J_tob (B : Base Z a0 EL) {h : Heap} {b : Addr} {cs : List Int32} (hn : cs.length ≤ 4000) (A : Arl Z h b .char (ints cs)) :
    Con l Z EL nw (⟨"java/lang/StringUTF16", "toBytes", "([CII)[B"⟩ : MethodName) jdk_52_method_14_code 5 (some (.array .byte)) (RM 2 24 1 (2 * cs.length)) [] #[.ref b, .int 0, .int (Int32.ofNat cs.length)] h (rR (Qtob Z h cs)) := by
  refine Con.of (plainFor_of_name (by decide +kernel)) B.1 B.2.1 ⟨[.val (.ref b), .val (.int 0), .val (.int (Int32.ofNat cs.length)), .unset, .unset]⟩ (fun m => rfl) ?_
  intro p e s m below meth c _ C
  refine Goes.old fun O => ?_
  refine C.iloadN db13_0 rfl ?_
  refine C.s1R db13_1 tw230 tw231 tw218 tw232 (by decide) (by decide +kernel) rfl nof (J_nbf (nw := true) B hn) (le rfl) (le rfl) (le rfl) (by show 0 + 2 * cs.length ≤ 2 * cs.length; omega) ?_
  rintro _ h1 ⟨rfl, E1, A1⟩
  refine C.astoreN db13_4 rfl rfl rfl ?_
  refine C.iconst (0) db13_5 rfl ?_
  refine C.istore db13_6 rfl rfl ?_
  refine Goes.more (k' := 1) (n' := 2 * cs.length) (le rfl) (by show 0 + 2 * cs.length ≤ _; omega) ?_
  exact J_tobL (own := "") B C hn A E1 O.1 cs.length 0 h1 (by omega) E1 (by simpa [wid] using A1)
theorem J_getc (B : Base Z a0 EL) {h : Heap} {t : Addr} {cs : List Int32} {i : Nat} {ch : Int32} (A : Arl Z h t .byte (wid cs)) (hi : cs[i]? = some ch) (hc : IsC ch) (hn : cs.length ≤ 4000) :
    Con l Z EL nw (⟨"java/lang/StringUTF16", "getChar", "([BI)C"⟩ : MethodName) jdk_52_method_5_code 2 (some .char) (RM 0 0 0 0) [] #[.ref t, .int (Int32.ofNat i)] h (rR fun v h' => v = .int ch ∧ h = h') := by
  have hlt : i < cs.length := (List.getElem?_eq_some_iff.mp hi).1
  have hI := ofNat_idx (i := 2 * i) (by omega)
  have hJ := ofNat_idx (i := 2 * i + 1) (by omega)
  obtain ⟨U1, U2, U3⟩ := B.2.2.2.2
  refine Con.of (plainFor_of_name (by decide +kernel)) B.1 B.2.1 ⟨[.val (.ref t), .val (.int (Int32.ofNat i))]⟩ (fun m => rfl) ?_
  intro p e s m below meth c _ C
  refine C.getS db14_0 tw240 U1 ?_
  refine C.if_ne db14_3 (fun _ => ?_) (fun q => absurd q (by decide))
  refine C.iloadN db14_28 rfl ?_
  refine C.iconst (1) db14_29 rfl ?_
  refine C.ishl db14_30 ?_
  rw [shl1' (by omega)]
  refine C.istoreN db14_31 rfl rfl ?_
  refine C.aloadN db14_32 rfl rfl ?_
  refine C.iloadN db14_33 rfl ?_
  refine C.iinc (1) db14_34 rfl rfl ?_
  refine C.baload db14_37 A hI.1 hI.2 (wid_lo hi) ?_
  refine C.sipush (255) db14_38 rfl ?_
  refine C.iand db14_41 ?_
  refine C.getS db14_42 tw241 U2 ?_
  rw [ofNat_succ]
  refine C.ishl db14_45 ?_
  refine C.aloadN db14_46 rfl rfl ?_
  refine C.iloadN db14_47 rfl ?_
  refine C.baload db14_48 A hJ.1 hJ.2 (wid_hi hi) ?_
  refine C.sipush (255) db14_49 rfl ?_
  refine C.iand db14_52 ?_
  refine C.getS db14_53 tw242 U3 ?_
  refine C.ishl db14_56 ?_
  refine C.ior db14_57 ?_
  refine C.i2c db14_58 ?_
  have e : c16 ((b8 ch &&& 255) <<< ((0 : Int32) &&& 31) ||| (b8 (ch >>> 8) &&& 255) <<< ((8 : Int32) &&& 31)) = ch := unwide hc
  rw [e]
  exact C.ireturn db14_59 rfl (Or.inr (Or.inr (Or.inr (Or.inl rfl)))) (narrow_char hc) ⟨_, rfl, rfl, rfl⟩ (le rfl) (le rfl)
theorem J_cmp3g (B : Base Z a0 EL) {h : Heap} {b : Addr} {cs : List Int32} (hC : ∀ c ∈ cs, IsC c) (hn : cs.length ≤ 4000) (A : Arl Z h b .char (ints cs)) :
    Con l Z EL nw (⟨"java/lang/StringUTF16", "compress", "([CII)[B"⟩ : MethodName) jdk_52_method_16_code 6 (some (.array .byte)) (RM 3 40 2 (3 * cs.length)) [] #[.ref b, .int 0, .int (Int32.ofNat cs.length)] h (rR fun v h' => ∃ t cd vs, v = .ref t ∧ h.size ≤ t ∧ Ext h h' ∧ Arl Z h' t .byte vs ∧ Txt cs cd vs) := by
  have hI := ofNat_idx (i := cs.length) (by omega)
  refine Con.of (plainFor_of_name (by decide +kernel)) B.1 B.2.1 ⟨[.val (.ref b), .val (.int 0), .val (.int (Int32.ofNat cs.length)), .unset, .unset, .unset]⟩ (fun m => rfl) ?_
  intro p e s m below meth c _ C
  refine Goes.old fun O => ?_
  refine C.iloadN db15_0 rfl ?_
  refine C.newarray db15_1 tw8 hI.1 hI.2 (by omega) (le rfl) (by show 0 + cs.length ≤ 3 * cs.length; omega) ?_
  intro h1 d g1 E1 l1 A1
  have hbd : @Ne Nat b d := adr_ne A.lt (Nat.le_of_eq g1.symm)
  refine C.astoreN db15_3 rfl rfl rfl ?_
  refine C.aloadN db15_4 rfl rfl ?_
  refine C.iloadN db15_5 rfl ?_
  refine C.aloadN db15_6 rfl rfl ?_
  refine C.iconst (0) db15_7 rfl ?_
  refine C.iloadN db15_8 rfl ?_
  refine C.s5R db15_9 tw220 tw221 tw218 tw222 (by decide) (by decide +kernel) rfl (by simp) (J_cmp5 B (A.ext E1) A1 (by rw [g1]; exact O.1) hbd) (le rfl) (le rfl) (le rfl) (by show 0 + cs.length + 0 ≤ 3 * cs.length; omega) ?_
  rintro v h2 ⟨K2, sz2, hv⟩
  have E2 : Ext h h2 := ext_of_keep E1 K2 (by simp; omega)
  rcases hv with ⟨rfl, hL, A2⟩ | ⟨i, ch, hlt, rfl, hch, hbig⟩
  · refine C.istore db15_12 rfl rfl ?_
    refine C.iload db15_14 rfl ?_
    refine C.iloadN db15_16 rfl ?_
    refine C.icmp_eq db15_17 (fun _ => ?_) (fun q => absurd rfl q)
    refine C.aloadN db15_57 rfl rfl ?_
    exact C.areturn db15_58 rfl rfl rfl rfl ⟨_, rfl, d, 0, lat cs, rfl, by omega, E2, A2, Or.inl ⟨rfl, rfl, hL⟩⟩ (le rfl) (by show 0 + cs.length + 0 ≤ 3 * cs.length; omega)
  refine C.istore db15_12 rfl rfl ?_
  refine C.iload db15_14 rfl ?_
  refine C.iloadN db15_16 rfl ?_
  refine C.icmp_eq db15_17 (fun q => absurd (ofNat_inj (by omega) (by omega) q) (by omega)) (fun _ => ?_)
  refine C.aloadN db15_20 rfl rfl ?_
  refine C.iloadN db15_21 rfl ?_
  refine C.iloadN db15_22 rfl ?_
  refine C.s3R db15_23 tw227 tw228 tw218 tw229 (by decide) (by decide +kernel) rfl nof (J_tob B hn (A.ext E2)) (le rfl) (le rfl) (le rfl) (by show 0 + cs.length + 0 + 2 * cs.length ≤ 3 * cs.length; omega) ?_
  rintro _ h3 ⟨rfl, E3, A3⟩
  refine C.astore db15_26 rfl rfl rfl ?_
  refine C.aload db15_28 rfl rfl ?_
  refine C.iload db15_30 rfl ?_
  refine C.s2R db15_32 tw243 tw244 tw218 tw245 (by decide) (by decide +kernel) rfl nof (J_getc B A3 hch (hC ch (List.mem_of_getElem? hch)) hn) (le rfl) (le rfl) (le rfl) (by show 0 + cs.length + 0 + 2 * cs.length + 0 ≤ 3 * cs.length; omega) ?_
  rintro _ _ ⟨rfl, rfl⟩
  refine C.sipush (255) db15_35 rfl ?_
  refine C.icmp_gt db15_38 (fun _ => ?_) (fun q => absurd hbig q)
  refine C.aload db15_54 rfl rfl ?_
  exact C.areturn db15_56 rfl rfl rfl rfl ⟨_, rfl, _, 1, wid cs, rfl, E2.1, ext_trans E2 E3, A3, Or.inr ⟨rfl, rfl, ch, List.mem_of_getElem? hch, hbig⟩⟩ (le rfl) (by show 0 + cs.length + 0 + 2 * cs.length + 0 ≤ 3 * cs.length; omega)
theorem J_new4g (B : Base Z a0 EL) {h : Heap} {a b : Addr} {cs : List Int32} (hc : ∀ c ∈ cs, IsC c) (h0 : 0 < cs.length) (hn : cs.length ≤ 4000) (A : Arl Z h b .char (ints cs)) (na : Z.heap.size ≤ a) (E : Exa Z h a ST) (Fv : Fld Z h a ST "value" "[B" .null) (Fc : Fld Z h a ST "coder" "B" (.int 0)) :
    Con l Z EL nw (⟨"java/lang/String", "<init>", "([CIILjava/lang/Void;)V"⟩ : MethodName) jdk_42_method_149_code 6 none (RM 4 57 2 (3 * cs.length)) [a] #[.ref a, .ref b, .int 0, .int (Int32.ofNat cs.length), .null] h (rV fun h' => Keep h h' [a] ∧ StrAt Z h' a cs) := by
  obtain ⟨z, Sz, hz⟩ := B.2.2.1
  refine Con.of (plainFor_of_name (by decide +kernel)) B.1 B.2.1 ⟨[.val (.ref a), .val (.ref b), .val (.int 0), .val (.int (Int32.ofNat cs.length)), .val .null, .unset]⟩ (fun m => rfl) ?_
  intro p e s m below meth c _ C
  refine C.aloadN db16_0 rfl rfl ?_
  refine C.initO db16_1 tw33 tw34 tw35 rfl (le rfl) (le rfl) ?_
  refine C.iloadN db16_4 rfl ?_
  refine C.if_ne db16_5 (fun _ => ?_) (fun q => absurd (ofNat_inj (j := 0) (by omega) (by omega) q) (by omega))
  refine C.getS db16_27 tw20 Sz ?_
  refine C.if_eq db16_30 (fun q => absurd q hz) (fun _ => ?_)
  refine C.aloadN db16_33 rfl rfl ?_
  refine C.iloadN db16_34 rfl ?_
  refine C.iloadN db16_35 rfl ?_
  refine C.s3R db16_36 tw216 tw217 tw218 tw219 (by decide) (by decide +kernel) rfl nof (J_cmp3g B hc hn A) (le rfl) (le rfl) (le rfl) (by show 0 + 3 * cs.length ≤ 3 * cs.length; omega) ?_
  rintro v h1 ⟨t, cd, vs, rfl, nt, E1, A1, TT⟩
  refine C.astore db16_39 rfl rfl rfl ?_
  refine C.aloadN db16_41 rfl rfl ?_
  refine C.aload db16_42 rfl rfl ?_
  refine C.iloadN db16_44 rfl ?_
  refine C.s2R db16_45 tw223 tw224 tw218 tw225 (by decide) (by decide +kernel) rfl nof (J_codl B (n := cs.length) (r := cd) A1 (codT TT h0 hn)) (le rfl) (le rfl) (le rfl) (by show 0 + 3 * cs.length + 0 ≤ 3 * cs.length; omega) ?_
  rintro v h2 ⟨rfl, rfl⟩
  refine C.putF (ty := .byte) db16_48 tw37 (Fc.ext E1) (E.ext E1) (Or.inr ⟨tw10, rfl, rfl⟩) tw7 (by decide +kernel) (by rcases TT.cd01 with rfl | rfl <;> rfl) (by rcases TT.cd01 with rfl | rfl <;> rfl) na (Or.inl (List.mem_singleton.mpr rfl)) ?_
  intro h3 W3
  have nvc : RoadKit.slotOf Z ST "value" "[B" ≠ RoadKit.slotOf Z ST "coder" "B" := slot_ne (C := ST) (a0 := a0) (Or.inr (C.wrd tw9)) (Or.inr (C.wrd tw10)) (by decide) (t := .array .byte) (t' := .byte) (by decide +kernel) (by decide +kernel)
  refine C.aloadN db16_51 rfl rfl ?_
  refine C.aload db16_52 rfl rfl ?_
  refine C.putF (ty := (.array .byte)) db16_54 tw36 ((Fv.ext E1).other W3 (Or.inr nvc)) ((E.ext E1).wr W3) (Or.inr ⟨tw9, rfl, rfl⟩) tw7 (by decide +kernel) rfl rfl na (Or.inl (List.mem_singleton.mpr rfl)) ?_
  intro h4 W4
  have ta : @Ne Nat t a := (adr_ne E.lt nt).symm
  refine C.return_ db16_57 rfl ⟨rfl, ((keep_ext E1 [a]).wr W3 (Or.inl (List.mem_singleton.mpr rfl))).wr W4 (Or.inl (List.mem_singleton.mpr rfl)), t, cd, vs, ?_, ?_, ?_, ?_, TT, hc, hn⟩ (le rfl) (by show 0 + 3 * cs.length + 0 ≤ 3 * cs.length; omega)
  · exact ((E.ext E1).wr W3).wr W4
  · exact ((Fv.ext E1).other W3 (Or.inr nvc)).same W4
  · exact ((Fc.ext E1).same W3).other W4 (Or.inr nvc.symm)
  · exact (A1.other W3 ta).other W4 ta
theorem J_new1g (B : Base Z a0 EL) {h : Heap} {a b : Addr} {cs : List Int32} (hc : ∀ c ∈ cs, IsC c) (h0 : 0 < cs.length) (hn : cs.length ≤ 4000) (A : Arl Z h b .char (ints cs)) (na : Z.heap.size ≤ a) (E : Exa Z h a ST) (Fv : Fld Z h a ST "value" "[B" .null) (Fc : Fld Z h a ST "coder" "B" (.int 0)) :
    Con l Z EL nw (⟨"java/lang/String", "<init>", "([C)V"⟩ : MethodName) jdk_42_method_3_code 2 none (RM 5 74 2 (3 * cs.length)) [a] #[.ref a, .ref b] h (rV fun h' => Keep h h' [a] ∧ StrAt Z h' a cs) := by
  refine Con.of (plainFor_of_name (by decide +kernel)) B.1 B.2.1 ⟨[.val (.ref a), .val (.ref b)]⟩ (fun m => rfl) ?_
  intro p e s m below meth c _ C
  refine C.aloadN db17_0 rfl rfl ?_
  refine C.aloadN db17_1 rfl rfl ?_
  refine C.iconst (0) db17_2 rfl ?_
  refine C.aloadN db17_3 rfl rfl ?_
  refine C.arraylength db17_4 A ?_
  rw [ints_length]
  refine C.aconst_null db17_5 ?_
  refine C.c4 db17_6 rfl tw213 tw214 tw6 tw215 (by decide) (by decide +kernel) rfl (fun _ q => Or.inl q) (J_new4g B hc h0 hn A na E Fv Fc) (le rfl) (le rfl) (le rfl) (by show 0 + 3 * cs.length ≤ 3 * cs.length; omega) ?_
  rintro h1 ⟨K1, S1⟩
  exact C.return_ db17_9 rfl ⟨rfl, K1, S1⟩ (le rfl) (by show 0 + 3 * cs.length ≤ 3 * cs.length; omega)
theorem J_ulen (B : Base Z a0 EL) {h : Heap} {t : Addr} {cs : List Int32} (A : Arl Z h t .byte (wid cs)) (hn : cs.length ≤ 4000) : Con l Z EL nw (⟨"java/lang/StringUTF16", "length", "([B)I"⟩ : MethodName) jdk_52_method_6_code 1 (some .int) (RM 0 0 0 0) [] #[.ref t] h (rR fun v h' => v = .int (Int32.ofNat cs.length) ∧ h = h') := by
  refine Con.of (plainFor_of_name (by decide +kernel)) B.1 B.2.1 ⟨[.val (.ref t)]⟩ (fun m => rfl) ?_
  intro p e s m below meth c _ C
  refine C.aloadN db18_0 rfl rfl ?_
  refine C.arraylength db18_1 A ?_
  refine C.iconst (1) db18_2 rfl ?_
  refine C.ishr db18_3 ?_
  exact C.ireturn db18_4 rfl (Or.inl rfl) rfl ⟨_, rfl, by rw [shr1 hn], rfl⟩ (le rfl) (le rfl)
theorem J_uci (B : Base Z a0 EL) {h : Heap} {t : Addr} {cs : List Int32} {i : Nat} (A : Arl Z h t .byte (wid cs)) (hn : cs.length ≤ 4000) (hi : i < cs.length) : Con l Z EL nw (⟨"java/lang/StringUTF16", "checkIndex", "(I[B)V"⟩ : MethodName) jdk_52_method_91_code 2 none (RM 2 27 0 0) [] #[.int (Int32.ofNat i), .ref t] h (rV fun h' => h = h') := by
  have hI := ofNat_idx (i := i) (by omega)
  refine Con.of (plainFor_of_name (by decide +kernel)) B.1 B.2.1 ⟨[.val (.int (Int32.ofNat i)), .val (.ref t)]⟩ (fun m => rfl) ?_
  intro p e s m below meth c _ C
  refine C.iloadN db19_0 rfl ?_
  refine C.aloadN db19_1 rfl rfl ?_
  refine C.s1R db19_2 tw252 tw253 tw218 tw254 (by decide) (by decide +kernel) rfl nof (J_ulen B A hn) (le rfl) (le rfl) (le rfl) (le rfl) ?_
  rintro _ _ ⟨rfl, rfl⟩
  refine C.s2V db19_5 tw255 tw148 tw6 tw149 (by decide) (by decide +kernel) rfl nof (J_sci B hI.1 ((ofNat_lt (by omega) (by omega)).mpr hi)) (le rfl) (le rfl) (le rfl) (le rfl) ?_
  rintro _ rfl
  exact C.return_ db19_8 rfl ⟨rfl, rfl⟩ (le rfl) (le rfl)
theorem J_uch (B : Base Z a0 EL) {h : Heap} {t : Addr} {cs : List Int32} {i : Nat} {ch : Int32} (A : Arl Z h t .byte (wid cs)) (hi : cs[i]? = some ch) (hc : IsC ch) (hn : cs.length ≤ 4000) : Con l Z EL nw (⟨"java/lang/StringUTF16", "charAt", "([BI)C"⟩ : MethodName) jdk_52_method_83_code 2 (some .char) (RM 3 40 0 0) [] #[.ref t, .int (Int32.ofNat i)] h (rR fun v h' => v = .int ch ∧ h = h') := by
  have hlt : i < cs.length := (List.getElem?_eq_some_iff.mp hi).1
  refine Con.of (plainFor_of_name (by decide +kernel)) B.1 B.2.1 ⟨[.val (.ref t), .val (.int (Int32.ofNat i))]⟩ (fun m => rfl) ?_
  intro p e s m below meth c _ C
  refine C.iloadN db20_0 rfl ?_
  refine C.aloadN db20_1 rfl rfl ?_
  refine C.s2V db20_2 tw249 tw250 tw218 tw251 (by decide) (by decide +kernel) rfl nof (J_uci B A hn hlt) (le rfl) (le rfl) (le rfl) (le rfl) ?_
  rintro _ rfl
  refine C.aloadN db20_5 rfl rfl ?_
  refine C.iloadN db20_6 rfl ?_
  refine C.s2R db20_7 tw243 tw244 tw218 tw245 (by decide) (by decide +kernel) rfl nof (J_getc B A hi hc hn) (le rfl) (le rfl) (le rfl) (le rfl) ?_
  rintro _ _ ⟨rfl, rfl⟩
  exact C.ireturn db20_10 rfl (Or.inr (Or.inr (Or.inr (Or.inl rfl)))) (narrow_char hc) ⟨_, rfl, rfl, rfl⟩ (le rfl) (le rfl)
theorem J_ch (B : Base Z a0 EL) {h : Heap} {a : Addr} {cs : List Int32} {i : Nat} {ch : Int32} (S : StrAt Z h a cs) (hi : cs[i]? = some ch) : Con l Z EL nw (⟨"java/lang/String", "charAt", "(I)C"⟩ : MethodName) jdk_42_method_56_code 2 (some .char) (RM 4 53 0 0) [] #[.ref a, .int (Int32.ofNat i)] h (rR fun v h' => v = .int ch ∧ h = h') := by
  obtain ⟨t, cd, vs, X, Fv, Fc, A, T, hC, hn⟩ := S
  have hm : ch ∈ cs := List.mem_of_getElem? hi
  refine Con.of (plainFor_of_name (by decide +kernel)) B.1 B.2.1 ⟨[.val (.ref a), .val (.int (Int32.ofNat i))]⟩ (fun m => rfl) ?_
  intro p e s m below meth c _ C
  refine C.aloadN db21_0 rfl rfl ?_
  refine C.v0R db21_1 tw139 tw140 tw142 tw141 tw6 tw143 (by decide) (by decide +kernel) rfl nof (X) (fun _ q => notFace_of_selects q) (J_isl B Fc) (le rfl) (le rfl) (le rfl) (le rfl) ?_
  rintro v _ ⟨hv, rfl⟩
  rcases T with ⟨rfl, rfl, hL⟩ | ⟨rfl, rfl, hU⟩
  · obtain rfl : v = .int 1 := hv.elim (fun q => q.1) (fun q => absurd rfl q.2)
    refine C.if_eq db21_4 (fun q => absurd q (by decide)) (fun _ => ?_)
    refine C.aloadN db21_7 rfl rfl ?_
    refine C.getF db21_8 tw36 Fv ?_
    refine C.iloadN db21_11 rfl ?_
    refine C.s2R db21_12 tw144 tw145 tw23 tw146 (by decide) (by decide +kernel) rfl nof (J_lch B A (lat_get hi)) (le rfl) (le rfl) (le rfl) (le rfl) ?_
    rintro _ _ ⟨rfl, rfl⟩
    have e : c16 (b8 ch &&& 255) = ch := unb8 ⟨(hC ch hm).1, hL ch hm⟩
    rw [e]
    exact C.ireturn db21_15 rfl (Or.inr (Or.inr (Or.inr (Or.inl rfl)))) (narrow_char (hC ch hm)) ⟨_, rfl, rfl, rfl⟩ (le rfl) (le rfl)
  · obtain rfl : v = .int 0 := hv.elim (fun q => absurd q.2 (by decide)) (fun q => q.1)
    refine C.if_eq db21_4 (fun _ => ?_) (fun q => absurd rfl q)
    refine C.aloadN db21_16 rfl rfl ?_
    refine C.getF db21_17 tw36 Fv ?_
    refine C.iloadN db21_20 rfl ?_
    refine C.s2R db21_21 tw246 tw247 tw218 tw248 (by decide) (by decide +kernel) rfl nof (J_uch B A hi (hC ch hm) hn) (le rfl) (le rfl) (le rfl) (le rfl) ?_
    rintro _ _ ⟨rfl, rfl⟩
    exact C.ireturn db21_24 rfl (Or.inr (Or.inr (Or.inr (Or.inl rfl)))) (narrow_char (hC ch hm)) ⟨_, rfl, rfl, rfl⟩ (le rfl) (le rfl)
theorem J_can (B : Base Z a0 EL) {h : Heap} {ch : Int32} : Con l Z EL nw (⟨"java/lang/StringLatin1", "canEncode", "(C)Z"⟩ : MethodName) jdk_43_method_3_code 1 (some .boolean) (RM 0 0 0 0) [] #[.int ch] h (rR fun v h' => ((v = .int 1 ∧ ¬ (255 : Int32) < ch) ∨ (v = .int 0 ∧ (255 : Int32) < ch)) ∧ h = h') := by
  refine Con.of (plainFor_of_name (by decide +kernel)) B.1 B.2.1 ⟨[.val (.int ch)]⟩ (fun m => rfl) ?_
  intro p e s m below meth c _ C
  refine C.iloadN db22_0 rfl ?_
  refine C.sipush (255) db22_1 rfl ?_
  refine C.icmp_gt db22_4 (fun q => ?_) (fun q => ?_)
  · refine C.iconst (0) db22_11 rfl ?_
    exact C.ireturn db22_12 rfl (Or.inr (Or.inl rfl)) rfl ⟨_, rfl, Or.inr ⟨rfl, q⟩, rfl⟩ (le rfl) (le rfl)
  · refine C.iconst (1) db22_7 rfl ?_
    refine C.goto db22_8 ?_
    exact C.ireturn db22_12 rfl (Or.inr (Or.inl rfl)) rfl ⟨_, rfl, Or.inl ⟨rfl, q⟩, rfl⟩ (le rfl) (le rfl)
theorem J_ltb (B : Base Z a0 EL) {h : Heap} {ch : Int32} : Con l Z EL nw (⟨"java/lang/StringLatin1", "toBytes", "(C)[B"⟩ : MethodName) jdk_43_method_46_code 1 (some (.array .byte)) (RM 0 0 1 1) [] #[.int ch] h (rR fun v h' => v = .ref h.size ∧ Ext h h' ∧ Arl Z h' h.size .byte (lat [ch])) := by
  refine Con.of (plainFor_of_name (by decide +kernel)) B.1 B.2.1 ⟨[.val (.int ch)]⟩ (fun m => rfl) ?_
  intro p e s m below meth c _ C
  refine Goes.old fun O => ?_
  refine C.iconst (1) db23_0 rfl ?_
  refine C.newarray db23_1 tw8 (by decide) rfl (le rfl) (le rfl) (le rfl) ?_
  intro h1 t g1 E1 l1 A1
  subst g1
  refine C.dup db23_3 rfl ?_
  refine C.iconst (0) db23_4 rfl ?_
  refine C.iloadN db23_5 rfl ?_
  refine C.i2b db23_6 ?_
  refine C.bastore db23_7 A1 (by decide) rfl (le rfl) O.1 (Or.inl (by simp)) ?_
  intro h2 W2 A2
  rw [nar_b8, b8_b8] at A2
  exact C.areturn db23_8 rfl rfl rfl rfl ⟨_, rfl, rfl, ext_of_wr E1 W2 (Nat.le_refl _), A2⟩ (le rfl) (le rfl)
theorem J_newbb (B : Base Z a0 EL) {h : Heap} {a t : Addr} {cs : List Int32} {cd : Int32} {vs : List Value} (hc : ∀ c ∈ cs, IsC c) (hn : cs.length ≤ 4000) (T : Txt cs cd vs) (A : Arl Z h t .byte vs) (ta : t ≠ a) (na : Z.heap.size ≤ a) (E : Exa Z h a ST) (Fv : Fld Z h a ST "value" "[B" .null) (Fc : Fld Z h a ST "coder" "B" (.int 0)) :
    Con l Z EL nw (⟨"java/lang/String", "<init>", "([BB)V"⟩ : MethodName) jdk_42_method_151_code 3 none (RM 1 12 0 0) [a] #[.ref a, .ref t, .int cd] h (rV fun h' => Keep h h' [a] ∧ StrAt Z h' a cs) := by
  refine Con.of (plainFor_of_name (by decide +kernel)) B.1 B.2.1 ⟨[.val (.ref a), .val (.ref t), .val (.int cd)]⟩ (fun m => rfl) ?_
  intro p e s m below meth c _ C
  have nvc : RoadKit.slotOf Z ST "value" "[B" ≠ RoadKit.slotOf Z ST "coder" "B" := slot_ne (C := ST) (a0 := a0) (Or.inr (C.wrd tw9)) (Or.inr (C.wrd tw10)) (by decide) (t := .array .byte) (t' := .byte) (by decide +kernel) (by decide +kernel)
  refine C.aloadN db24_0 rfl rfl ?_
  refine C.initO db24_1 tw33 tw34 tw35 rfl (le rfl) (le rfl) ?_
  refine C.aloadN db24_4 rfl rfl ?_
  refine C.aloadN db24_5 rfl rfl ?_
  refine C.putF (ty := (.array .byte)) db24_6 tw36 Fv E (Or.inr ⟨tw9, rfl, rfl⟩) tw7 (by decide +kernel) rfl rfl na (Or.inl (List.mem_singleton.mpr rfl)) ?_
  intro h1 W1
  refine C.aloadN db24_9 rfl rfl ?_
  refine C.iloadN db24_10 rfl ?_
  refine C.putF (ty := .byte) db24_11 tw37 (Fc.other W1 (Or.inr nvc.symm)) (E.wr W1) (Or.inr ⟨tw10, rfl, rfl⟩) tw7 (by decide +kernel) (by rcases T.cd01 with rfl | rfl <;> rfl) (by rcases T.cd01 with rfl | rfl <;> rfl) na (Or.inl (List.mem_singleton.mpr rfl)) ?_
  intro h2 W2
  exact C.return_ db24_14 rfl ⟨rfl, (Keep.of_wr W1).wr W2 (Or.inl (List.mem_singleton.mpr rfl)), t, cd, vs, (E.wr W1).wr W2, (Fv.same W1).other W2 (Or.inr nvc), (Fc.other W1 (Or.inr nvc.symm)).same W2, (A.other W1 ta).other W2 ta, T, hc, hn⟩ (le rfl) (le rfl)
theorem J_valof (B : Base Z a0 EL) {h : Heap} {ch : Int32} (hc : IsL ch) : Con l Z EL nw (⟨"java/lang/String", "valueOf", "(C)Ljava/lang/String;"⟩ : MethodName) jdk_42_method_139_code 1 (some (.object ST)) (RM 2 27 2 5) [] #[.int ch] h (rR fun v h' => ∃ a, v = .ref a ∧ Ext h h' ∧ StrAt Z h' a [ch]) := by
  obtain ⟨z, Sz, hz⟩ := B.2.2.1
  refine Con.of (plainFor_of_name (by decide +kernel)) B.1 B.2.1 ⟨[.val (.int ch)]⟩ (fun m => rfl) ?_
  intro p e s m below meth c _ C
  refine Goes.old fun O => ?_
  refine C.getS db25_0 tw20 Sz ?_
  refine C.if_eq db25_3 (fun q => absurd q hz) (fun _ => ?_)
  refine C.iloadN db25_6 rfl ?_
  refine C.s1R db25_7 tw21 tw22 tw23 tw24 (by decide) (by decide +kernel) rfl nof (J_can B) (le rfl) (le rfl) (le rfl) (le rfl) ?_
  rintro v _ ⟨hv, rfl⟩
  obtain rfl : v = .int 1 := hv.elim (fun q => q.1) (fun q => absurd q.2 hc.2)
  refine C.if_eq db25_10 (fun q => absurd q (by decide)) (fun _ => ?_)
  refine C.new db25_13 tw25 tw7 tw6 (le rfl) (le rfl) ?_
  intro h1 a g1 E1 X1 D1
  have Fv := D1 (Or.inr (C.wrd tw9)) (ty := (.array .byte)) (by decide +kernel)
  have Fc := D1 (Or.inr (C.wrd tw10)) (ty := .byte) (by decide +kernel)
  refine C.dup db25_16 rfl ?_
  refine C.iloadN db25_17 rfl ?_
  refine C.s1R db25_18 tw26 tw27 tw23 tw28 (by decide) (by decide +kernel) rfl nof (J_ltb B) (le rfl) (le rfl) (le rfl) (le rfl) ?_
  rintro _ h2 ⟨rfl, E2, A2⟩
  refine C.iconst (0) db25_21 rfl ?_
  refine C.c2 db25_22 rfl tw29 tw30 tw6 tw32 (by decide) (by decide +kernel) rfl (by simp) (J_newbb B (cs := [ch]) (by simpa using hc.isC) (by simp) (Or.inl ⟨rfl, rfl, by simpa using hc.2⟩) A2 (adr_ne X1.lt (Nat.le_refl _)).symm (by have := O.1; omega) (X1.ext E2) (Fv.ext E2) (Fc.ext E2)) (le rfl) (le rfl) (le rfl) (le rfl) ?_
  rintro h3 ⟨K3, S3⟩
  exact C.areturn db25_25 rfl rfl rfl rfl ⟨_, rfl, a, rfl, ext_of_keep (ext_trans E1 E2) K3 (by simp; omega), S3⟩ (le rfl) (le rfl)
theorem J_ulen32 (B : Base Z a0 EL) {h : Heap} {t : Addr} {vs : List Value} (A : Arl Z h t .byte vs) (hv : vs.length = 32) : Con l Z EL nw (⟨"java/lang/StringUTF16", "length", "([B)I"⟩ : MethodName) jdk_52_method_6_code 1 (some .int) (RM 0 0 0 0) [] #[.ref t] h (rR fun v h' => v = .int (Int32.ofNat 16) ∧ h = h') := by
  refine Con.of (plainFor_of_name (by decide +kernel)) B.1 B.2.1 ⟨[.val (.ref t)]⟩ (fun m => rfl) ?_
  intro p e s m below meth c _ C
  refine C.aloadN db18_0 rfl rfl ?_
  refine C.arraylength db18_1 A ?_
  rw [hv]
  refine C.iconst (1) db18_2 rfl ?_
  refine C.ishr db18_3 ?_
  exact C.ireturn db18_4 rfl (Or.inl rfl) rfl ⟨_, rfl, by decide, rfl⟩ (le rfl) (le rfl)
theorem J_cfis' (B : Base Z a0 EL) {h : Heap} {i n : Nat} {v : Value} (hin : i + n ≤ 16) (hv : ∀ m, entryFrame m #[.int (Int32.ofNat i), .int (Int32.ofNat n), .int (Int32.ofNat 16), v] 4 = mkF m 0 ⟨[.val (.int (Int32.ofNat i)), .val (.int (Int32.ofNat n)), .val (.int (Int32.ofNat 16)), .val v]⟩ []) : Con l Z EL nw (⟨"jdk/internal/util/Preconditions", "checkFromIndexSize", "(IIILjava/util/function/BiFunction;)I"⟩ : MethodName) jdk_41_method_13_code 4 (some .int) (RM 0 0 0 0) [] #[.int (Int32.ofNat i), .int (Int32.ofNat n), .int (Int32.ofNat 16), v] h (rR fun w h' => w = .int (Int32.ofNat i) ∧ h = h') := by
  refine Con.of (plainFor_of_name (by decide +kernel)) B.1 B.2.1 ⟨[.val (.int (Int32.ofNat i)), .val (.int (Int32.ofNat n)), .val (.int (Int32.ofNat 16)), .val v]⟩ hv ?_
  intro p e s m below meth c _ C
  have e0 : (0 : Int32).toInt = 0 := rfl
  have t1 := ofNat_toInt (i := i) (by omega)
  have t2 := ofNat_toInt (i := n) (by omega)
  have t3 := ofNat_toInt (i := 16) (by decide)
  have o1 := (c_orS (Int32.ofNat 16) (Int32.ofNat i)).1 (by omega) (by omega)
  have o2 := (c_orS (Int32.ofNat 16 ||| Int32.ofNat i) (Int32.ofNat n)).1 o1 (by omega)
  have s1 := c_isub (Int32.ofNat 16) (Int32.ofNat i)
  have s2 := i32_bounds (Int32.ofNat 16 - Int32.ofNat i)
  refine C.iloadN db26_0 rfl ?_
  refine C.iloadN db26_1 rfl ?_
  refine C.ior db26_2 ?_
  refine C.iloadN db26_3 rfl ?_
  refine C.ior db26_4 ?_
  refine C.if_lt db26_5 (fun q => absurd q (by rw [nlt, e0]; exact o2)) (fun _ => ?_)
  refine C.iloadN db26_8 rfl ?_
  refine C.iloadN db26_9 rfl ?_
  refine C.iloadN db26_10 rfl ?_
  refine C.isub db26_11 ?_
  refine C.icmp_le db26_12 (fun _ => ?_) (fun q => absurd q (by rw [nlt]; omega))
  refine C.iloadN db26_23 rfl ?_
  exact C.ireturn db26_24 rfl (Or.inl rfl) rfl ⟨_, rfl, rfl, rfl⟩ (le rfl) (le rfl)
theorem J_cfis (B : Base Z a0 EL) {h : Heap} {i n : Nat} {v : Value} (hin : i + n ≤ 16) (hr : v.isRef = true) : Con l Z EL nw (⟨"jdk/internal/util/Preconditions", "checkFromIndexSize", "(IIILjava/util/function/BiFunction;)I"⟩ : MethodName) jdk_41_method_13_code 4 (some .int) (RM 0 0 0 0) [] #[.int (Int32.ofNat i), .int (Int32.ofNat n), .int (Int32.ofNat 16), v] h (rR fun w h' => w = .int (Int32.ofNat i) ∧ h = h') := by
  cases v with
  | ref r => exact J_cfis' B hin (fun m => rfl)
  | null => exact J_cfis' B hin (fun m => rfl)
  | _ => cases hr
theorem J_cboc (B : Base Z a0 EL) {h : Heap} {i n : Nat} (hin : i + n ≤ 16) : Con l Z EL nw (⟨"java/lang/String", "checkBoundsOffCount", "(III)I"⟩ : MethodName) jdk_42_method_157_code 3 (some .int) (RM 1 15 0 0) [] #[.int (Int32.ofNat i), .int (Int32.ofNat n), .int (Int32.ofNat 16)] h (rR fun w h' => w = .int (Int32.ofNat i) ∧ h = h') := by
  obtain ⟨sf, Ssf, rsf⟩ := B.2.2.2.1
  refine Con.of (plainFor_of_name (by decide +kernel)) B.1 B.2.1 ⟨[.val (.int (Int32.ofNat i)), .val (.int (Int32.ofNat n)), .val (.int (Int32.ofNat 16))]⟩ (fun m => rfl) ?_
  intro p e s m below meth c _ C
  refine C.iloadN db27_0 rfl ?_
  refine C.iloadN db27_1 rfl ?_
  refine C.iloadN db27_2 rfl ?_
  refine C.getS db27_3 tw150 Ssf ?_
  refine C.s4R db27_6 tw288 tw289 tw151 tw290 (by decide) (by decide +kernel) rfl nof (J_cfis B hin rsf) (le rfl) (le rfl) (le rfl) (le rfl) ?_
  rintro _ _ ⟨rfl, rfl⟩
  exact C.ireturn db27_9 rfl (Or.inl rfl) rfl ⟨_, rfl, rfl, rfl⟩ (le rfl) (le rfl)
theorem J_ucboc (B : Base Z a0 EL) {h : Heap} {t : Addr} {vs : List Value} {i n : Nat} (A : Arl Z h t .byte vs) (hv : vs.length = 32) (hin : i + n ≤ 16) : Con l Z EL nw (⟨"java/lang/StringUTF16", "checkBoundsOffCount", "(II[B)V"⟩ : MethodName) jdk_52_method_94_code 3 none (RM 2 29 0 0) [] #[.int (Int32.ofNat i), .int (Int32.ofNat n), .ref t] h (rV fun h' => h = h') := by
  refine Con.of (plainFor_of_name (by decide +kernel)) B.1 B.2.1 ⟨[.val (.int (Int32.ofNat i)), .val (.int (Int32.ofNat n)), .val (.ref t)]⟩ (fun m => rfl) ?_
  intro p e s m below meth c _ C
  refine C.iloadN db28_0 rfl ?_
  refine C.iloadN db28_1 rfl ?_
  refine C.aloadN db28_2 rfl rfl ?_
  refine C.s1R db28_3 tw252 tw253 tw218 tw254 (by decide) (by decide +kernel) rfl nof (J_ulen32 B A hv) (le rfl) (le rfl) (le rfl) (le rfl) ?_
  rintro _ _ ⟨rfl, rfl⟩
  refine C.s3R db28_6 tw285 tw286 tw6 tw287 (by decide) (by decide +kernel) rfl nof (J_cboc B hin) (le rfl) (le rfl) (le rfl) (le rfl) ?_
  rintro _ _ ⟨rfl, rfl⟩
  refine C.pop db28_9 rfl ?_
  exact C.return_ db28_10 rfl ⟨rfl, rfl⟩ (le rfl) (le rfl)
def mid (V : List Value) (ds : List Int32) (i j : Nat) : List Value := V.take (2 * i) ++ wid (ds.take j) ++ V.drop (2 * i + 2 * j)
theorem J_uinfL (B : Base Z a0 EL) {p : Program} {e : Env} {s : State} {m : MethodId} {args : Array Value} {below : List Frame} {meth : Method} {c : Code} {mn : String} {h : Heap} {u t : Addr} {ds : List Int32} {V : List Value} {i : Nat} {uv : List Value} (C : Cxt p m meth c Z a0 EL "java/lang/StringUTF16" mn jdk_52_method_86_code 6 none tables_1) (A : Arl Z h u .byte (lat ds ++ uv)) (hd : ∀ c ∈ ds, IsL c) (hut : u ∉ [t]) (nt : Z.heap.size ≤ t) (hv : V.length = 32) (hin : i + ds.length ≤ 16) :
    ∀ (r j w : Nat) (hj : Heap), j + r = ds.length → Keep h hj [t] → hj.size = h.size → Arl Z hj t .byte (mid V ds i j) →
      OwnW.Goes p l e (RM 3 45 0 0) s m args below meth c Z EL nw (rV fun h' => Keep h h' [t] ∧ h'.size = h.size ∧ Arl Z h' t .byte (mid V ds i ds.length)) [t] w hj 0 0 (mkF m 10 ⟨[.val (.ref u), .val (.int (Int32.ofNat j)), .val (.ref t), .val (.int (Int32.ofNat (i + j))), .val (.int (Int32.ofNat ds.length)), .val (.int (Int32.ofNat j))]⟩ []) := by
  intro r
  induction r with
  | zero =>
    intro j w hj hjr K sz Aj
    obtain rfl : j = ds.length := by omega
    refine C.iload db29_10 rfl ?_
    refine C.iload db29_12 rfl ?_
    refine C.icmp_ge db29_14 (fun _ => ?_) (fun q => absurd q (fun q => by rw [ofNat_lt (by omega) (by omega)] at q; omega))
    exact C.return_ db29_41 rfl ⟨rfl, K, sz, Aj⟩ (le rfl) (le rfl)
  | succ r ih =>
    intro j w hj hjr K sz Aj
    have hlt : j < ds.length := by omega
    have hch : ds[j]? = some ds[j] := List.getElem?_eq_getElem hlt
    generalize ds[j] = ch at hch
    have hL := hd ch (List.mem_of_getElem? hch)
    have hI := ofNat_idx (i := j) (by omega)
    have lj : (mid V ds i j).length = 32 := by unfold mid; rw [List.length_append, List.length_append, wid_length, List.length_take, List.length_take, List.length_drop]; omega
    refine C.iload db29_10 rfl ?_
    refine C.iload db29_12 rfl ?_
    refine C.icmp_ge db29_14 (fun q => absurd ((ofNat_lt (by omega) (by omega)).mpr hlt) q) (fun _ => ?_)
    refine C.aloadN db29_17 rfl rfl ?_
    refine C.iloadN db29_18 rfl ?_
    refine C.iinc (1) db29_19 rfl rfl ?_
    refine C.aloadN db29_22 rfl rfl ?_
    refine C.iloadN db29_23 rfl ?_
    refine C.iinc (1) db29_24 rfl rfl ?_
    refine C.baload db29_27 (A.keep K hut) hI.1 hI.2 (v := .int (b8 ch)) (by rw [List.getElem?_append_left (by rw [lat_length]; exact hlt)]; exact lat_get hch) ?_
    refine C.sipush (255) db29_28 rfl ?_
    refine C.iand db29_31 ?_
    rw [byte_and hL]
    refine C.s3V db29_32 tw237 tw238 tw218 tw239 (by decide) (by decide +kernel) rfl (by simp) (J_putc (nw := true) B (i := i + j) (ch := ch) Aj (by rw [lj]; omega) nt) (le rfl) (le rfl) (le rfl) (le rfl) ?_
    rintro h2 ⟨K2, sz2, A2⟩
    refine C.iinc (1) db29_35 rfl rfl ?_
    refine C.goto db29_38 ?_
    rw [ofNat_succ, ofNat_succ]
    refine ih (j + 1) _ h2 (by omega) (K.trans K2 (fun x hx => Or.inl hx)) (sz2.trans sz) ?_
    have e : mid V ds i (j + 1) = (((mid V ds i j).set (2 * (i + j)) (.int (b8 ch))).set (2 * (i + j) + 1) (.int (b8 (ch >>> 8)))) := by
      unfold mid
      rw [set2 (by rw [List.length_append, wid_length, List.length_take, List.length_take]; omega) (by rw [List.length_drop]; omega), List.take_add_one, hch, List.drop_drop]
      have e1 : wid (ds.take j ++ (some ch).toList) = wid (ds.take j) ++ [.int (b8 ch), .int (b8 (ch >>> 8))] := by simp [wid]
      rw [e1]
      have e2 : 2 * i + 2 * (j + 1) = 2 * i + 2 * j + 2 := by omega
      rw [e2]; simp
    rw [e]; exact A2
theorem J_uinf (B : Base Z a0 EL) {h : Heap} {u t : Addr} {ds : List Int32} {V uv : List Value} {i : Nat} (A : Arl Z h u .byte (lat ds ++ uv)) (D : Arl Z h t .byte V) (hd : ∀ c ∈ ds, IsL c) (hut : u ∉ [t]) (nt : Z.heap.size ≤ t) (hv : V.length = 32) (hin : i + ds.length ≤ 16) :
    Con l Z EL nw (⟨"java/lang/StringUTF16", "inflate", "([BI[BII)V"⟩ : MethodName) jdk_52_method_86_code 6 none (RM 3 45 0 0) [t] #[.ref u, .int 0, .ref t, .int (Int32.ofNat i), .int (Int32.ofNat ds.length)] h (rV fun h' => Keep h h' [t] ∧ h'.size = h.size ∧ Arl Z h' t .byte (mid V ds i ds.length)) := by
  refine Con.of (plainFor_of_name (by decide +kernel)) B.1 B.2.1 ⟨[.val (.ref u), .val (.int 0), .val (.ref t), .val (.int (Int32.ofNat i)), .val (.int (Int32.ofNat ds.length)), .unset]⟩ (fun m => rfl) ?_
  intro p e s m below meth c _ C
  refine C.iloadN db29_0 rfl ?_
  refine C.iload db29_1 rfl ?_
  refine C.aloadN db29_3 rfl rfl ?_
  refine C.s3V db29_4 tw282 tw283 tw218 tw284 (by decide) (by decide +kernel) rfl nof (J_ucboc (nw := true) B D hv hin) (le rfl) (le rfl) (le rfl) (le rfl) ?_
  rintro _ rfl
  refine C.iconst (0) db29_7 rfl ?_
  refine C.istore db29_8 rfl rfl ?_
  exact J_uinfL B C A hd hut nt hv hin ds.length 0 _ h (by omega) (Keep.refl _ _) rfl (by unfold mid; simp [wid]; exact D)
theorem J_linf (B : Base Z a0 EL) {h : Heap} {u t : Addr} {ds : List Int32} {V uv : List Value} {i : Nat} (A : Arl Z h u .byte (lat ds ++ uv)) (D : Arl Z h t .byte V) (hd : ∀ c ∈ ds, IsL c) (hut : u ∉ [t]) (nt : Z.heap.size ≤ t) (hv : V.length = 32) (hin : i + ds.length ≤ 16) :
    Con l Z EL nw (⟨"java/lang/StringLatin1", "inflate", "([BI[BII)V"⟩ : MethodName) jdk_43_method_50_code 5 none (RM 4 62 0 0) [t] #[.ref u, .int 0, .ref t, .int (Int32.ofNat i), .int (Int32.ofNat ds.length)] h (rV fun h' => Keep h h' [t] ∧ h'.size = h.size ∧ Arl Z h' t .byte (mid V ds i ds.length)) := by
  refine Con.of (plainFor_of_name (by decide +kernel)) B.1 B.2.1 ⟨[.val (.ref u), .val (.int 0), .val (.ref t), .val (.int (Int32.ofNat i)), .val (.int (Int32.ofNat ds.length))]⟩ (fun m => rfl) ?_
  intro p e s m below meth c _ C
  refine C.aloadN db30_0 rfl rfl ?_
  refine C.iloadN db30_1 rfl ?_
  refine C.aloadN db30_2 rfl rfl ?_
  refine C.iloadN db30_3 rfl ?_
  refine C.iload db30_4 rfl ?_
  refine C.s5V db30_6 tw279 tw280 tw218 tw281 (by decide) (by decide +kernel) rfl (by simp) (J_uinf B A D hd hut nt hv hin) (le rfl) (le rfl) (le rfl) (le rfl) ?_
  rintro h1 ⟨K1, sz1, A1⟩
  exact C.return_ db30_9 rfl ⟨rfl, K1, sz1, A1⟩ (le rfl) (le rfl)
theorem J_chkg (B : Base Z a0 EL) {h : Heap} {n : Nat} (hn : n ≤ 4000) : Con l Z EL nw (⟨"java/util/Arrays", "checkLength", "(II)V"⟩ : MethodName) jdk_65_method_131_code 2 none (RM 0 0 0 0) [] #[.int 0, .int (Int32.ofNat n)] h (rV fun h' => h = h') := by
  refine Con.of (plainFor_of_name (by decide +kernel)) B.1 B.2.1 ⟨[.val (.int 0), .val (.int (Int32.ofNat n))]⟩ (fun m => rfl) ?_
  intro p e s m below meth c _ C
  refine C.iloadN db31_0 rfl ?_
  refine C.iloadN db31_1 rfl ?_
  refine C.icmp_ge db31_2 (fun _ => ?_) (fun q => absurd q (ofNat_idx (by omega)).1)
  exact C.return_ db31_37 rfl ⟨rfl, rfl⟩ (le rfl) (le rfl)
theorem J_ming (B : Base Z a0 EL) {h : Heap} {i j : Nat} (hj : j < i) (hi : i ≤ 4000) : Con l Z EL nw (⟨"java/lang/Math", "min", "(II)I"⟩ : MethodName) jdk_29_method_69_code 2 (some .int) (RM 0 0 0 0) [] #[.int (Int32.ofNat i), .int (Int32.ofNat j)] h (rR fun v h' => v = .int (Int32.ofNat j) ∧ h = h') := by
  refine Con.of (by decide +kernel) B.1 B.2.1 ⟨[.val (.int (Int32.ofNat i)), .val (.int (Int32.ofNat j))]⟩ (fun m => rfl) ?_
  intro p e s m below meth c _ C
  refine C.iloadN db32_0 rfl ?_
  refine C.iloadN db32_1 rfl ?_
  refine C.icmp_gt db32_2 (fun _ => ?_) (fun q => absurd ((ofNat_lt (by omega) (by omega)).mpr hj) q)
  refine C.iloadN db32_9 rfl ?_
  exact C.ireturn db32_10 rfl (Or.inl rfl) rfl ⟨_, rfl, rfl, rfl⟩ (le rfl) (le rfl)
theorem J_corbg (B : Base Z a0 EL) {h : Heap} {t : Addr} {vs : List Value} {n : Nat} (A : Arl Z h t .byte vs) (hn : n < vs.length) (hv : vs.length ≤ 32) : Con l Z EL nw (⟨"java/util/Arrays", "copyOfRangeByte", "([BII)[B"⟩ : MethodName) jdk_65_method_133_code 5 (some (.array .byte)) (RM 1 18 1 32) [] #[.ref t, .int 0, .int (Int32.ofNat n)] h (rR fun v h' => ∃ r, v = .ref r ∧ h.size ≤ r ∧ Ext h h' ∧ Arl Z h' r .byte (vs.take n)) := by
  have hI := ofNat_idx (i := n) (by omega)
  refine Con.of (plainFor_of_name (by decide +kernel)) B.1 B.2.1 ⟨[.val (.ref t), .val (.int 0), .val (.int (Int32.ofNat n)), .unset, .unset]⟩ (fun m => rfl) ?_
  intro p e s m below meth c _ C
  refine Goes.old fun O => ?_
  refine C.iloadN db33_0 rfl ?_
  refine C.iloadN db33_1 rfl ?_
  refine C.s2V db33_2 tw192 tw193 tw187 tw194 (by decide) (by decide +kernel) rfl nof (J_chkg (nw := true) B (by omega)) (le rfl) (le rfl) (le rfl) (le rfl) ?_
  rintro _ rfl
  refine C.iloadN db33_5 rfl ?_
  refine C.iloadN db33_6 rfl ?_
  refine C.isub db33_7 ?_
  rw [Int32.sub_zero]
  refine C.istoreN db33_8 rfl rfl ?_
  refine C.iloadN db33_9 rfl ?_
  refine C.newarray db33_10 tw8 hI.1 hI.2 (by omega) (le rfl) (by show 0 + 0 + n ≤ 32; omega) ?_
  intro h1 r g1 E1 l1 A1
  refine C.astore db33_12 rfl rfl rfl ?_
  refine C.aloadN db33_14 rfl rfl ?_
  refine C.iloadN db33_15 rfl ?_
  refine C.aload db33_16 rfl rfl ?_
  refine C.iconst (0) db33_18 rfl ?_
  refine C.aloadN db33_19 rfl rfl ?_
  refine C.arraylength db33_20 (A.ext E1) ?_
  refine C.iloadN db33_21 rfl ?_
  refine C.isub db33_22 ?_
  rw [Int32.sub_zero]
  refine C.iloadN db33_23 rfl ?_
  refine C.s2R db33_24 tw195 tw196 tw197 tw198 (by decide) (by decide +kernel) rfl nof (J_ming (nw := true) B hn (by omega)) (le rfl) (le rfl) (le rfl) (by show 0 + 0 + n + 0 ≤ 32; omega) ?_
  rintro _ _ ⟨rfl, rfl⟩
  refine C.arraycopy (sp := 0) (dp := 0) (nn := n) db33_27 tw199 tw122 tw120 tw121 (A.ext E1) A1 rfl (by omega) (by rw [List.length_replicate]; omega) (by have := O.1; omega) (Or.inl (List.mem_cons_self)) rfl (le rfl) (le rfl) ?_
  intro h2 K2 A2
  rw [List.take_zero, List.nil_append, List.drop_zero, Nat.zero_add, List.drop_of_length_le (by rw [List.length_replicate]; exact Nat.le_refl _), List.append_nil] at A2
  refine C.aload db33_30 rfl rfl ?_
  exact C.areturn db33_32 rfl rfl rfl rfl ⟨_, rfl, r, rfl, Nat.le_of_eq g1.symm, ext_of_keep E1 K2 (by simp; omega), A2⟩ (le rfl) (by show 0 + 0 + n + 0 ≤ 32; omega)
theorem J_corg (B : Base Z a0 EL) {h : Heap} {t : Addr} {vs : List Value} {n : Nat} (A : Arl Z h t .byte vs) (hn : n < vs.length) (hv : vs.length ≤ 32) : Con l Z EL nw (⟨"java/util/Arrays", "copyOfRange", "([BII)[B"⟩ : MethodName) jdk_65_method_132_code 3 (some (.array .byte)) (RM 2 34 1 32) [] #[.ref t, .int 0, .int (Int32.ofNat n)] h (rR fun v h' => ∃ r, v = .ref r ∧ h.size ≤ r ∧ Ext h h' ∧ Arl Z h' r .byte (vs.take n)) := by
  refine Con.of (plainFor_of_name (by decide +kernel)) B.1 B.2.1 ⟨[.val (.ref t), .val (.int 0), .val (.int (Int32.ofNat n))]⟩ (fun m => rfl) ?_
  intro p e s m below meth c _ C
  refine C.iloadN db34_0 rfl ?_
  refine C.if_ne db34_1 (fun q => absurd rfl q) (fun _ => ?_)
  refine C.iloadN db34_4 rfl ?_
  refine C.aloadN db34_5 rfl rfl ?_
  refine C.arraylength db34_6 A ?_
  refine C.icmp_eq db34_7 (fun q => absurd (ofNat_inj (by omega) (by omega) q) (by omega)) (fun _ => ?_)
  refine C.aloadN db34_10 rfl rfl ?_
  refine C.iloadN db34_11 rfl ?_
  refine C.iloadN db34_12 rfl ?_
  refine C.s3R db34_13 tw189 tw190 tw187 tw191 (by decide) (by decide +kernel) rfl nof (J_corbg B A hn hv) (le rfl) (le rfl) (le rfl) (le rfl) ?_
  rintro _ h1 ⟨r, rfl, nr, E1, A1⟩
  exact C.areturn db34_16 rfl rfl rfl rfl ⟨_, rfl, r, rfl, nr, E1, A1⟩ (le rfl) (le rfl)
theorem J_abiG (B : Base Z a0 EL) {h : Heap} {a : Addr} (na : Z.heap.size ≤ a) (X : Exa Z h a SBN) (F1 : Fld Z h a ASB "value" "[B" .null) (F2 : Fld Z h a ASB "coder" "B" (.int 0)) (F3 : Fld Z h a ASB "count" "I" (.int 0)) (F4 : Fld Z h a ASB "maybeLatin1" "Z" (.int 0)) :
    Con l Z EL nw (⟨"java/lang/AbstractStringBuilder", "<init>", "(I)V"⟩ : MethodName) jdk_68_method_2_code 2 none (RM 1 12 1 16) [] #[.ref a, .int 16] h (rV fun h' => Keep h h' [a] ∧ ∃ t, h.size ≤ t ∧ SBr Z h' a t [] 0) := by
  obtain ⟨z, Sz, hz⟩ := B.2.2.1
  refine Con.of (plainFor_of_name (by decide +kernel)) B.1 B.2.1 ⟨[.val (.ref a), .val (.int 16)]⟩ (fun m => rfl) ?_
  intro p e s m below meth c _ C
  have nvc : RoadKit.slotOf Z ASB "value" "[B" ≠ RoadKit.slotOf Z ASB "coder" "B" := slot_ne (C := SBN) (a0 := a0) (Or.inl (C.wrd tw73)) (Or.inl (C.wrd tw75)) (by decide) (t := .array .byte) (t' := .byte) (by decide +kernel) (by decide +kernel)
  have nvn : RoadKit.slotOf Z ASB "value" "[B" ≠ RoadKit.slotOf Z ASB "count" "I" := slot_ne (C := SBN) (a0 := a0) (Or.inl (C.wrd tw73)) (Or.inl (C.wrd tw97)) (by decide) (t := .array .byte) (t' := .int) (by decide +kernel) (by decide +kernel)
  have ncn : RoadKit.slotOf Z ASB "coder" "B" ≠ RoadKit.slotOf Z ASB "count" "I" := slot_ne (C := SBN) (a0 := a0) (Or.inl (C.wrd tw75)) (Or.inl (C.wrd tw97)) (by decide) (t := .byte) (t' := .int) (by decide +kernel) (by decide +kernel)
  have nvm : RoadKit.slotOf Z ASB "value" "[B" ≠ RoadKit.slotOf Z ASB "maybeLatin1" "Z" := slot_ne (C := SBN) (a0 := a0) (Or.inl (C.wrd tw73)) (Or.inl (C.wrd tw292)) (by decide) (t := .array .byte) (t' := .boolean) (by decide +kernel) (by decide +kernel)
  have ncm : RoadKit.slotOf Z ASB "coder" "B" ≠ RoadKit.slotOf Z ASB "maybeLatin1" "Z" := slot_ne (C := SBN) (a0 := a0) (Or.inl (C.wrd tw75)) (Or.inl (C.wrd tw292)) (by decide) (t := .byte) (t' := .boolean) (by decide +kernel) (by decide +kernel)
  have nnm : RoadKit.slotOf Z ASB "count" "I" ≠ RoadKit.slotOf Z ASB "maybeLatin1" "Z" := slot_ne (C := SBN) (a0 := a0) (Or.inl (C.wrd tw97)) (Or.inl (C.wrd tw292)) (by decide) (t := .int) (t' := .boolean) (by decide +kernel) (by decide +kernel)
  refine C.aloadN db35_0 rfl rfl ?_
  refine C.initO db35_1 tw70 tw34 tw35 rfl (le rfl) (le rfl) ?_
  refine C.getS db35_4 tw71 Sz ?_
  refine C.if_eq db35_7 (fun q => absurd q hz) (fun _ => ?_)
  refine C.aloadN db35_10 rfl rfl ?_
  refine C.iloadN db35_11 rfl ?_
  refine C.newarray db35_12 tw8 (by decide) rfl (le rfl) (le rfl) (le rfl) ?_
  intro h1 t g1 E1 l1 A1
  have at' : @Ne Nat a t := adr_ne X.lt (Nat.le_of_eq g1.symm)
  refine C.putF (ty := (.array .byte)) db35_14 tw72 (F1.ext E1) (X.ext E1) (Or.inl tw73) tw59 (by decide +kernel) rfl rfl na (Or.inr (Or.inr ⟨by decide, by decide⟩)) ?_
  intro h2 W2
  refine C.aloadN db35_17 rfl rfl ?_
  refine C.iconst (0) db35_18 rfl ?_
  refine C.putF (ty := .byte) db35_19 tw74 ((F2.ext E1).other W2 (Or.inr nvc.symm)) ((X.ext E1).wr W2) (Or.inl tw75) tw59 (by decide +kernel) rfl rfl na (Or.inr (Or.inr ⟨by decide, by decide⟩)) ?_
  intro h3 W3
  refine C.goto db35_22 ?_
  exact C.return_ db35_38 rfl ⟨rfl, ((keep_ext E1 [a]).wr W2 (Or.inl (List.mem_singleton.mpr rfl))).wr W3 (Or.inl (List.mem_singleton.mpr rfl)), t, Nat.le_of_eq g1.symm, ((X.ext E1).wr W2).wr W3, ((F1.ext E1).same W2).other W3 (Or.inr nvc), ((F2.ext E1).other W2 (Or.inr nvc.symm)).same W3, ((F3.ext E1).other W2 (Or.inr nvn.symm)).other W3 (Or.inr ncn.symm), ((F4.ext E1).other W2 (Or.inr nvm.symm)).other W3 (Or.inr ncm.symm), (A1.other W2 at'.symm).other W3 at'.symm, Or.inl rfl, fun _ c hc => (nomatch hc), Nat.zero_le _, fun c hc => (nomatch hc), at'⟩ (le rfl) (le rfl)
theorem J_sbiG (B : Base Z a0 EL) {h : Heap} {a : Addr} (na : Z.heap.size ≤ a) (X : Exa Z h a SBN) (F1 : Fld Z h a ASB "value" "[B" .null) (F2 : Fld Z h a ASB "coder" "B" (.int 0)) (F3 : Fld Z h a ASB "count" "I" (.int 0)) (F4 : Fld Z h a ASB "maybeLatin1" "Z" (.int 0)) :
    Con l Z EL nw (⟨"java/lang/StringBuilder", "<init>", "()V"⟩ : MethodName) jdk_67_method_1_code 1 none (RM 2 25 1 16) [] #[.ref a] h (rV fun h' => Keep h h' [a] ∧ ∃ t, h.size ≤ t ∧ SBr Z h' a t [] 0) := by
  refine Con.of (plainFor_of_name (by decide +kernel)) B.1 B.2.1 ⟨[.val (.ref a)]⟩ (fun m => rfl) ?_
  intro p e s m below meth c _ C
  refine C.aloadN db36_0 rfl rfl ?_
  refine C.bipush (16) db36_1 rfl ?_
  refine C.c1 db36_3 rfl tw64 tw65 tw68 tw69 (by decide) (by decide +kernel) rfl nof (J_abiG B na X F1 F2 F3 F4) (le rfl) (le rfl) (le rfl) (le rfl) ?_
  rintro h1 ⟨K1, t, nt, S1⟩
  exact C.return_ db36_6 rfl ⟨rfl, K1, t, nt, S1⟩ (le rfl) (le rfl)
theorem J_ensG (B : Base Z a0 EL) {h : Heap} {a t : Addr} {cs : List Int32} {cd : Int32} {i : Nat} (S : SBr Z h a t cs cd) (hm : i ≤ 16) : Con l Z EL nw (⟨"java/lang/AbstractStringBuilder", "ensureCapacityInternal", "(I)V"⟩ : MethodName) jdk_68_method_9_code 3 none (RM 0 0 0 0) [] #[.ref a, .int (Int32.ofNat i)] h (rV fun h' => h = h') := by
  obtain ⟨X, Fv, Fc, Fn, Fm, A, hcd, hL, hl, hC, ne⟩ := S
  refine Con.of (plainFor_of_name (by decide +kernel)) B.1 B.2.1 ⟨[.val (.ref a), .val (.int (Int32.ofNat i)), .unset]⟩ (fun m => rfl) ?_
  intro p e s m below meth c _ C
  refine C.aloadN db37_0 rfl rfl ?_
  refine C.getF db37_1 tw72 Fv ?_
  refine C.arraylength db37_4 A ?_
  rw [buf_len hl]
  refine C.aloadN db37_5 rfl rfl ?_
  refine C.getF db37_6 tw74 Fc ?_
  refine C.ishr db37_9 ?_
  rw [show Int32.ofNat (kk cd * 16) >>> (cd &&& 31) = Int32.ofNat 16 from by rcases hcd with rfl | rfl <;> decide]
  refine C.istoreN db37_10 rfl rfl ?_
  refine C.iloadN db37_11 rfl ?_
  refine C.iloadN db37_12 rfl ?_
  refine C.isub db37_13 ?_
  have q0 : ¬ 0 < Int32.ofNat i - Int32.ofNat 16 := by
    rw [nlt]
    have h1 := c_isub (Int32.ofNat i) (Int32.ofNat 16)
    rw [ofNat_toInt (by omega), ofNat_toInt (by omega)] at h1
    have b := i32_bounds (Int32.ofNat i - Int32.ofNat 16)
    have e0 : (0 : Int32).toInt = 0 := rfl
    omega
  refine C.if_le db37_14 (fun _ => ?_) (fun q => absurd q q0)
  exact C.return_ db37_38 rfl ⟨rfl, rfl⟩ (le rfl) (le rfl)
theorem J_ailG (B : Base Z a0 EL) {h : Heap} {a : Addr} {cd : Int32} (F : Fld Z h a ASB "coder" "B" (.int cd)) : Con l Z EL nw (⟨"java/lang/AbstractStringBuilder", "isLatin1", "()Z"⟩ : MethodName) jdk_68_method_68_code 1 (some .boolean) (RM 0 0 0 0) [] #[.ref a] h (rR fun v h' => ((v = .int 1 ∧ cd = 0) ∨ (v = .int 0 ∧ ¬ cd = 0)) ∧ h = h') := by
  obtain ⟨z, Sz, hz⟩ := B.2.2.1
  refine Con.of (plainFor_of_name (by decide +kernel)) B.1 B.2.1 ⟨[.val (.ref a)]⟩ (fun m => rfl) ?_
  intro p e s m below meth c _ C
  refine C.getS db38_0 tw71 Sz ?_
  refine C.if_eq db38_3 (fun q => absurd q hz) (fun _ => ?_)
  refine C.aloadN db38_6 rfl rfl ?_
  refine C.getF db38_7 tw74 F ?_
  refine C.if_ne db38_10 (fun q => ?_) (fun q => ?_)
  · refine C.iconst (0) db38_17 rfl ?_
    exact C.ireturn db38_18 rfl (Or.inr (Or.inl rfl)) rfl ⟨_, rfl, Or.inr ⟨rfl, q⟩, rfl⟩ (le rfl) (le rfl)
  · refine C.iconst (1) db38_13 rfl ?_
    refine C.goto db38_14 ?_
    exact C.ireturn db38_18 rfl (Or.inr (Or.inl rfl)) rfl ⟨_, rfl, Or.inl ⟨rfl, q⟩, rfl⟩ (le rfl) (le rfl)
theorem J_inflate1 (B : Base Z a0 EL) {h : Heap} {a : Addr} (X : Exa Z h a SBN) (F : Fld Z h a ASB "coder" "B" (.int 1)) : Con l Z EL nw (⟨"java/lang/AbstractStringBuilder", "inflate", "()V"⟩ : MethodName) jdk_68_method_11_code 2 none (RM 5 78 1 32) [] #[.ref a] h (rV fun h' => h = h') := by
  refine Con.of (plainFor_of_name (by decide +kernel)) B.1 B.2.1 ⟨[.val (.ref a), .unset]⟩ (fun m => rfl) ?_
  intro p e s m below meth c _ C
  refine C.aloadN db39_0 rfl rfl ?_
  refine C.v0R db39_1 tw274 tw181 tw183 tw182 tw68 tw184 (by decide) (by decide +kernel) rfl nof (X) (fun _ q => notFace_of_selects q) (J_ailG B F) (le rfl) (le rfl) (le rfl) (le rfl) ?_
  rintro v _ ⟨hv, rfl⟩
  obtain rfl : v = .int 0 := hv.elim (fun q => absurd q.2 (by decide)) (fun q => q.1)
  refine C.if_ne db39_4 (fun q => absurd rfl q) (fun _ => ?_)
  exact C.return_ db39_7 rfl ⟨rfl, rfl⟩ (le rfl) (le rfl)
theorem J_inflate0 (B : Base Z a0 EL) {h : Heap} {a t : Addr} {cs : List Int32} (S : SBr Z h a t cs 0) (na : Z.heap.size ≤ a) : Con l Z EL nw (⟨"java/lang/AbstractStringBuilder", "inflate", "()V"⟩ : MethodName) jdk_68_method_11_code 2 none (RM 5 78 1 32) [] #[.ref a] h (rV fun h' => Keep h h' [a] ∧ ∃ t', h.size ≤ t' ∧ SBr Z h' a t' cs 1) := by
  obtain ⟨X, Fv, Fc, Fn, Fm, A, hcd, hL, hl, hC, ne⟩ := S
  have hLL : ∀ c ∈ cs, IsL c := fun c hc => ⟨(hC c hc).1, hL rfl c hc⟩
  refine Con.of (plainFor_of_name (by decide +kernel)) B.1 B.2.1 ⟨[.val (.ref a), .unset]⟩ (fun m => rfl) ?_
  intro p e s m below meth c _ C
  refine Goes.old fun O => ?_
  have nvc : RoadKit.slotOf Z ASB "value" "[B" ≠ RoadKit.slotOf Z ASB "coder" "B" := slot_ne (C := SBN) (a0 := a0) (Or.inl (C.wrd tw73)) (Or.inl (C.wrd tw75)) (by decide) (t := .array .byte) (t' := .byte) (by decide +kernel) (by decide +kernel)
  have nvn : RoadKit.slotOf Z ASB "value" "[B" ≠ RoadKit.slotOf Z ASB "count" "I" := slot_ne (C := SBN) (a0 := a0) (Or.inl (C.wrd tw73)) (Or.inl (C.wrd tw97)) (by decide) (t := .array .byte) (t' := .int) (by decide +kernel) (by decide +kernel)
  have ncn : RoadKit.slotOf Z ASB "coder" "B" ≠ RoadKit.slotOf Z ASB "count" "I" := slot_ne (C := SBN) (a0 := a0) (Or.inl (C.wrd tw75)) (Or.inl (C.wrd tw97)) (by decide) (t := .byte) (t' := .int) (by decide +kernel) (by decide +kernel)
  have nvm : RoadKit.slotOf Z ASB "value" "[B" ≠ RoadKit.slotOf Z ASB "maybeLatin1" "Z" := slot_ne (C := SBN) (a0 := a0) (Or.inl (C.wrd tw73)) (Or.inl (C.wrd tw292)) (by decide) (t := .array .byte) (t' := .boolean) (by decide +kernel) (by decide +kernel)
  have ncm : RoadKit.slotOf Z ASB "coder" "B" ≠ RoadKit.slotOf Z ASB "maybeLatin1" "Z" := slot_ne (C := SBN) (a0 := a0) (Or.inl (C.wrd tw75)) (Or.inl (C.wrd tw292)) (by decide) (t := .byte) (t' := .boolean) (by decide +kernel) (by decide +kernel)
  have nnm : RoadKit.slotOf Z ASB "count" "I" ≠ RoadKit.slotOf Z ASB "maybeLatin1" "Z" := slot_ne (C := SBN) (a0 := a0) (Or.inl (C.wrd tw97)) (Or.inl (C.wrd tw292)) (by decide) (t := .int) (t' := .boolean) (by decide +kernel) (by decide +kernel)
  refine C.aloadN db39_0 rfl rfl ?_
  refine C.v0R db39_1 tw274 tw181 tw183 tw182 tw68 tw184 (by decide) (by decide +kernel) rfl nof (X) (fun _ q => notFace_of_selects q) (J_ailG (nw := true) B Fc) (le rfl) (le rfl) (le rfl) (le rfl) ?_
  rintro v _ ⟨hv, rfl⟩
  obtain rfl : v = .int 1 := hv.elim (fun q => q.1) (fun q => absurd rfl q.2)
  refine C.if_ne db39_4 (fun _ => ?_) (fun q => absurd q (by decide))
  refine C.aloadN db39_8 rfl rfl ?_
  refine C.getF db39_9 tw72 Fv ?_
  refine C.arraylength db39_12 A ?_
  rw [show (buf 0 cs).length = 16 from buf_len hl]
  refine C.s1R db39_13 tw275 tw231 tw218 tw232 (by decide) (by decide +kernel) rfl nof (J_nbf (nw := true) B (n := 16) (by decide)) (le rfl) (le rfl) (le rfl) (le rfl) ?_
  rintro _ h1 ⟨rfl, E1, A1⟩
  have ta : @Ne Nat a h.size := adr_ne X.lt (Nat.le_refl _)
  have tu : t ∉ [h.size] := fun z => adr_ne A.lt (Nat.le_refl _) (List.mem_singleton.mp z)
  refine C.astoreN db39_16 rfl rfl rfl ?_
  refine C.aloadN db39_17 rfl rfl ?_
  refine C.getF db39_18 tw72 (Fv.ext E1) ?_
  refine C.iconst (0) db39_21 rfl ?_
  refine C.aloadN db39_22 rfl rfl ?_
  refine C.iconst (0) db39_23 rfl ?_
  refine C.aloadN db39_24 rfl rfl ?_
  refine C.getF db39_25 tw96 (Fn.ext E1) ?_
  refine C.s5V db39_28 tw276 tw277 tw23 tw278 (by decide) (by decide +kernel) rfl (fun x q => by simp at q; subst q; exact Or.inr ⟨Nat.le_refl _, A1.lt⟩) (J_linf (nw := true) B (i := 0) (ds := cs) (V := List.replicate 32 (.int 0)) (A.ext E1) A1 hLL tu O.1 (by simp) (by omega)) (le rfl) (le rfl) (le rfl) (le rfl) ?_
  rintro h2 ⟨K2, sz2, A2⟩
  have eb : mid (List.replicate 32 (.int 0)) cs 0 cs.length = buf 1 cs := by
    unfold mid; rw [List.take_length, Nat.mul_zero, List.take_zero, List.nil_append, Nat.zero_add, List.drop_replicate]; rfl
  rw [eb] at A2
  have ka : a ∉ [h.size] := fun z => ta (List.mem_singleton.mp z)
  replace X := (X.ext E1).keep K2
  replace Fv := (Fv.ext E1).keep K2 ka
  replace Fc := (Fc.ext E1).keep K2 ka
  replace Fn := (Fn.ext E1).keep K2 ka
  replace Fm := (Fm.ext E1).keep K2 ka
  refine C.aloadN db39_31 rfl rfl ?_
  refine C.aloadN db39_32 rfl rfl ?_
  refine C.putF (ty := (.array .byte)) db39_33 tw72 Fv X (Or.inl tw73) tw59 (by decide +kernel) rfl rfl na (Or.inr (Or.inr ⟨by decide, by decide⟩)) ?_
  intro h3 W3
  refine C.aloadN db39_36 rfl rfl ?_
  refine C.iconst (1) db39_37 rfl ?_
  refine C.putF (ty := .byte) db39_38 tw74 (Fc.other W3 (Or.inr nvc.symm)) (X.wr W3) (Or.inl tw75) tw59 (by decide +kernel) rfl rfl na (Or.inr (Or.inr ⟨by decide, by decide⟩)) ?_
  intro h4 W4
  have K : Keep h h2 [a] := (keep_ext E1 [a]).trans K2 (fun x hx => Or.inr (by rw [List.mem_singleton.mp hx]; exact Nat.le_refl _))
  exact C.return_ db39_41 rfl ⟨rfl, (K.wr W3 (Or.inl (List.mem_singleton.mpr rfl))).wr W4 (Or.inl (List.mem_singleton.mpr rfl)), h.size, Nat.le_refl _, (X.wr W3).wr W4, (Fv.same W3).other W4 (Or.inr nvc), (Fc.other W3 (Or.inr nvc.symm)).same W4, (Fn.other W3 (Or.inr nvn.symm)).other W4 (Or.inr ncn.symm), (Fm.other W3 (Or.inr nvm.symm)).other W4 (Or.inr ncm.symm), (A2.other W3 ta.symm).other W4 ta.symm, Or.inr rfl, fun q => absurd q (by decide), hl, hC, ta⟩ (le rfl) (le rfl)
theorem J_infG (B : Base Z a0 EL) {h : Heap} {a t b : Addr} {cs : List Int32} {cd ce : Int32} (S : SBr Z h a t cs cd) (na : Z.heap.size ≤ a) (Xb : Exa Z h b ST) (Fs : Fld Z h b ST "coder" "B" (.int ce)) (hce : ce = 0 ∨ ce = 1) :
    Con l Z EL nw (⟨"java/lang/AbstractStringBuilder", "inflateIfNeededFor", "(Ljava/lang/String;)V"⟩ : MethodName) jdk_68_method_71_code 2 none (RM 6 91 1 32) [] #[.ref a, .ref b] h (rV fun h' => Keep h h' [a] ∧ ∃ t' cx, (t' = t ∨ h.size ≤ t') ∧ SBr Z h' a t' cs cx ∧ ((cx = 0 ∧ cd = 0 ∧ ce = 0) ∨ (cx = 1 ∧ (cd = 1 ∨ ce = 1)))) := by
  obtain ⟨z, Sz, hz⟩ := B.2.2.1
  obtain ⟨X, Fv, Fc, Fn, Fm, A, hcd, hL, hl, hC, ne⟩ := id S
  refine Con.of (plainFor_of_name (by decide +kernel)) B.1 B.2.1 ⟨[.val (.ref a), .val (.ref b)]⟩ (fun m => rfl) ?_
  intro p e s m below meth c _ C
  refine C.getS db40_0 tw71 Sz ?_
  refine C.if_eq db40_3 (fun q => absurd q hz) (fun _ => ?_)
  refine C.aloadN db40_6 rfl rfl ?_
  refine C.getF db40_7 tw74 Fc ?_
  refine C.aloadN db40_10 rfl rfl ?_
  refine C.v0R db40_11 tw113 tw92 tw94 tw93 tw6 tw95 (by decide) (by decide +kernel) rfl nof (Xb) (fun _ q => notFace_of_selects q) (J_coder B Fs hce) (le rfl) (le rfl) (le rfl) (le rfl) ?_
  rintro _ _ ⟨rfl, rfl⟩
  refine C.icmp_eq db40_14 (fun q => ?_) (fun q => ?_)
  · exact C.return_ db40_21 rfl ⟨rfl, Keep.refl _ _, t, cd, Or.inl rfl, S, hcd.elim (fun r => Or.inl ⟨r, r, q.symm.trans r⟩) (fun r => Or.inr ⟨r, Or.inl r⟩)⟩ (le rfl) (le rfl)
  · refine C.aloadN db40_17 rfl rfl ?_
    rcases hcd with rfl | rfl
    · refine C.p0V db40_18 tw269 tw272 tw270 tw68 tw273 (by decide) (by decide +kernel) rfl nof (X) (fun _ q => notFace_of_selects q) (J_inflate0 B S na) (le rfl) (le rfl) (le rfl) (le rfl) ?_
      rintro h1 ⟨K1, t', nt, S1⟩
      exact C.return_ db40_21 rfl ⟨rfl, K1, t', 1, Or.inr nt, S1, Or.inr ⟨rfl, Or.inr (hce.elim (fun r => absurd r.symm q) id)⟩⟩ (le rfl) (le rfl)
    · refine C.p0V db40_18 tw269 tw272 tw270 tw68 tw273 (by decide) (by decide +kernel) rfl nof (X) (fun _ q => notFace_of_selects q) (J_inflate1 B X Fc) (le rfl) (le rfl) (le rfl) (le rfl) ?_
      rintro _ rfl
      exact C.return_ db40_21 rfl ⟨rfl, Keep.refl _ _, t, 1, Or.inl rfl, S, Or.inr ⟨rfl, Or.inl rfl⟩⟩ (le rfl) (le rfl)
theorem J_gbG (B : Base Z a0 EL) {h : Heap} {b u t : Addr} {cs ds : List Int32} {cx ce : Int32} (Xb : Exa Z h b ST) (Fv : Fld Z h b ST "value" "[B" (.ref u)) (Fs : Fld Z h b ST "coder" "B" (.int ce)) (A : Arl Z h u .byte (enc ce ds)) (hut : u ∉ [t]) (Bb : Arl Z h t .byte (buf cx cs)) (hce : ce = 0 ∨ ce = 1) (hcx : cx = ce ∨ (cx = 1 ∧ ce = 0 ∧ ∀ c ∈ ds, IsL c)) (h5 : cs.length + ds.length ≤ 16) (nt : Z.heap.size ≤ t) :
    Con l Z EL nw (⟨"java/lang/String", "getBytes", "([BIB)V"⟩ : MethodName) jdk_42_method_147_code 4 none (RM 5 78 0 0) [t] #[.ref b, .ref t, .int (Int32.ofNat cs.length), .int cx] h (rV fun h' => Keep h h' [t] ∧ Arl Z h' t .byte (buf cx (cs ++ ds))) := by
  refine Con.of (plainFor_of_name (by decide +kernel)) B.1 B.2.1 ⟨[.val (.ref b), .val (.ref t), .val (.int (Int32.ofNat cs.length)), .val (.int cx)]⟩ (fun m => rfl) ?_
  intro p e s m below meth c _ C
  refine C.aloadN db41_0 rfl rfl ?_
  refine C.v0R db41_1 tw91 tw92 tw94 tw93 tw6 tw95 (by decide) (by decide +kernel) rfl nof (Xb) (fun _ q => notFace_of_selects q) (J_coder (nw := true) B Fs hce) (le rfl) (le rfl) (le rfl) (le rfl) ?_
  rintro _ _ ⟨rfl, rfl⟩
  refine C.iloadN db41_4 rfl ?_
  rcases hcx with rfl | ⟨rfl, rfl, hd⟩
  · refine C.icmp_ne db41_5 (fun q => absurd rfl q) (fun _ => ?_)
    refine C.aloadN db41_8 rfl rfl ?_
    refine C.getF db41_9 tw36 Fv ?_
    refine C.iconst (0) db41_12 rfl ?_
    refine C.aloadN db41_13 rfl rfl ?_
    refine C.iloadN db41_14 rfl ?_
    refine C.iloadN db41_15 rfl ?_
    refine C.ishl db41_16 ?_
    rw [show Int32.ofNat cs.length <<< (cx &&& 31) = Int32.ofNat (kk cx * cs.length) from by
      rcases hce with rfl | rfl
      · rw [shl0]; unfold kk; simp
      · rw [shl1' (by omega)]; unfold kk; simp]
    refine C.aloadN db41_17 rfl rfl ?_
    refine C.getF db41_18 tw36 Fv ?_
    refine C.arraylength db41_21 A ?_
    rw [enc_len]
    refine C.arraycopy (sp := 0) (dp := kk cx * cs.length) (nn := kk cx * ds.length) db41_22 tw119 tw122 tw120 tw121 A Bb rfl (by rw [enc_len]; omega) (by rw [buf_len (by omega), ← Nat.mul_add]; exact Nat.mul_le_mul_left _ h5) nt (Or.inl (List.mem_singleton.mpr rfl)) rfl (le rfl) (le rfl) ?_
    intro h1 K1 A1
    rw [show ((enc cx ds).drop 0).take (kk cx * ds.length) = enc cx ds from by rw [List.drop_zero, List.take_of_length_le (by rw [enc_len]; exact Nat.le_refl _)], buf_put h5] at A1
    refine C.goto db41_25 ?_
    exact C.return_ db41_43 rfl ⟨rfl, K1, A1⟩ (le rfl) (le rfl)
  · refine C.icmp_ne db41_5 (fun _ => ?_) (fun q => absurd q (by decide))
    refine C.aloadN db41_28 rfl rfl ?_
    refine C.getF db41_29 tw36 Fv ?_
    refine C.iconst (0) db41_32 rfl ?_
    refine C.aloadN db41_33 rfl rfl ?_
    refine C.iloadN db41_34 rfl ?_
    refine C.aloadN db41_35 rfl rfl ?_
    refine C.getF db41_36 tw36 Fv ?_
    refine C.arraylength db41_39 A ?_
    rw [show (enc 0 ds).length = ds.length from by rw [enc_len]; unfold kk; simp]
    have A' : Arl Z h u .byte (lat ds ++ []) := by rw [List.append_nil]; exact A
    refine C.s5V db41_40 tw293 tw277 tw23 tw278 (by decide) (by decide +kernel) rfl (by simp) (J_linf (nw := true) B (i := cs.length) A' Bb hd hut nt (buf_len (by omega)) h5) (le rfl) (le rfl) (le rfl) (le rfl) ?_
    rintro h1 ⟨K1, sz1, A1⟩
    have e : mid (buf 1 cs) ds cs.length ds.length = buf 1 (cs ++ ds) := by
      rw [← buf_put (cd := 1) h5]; unfold mid kk enc; simp
    rw [e] at A1
    exact C.return_ db41_43 rfl ⟨rfl, K1, A1⟩ (le rfl) (le rfl)
theorem J_psaG (B : Base Z a0 EL) {h : Heap} {a t b u : Addr} {cs ds : List Int32} {cd ce : Int32} (S : SBr Z h a t cs cd) (Xb : Exa Z h b ST) (Gv : Fld Z h b ST "value" "[B" (.ref u)) (Gc : Fld Z h b ST "coder" "B" (.int ce)) (Ab : Arl Z h u .byte (enc ce ds)) (hce : ce = 0 ∨ ce = 1) (hcl : ce = 0 → ∀ c ∈ ds, IsL c) (hut : u ∉ [t]) (h5 : cs.length + ds.length ≤ 16) (na : Z.heap.size ≤ a) (nt : Z.heap.size ≤ t) :
    Con l Z EL nw (⟨"java/lang/AbstractStringBuilder", "putStringAt", "(ILjava/lang/String;)V"⟩ : MethodName) jdk_68_method_73_code 3 none (RM 7 104 1 32) [t] #[.ref a, .int (Int32.ofNat cs.length), .ref b] h (rV fun h' => Keep h h' [a, t] ∧ ∃ t' cx, (t' = t ∨ h.size ≤ t') ∧ (∃ h1, Keep h1 h' [t'] ∧ SBr Z h1 a t' cs cx) ∧ Arl Z h' t' .byte (buf cx (cs ++ ds)) ∧ ((cx = 0 ∧ cd = 0 ∧ ce = 0) ∨ (cx = 1 ∧ (cd = 1 ∨ ce = 1)))) := by
  obtain ⟨X, Fv, Fc, Fn, Fm, A, hcd, hL, hl, hC, ne⟩ := id S
  refine Con.of (plainFor_of_name (by decide +kernel)) B.1 B.2.1 ⟨[.val (.ref a), .val (.int (Int32.ofNat cs.length)), .val (.ref b)]⟩ (fun m => rfl) ?_
  intro p e s m below meth c _ C
  refine Goes.old fun O => ?_
  have ab : b ∉ [a] := fun z => (Xb.ne X (by decide)) (List.mem_singleton.mp z)
  have ua : u ∉ [a] := fun z => (Ab.neExa X tw59 B.1) (List.mem_singleton.mp z)
  have ul := Ab.lt
  refine C.aloadN db42_0 rfl rfl ?_
  refine C.aloadN db42_1 rfl rfl ?_
  refine C.p1V db42_2 tw108 tw111 tw109 tw68 tw112 (by decide) (by decide +kernel) rfl nof (X) (fun _ q => notFace_of_selects q) (J_infG (nw := true) B S na Xb Gc hce) (le rfl) (le rfl) (le rfl) (le rfl) ?_
  rintro h1 ⟨K1, t', cx, ht', S1, hx⟩
  obtain ⟨X1, Fv1, Fc1, Fn1, Fm1, A1, hcx1, hL1, -, -, ne1⟩ := id S1
  have nt' : Z.heap.size ≤ t' := by rcases ht' with r | r; rw [r]; exact nt; exact Nat.le_trans O.1 r
  have hut' : u ∉ [t'] := by
    rcases ht' with r | r
    · rw [r]; exact hut
    · exact fun z => adr_ne ul r (List.mem_singleton.mp z)
  refine C.aloadN db42_5 rfl rfl ?_
  refine C.aloadN db42_6 rfl rfl ?_
  refine C.getF db42_7 tw72 Fv1 ?_
  refine C.iloadN db42_10 rfl ?_
  refine C.aloadN db42_11 rfl rfl ?_
  refine C.getF db42_12 tw74 Fc1 ?_
  refine C.v3V db42_15 tw114 tw115 tw117 tw116 tw6 tw118 (by decide) (by decide +kernel) rfl (fun x q => by simp at q; subst q; rcases ht' with r | r; exact Or.inl (by simp [r]); exact Or.inr ⟨r, A1.lt⟩) ((Xb.keep K1)) (fun _ q => notFace_of_selects q) (J_gbG (nw := true) B (Xb.keep K1) (Gv.keep K1 ab) (Gc.keep K1 ab) (Ab.keep K1 ua) hut' A1 hce (by rcases hx with ⟨r1, r2, r3⟩ | ⟨r1, r2⟩; exact Or.inl (r1.trans r3.symm); rcases hce with r | r; exact Or.inr ⟨r1, r, hcl r⟩; exact Or.inl (r1.trans r.symm)) h5 nt') (le rfl) (le rfl) (le rfl) (le rfl) ?_
  rintro h2 ⟨K2, A2⟩
  exact C.return_ db42_18 rfl ⟨rfl, (keep_sub K1 (by simp)).trans K2 (fun x hx => by rw [List.mem_singleton.mp hx]; rcases ht' with r | r; exact Or.inl (by simp [r]); exact Or.inr r), t', cx, ht', ⟨h1, K2, S1⟩, A2, hx⟩ (le rfl) (le rfl)
theorem J_aapG (B : Base Z a0 EL) {h : Heap} {a t b u : Addr} {cs ds : List Int32} {cd ce : Int32} (S : SBr Z h a t cs cd) (hB : Big cs cd) (T : StrAt Z h b ds) (Gv : Fld Z h b ST "value" "[B" (.ref u)) (Gc : Fld Z h b ST "coder" "B" (.int ce)) (Ab : Arl Z h u .byte (enc ce ds)) (hce : ce = 0 ∨ ce = 1) (hcl : ce = 0 → ∀ c ∈ ds, IsL c) (hbd : Big ds ce) (hdC : ∀ c ∈ ds, IsC c) (hut : u ∉ [t]) (h5 : cs.length + ds.length ≤ 16) (na : Z.heap.size ≤ a) (nt : Z.heap.size ≤ t) :
    Con l Z EL nw (⟨"java/lang/AbstractStringBuilder", "append", "(Ljava/lang/String;)Ljava/lang/AbstractStringBuilder;"⟩ : MethodName) jdk_68_method_22_code 3 (some (.object ASB)) (RM 8 118 1 32) [t] #[.ref a, .ref b] h (rR fun v h' => v = .ref a ∧ Keep h h' [a, t] ∧ ∃ t' cx, (t' = t ∨ h.size ≤ t') ∧ SBr Z h' a t' (cs ++ ds) cx ∧ Big (cs ++ ds) cx) := by
  obtain ⟨X, Fv, Fc, Fn, Fm, A, hcd, hL, hl, hC, ne⟩ := id S
  refine Con.of (plainFor_of_name (by decide +kernel)) B.1 B.2.1 ⟨[.val (.ref a), .val (.ref b), .unset]⟩ (fun m => rfl) ?_
  intro p e s m below meth c _ C
  have nvc : RoadKit.slotOf Z ASB "value" "[B" ≠ RoadKit.slotOf Z ASB "coder" "B" := slot_ne (C := SBN) (a0 := a0) (Or.inl (C.wrd tw73)) (Or.inl (C.wrd tw75)) (by decide) (t := .array .byte) (t' := .byte) (by decide +kernel) (by decide +kernel)
  have nvn : RoadKit.slotOf Z ASB "value" "[B" ≠ RoadKit.slotOf Z ASB "count" "I" := slot_ne (C := SBN) (a0 := a0) (Or.inl (C.wrd tw73)) (Or.inl (C.wrd tw97)) (by decide) (t := .array .byte) (t' := .int) (by decide +kernel) (by decide +kernel)
  have ncn : RoadKit.slotOf Z ASB "coder" "B" ≠ RoadKit.slotOf Z ASB "count" "I" := slot_ne (C := SBN) (a0 := a0) (Or.inl (C.wrd tw75)) (Or.inl (C.wrd tw97)) (by decide) (t := .byte) (t' := .int) (by decide +kernel) (by decide +kernel)
  have nvm : RoadKit.slotOf Z ASB "value" "[B" ≠ RoadKit.slotOf Z ASB "maybeLatin1" "Z" := slot_ne (C := SBN) (a0 := a0) (Or.inl (C.wrd tw73)) (Or.inl (C.wrd tw292)) (by decide) (t := .array .byte) (t' := .boolean) (by decide +kernel) (by decide +kernel)
  have ncm : RoadKit.slotOf Z ASB "coder" "B" ≠ RoadKit.slotOf Z ASB "maybeLatin1" "Z" := slot_ne (C := SBN) (a0 := a0) (Or.inl (C.wrd tw75)) (Or.inl (C.wrd tw292)) (by decide) (t := .byte) (t' := .boolean) (by decide +kernel) (by decide +kernel)
  have nnm : RoadKit.slotOf Z ASB "count" "I" ≠ RoadKit.slotOf Z ASB "maybeLatin1" "Z" := slot_ne (C := SBN) (a0 := a0) (Or.inl (C.wrd tw97)) (Or.inl (C.wrd tw292)) (by decide) (t := .int) (t' := .boolean) (by decide +kernel) (by decide +kernel)
  refine C.aloadN db43_0 rfl rfl ?_
  refine C.ifnonnullY db43_1 ?_
  refine C.aloadN db43_9 rfl rfl ?_
  refine C.v0R db43_10 tw86 tw87 tw89 tw88 tw6 tw90 (by decide) (by decide +kernel) rfl nof (T.exa) (fun _ q => notFace_of_selects q) (J_len (nw := true) B T) (le rfl) (le rfl) (le rfl) (le rfl) ?_
  rintro _ _ ⟨rfl, rfl⟩
  refine C.istoreN db43_13 rfl rfl ?_
  refine C.aloadN db43_14 rfl rfl ?_
  refine C.aloadN db43_15 rfl rfl ?_
  refine C.getF db43_16 tw96 Fn ?_
  refine C.iloadN db43_19 rfl ?_
  refine C.iadd db43_20 ?_
  rw [← Int32.ofNat_add]
  refine C.p1V db43_21 tw98 tw101 tw99 tw68 tw102 (by decide) (by decide +kernel) rfl nof (X) (fun _ q => notFace_of_selects q) (J_ensG (nw := true) B S h5) (le rfl) (le rfl) (le rfl) (le rfl) ?_
  rintro _ rfl
  refine C.aloadN db43_24 rfl rfl ?_
  refine C.aloadN db43_25 rfl rfl ?_
  refine C.getF db43_26 tw96 Fn ?_
  refine C.aloadN db43_29 rfl rfl ?_
  refine C.p2V db43_30 tw103 tw106 tw104 tw68 tw107 (by decide) (by decide +kernel) rfl (by simp) (X) (fun _ q => notFace_of_selects q) (J_psaG (nw := true) B S T.exa Gv Gc Ab hce hcl hut h5 na nt) (le rfl) (le rfl) (le rfl) (le rfl) ?_
  rintro h1 ⟨K1, t', cx, ht', ⟨h0, K0, S0⟩, A1, hx⟩
  obtain ⟨X0, Fv0, Fc0, Fn0, Fm0, A0, hcx0, hL0, -, -, ne0⟩ := S0
  have at' : a ∉ [t'] := fun z => ne0 (List.mem_singleton.mp z)
  replace X0 := X0.keep K0
  replace Fv0 := Fv0.keep K0 at'
  replace Fc0 := Fc0.keep K0 at'
  replace Fn0 := Fn0.keep K0 at'
  replace Fm0 := Fm0.keep K0 at'
  refine C.aloadN db43_33 rfl rfl ?_
  refine C.dup db43_34 rfl ?_
  refine C.getF db43_35 tw96 Fn0 ?_
  refine C.iloadN db43_38 rfl ?_
  refine C.iadd db43_39 ?_
  rw [← Int32.ofNat_add]
  refine C.putF (ty := .int) db43_40 tw96 Fn0 X0 (Or.inl tw97) tw59 (by decide +kernel) rfl rfl na (Or.inr (Or.inr ⟨by decide, by decide⟩)) ?_
  intro h2 W2
  refine C.aloadN db43_43 rfl rfl ?_
  have G4 := Fn0.same W2
  rw [← List.length_append] at G4
  have hbig : Big (cs ++ ds) cx := fun q => by
    rcases hx with ⟨r, -⟩ | ⟨-, r | r⟩
    · rw [r] at q; exact absurd q (by decide)
    · obtain ⟨c, h1, h2⟩ := hB r; exact ⟨c, List.mem_append_left _ h1, h2⟩
    · obtain ⟨c, h1, h2⟩ := hbd r; exact ⟨c, List.mem_append_right _ h1, h2⟩
  have hlow : cx = 0 → ∀ c ∈ cs ++ ds, ¬ (255 : Int32) < c := fun q c hc => by
    rcases hx with ⟨-, r1, r2⟩ | ⟨r, -⟩
    · exact (List.mem_append.mp hc).elim (hL r1 c) (fun z => (hcl r2 c z).2)
    · rw [r] at q; exact absurd q (by decide)
  exact C.areturn db43_44 rfl rfl rfl rfl ⟨_, rfl, rfl, K1.wr W2 (Or.inl (by simp)), t', cx, ht', ⟨X0.wr W2, Fv0.other W2 (Or.inr nvn), Fc0.other W2 (Or.inr ncn), G4, Fm0.other W2 (Or.inr nnm.symm), A1.other W2 ne0.symm, hcx0, hlow, by rw [List.length_append]; exact h5, fun c hc => (List.mem_append.mp hc).elim (hC c) (hdC c), ne0⟩, hbig⟩ (le rfl) (le rfl)
theorem J_appG (B : Base Z a0 EL) {h : Heap} {a t b u : Addr} {cs ds : List Int32} {cd ce : Int32} (S : SBr Z h a t cs cd) (hB : Big cs cd) (T : StrAt Z h b ds) (Gv : Fld Z h b ST "value" "[B" (.ref u)) (Gc : Fld Z h b ST "coder" "B" (.int ce)) (Ab : Arl Z h u .byte (enc ce ds)) (hce : ce = 0 ∨ ce = 1) (hcl : ce = 0 → ∀ c ∈ ds, IsL c) (hbd : Big ds ce) (hdC : ∀ c ∈ ds, IsC c) (hut : u ∉ [t]) (h5 : cs.length + ds.length ≤ 16) (na : Z.heap.size ≤ a) (nt : Z.heap.size ≤ t) :
    Con l Z EL nw (⟨"java/lang/StringBuilder", "append", "(Ljava/lang/String;)Ljava/lang/StringBuilder;"⟩ : MethodName) jdk_67_method_7_code 2 (some (.object SBN)) (RM 9 132 1 32) [t] #[.ref a, .ref b] h (rR fun v h' => v = .ref a ∧ Keep h h' [a, t] ∧ ∃ t' cx, (t' = t ∨ h.size ≤ t') ∧ SBr Z h' a t' (cs ++ ds) cx ∧ Big (cs ++ ds) cx) := by
  refine Con.of (plainFor_of_name (by decide +kernel)) B.1 B.2.1 ⟨[.val (.ref a), .val (.ref b)]⟩ (fun m => rfl) ?_
  intro p e s m below meth c _ C
  refine C.aloadN db44_0 rfl rfl ?_
  refine C.aloadN db44_1 rfl rfl ?_
  refine C.u1R db44_2 (by decide) tw81 tw82 tw83 (nf_same (C.wrd tw101) rfl) tw68 tw85 (by decide) (by decide +kernel) rfl (by simp) (S.exa) (J_aapG B S hB T Gv Gc Ab hce hcl hbd hdC hut h5 na nt) (le rfl) (le rfl) (le rfl) (le rfl) ?_
  rintro _ h1 ⟨rfl, K1, r⟩
  refine C.pop db44_5 rfl ?_
  refine C.aloadN db44_6 rfl rfl ?_
  exact C.areturn db44_7 rfl rfl rfl rfl ⟨_, rfl, rfl, K1, r⟩ (le rfl) (le rfl)
theorem J_gvG (B : Base Z a0 EL) {h : Heap} {a t : Addr} (F : Fld Z h a ASB "value" "[B" (.ref t)) : Con l Z EL nw (⟨"java/lang/AbstractStringBuilder", "getValue", "()[B"⟩ : MethodName) jdk_68_method_64_code 1 (some (.array .byte)) (RM 0 0 0 0) [] #[.ref a] h (rR fun v h' => v = .ref t ∧ h = h') := by
  refine Con.of (plainFor_of_name (by decide +kernel)) B.1 B.2.1 ⟨[.val (.ref a)]⟩ (fun m => rfl) ?_
  intro p e s m below meth c _ C
  refine C.aloadN db45_0 rfl rfl ?_
  refine C.getF db45_1 tw72 F ?_
  exact C.areturn db45_4 rfl rfl rfl rfl ⟨_, rfl, rfl, rfl⟩ (le rfl) (le rfl)
theorem J_alG (B : Base Z a0 EL) {h : Heap} {a : Addr} {n : Int32} (F : Fld Z h a ASB "count" "I" (.int n)) : Con l Z EL nw (⟨"java/lang/AbstractStringBuilder", "length", "()I"⟩ : MethodName) jdk_68_method_6_code 1 (some .int) (RM 0 0 0 0) [] #[.ref a] h (rR fun v h' => v = .int n ∧ h = h') := by
  refine Con.of (plainFor_of_name (by decide +kernel)) B.1 B.2.1 ⟨[.val (.ref a)]⟩ (fun m => rfl) ?_
  intro p e s m below meth c _ C
  refine C.aloadN db46_0 rfl rfl ?_
  refine C.getF db46_1 tw96 F ?_
  exact C.ireturn db46_4 rfl (Or.inl rfl) rfl ⟨_, rfl, rfl, rfl⟩ (le rfl) (le rfl)
theorem J_slG (B : Base Z a0 EL) {h : Heap} {a : Addr} {n : Int32} (X : Exa Z h a SBN) (F : Fld Z h a ASB "count" "I" (.int n)) : Con l Z EL nw (⟨"java/lang/StringBuilder", "length", "()I"⟩ : MethodName) jdk_67_method_93_code 1 (some .int) (RM 1 12 0 0) [] #[.ref a] h (rR fun v h' => v = .int n ∧ h = h') := by
  refine Con.of (plainFor_of_name (by decide +kernel)) B.1 B.2.1 ⟨[.val (.ref a)]⟩ (fun m => rfl) ?_
  intro p e s m below meth c _ C
  refine C.aloadN db47_0 rfl rfl ?_
  refine C.u0R db47_1 (by decide) tw178 tw174 tw83 (nf_same (C.wrd tw101) rfl) tw68 tw179 (by decide) (by decide +kernel) rfl nof (X) (J_alG B F) (le rfl) (le rfl) (le rfl) (le rfl) ?_
  rintro _ _ ⟨rfl, rfl⟩
  exact C.ireturn db47_4 rfl (Or.inl rfl) rfl ⟨_, rfl, rfl, rfl⟩ (le rfl) (le rfl)
theorem J_sasbG (B : Base Z a0 EL) {h : Heap} {a b t : Addr} {cs : List Int32} {cd : Int32} (S : SBr Z h b t cs cd) (hB : Big cs cd) (hl2 : cs.length < 16) (na : Z.heap.size ≤ a) (E : Exa Z h a ST) (Fv : Fld Z h a ST "value" "[B" .null) (Fc : Fld Z h a ST "coder" "B" (.int 0)) :
    Con l Z EL nw (⟨"java/lang/String", "<init>", "(Ljava/lang/AbstractStringBuilder;Ljava/lang/Void;)V"⟩ : MethodName) jdk_42_method_150_code 5 none (RM 3 49 1 32) [a] #[.ref a, .ref b, .null] h (rV fun h' => Keep h h' [a] ∧ StrAt Z h' a cs) := by
  obtain ⟨X, Gv, Gc, Gn, Gm, A, hcd, hL, hl, hC, ne⟩ := id S
  have ta : @Ne Nat t a := A.neExa E tw7 B.1
  obtain ⟨z, Sz, hz⟩ := B.2.2.1
  refine Con.of (plainFor_of_name (by decide +kernel)) B.1 B.2.1 ⟨[.val (.ref a), .val (.ref b), .val .null, .unset, .unset]⟩ (fun m => rfl) ?_
  intro p e s m below meth c _ C
  have nvc : RoadKit.slotOf Z ST "value" "[B" ≠ RoadKit.slotOf Z ST "coder" "B" := slot_ne (C := ST) (a0 := a0) (Or.inr (C.wrd tw9)) (Or.inr (C.wrd tw10)) (by decide) (t := .array .byte) (t' := .byte) (by decide +kernel) (by decide +kernel)
  refine C.aloadN db48_0 rfl rfl ?_
  refine C.initO db48_1 tw33 tw34 tw35 rfl (le rfl) (le rfl) ?_
  refine C.aloadN db48_4 rfl rfl ?_
  refine C.v0R db48_5 tw167 tw168 tw170 tw169 tw68 tw171 (by decide) (by decide +kernel) rfl nof (X) (fun _ q => notFace_of_selects q) (J_gvG (nw := true) B Gv) (le rfl) (le rfl) (le rfl) (le rfl) ?_
  rintro _ _ ⟨rfl, rfl⟩
  refine C.astoreN db48_8 rfl rfl rfl ?_
  refine C.aloadN db48_9 rfl rfl ?_
  refine C.q0R db48_10 tw172 tw173 tw175 tw101 rfl tw176 tw60 tw177 (by decide) (by decide +kernel) rfl nof (X) (J_slG (nw := true) B X Gn) (le rfl) (le rfl) (le rfl) (le rfl) ?_
  rintro _ _ ⟨rfl, rfl⟩
  refine C.istore db48_13 rfl rfl ?_
  refine C.aloadN db48_15 rfl rfl ?_
  refine C.v0R db48_16 tw180 tw181 tw183 tw182 tw68 tw184 (by decide) (by decide +kernel) rfl nof (X) (fun _ q => notFace_of_selects q) (J_ailG (nw := true) B Gc) (le rfl) (le rfl) (le rfl) (le rfl) ?_
  rintro v _ ⟨hv, rfl⟩
  rcases hcd with rfl | rfl
  · obtain rfl : v = .int 1 := hv.elim (fun q => q.1) (fun q => absurd rfl q.2)
    refine C.if_eq db48_19 (fun q => absurd q (by decide)) (fun _ => ?_)
    refine C.aloadN db48_22 rfl rfl ?_
    refine C.iconst (0) db48_23 rfl ?_
    refine C.putF (ty := .byte) db48_24 tw37 Fc E (Or.inr ⟨tw10, rfl, rfl⟩) tw7 (by decide +kernel) rfl rfl na (Or.inl (List.mem_singleton.mpr rfl)) ?_
    intro h1 W1
    refine C.aloadN db48_27 rfl rfl ?_
    refine C.aloadN db48_28 rfl rfl ?_
    refine C.iconst (0) db48_29 rfl ?_
    refine C.iload db48_30 rfl ?_
    refine C.s3R db48_32 tw185 tw186 tw187 tw188 (by decide) (by decide +kernel) rfl nof (J_corg (nw := true) B (A.other W1 ta) (by rw [buf_len hl]; exact hl2) (by rw [buf_len hl]; decide)) (le rfl) (le rfl) (le rfl) (le rfl) ?_
    rintro _ h2 ⟨r, rfl, nr, E2, A2⟩
    have lt1 := (E.wr W1).lt
    have ra : @Ne Nat r a := (adr_ne lt1 nr).symm
    have e2 : (buf 0 cs).take cs.length = lat cs := by have q := buf_take 0 cs; rw [show kk 0 = 1 from rfl, Nat.one_mul] at q; exact q
    rw [e2] at A2
    refine C.putF (ty := (.array .byte)) db48_35 tw36 ((Fv.other W1 (Or.inr nvc)).ext E2) ((E.wr W1).ext E2) (Or.inr ⟨tw9, rfl, rfl⟩) tw7 (by decide +kernel) rfl rfl na (Or.inl (List.mem_singleton.mpr rfl)) ?_
    intro h3 W3
    refine C.goto db48_38 ?_
    exact C.return_ db48_97 rfl ⟨rfl, (((Keep.of_wr W1).ext E2).wr W3 (Or.inl (List.mem_singleton.mpr rfl))), r, 0, lat cs, ((E.wr W1).ext E2).wr W3, ((Fv.other W1 (Or.inr nvc)).ext E2).same W3, ((Fc.same W1).ext E2).other W3 (Or.inr nvc.symm), A2.other W3 ra, Or.inl ⟨rfl, rfl, hL rfl⟩, hC, by omega⟩ (le rfl) (le rfl)
  · obtain rfl : v = .int 0 := hv.elim (fun q => absurd q.2 (by decide)) (fun q => q.1)
    refine C.if_eq db48_19 (fun _ => ?_) (fun q => absurd rfl q)
    refine C.getS db48_41 tw20 Sz ?_
    refine C.if_eq db48_44 (fun q => absurd q hz) (fun _ => ?_)
    refine C.aloadN db48_47 rfl rfl ?_
    refine C.getF db48_48 tw291 Gm ?_
    refine C.if_eq db48_51 (fun _ => ?_) (fun q => absurd rfl q)
    refine C.aloadN db48_79 rfl rfl ?_
    refine C.iconst (1) db48_80 rfl ?_
    refine C.putF (ty := .byte) db48_81 tw37 Fc E (Or.inr ⟨tw10, rfl, rfl⟩) tw7 (by decide +kernel) rfl rfl na (Or.inl (List.mem_singleton.mpr rfl)) ?_
    intro h1 W1
    refine C.aloadN db48_84 rfl rfl ?_
    refine C.aloadN db48_85 rfl rfl ?_
    refine C.iconst (0) db48_86 rfl ?_
    refine C.iload db48_87 rfl ?_
    refine C.iconst (1) db48_89 rfl ?_
    refine C.ishl db48_90 ?_
    rw [shl1' (by omega)]
    refine C.s3R db48_91 tw185 tw186 tw187 tw188 (by decide) (by decide +kernel) rfl nof (J_corg (nw := true) B (A.other W1 ta) (n := 2 * cs.length) (by rw [buf_len hl, show kk 1 = 2 from rfl]; omega) (by rw [buf_len hl]; decide)) (le rfl) (le rfl) (le rfl) (le rfl) ?_
    rintro _ h2 ⟨r, rfl, nr, E2, A2⟩
    have lt1 := (E.wr W1).lt
    have ra : @Ne Nat r a := (adr_ne lt1 nr).symm
    have e2 : (buf 1 cs).take (2 * cs.length) = wid cs := buf_take 1 cs
    rw [e2] at A2
    refine C.putF (ty := (.array .byte)) db48_94 tw36 ((Fv.other W1 (Or.inr nvc)).ext E2) ((E.wr W1).ext E2) (Or.inr ⟨tw9, rfl, rfl⟩) tw7 (by decide +kernel) rfl rfl na (Or.inl (List.mem_singleton.mpr rfl)) ?_
    intro h3 W3
    exact C.return_ db48_97 rfl ⟨rfl, (((Keep.of_wr W1).ext E2).wr W3 (Or.inl (List.mem_singleton.mpr rfl))), r, 1, wid cs, ((E.wr W1).ext E2).wr W3, ((Fv.other W1 (Or.inr nvc)).ext E2).same W3, ((Fc.same W1).ext E2).other W3 (Or.inr nvc.symm), A2.other W3 ra, Or.inr ⟨rfl, rfl, hB rfl⟩, hC, by omega⟩ (le rfl) (le rfl)
theorem J_ssbG (B : Base Z a0 EL) {h : Heap} {a b t : Addr} {cs : List Int32} {cd : Int32} (S : SBr Z h b t cs cd) (hB : Big cs cd) (hl2 : cs.length < 16) (na : Z.heap.size ≤ a) (E : Exa Z h a ST) (Fv : Fld Z h a ST "value" "[B" .null) (Fc : Fld Z h a ST "coder" "B" (.int 0)) :
    Con l Z EL nw (⟨"java/lang/String", "<init>", "(Ljava/lang/StringBuilder;)V"⟩ : MethodName) jdk_42_method_53_code 2 none (RM 4 65 1 32) [a] #[.ref a, .ref b] h (rV fun h' => Keep h h' [a] ∧ StrAt Z h' a cs) := by
  refine Con.of (plainFor_of_name (by decide +kernel)) B.1 B.2.1 ⟨[.val (.ref a), .val (.ref b)]⟩ (fun m => rfl) ?_
  intro p e s m below meth c _ C
  refine C.aloadN db49_0 rfl rfl ?_
  refine C.aloadN db49_1 rfl rfl ?_
  refine C.aconst_null db49_2 ?_
  refine C.c2 db49_3 rfl tw164 tw165 tw6 tw166 (by decide) (by decide +kernel) rfl (by simp) (J_sasbG B S hB hl2 na E Fv Fc) (le rfl) (le rfl) (le rfl) (le rfl) ?_
  rintro h1 ⟨K1, S1⟩
  exact C.return_ db49_6 rfl ⟨rfl, K1, S1⟩ (le rfl) (le rfl)
theorem J_stsG (B : Base Z a0 EL) {h : Heap} {b t : Addr} {cs : List Int32} {cd : Int32} (S : SBr Z h b t cs cd) (hB : Big cs cd) (hl2 : cs.length < 16) :
    Con l Z EL nw (⟨"java/lang/StringBuilder", "toString", "()Ljava/lang/String;"⟩ : MethodName) jdk_67_method_42_code 1 (some (.object ST)) (RM 5 79 2 36) [] #[.ref b] h (rR fun v h' => ∃ a, v = .ref a ∧ Ext h h' ∧ StrAt Z h' a cs) := by
  refine Con.of (plainFor_of_name (by decide +kernel)) B.1 B.2.1 ⟨[.val (.ref b)]⟩ (fun m => rfl) ?_
  intro p e s m below meth c _ C
  refine Goes.old fun O => ?_
  refine C.new db50_0 tw160 tw7 tw6 (le rfl) (le rfl) ?_
  intro h1 a g1 E1 X1 D1
  have Fv := D1 (Or.inr (C.wrd tw9)) (ty := (.array .byte)) (by decide +kernel)
  have Fc := D1 (Or.inr (C.wrd tw10)) (ty := .byte) (by decide +kernel)
  refine C.dup db50_3 rfl ?_
  refine C.aloadN db50_4 rfl rfl ?_
  refine C.c1 db50_5 rfl tw161 tw162 tw6 tw163 (by decide) (by decide +kernel) rfl (by simp) (J_ssbG B (S.ext E1) hB hl2 (by have := O.1; omega) X1 Fv Fc) (le rfl) (le rfl) (le rfl) (le rfl) ?_
  rintro h2 ⟨K2, S2⟩
  exact C.areturn db50_8 rfl rfl rfl rfl ⟨_, rfl, a, rfl, ext_of_keep E1 K2 (by simp; omega), S2⟩ (le rfl) (le rfl)

def OkS (g : List Int32 × Nat) : Prop := (∃ c, g = ([c], 1) ∧ c.toInt < 128) ∨ (∃ c, g = ([c], 2) ∧ 128 ≤ c.toInt ∧ c.toInt < 2048) ∨ (∃ c, g = ([c], 3) ∧ 2048 ≤ c.toInt ∧ (c.toInt < 55296 ∨ 57344 ≤ c.toInt)) ∨ (∃ c d, g = ([c, d], 4) ∧ (55296 ≤ c.toInt ∧ c.toInt < 56320) ∧ 56320 ≤ d.toInt ∧ d.toInt < 57344)
/-- well-formed chars that take n bytes: cut into pieces of one to four bytes -/
def Wf (cs : List Int32) (n : Nat) : Prop := ∃ segs : List (List Int32 × Nat), (∀ g ∈ segs, OkS g) ∧ segs.flatMap (fun g => g.1) = cs ∧ (segs.map (fun g => g.2)).sum = n
theorem Wf.cons {g : List Int32 × Nat} {r : List Int32} {n : Nat} (h : OkS g) (w : Wf r n) : Wf (g.1 ++ r) (n + g.2) := by
  obtain ⟨segs, h1, h2, h3⟩ := w
  exact ⟨g :: segs, fun x hx => (List.mem_cons.mp hx).elim (fun e => e ▸ h) (h1 x), by rw [List.flatMap_cons, h2], by rw [List.map_cons, List.sum_cons, h3, Nat.add_comm]⟩
theorem Wf.nil : Wf [] 0 := ⟨[], fun _ q => (nomatch q), rfl, rfl⟩
theorem Wf.one {c : Int32} {r : List Int32} {n : Nat} (h : c.toInt < 128) (w : Wf r n) : Wf (c :: r) (n + 1) := Wf.cons (g := ([c], 1)) (Or.inl ⟨c, rfl, h⟩) w
theorem Wf.two {c : Int32} {r : List Int32} {n : Nat} (h : 128 ≤ c.toInt) (h2 : c.toInt < 2048) (w : Wf r n) : Wf (c :: r) (n + 2) := Wf.cons (g := ([c], 2)) (Or.inr (Or.inl ⟨c, rfl, h, h2⟩)) w
theorem Wf.tri {c : Int32} {r : List Int32} {n : Nat} (h : 2048 ≤ c.toInt) (h2 : c.toInt < 55296 ∨ 57344 ≤ c.toInt) (w : Wf r n) : Wf (c :: r) (n + 3) := Wf.cons (g := ([c], 3)) (Or.inr (Or.inr (Or.inl ⟨c, rfl, h, h2⟩))) w
theorem Wf.pair {c d : Int32} {r : List Int32} {n : Nat} (h : 55296 ≤ c.toInt) (h2 : c.toInt < 56320) (h3 : 56320 ≤ d.toInt) (h4 : d.toInt < 57344) (w : Wf r n) : Wf (c :: d :: r) (n + 4) := Wf.cons (g := ([c, d], 4)) (Or.inr (Or.inr (Or.inr ⟨c, d, rfl, ⟨h, h2⟩, h3, h4⟩))) w
theorem Wf.ind {motive : List Int32 → Nat → Prop} (nil : motive [] 0) (one : ∀ c r n, c.toInt < 128 → Wf r n → motive r n → motive (c :: r) (n + 1)) (two : ∀ c r n, 128 ≤ c.toInt → c.toInt < 2048 → Wf r n → motive r n → motive (c :: r) (n + 2))
    (tri : ∀ c r n, 2048 ≤ c.toInt → (c.toInt < 55296 ∨ 57344 ≤ c.toInt) → Wf r n → motive r n → motive (c :: r) (n + 3)) (pair : ∀ c d r n, 55296 ≤ c.toInt → c.toInt < 56320 → 56320 ≤ d.toInt → d.toInt < 57344 → Wf r n → motive r n → motive (c :: d :: r) (n + 4)) {cs : List Int32} {n : Nat} (W : Wf cs n) : motive cs n := by
  obtain ⟨segs, h1, rfl, rfl⟩ := W
  induction segs with
  | nil => exact nil
  | cons g r ih =>
    have h2 := fun x hx => h1 x (List.mem_cons_of_mem _ hx)
    have ih' := ih h2
    have w' : Wf (r.flatMap (fun g => g.1)) ((r.map (fun g => g.2)).sum) := ⟨r, h2, rfl, rfl⟩
    rw [List.flatMap_cons, List.map_cons, List.sum_cons, Nat.add_comm]
    rcases h1 g List.mem_cons_self with ⟨c, rfl, h⟩ | ⟨c, rfl, h, h'⟩ | ⟨c, rfl, h, h'⟩ | ⟨c, d, rfl, ⟨h, h'⟩, h3, h4⟩
    · exact one _ _ _ h w' ih'
    · exact two _ _ _ h h' w' ih'
    · exact tri _ _ _ h h' w' ih'
    · exact pair _ _ _ _ h h' h3 h4 w' ih'
theorem nat_of {x : Int32} {M : Nat} (h0 : 0 ≤ x.toInt) (h1 : x.toInt < M) (hM : M < 2 ^ 31) : ∃ i, i < M ∧ x = Int32.ofNat i := ⟨x.toInt.toNat, by omega, Int32.toInt_inj.mp (by rw [ofNat_toInt (by omega)]; omega)⟩
theorem b32 (x : Int32) : -2147483648 ≤ x.toInt ∧ x.toInt ≤ 2147483647 := by have := i32_bounds x; omega
def NonS (c : Int32) : Prop := 0 ≤ c.toInt ∧ c.toInt ≤ 65535 ∧ (c.toInt < 55296 ∨ 57344 ≤ c.toInt)
theorem NonS.isC {c : Int32} (h : NonS c) : IsC c := by rw [isC_iff]; unfold NonS at h; omega
theorem NonS.wf {c : Int32} {r : List Int32} {n : Nat} (h : NonS c) (w : Wf r n) : ∃ k, k ≤ 3 ∧ Wf (c :: r) (n + k) := by
  unfold NonS at h
  by_cases h1 : c.toInt < 128
  · exact ⟨1, by omega, .one h1 w⟩
  · by_cases h2 : c.toInt < 2048
    · exact ⟨2, by omega, .two (by omega) h2 w⟩
    · exact ⟨3, by omega, .tri (by omega) h.2.2 w⟩
theorem xor15 : ∀ k, k < 2048 → Int32.ofNat (55296 + k) ^^^ 32768 = Int32.ofNat (22528 + k) := by decide +kernel
theorem ofNat_sub {i j : Nat} (h : j ≤ i) : Int32.ofNat i - Int32.ofNat j = Int32.ofNat (i - j) := by
  obtain ⟨k, rfl⟩ := Nat.le.dest h
  rw [Nat.add_sub_cancel_left, Nat.add_comm, Int32.ofNat_add]; exact Int32.add_sub_cancel _ _
def q0 (v : Int32) : Int32 := c16 (v &&& 65535)
def q1 (v : Int32) : Int32 := c16 (XT.ushr v 16 &&& 65535)
def pk (v : Int32) (k : Nat) : List Int32 := if k = 0 then [] else if k = 1 then [q0 v] else [q0 v, q1 v]
theorem pk_C (v : Int32) (k : Nat) : ∀ c ∈ pk v k, IsC c := by
  intro c hc; unfold pk at hc
  split at hc
  · cases hc
  · split at hc
    · cases List.mem_singleton.mp hc; exact isC_c16 _
    · simp only [List.mem_cons, List.not_mem_nil, or_false] at hc
      rcases hc with rfl | rfl <;> exact isC_c16 _
theorem pk_len (v : Int32) (k : Nat) : (pk v k).length ≤ 2 := by
  unfold pk; split
  · simp
  · split <;> simp
theorem P_sur (B : Base Z a0 EL) {h : Heap} {v : Int32} : Con l Z EL nw (⟨"java/lang/Character", "isSurrogate", "(C)Z"⟩ : MethodName) jdk_89_method_16_code 1 (some .boolean) (RM 0 0 0 0) [] #[.int v] h (rR fun w h' => ((w = .int 1 ∧ 55296 ≤ v.toInt ∧ v.toInt < 57344) ∨ (w = .int 0 ∧ (v.toInt < 55296 ∨ 57344 ≤ v.toInt))) ∧ h = h') := by
  refine Con.of (plainFor_of_name (by decide +kernel)) B.1 B.2.1 ⟨[.val (.int v)]⟩ (fun m => rfl) ?_
  intro p e s m below meth c _ C
  have e1 : (55296 : Int32).toInt = 55296 := rfl
  have e2 : (57344 : Int32).toInt = 57344 := rfl
  refine C.iloadN db51_0 rfl ?_
  refine C.ldcInt db51_1 tw260 ?_
  refine C.icmp_lt db51_3 (fun q => ?_) (fun q => ?_)
  · rw [ilt, e1] at q
    refine C.iconst (0) db51_16 rfl ?_
    exact C.ireturn db51_17 rfl (Or.inr (Or.inl rfl)) rfl ⟨_, rfl, Or.inr ⟨rfl, Or.inl q⟩, rfl⟩ (le rfl) (le rfl)
  · rw [nlt, e1] at q
    refine C.iloadN db51_6 rfl ?_
    refine C.ldcInt db51_7 tw261 ?_
    refine C.icmp_ge db51_9 (fun z => ?_) (fun z => ?_)
    · rw [nlt, e2] at z
      refine C.iconst (0) db51_16 rfl ?_
      exact C.ireturn db51_17 rfl (Or.inr (Or.inl rfl)) rfl ⟨_, rfl, Or.inr ⟨rfl, Or.inr z⟩, rfl⟩ (le rfl) (le rfl)
    · rw [ilt, e2] at z
      refine C.iconst (1) db51_12 rfl ?_
      refine C.goto db51_13 ?_
      exact C.ireturn db51_17 rfl (Or.inr (Or.inl rfl)) rfl ⟨_, rfl, Or.inl ⟨rfl, q, z⟩, rfl⟩ (le rfl) (le rfl)
theorem P_hi (B : Base Z a0 EL) {h : Heap} {v : Int32} : Con l Z EL nw (⟨"java/lang/Character", "isHighSurrogate", "(C)Z"⟩ : MethodName) jdk_89_method_14_code 1 (some .boolean) (RM 0 0 0 0) [] #[.int v] h (rR fun w h' => ((w = .int 1 ∧ 55296 ≤ v.toInt ∧ v.toInt < 56320) ∨ (w = .int 0 ∧ (v.toInt < 55296 ∨ 56320 ≤ v.toInt))) ∧ h = h') := by
  refine Con.of (plainFor_of_name (by decide +kernel)) B.1 B.2.1 ⟨[.val (.int v)]⟩ (fun m => rfl) ?_
  intro p e s m below meth c _ C
  have e1 : (55296 : Int32).toInt = 55296 := rfl
  have e2 : (56320 : Int32).toInt = 56320 := rfl
  refine C.iloadN db52_0 rfl ?_
  refine C.ldcInt db52_1 tw260 ?_
  refine C.icmp_lt db52_3 (fun q => ?_) (fun q => ?_)
  · rw [ilt, e1] at q
    refine C.iconst (0) db52_16 rfl ?_
    exact C.ireturn db52_17 rfl (Or.inr (Or.inl rfl)) rfl ⟨_, rfl, Or.inr ⟨rfl, Or.inl q⟩, rfl⟩ (le rfl) (le rfl)
  · rw [nlt, e1] at q
    refine C.iloadN db52_6 rfl ?_
    refine C.ldcInt db52_7 tw265 ?_
    refine C.icmp_ge db52_9 (fun z => ?_) (fun z => ?_)
    · rw [nlt, e2] at z
      refine C.iconst (0) db52_16 rfl ?_
      exact C.ireturn db52_17 rfl (Or.inr (Or.inl rfl)) rfl ⟨_, rfl, Or.inr ⟨rfl, Or.inr z⟩, rfl⟩ (le rfl) (le rfl)
    · rw [ilt, e2] at z
      refine C.iconst (1) db52_12 rfl ?_
      refine C.goto db52_13 ?_
      exact C.ireturn db52_17 rfl (Or.inr (Or.inl rfl)) rfl ⟨_, rfl, Or.inl ⟨rfl, q, z⟩, rfl⟩ (le rfl) (le rfl)
theorem P_lo (B : Base Z a0 EL) {h : Heap} {v : Int32} : Con l Z EL nw (⟨"java/lang/Character", "isLowSurrogate", "(C)Z"⟩ : MethodName) jdk_89_method_15_code 1 (some .boolean) (RM 0 0 0 0) [] #[.int v] h (rR fun w h' => ((w = .int 1 ∧ 56320 ≤ v.toInt ∧ v.toInt < 57344) ∨ (w = .int 0 ∧ (v.toInt < 56320 ∨ 57344 ≤ v.toInt))) ∧ h = h') := by
  refine Con.of (plainFor_of_name (by decide +kernel)) B.1 B.2.1 ⟨[.val (.int v)]⟩ (fun m => rfl) ?_
  intro p e s m below meth c _ C
  have e1 : (56320 : Int32).toInt = 56320 := rfl
  have e2 : (57344 : Int32).toInt = 57344 := rfl
  refine C.iloadN db53_0 rfl ?_
  refine C.ldcInt db53_1 tw265 ?_
  refine C.icmp_lt db53_3 (fun q => ?_) (fun q => ?_)
  · rw [ilt, e1] at q
    refine C.iconst (0) db53_16 rfl ?_
    exact C.ireturn db53_17 rfl (Or.inr (Or.inl rfl)) rfl ⟨_, rfl, Or.inr ⟨rfl, Or.inl q⟩, rfl⟩ (le rfl) (le rfl)
  · rw [nlt, e1] at q
    refine C.iloadN db53_6 rfl ?_
    refine C.ldcInt db53_7 tw261 ?_
    refine C.icmp_ge db53_9 (fun z => ?_) (fun z => ?_)
    · rw [nlt, e2] at z
      refine C.iconst (0) db53_16 rfl ?_
      exact C.ireturn db53_17 rfl (Or.inr (Or.inl rfl)) rfl ⟨_, rfl, Or.inr ⟨rfl, Or.inr z⟩, rfl⟩ (le rfl) (le rfl)
    · rw [ilt, e2] at z
      refine C.iconst (1) db53_12 rfl ?_
      refine C.goto db53_13 ?_
      exact C.ireturn db53_17 rfl (Or.inr (Or.inl rfl)) rfl ⟨_, rfl, Or.inl ⟨rfl, q, z⟩, rfl⟩ (le rfl) (le rfl)
theorem P_reqL (B : Base Z a0 EL) {p : Program} {e : Env} {s : State} {m : MethodId} {args : Array Value} {below : List Frame} {meth : Method} {c : Code} {h h1 : Heap} {a : Addr} {cs : List Int32} (C : Cxt p m meth c Z a0 EL "com/example/dommel/dommel/KeySpace" "requireName" prog_8_method_4_code 4 (some (.object ST)) tables_1) (S : StrAt Z h1 a cs) (hn : cs.length ≤ 4000) (E : Ext h h1) :
    ∀ (rs : List Int32) (n : Nat), Wf rs n → ∀ (i b w : Nat) (x3 : Slot), okS x3 = true → cs.drop i = rs → i ≤ cs.length → b + n ≤ 512 → OwnW.Goes p l e (RM 5 68 2 20) s m args below meth c Z EL false (rR fun v h' => v = .ref a ∧ Ext h h') [] w h1 2 20 (mkF m 28 ⟨[.val (.ref a), .val (.int (Int32.ofNat b)), .val (.int (Int32.ofNat i)), x3]⟩ []) := by
  have e512 : (512 : Int32) = Int32.ofNat 512 := rfl
  have e128 : (128 : Int32).toInt = 128 := rfl
  have e2048 : (2048 : Int32).toInt = 2048 := rfl
  have step : ∀ (i b k w : Nat) (ch : Int32), (∀ w, OwnW.Goes p l e (RM 5 68 2 20) s m args below meth c Z EL false (rR fun v h' => v = .ref a ∧ Ext h h') [] w h1 2 20 (mkF m 28 ⟨[.val (.ref a), .val (.int (Int32.ofNat (b + k))), .val (.int (Int32.ofNat (i + 1))), .val (.int ch)]⟩ [])) → OwnW.Goes p l e (RM 5 68 2 20) s m args below meth c Z EL false (rR fun v h' => v = .ref a ∧ Ext h h') [] w h1 2 20 (mkF m 147 ⟨[.val (.ref a), .val (.int (Int32.ofNat (b + k))), .val (.int (Int32.ofNat i)), .val (.int ch)]⟩ []) := by
    intro i b k w ch g
    refine C.iinc (1) db54_147 rfl rfl ?_
    refine C.goto db54_150 ?_
    rw [ofNat_succ]
    exact g w
  intro rs n W
  refine Wf.ind (motive := fun rs n => ∀ (i b w : Nat) (x3 : Slot), okS x3 = true → cs.drop i = rs → i ≤ cs.length → b + n ≤ 512 → OwnW.Goes p l e (RM 5 68 2 20) s m args below meth c Z EL false (rR fun v h' => v = .ref a ∧ Ext h h') [] w h1 2 20 (mkF m 28 ⟨[.val (.ref a), .val (.int (Int32.ofNat b)), .val (.int (Int32.ofNat i)), x3]⟩ [])) ?_ ?_ ?_ ?_ ?_ W
  · intro i b w x3 ok hd hi hb
    have hi' : i = cs.length := by have := congrArg List.length hd; simp at this; omega
    refine C.iloadN db54_28 rfl ?_
    refine C.aloadN db54_29 rfl rfl ?_
    refine C.v0R db54_30 tw133 tw87 tw89 tw88 tw6 tw90 (by decide) (by decide +kernel) rfl nof (S.exa) (fun _ q => notFace_of_selects q) (J_len B S) (le rfl) (le rfl) (le rfl) (le rfl) ?_
    rintro _ _ ⟨rfl, rfl⟩
    refine C.icmp_ge db54_33 (fun _ => ?_) (fun q => absurd q (fun q => by rw [ofNat_lt (by omega) (by omega)] at q; omega))
    refine C.iloadN db54_153 rfl ?_
    refine C.sipush (512) db54_154 rfl ?_
    refine C.icmp_le db54_157 (fun _ => ?_) (fun q => absurd q (fun q => by rw [e512, ofNat_lt (by omega) (by omega)] at q; omega))
    refine C.aloadN db54_187 rfl rfl ?_
    exact C.areturn db54_188 rfl rfl rfl rfl ⟨_, rfl, rfl, E⟩ (le rfl) (le rfl)
  · intro ch r n h1' _ ih
    intro i b w x3 ok hd hi hb
    have hch : cs[i]? = some ch := by have := congrArg (fun l => l[0]?) hd; simpa using this
    have hlt : i < cs.length := (List.getElem?_eq_some_iff.mp hch).1
    have hd' : cs.drop (i + 1) = r := by have := congrArg List.tail hd; simpa using this
    refine C.iloadN db54_28 rfl ?_
    refine C.aloadN db54_29 rfl rfl ?_
    refine C.v0R db54_30 tw133 tw87 tw89 tw88 tw6 tw90 (by decide) (by decide +kernel) rfl nof (S.exa) (fun _ q => notFace_of_selects q) (J_len B S) (le rfl) (le rfl) (le rfl) (le rfl) ?_
    rintro _ _ ⟨rfl, rfl⟩
    refine C.icmp_ge db54_33 (fun q => absurd ((ofNat_lt (by omega) (by omega)).mpr hlt) q) (fun _ => ?_)
    refine C.aloadN db54_36 rfl rfl ?_
    refine C.iloadN db54_37 rfl ?_
    refine C.v1R db54_38 tw134 tw135 tw137 tw136 tw6 tw138 (by decide) (by decide +kernel) rfl nof (S.exa) (fun _ q => notFace_of_selects q) (J_ch B S hch) (le rfl) (le rfl) (le rfl) (le rfl) ?_
    rintro _ _ ⟨rfl, rfl⟩
    refine C.istoreN db54_41 rfl ok ?_
    refine C.iloadN db54_42 rfl ?_
    refine C.sipush (128) db54_43 rfl ?_
    refine C.icmp_ge db54_46 (fun q => absurd h1' (by rw [nlt, e128] at q; omega)) (fun _ => ?_)
    refine C.iinc (1) db54_49 rfl rfl ?_
    refine C.goto db54_52 ?_
    rw [ofNat_succ]
    exact step i b 1 _ ch (fun w => ih (i + 1) (b + 1) w _ rfl hd' (by omega) (by omega))
  · intro ch r n h1' h2' _ ih
    intro i b w x3 ok hd hi hb
    have hch : cs[i]? = some ch := by have := congrArg (fun l => l[0]?) hd; simpa using this
    have hlt : i < cs.length := (List.getElem?_eq_some_iff.mp hch).1
    have hd' : cs.drop (i + 1) = r := by have := congrArg List.tail hd; simpa using this
    refine C.iloadN db54_28 rfl ?_
    refine C.aloadN db54_29 rfl rfl ?_
    refine C.v0R db54_30 tw133 tw87 tw89 tw88 tw6 tw90 (by decide) (by decide +kernel) rfl nof (S.exa) (fun _ q => notFace_of_selects q) (J_len B S) (le rfl) (le rfl) (le rfl) (le rfl) ?_
    rintro _ _ ⟨rfl, rfl⟩
    refine C.icmp_ge db54_33 (fun q => absurd ((ofNat_lt (by omega) (by omega)).mpr hlt) q) (fun _ => ?_)
    refine C.aloadN db54_36 rfl rfl ?_
    refine C.iloadN db54_37 rfl ?_
    refine C.v1R db54_38 tw134 tw135 tw137 tw136 tw6 tw138 (by decide) (by decide +kernel) rfl nof (S.exa) (fun _ q => notFace_of_selects q) (J_ch B S hch) (le rfl) (le rfl) (le rfl) (le rfl) ?_
    rintro _ _ ⟨rfl, rfl⟩
    refine C.istoreN db54_41 rfl ok ?_
    refine C.iloadN db54_42 rfl ?_
    refine C.sipush (128) db54_43 rfl ?_
    refine C.icmp_ge db54_46 (fun _ => ?_) (fun q => absurd h1' (by rw [ilt, e128] at q; omega))
    refine C.iloadN db54_55 rfl ?_
    refine C.sipush (2048) db54_56 rfl ?_
    refine C.icmp_ge db54_59 (fun q => absurd h2' (by rw [nlt, e2048] at q; omega)) (fun _ => ?_)
    refine C.iinc (2) db54_62 rfl rfl ?_
    refine C.goto db54_65 ?_
    rw [show Int32.ofNat b + 2 = Int32.ofNat (b + 2) from (Int32.ofNat_add b 2).symm]
    exact step i b 2 _ ch (fun w => ih (i + 1) (b + 2) w _ rfl hd' (by omega) (by omega))
  · intro ch r n h1' h2' _ ih
    intro i b w x3 ok hd hi hb
    have hch : cs[i]? = some ch := by have := congrArg (fun l => l[0]?) hd; simpa using this
    have hlt : i < cs.length := (List.getElem?_eq_some_iff.mp hch).1
    have hd' : cs.drop (i + 1) = r := by have := congrArg List.tail hd; simpa using this
    refine C.iloadN db54_28 rfl ?_
    refine C.aloadN db54_29 rfl rfl ?_
    refine C.v0R db54_30 tw133 tw87 tw89 tw88 tw6 tw90 (by decide) (by decide +kernel) rfl nof (S.exa) (fun _ q => notFace_of_selects q) (J_len B S) (le rfl) (le rfl) (le rfl) (le rfl) ?_
    rintro _ _ ⟨rfl, rfl⟩
    refine C.icmp_ge db54_33 (fun q => absurd ((ofNat_lt (by omega) (by omega)).mpr hlt) q) (fun _ => ?_)
    refine C.aloadN db54_36 rfl rfl ?_
    refine C.iloadN db54_37 rfl ?_
    refine C.v1R db54_38 tw134 tw135 tw137 tw136 tw6 tw138 (by decide) (by decide +kernel) rfl nof (S.exa) (fun _ q => notFace_of_selects q) (J_ch B S hch) (le rfl) (le rfl) (le rfl) (le rfl) ?_
    rintro _ _ ⟨rfl, rfl⟩
    refine C.istoreN db54_41 rfl ok ?_
    refine C.iloadN db54_42 rfl ?_
    refine C.sipush (128) db54_43 rfl ?_
    refine C.icmp_ge db54_46 (fun _ => ?_) (fun q => absurd h1' (by rw [ilt, e128] at q; omega))
    refine C.iloadN db54_55 rfl ?_
    refine C.sipush (2048) db54_56 rfl ?_
    refine C.icmp_ge db54_59 (fun _ => ?_) (fun q => absurd h1' (by rw [ilt, e2048] at q; omega))
    refine C.iloadN db54_68 rfl ?_
    refine C.s1R db54_69 tw256 tw257 tw258 tw259 (by decide) (by decide +kernel) rfl nof (P_sur B) (le rfl) (le rfl) (le rfl) (le rfl) ?_
    rintro v _ ⟨hv, rfl⟩
    obtain rfl : v = .int 0 := hv.elim (fun q => absurd q.2 (by omega)) (fun q => q.1)
    refine C.if_ne db54_72 (fun q => absurd rfl q) (fun _ => ?_)
    refine C.iinc (3) db54_75 rfl rfl ?_
    refine C.goto db54_78 ?_
    rw [show Int32.ofNat b + 3 = Int32.ofNat (b + 3) from (Int32.ofNat_add b 3).symm]
    exact step i b 3 _ ch (fun w => ih (i + 1) (b + 3) w _ rfl hd' (by omega) (by omega))
  · intro ch dd r n h1' h2' h3' h4' _ ih
    intro i b w x3 ok hd hi hb
    have hch : cs[i]? = some ch := by have := congrArg (fun l => l[0]?) hd; simpa using this
    have hlt : i < cs.length := (List.getElem?_eq_some_iff.mp hch).1
    have hd' : cs.drop (i + 1) = dd :: r := by have := congrArg List.tail hd; simpa using this
    refine C.iloadN db54_28 rfl ?_
    refine C.aloadN db54_29 rfl rfl ?_
    refine C.v0R db54_30 tw133 tw87 tw89 tw88 tw6 tw90 (by decide) (by decide +kernel) rfl nof (S.exa) (fun _ q => notFace_of_selects q) (J_len B S) (le rfl) (le rfl) (le rfl) (le rfl) ?_
    rintro _ _ ⟨rfl, rfl⟩
    refine C.icmp_ge db54_33 (fun q => absurd ((ofNat_lt (by omega) (by omega)).mpr hlt) q) (fun _ => ?_)
    refine C.aloadN db54_36 rfl rfl ?_
    refine C.iloadN db54_37 rfl ?_
    refine C.v1R db54_38 tw134 tw135 tw137 tw136 tw6 tw138 (by decide) (by decide +kernel) rfl nof (S.exa) (fun _ q => notFace_of_selects q) (J_ch B S hch) (le rfl) (le rfl) (le rfl) (le rfl) ?_
    rintro _ _ ⟨rfl, rfl⟩
    refine C.istoreN db54_41 rfl ok ?_
    refine C.iloadN db54_42 rfl ?_
    refine C.sipush (128) db54_43 rfl ?_
    have hdd : cs[i + 1]? = some dd := by have := congrArg (fun l => l[0]?) hd'; simpa using this
    have hlt2 : i + 1 < cs.length := (List.getElem?_eq_some_iff.mp hdd).1
    have hd2 : cs.drop (i + 1 + 1) = r := by have := congrArg List.tail hd'; simpa using this
    refine C.icmp_ge db54_46 (fun _ => ?_) (fun q => absurd h1' (by rw [ilt, e128] at q; omega))
    refine C.iloadN db54_55 rfl ?_
    refine C.sipush (2048) db54_56 rfl ?_
    refine C.icmp_ge db54_59 (fun _ => ?_) (fun q => absurd h1' (by rw [ilt, e2048] at q; omega))
    refine C.iloadN db54_68 rfl ?_
    refine C.s1R db54_69 tw256 tw257 tw258 tw259 (by decide) (by decide +kernel) rfl nof (P_sur B) (le rfl) (le rfl) (le rfl) (le rfl) ?_
    rintro v _ ⟨hv, rfl⟩
    obtain rfl : v = .int 1 := hv.elim (fun q => q.1) (fun q => absurd q.2 (by omega))
    refine C.if_ne db54_72 (fun _ => ?_) (fun q => absurd q (by decide))
    refine C.iloadN db54_81 rfl ?_
    refine C.s1R db54_82 tw262 tw263 tw258 tw264 (by decide) (by decide +kernel) rfl nof (P_hi B) (le rfl) (le rfl) (le rfl) (le rfl) ?_
    rintro v _ ⟨hv, rfl⟩
    obtain rfl : v = .int 1 := hv.elim (fun q => q.1) (fun q => absurd q.2 (by omega))
    refine C.if_eq db54_85 (fun q => absurd q (by decide)) (fun _ => ?_)
    refine C.iloadN db54_88 rfl ?_
    refine C.iconst (1) db54_89 rfl ?_
    refine C.iadd db54_90 ?_
    rw [ofNat_succ]
    refine C.aloadN db54_91 rfl rfl ?_
    refine C.v0R db54_92 tw133 tw87 tw89 tw88 tw6 tw90 (by decide) (by decide +kernel) rfl nof (S.exa) (fun _ q => notFace_of_selects q) (J_len B S) (le rfl) (le rfl) (le rfl) (le rfl) ?_
    rintro _ _ ⟨rfl, rfl⟩
    refine C.icmp_ge db54_95 (fun q => absurd ((ofNat_lt (by omega) (by omega)).mpr hlt2) q) (fun _ => ?_)
    refine C.aloadN db54_98 rfl rfl ?_
    refine C.iloadN db54_99 rfl ?_
    refine C.iconst (1) db54_100 rfl ?_
    refine C.iadd db54_101 ?_
    rw [ofNat_succ]
    refine C.v1R db54_102 tw134 tw135 tw137 tw136 tw6 tw138 (by decide) (by decide +kernel) rfl nof (S.exa) (fun _ q => notFace_of_selects q) (J_ch B S hdd) (le rfl) (le rfl) (le rfl) (le rfl) ?_
    rintro _ _ ⟨rfl, rfl⟩
    refine C.s1R db54_105 tw266 tw267 tw258 tw268 (by decide) (by decide +kernel) rfl nof (P_lo B) (le rfl) (le rfl) (le rfl) (le rfl) ?_
    rintro v _ ⟨hv, rfl⟩
    obtain rfl : v = .int 1 := hv.elim (fun q => q.1) (fun q => absurd q.2 (by omega))
    refine C.if_eq db54_108 (fun q => absurd q (by decide)) (fun _ => ?_)
    refine C.iinc (4) db54_111 rfl rfl ?_
    refine C.iinc (1) db54_114 rfl rfl ?_
    refine C.goto db54_117 ?_
    rw [ofNat_succ, show Int32.ofNat b + 4 = Int32.ofNat (b + 4) from (Int32.ofNat_add b 4).symm]
    exact step (i + 1) b 4 _ ch (fun w => ih (i + 1 + 1) (b + 4) w _ rfl hd2 (by omega) (by omega))
theorem P_req (B : Base Z a0 EL) {h : Heap} {a : Addr} {cs : List Int32} {n : Nat} (S : StrAt Z h a cs) (hw : Wf cs n) (h0 : cs ≠ []) (hn : cs.length ≤ 4000) (h512 : n ≤ 512) : Con l Z EL false (⟨"com/example/dommel/dommel/KeySpace", "requireName", "(Ljava/lang/String;)Ljava/lang/String;"⟩ : MethodName) prog_8_method_4_code 4 (some (.object ST)) (RM 5 68 2 20) [] #[.ref a] h (rR fun v h' => v = .ref a ∧ Ext h h') := by
  refine Con.of (plainFor_of_name (by decide +kernel)) B.1 B.2.1 ⟨[.val (.ref a), .unset, .unset, .unset]⟩ (fun m => rfl) ?_
  intro p e s m below meth c _ C
  refine C.aloadN db54_0 rfl rfl ?_
  refine C.ldcO 16 db54_1 rfl tw127 (J_atoms B) (le rfl) (le rfl) (le rfl) (le rfl) ?_
  intro h1 q1 E1
  replace S := S.ext E1
  refine C.s2R db54_3 tw46 tw47 tw48 tw49 (by decide) (by decide +kernel) rfl nof (J_rnn B) (le rfl) (le rfl) (le rfl) (le rfl) ?_
  rintro _ _ ⟨rfl, rfl⟩
  refine C.pop db54_6 rfl ?_
  refine C.aloadN db54_7 rfl rfl ?_
  refine C.v0R db54_8 tw128 tw129 tw131 tw130 tw6 tw132 (by decide) (by decide +kernel) rfl nof (S.exa) (fun _ q => notFace_of_selects q) (J_emp B S) (le rfl) (le rfl) (le rfl) (le rfl) ?_
  rintro v _ ⟨hv, rfl⟩
  obtain rfl : v = .int 0 := hv.elim (fun q => absurd q.2 h0) (fun q => q.1)
  refine C.if_eq db54_11 (fun _ => ?_) (fun q => absurd rfl q)
  refine C.iconst (0) db54_24 rfl ?_
  refine C.istoreN db54_25 rfl rfl ?_
  refine C.iconst (0) db54_26 rfl ?_
  refine C.istoreN db54_27 rfl rfl ?_
  exact P_reqL B C S hn E1 cs n hw 0 0 _ _ rfl rfl (Nat.zero_le _) (by omega)
theorem J_utb (B : Base Z a0 EL) {h : Heap} {ch : Int32} : Con l Z EL nw (⟨"java/lang/StringUTF16", "toBytes", "(C)[B"⟩ : MethodName) jdk_52_method_24_code 2 (some (.array .byte)) (RM 1 14 1 2) [] #[.int ch] h (rR fun v h' => v = .ref h.size ∧ Ext h h' ∧ Arl Z h' h.size .byte (wid [ch])) := by
  refine Con.of (plainFor_of_name (by decide +kernel)) B.1 B.2.1 ⟨[.val (.int ch), .unset]⟩ (fun m => rfl) ?_
  intro p e s m below meth c _ C
  refine Goes.old fun O => ?_
  refine C.iconst (2) db55_0 rfl ?_
  refine C.newarray db55_1 tw8 (by decide) rfl (le rfl) (le rfl) (le rfl) ?_
  intro h1 t g1 E1 l1 A1
  subst g1
  refine C.astoreN db55_3 rfl rfl rfl ?_
  refine C.aloadN db55_4 rfl rfl ?_
  refine C.iconst (0) db55_5 rfl ?_
  refine C.iloadN db55_6 rfl ?_
  refine C.s3V db55_7 tw237 tw238 tw218 tw239 (by decide) (by decide +kernel) rfl (by simp) (J_putc (nw := true) B (i := 0) (ch := ch) A1 (by simp) O.1) (le rfl) (le rfl) (le rfl) (le rfl) ?_
  rintro h2 ⟨K2, sz2, A2⟩
  refine C.aloadN db55_10 rfl rfl ?_
  exact C.areturn db55_11 rfl rfl rfl rfl ⟨_, rfl, rfl, ext_of_keep E1 K2 (by simp), A2⟩ (le rfl) (le rfl)
theorem J_valofg (B : Base Z a0 EL) {h : Heap} {ch : Int32} (hc : IsC ch) : Con l Z EL nw (⟨"java/lang/String", "valueOf", "(C)Ljava/lang/String;"⟩ : MethodName) jdk_42_method_139_code 1 (some (.object ST)) (RM 2 29 2 6) [] #[.int ch] h (rR fun v h' => ∃ a, v = .ref a ∧ Ext h h' ∧ StrAt Z h' a [ch]) := by
  obtain ⟨z, Sz, hz⟩ := B.2.2.1
  refine Con.of (plainFor_of_name (by decide +kernel)) B.1 B.2.1 ⟨[.val (.int ch)]⟩ (fun m => rfl) ?_
  intro p e s m below meth c _ C
  refine Goes.old fun O => ?_
  refine C.getS db25_0 tw20 Sz ?_
  refine C.if_eq db25_3 (fun q => absurd q hz) (fun _ => ?_)
  refine C.iloadN db25_6 rfl ?_
  refine C.s1R db25_7 tw21 tw22 tw23 tw24 (by decide) (by decide +kernel) rfl nof (J_can (nw := true) B) (le rfl) (le rfl) (le rfl) (le rfl) ?_
  rintro v _ ⟨hv, rfl⟩
  rcases hv with ⟨rfl, hs⟩ | ⟨rfl, hs⟩
  · refine C.if_eq db25_10 (fun q => absurd q (by decide)) (fun _ => ?_)
    refine C.new db25_13 tw25 tw7 tw6 (le rfl) (le rfl) ?_
    intro h1 a g1 E1 X1 D1
    have Fv := D1 (Or.inr (C.wrd tw9)) (ty := (.array .byte)) (by decide +kernel)
    have Fc := D1 (Or.inr (C.wrd tw10)) (ty := .byte) (by decide +kernel)
    refine C.dup db25_16 rfl ?_
    refine C.iloadN db25_17 rfl ?_
    refine C.s1R db25_18 tw26 tw27 tw23 tw28 (by decide) (by decide +kernel) rfl nof (J_ltb (nw := true) B) (le rfl) (le rfl) (le rfl) (le rfl) ?_
    rintro _ h2 ⟨rfl, E2, A2⟩
    refine C.iconst (0) db25_21 rfl ?_
    refine C.c2 db25_22 rfl tw29 tw30 tw6 tw32 (by decide) (by decide +kernel) rfl (by simp) (J_newbb B (cs := [ch]) (by simpa using hc) (by simp) (Or.inl ⟨rfl, rfl, by simpa using hs⟩) A2 (adr_ne X1.lt (Nat.le_refl _)).symm (by have := O.1; omega) (X1.ext E2) (Fv.ext E2) (Fc.ext E2)) (le rfl) (le rfl) (le rfl) (le rfl) ?_
    rintro h3 ⟨K3, S3⟩
    exact C.areturn db25_25 rfl rfl rfl rfl ⟨_, rfl, a, rfl, ext_of_keep (ext_trans E1 E2) K3 (by simp; omega), S3⟩ (le rfl) (le rfl)
  · refine C.if_eq db25_10 (fun _ => ?_) (fun q => absurd rfl q)
    refine C.new db25_26 tw25 tw7 tw6 (le rfl) (le rfl) ?_
    intro h1 a g1 E1 X1 D1
    have Fv := D1 (Or.inr (C.wrd tw9)) (ty := (.array .byte)) (by decide +kernel)
    have Fc := D1 (Or.inr (C.wrd tw10)) (ty := .byte) (by decide +kernel)
    refine C.dup db25_29 rfl ?_
    refine C.iloadN db25_30 rfl ?_
    refine C.s1R db25_31 tw294 tw295 tw218 tw296 (by decide) (by decide +kernel) rfl nof (J_utb (nw := true) B) (le rfl) (le rfl) (le rfl) (le rfl) ?_
    rintro _ h2 ⟨rfl, E2, A2⟩
    refine C.iconst (1) db25_34 rfl ?_
    refine C.c2 db25_35 rfl tw29 tw30 tw6 tw32 (by decide) (by decide +kernel) rfl (by simp) (J_newbb B (cs := [ch]) (cd := 1) (by simpa using hc) (by simp) (Or.inr ⟨rfl, rfl, ch, by simp, hs⟩) A2 (adr_ne X1.lt (Nat.le_refl _)).symm (by have := O.1; omega) (X1.ext E2) (Fv.ext E2) (Fc.ext E2)) (le rfl) (le rfl) (le rfl) (le rfl) ?_
    rintro h3 ⟨K3, S3⟩
    exact C.areturn db25_38 rfl rfl rfl rfl ⟨_, rfl, a, rfl, ext_of_keep (ext_trans E1 E2) K3 (by simp; omega), S3⟩ (le rfl) (le rfl)
theorem P_safe (B : Base Z a0 EL) {h : Heap} {v : Int32} : Con l Z EL nw (⟨"com/example/dommel/dommel/KeySpaceKeyPinLaw", "safe", "(I)C"⟩ : MethodName) method_2_code 2 (some .char) (RM 0 0 0 0) [] #[.int v] h (rR fun w h' => (∃ c, w = .int c ∧ NonS c) ∧ h = h') := by
  refine Con.of (plainFor_of_name (by decide +kernel)) B.1 B.2.1 ⟨[.val (.int v), .unset]⟩ (fun m => rfl) ?_
  intro p e s m below meth c _ C
  have h1 := c_and v 65535 (by decide)
  have e1 : (65535 : Int32).toInt = 65535 := rfl
  have e2 : (55296 : Int32).toInt = 55296 := rfl
  have e3 : (57344 : Int32).toInt = 57344 := rfl
  rw [e1] at h1
  refine C.iloadN db56_0 rfl ?_
  refine C.ldcInt db56_1 tw4 ?_
  refine C.iand db56_3 ?_
  generalize v &&& 65535 = y at h1
  have icy : IsC y := by rw [isC_iff]; omega
  refine C.istoreN db56_4 rfl rfl ?_
  refine C.iloadN db56_5 rfl ?_
  refine C.ldcInt db56_6 tw16 ?_
  refine C.icmp_lt db56_8 (fun q => ?_) (fun q => ?_)
  · rw [ilt, e2] at q
    refine C.iloadN db56_22 rfl ?_
    refine C.i2c db56_23 ?_
    rw [c16_of icy]
    exact C.ireturn db56_24 rfl (Or.inr (Or.inr (Or.inr (Or.inl rfl)))) (narrow_char icy) ⟨_, rfl, ⟨_, rfl, by unfold NonS; omega⟩, rfl⟩ (le rfl) (le rfl)
  · rw [nlt, e2] at q
    refine C.iloadN db56_11 rfl ?_
    refine C.ldcInt db56_12 tw297 ?_
    refine C.icmp_ge db56_14 (fun q2 => ?_) (fun q2 => ?_)
    · rw [nlt, e3] at q2
      refine C.iloadN db56_22 rfl ?_
      refine C.i2c db56_23 ?_
      rw [c16_of icy]
      exact C.ireturn db56_24 rfl (Or.inr (Or.inr (Or.inr (Or.inl rfl)))) (narrow_char icy) ⟨_, rfl, ⟨_, rfl, by unfold NonS; omega⟩, rfl⟩ (le rfl) (le rfl)
    · rw [ilt, e3] at q2
      obtain ⟨i, hi, rfl⟩ := nat_of (x := y) (M := 65536) (by omega) (by omega) (by decide)
      have ti := ofNat_toInt (i := i) (by omega)
      obtain ⟨k, hk⟩ : ∃ k, i = 55296 + k := ⟨i - 55296, by omega⟩
      have ex := xor15 k (by omega)
      rw [← hk] at ex
      have tk := ofNat_toInt (i := 22528 + k) (by omega)
      have ick : IsC (Int32.ofNat (22528 + k)) := by rw [isC_iff]; omega
      refine C.iloadN db56_17 rfl ?_
      refine C.ldcInt db56_18 tw298 ?_
      refine C.ixor db56_20 ?_
      rw [ex]
      refine C.istoreN db56_21 rfl rfl ?_
      refine C.iloadN db56_22 rfl ?_
      refine C.i2c db56_23 ?_
      rw [c16_of ick]
      exact C.ireturn db56_24 rfl (Or.inr (Or.inr (Or.inr (Or.inl rfl)))) (narrow_char ick) ⟨_, rfl, ⟨_, rfl, by unfold NonS; omega⟩, rfl⟩ (le rfl) (le rfl)
theorem P_pick (B : Base Z a0 EL) (hm : ("com/example/dommel/dommel/KeySpaceKeyPinLaw", 11) ∈ EL) {h : Heap} {v : Int32} {k : Nat} (hk : k < 3) : Con l Z EL false (⟨"com/example/dommel/dommel/KeySpaceKeyPinLaw", "pick", "(II)Ljava/lang/String;"⟩ : MethodName) method_3_code 4 (some (.object ST)) (RM 6 90 4 12) [] #[.int v, .int (Int32.ofNat k)] h (rR fun w h' => ∃ a, w = .ref a ∧ Ext h h' ∧ StrAt Z h' a (pk v k)) := by
  refine Con.of (plainFor_of_name (by decide +kernel)) B.1 B.2.1 ⟨[.val (.int v), .val (.int (Int32.ofNat k)), .unset, .unset]⟩ (fun m => rfl) ?_
  intro p e s m below meth c _ C
  refine Goes.old fun O => ?_
  refine C.iloadN db57_0 rfl ?_
  refine C.ldcInt db57_1 tw4 ?_
  refine C.iand db57_3 ?_
  refine C.i2c db57_4 ?_
  refine C.istoreN db57_5 rfl rfl ?_
  refine C.iloadN db57_6 rfl ?_
  refine C.bipush (16) db57_7 rfl ?_
  refine C.iushr db57_9 ?_
  refine C.ldcInt db57_10 tw4 ?_
  refine C.iand db57_12 ?_
  refine C.i2c db57_13 ?_
  refine C.istoreN db57_14 rfl rfl ?_
  refine C.iloadN db57_15 rfl ?_
  match k, hk with
  | 0, _ =>
    refine C.if_ne db57_16 (fun q => absurd rfl q) (fun _ => ?_)
    refine C.ldcS (vs := []) 0 db57_19 rfl tw5 (J_atoms B) hm ⟨by decide, rfl⟩ (by decide) (le rfl) (le rfl) (le rfl) (le rfl) ?_
    intro h1 a b E1 X1 c1 v1 A1 _
    exact C.areturn db57_21 rfl rfl rfl rfl ⟨_, rfl, a, rfl, E1, b, 0, [], X1, v1, c1, A1, Or.inl ⟨rfl, rfl, fun c hc => (nomatch hc)⟩, fun c hc => (nomatch hc), Nat.zero_le _⟩ (le rfl) (le rfl)
  | 1, _ =>
    refine C.if_ne db57_16 (fun _ => ?_) (fun q => absurd q (by decide))
    refine C.iloadN db57_22 rfl ?_
    refine C.iconst (1) db57_23 rfl ?_
    refine C.icmp_ne db57_24 (fun q => absurd rfl q) (fun _ => ?_)
    refine C.iloadN db57_27 rfl ?_
    refine C.s1R db57_28 tw17 tw18 tw6 tw19 (by decide) (by decide +kernel) rfl nof (J_valofg B (isC_c16 _)) (le rfl) (le rfl) (le rfl) (le rfl) ?_
    rintro _ h1 ⟨a, rfl, E1, S1⟩
    exact C.areturn db57_31 rfl rfl rfl rfl ⟨_, rfl, a, rfl, E1, S1⟩ (le rfl) (le rfl)
  | 2, _ =>
    refine C.if_ne db57_16 (fun _ => ?_) (fun q => absurd q (by decide))
    refine C.iloadN db57_22 rfl ?_
    refine C.iconst (1) db57_23 rfl ?_
    refine C.icmp_ne db57_24 (fun _ => ?_) (fun q => absurd q (by decide))
    refine C.new db57_32 tw208 tw7 tw6 (le rfl) (le rfl) ?_
    intro h1 a g1 E1 X1 D1
    have Fv := D1 (Or.inr (C.wrd tw9)) (ty := (.array .byte)) (by decide +kernel)
    have Fc := D1 (Or.inr (C.wrd tw10)) (ty := .byte) (by decide +kernel)
    have la := X1.lt
    refine C.dup db57_35 rfl ?_
    refine C.iconst (2) db57_36 rfl ?_
    refine C.newarray db57_37 tw209 (by decide) rfl (le rfl) (le rfl) (le rfl) ?_
    intro h2 b g2 E2 l2 A2
    replace X1 := X1.ext E2
    replace Fv := Fv.ext E2
    replace Fc := Fc.ext E2
    have ab : @Ne Nat a b := adr_ne la (Nat.le_of_eq g2.symm)
    have nb : Z.heap.size ≤ b := by have := O.1; have := E1.1; omega
    refine C.dup db57_39 rfl ?_
    refine C.iconst (0) db57_40 rfl ?_
    refine C.iloadN db57_41 rfl ?_
    refine C.castore (i := 0) db57_42 A2 (by decide) rfl (le rfl) nb ?_
    intro h3 W3 A3
    rw [nar_char (isC_c16 _)] at A3
    refine C.dup db57_43 rfl ?_
    refine C.iconst (1) db57_44 rfl ?_
    refine C.iloadN db57_45 rfl ?_
    refine C.castore (i := 1) db57_46 A3 (by decide) rfl (le rfl) nb ?_
    intro h4 W4 A4
    rw [nar_char (isC_c16 _)] at A4
    refine C.c1 db57_47 rfl tw210 tw211 tw6 tw212 (by decide) (by decide +kernel) rfl (by simp) (J_new1g (nw := true) B (cs := [q0 v, q1 v]) (pk_C v 2) (by simp) (by simp) A4 (by have := O.1; omega) ((X1.wr W3).wr W4) ((Fv.other W3 (Or.inl ab)).other W4 (Or.inl ab)) ((Fc.other W3 (Or.inl ab)).other W4 (Or.inl ab))) (le rfl) (le rfl) (le rfl) (le rfl) ?_
    rintro h5 ⟨K5, S5⟩
    exact C.areturn db57_50 rfl rfl rfl rfl ⟨_, rfl, a, rfl, ext_of_keep (ext_of_wr (ext_of_wr (ext_trans E1 E2) W3 (by have := E1.1; omega)) W4 (by have := E1.1; omega)) K5 (by simp; omega), S5⟩ (le rfl) (le rfl)
theorem P_ksi (B : Base Z a0 EL) {h : Heap} {a b : Addr} (na : Z.heap.size ≤ a) (X : Exa Z h a "com/example/dommel/dommel/KeySpace") (F : Fld Z h a "com/example/dommel/dommel/KeySpace" "prefix" "Ljava/lang/String;" .null) (Xb : Exa Z h b ST) :
    Con l Z EL false (⟨"com/example/dommel/dommel/KeySpace", "<init>", "(Ljava/lang/String;)V"⟩ : MethodName) prog_8_method_1_code 2 none (RM 1 15 2 28) [] #[.ref a, .ref b] h (rV fun h' => Keep h h' [a] ∧ Exa Z h' a "com/example/dommel/dommel/KeySpace" ∧ Fld Z h' a "com/example/dommel/dommel/KeySpace" "prefix" "Ljava/lang/String;" (.ref b)) := by
  refine Con.of (plainFor_of_name (by decide +kernel)) B.1 B.2.1 ⟨[.val (.ref a), .val (.ref b)]⟩ (fun m => rfl) ?_
  intro p e s m below meth c _ C
  refine C.aloadN db58_0 rfl rfl ?_
  refine C.initO db58_1 tw44 tw34 tw35 rfl (le rfl) (le rfl) ?_
  refine C.aloadN db58_4 rfl rfl ?_
  refine C.aloadN db58_5 rfl rfl ?_
  refine C.ldcO 24 db58_6 rfl tw45 (J_atoms B) (le rfl) (le rfl) (le rfl) (le rfl) ?_
  intro h1 sc E1
  refine C.s2R db58_8 tw46 tw47 tw48 tw49 (by decide) (by decide +kernel) rfl nof (J_rnn B) (le rfl) (le rfl) (le rfl) (le rfl) ?_
  rintro _ _ ⟨rfl, rfl⟩
  refine C.checkcast db58_11 tw50 (Ins.self (Xb.ext E1)) ?_
  refine C.putF (ty := (.object "java/lang/String")) db58_14 tw51 (F.ext E1) (X.ext E1) (Or.inr ⟨tw52, rfl, rfl⟩) tw39 (by decide +kernel) rfl rfl na (Or.inr (Or.inr ⟨by decide, by decide⟩)) ?_
  intro h2 W2
  exact C.return_ db58_17 rfl ⟨rfl, (keep_ext E1 [a]).wr W2 (Or.inl (List.mem_singleton.mpr rfl)), (X.ext E1).wr W2, (F.ext E1).same W2⟩ (le rfl) (le rfl)
def colon : List Int32 := [58]
theorem colon_L : ∀ c ∈ colon, IsL c := by intro c hc; cases List.mem_singleton.mp hc; exact ⟨by decide, by decide⟩
theorem P_key (B : Base Z a0 EL) (hm : ("com/example/dommel/dommel/KeySpace", 29) ∈ EL) {h : Heap} {a b j d : Addr} {ps js ns : List Int32} {n : Nat} (F : Fld Z h a "com/example/dommel/dommel/KeySpace" "prefix" "Ljava/lang/String;" (.ref b)) (Sp : StrAt Z h b ps) (Sj : StrAt Z h j js) (Sn : StrAt Z h d ns) (hw : Wf ns n) (h0 : ns ≠ []) (h512 : n ≤ 512) (l1 : ps.length ≤ 2) (l2 : js.length ≤ 2) (l3 : ns.length ≤ 3) :
    Con l Z EL false (⟨"com/example/dommel/dommel/KeySpace", "key", "(Ljava/lang/String;Ljava/lang/String;)Ljava/lang/String;"⟩ : MethodName) prog_8_method_2_code 3 (some (.object ST)) (RM 10 145 20 300) [] #[.ref a, .ref j, .ref d] h (rR fun v h' => ∃ r, v = .ref r ∧ Ext h h' ∧ StrAt Z h' r (ps ++ js ++ colon ++ ns)) := by
  refine Con.of (plainFor_of_name (by decide +kernel)) B.1 B.2.1 ⟨[.val (.ref a), .val (.ref j), .val (.ref d)]⟩ (fun m => rfl) ?_
  intro p e s m below meth c _ C
  refine Goes.old fun O => ?_
  have cl : colon.length = 1 := rfl
  obtain ⟨u1, e1, X1, V1, C1, A1, q1', L1, B1, I1⟩ := Sp.enc
  obtain ⟨u2, e2, X2, V2, C2, A2, q2', L2, B2, I2⟩ := Sj.enc
  obtain ⟨u3, e3, X3, V3, C3, A3, q3', L3, B3, I3⟩ := Sn.enc
  have uf : ∀ {u t : Addr}, u < h.size → h.size ≤ t → u ∉ [t] := fun h1 h2 z => adr_ne h1 h2 (List.mem_singleton.mp z)
  refine C.new db59_0 tw58 tw59 tw60 (le rfl) (le rfl) ?_
  intro h1 sb g1 E1 Y1 D1
  have G1 := D1 (Or.inl (C.wrd tw73)) (ty := (.array .byte)) (by decide +kernel)
  have G2 := D1 (Or.inl (C.wrd tw75)) (ty := .byte) (by decide +kernel)
  have G3 := D1 (Or.inl (C.wrd tw97)) (ty := .int) (by decide +kernel)
  have G4 := D1 (Or.inl (C.wrd tw292)) (ty := .boolean) (by decide +kernel)
  have nsb : Z.heap.size ≤ sb := by have := O.1; omega
  have ns1 : h.size ≤ sb := by omega
  refine C.dup db59_3 rfl ?_
  refine C.c0 db59_4 rfl tw61 tw62 tw60 tw63 (by decide) (by decide +kernel) rfl nof (J_sbiG (nw := true) B nsb Y1 G1 G2 G3 G4) (le rfl) (le rfl) (le rfl) (le rfl) ?_
  rintro h2 ⟨K2, t2, nt2, T2⟩
  have m2 : h.size ≤ t2 := Nat.le_trans E1.1 nt2
  have E2 : Ext h h2 := ext_of_keep E1 K2 (by simp; omega)
  refine Goes.mark (a := t2) m2 T2.arl.lt ?_
  refine C.aloadN db59_7 rfl rfl ?_
  refine C.getF db59_8 tw51 (F.ext E2) ?_
  refine C.v1R db59_11 tw76 tw77 tw79 tw78 tw60 tw80 (by decide) (by decide +kernel) rfl (by simp) (T2.exa) (fun _ q => notFace_of_selects q) (J_appG (nw := true) B T2 (fun q => absurd q (by decide)) (Sp.ext E2) (V1.ext E2) (C1.ext E2) (A1.ext E2) q1' (fun r c hc => ⟨(I1 c hc).1, L1 r c hc⟩) B1 I1 (uf A1.lt m2) (by show 0 + ps.length ≤ 16; omega) nsb (Nat.le_trans O.1 m2)) (le rfl) (le rfl) (le rfl) (le rfl) ?_
  rintro _ h3 ⟨rfl, K3, t3, c3, r3, T3, Q3⟩
  replace T3 : SBr Z h3 sb t3 ps c3 := T3
  have m3 : h.size ≤ t3 := by rcases r3 with r | r; rw [r]; exact m2; exact Nat.le_trans E2.1 r
  have E3 : Ext h h3 := ext_of_keep E2 K3 (by simp; omega)
  refine Goes.mark (a := t3) m3 T3.arl.lt ?_
  refine C.aloadN db59_14 rfl rfl ?_
  refine C.v1R db59_15 tw76 tw77 tw79 tw78 tw60 tw80 (by decide) (by decide +kernel) rfl (by simp) (T3.exa) (fun _ q => notFace_of_selects q) (J_appG (nw := true) B T3 Q3 (Sj.ext E3) (V2.ext E3) (C2.ext E3) (A2.ext E3) q2' (fun r c hc => ⟨(I2 c hc).1, L2 r c hc⟩) B2 I2 (uf A2.lt m3) (by omega) nsb (Nat.le_trans O.1 m3)) (le rfl) (le rfl) (le rfl) (le rfl) ?_
  rintro _ h4 ⟨rfl, K4, t4, c4, r4, T4, Q4⟩
  have m4 : h.size ≤ t4 := by rcases r4 with r | r; rw [r]; exact m3; exact Nat.le_trans E3.1 r
  have E4 : Ext h h4 := ext_of_keep E3 K4 (by simp; omega)
  refine Goes.mark (a := t4) m4 T4.arl.lt ?_
  refine C.ldcS (vs := lat colon) 4 db59_18 rfl tw123 (J_atoms B) hm ⟨by decide +kernel, by decide +kernel⟩ (by decide) (by decide +kernel) (le rfl) (le rfl) (le rfl) ?_
  intro h5 sc cb E5 Xc Fcc Fvc Ac nc
  have Sc : StrAt Z h5 sc colon := ⟨cb, 0, lat colon, Xc, Fvc, Fcc, Ac, Or.inl ⟨rfl, rfl, fun c hc => (colon_L c hc).2⟩, fun c hc => (colon_L c hc).isC, by decide⟩
  have T5 := T4.ext E5
  refine C.v1R db59_20 tw76 tw77 tw79 tw78 tw60 tw80 (by decide) (by decide +kernel) rfl (by simp) (T5.exa) (fun _ q => notFace_of_selects q) (J_appG (nw := true) B T5 Q4 Sc Fvc Fcc Ac (Or.inl rfl) (fun _ => colon_L) (fun q => absurd q (by decide)) (fun c hc => (colon_L c hc).isC) (fun z => (nc t4 (by simp)).2 (List.mem_singleton.mp z).symm) (by rw [List.length_append]; omega) nsb (Nat.le_trans O.1 m4)) (le rfl) (le rfl) (le rfl) (le rfl) ?_
  rintro _ h6 ⟨rfl, K6, t6, c6, r6, T6, Q6⟩
  have E45 := ext_trans E4 E5
  have m6 : h.size ≤ t6 := by rcases r6 with r | r; rw [r]; exact m4; exact Nat.le_trans E45.1 r
  have E6 : Ext h h6 := ext_of_keep E45 K6 (by simp; omega)
  refine Goes.add (a := t6) (by rcases r6 with r | r; exact Or.inl (by simp [r]); exact Or.inr ⟨r, T6.arl.lt⟩) ?_
  refine C.aloadN db59_23 rfl rfl ?_
  refine C.s1R db59_24 tw124 tw125 tw40 tw126 (by decide) (by decide +kernel) rfl nof (P_req B (Sn.ext E6) hw h0 (by omega) h512) (le rfl) (le rfl) (le rfl) (le rfl) ?_
  rintro _ h7 ⟨rfl, E7⟩
  have E67 := ext_trans E6 E7
  have T7 := T6.ext E7
  refine C.v1R db59_27 tw76 tw77 tw79 tw78 tw60 tw80 (by decide) (by decide +kernel) rfl (by simp) (T7.exa) (fun _ q => notFace_of_selects q) (J_appG (nw := true) B T7 Q6 (Sn.ext E67) (V3.ext E67) (C3.ext E67) (A3.ext E67) q3' (fun r c hc => ⟨(I3 c hc).1, L3 r c hc⟩) B3 I3 (uf A3.lt m6) (by rw [List.length_append, List.length_append]; omega) nsb (Nat.le_trans O.1 m6)) (le rfl) (le rfl) (le rfl) (le rfl) ?_
  rintro _ h8 ⟨rfl, K8, t8, c8, r8, T8, Q8⟩
  have E8 : Ext h h8 := ext_of_keep E67 K8 (by simp; omega)
  refine C.v0R db59_30 tw155 tw156 tw158 tw157 tw60 tw159 (by decide) (by decide +kernel) rfl nof (T8.exa) (fun _ q => notFace_of_selects q) (J_stsG B T8 Q8 (by rw [List.length_append, List.length_append, List.length_append]; omega)) (le rfl) (le rfl) (le rfl) (le rfl) ?_
  rintro _ h9 ⟨r, rfl, E9, S9⟩
  exact C.areturn db59_33 rfl rfl rfl rfl ⟨_, rfl, r, rfl, ext_trans E8 E9, S9⟩ (le rfl) (le rfl)
theorem P_at (B : Base Z a0 EL) {h : Heap} {a b d : Addr} {ps js ns : List Int32} {i : Nat} {ch : Int32} (Sp : StrAt Z h a ps) (Sj : StrAt Z h b js) (Sn : StrAt Z h d ns) (l1 : ps.length ≤ 2) (l2 : js.length ≤ 2) (l3 : ns.length ≤ 3) (hi : (ps ++ js ++ colon ++ ns)[i]? = some ch) (hc : IsC ch) :
    Con l Z EL nw (⟨"com/example/dommel/dommel/KeySpaceKeyPinLaw", "at", "(Ljava/lang/String;Ljava/lang/String;Ljava/lang/String;I)C"⟩ : MethodName) method_4_code 5 (some .char) (RM 5 67 0 0) [] #[.ref a, .ref b, .ref d, .int (Int32.ofNat i)] h (rR fun v h' => v = .int ch ∧ h = h') := by
  have cl : colon.length = 1 := rfl
  have i8 : i < 8 := by
    have := (List.getElem?_eq_some_iff.mp hi).1
    rw [List.length_append, List.length_append, List.length_append] at this; omega
  refine Con.of (plainFor_of_name (by decide +kernel)) B.1 B.2.1 ⟨[.val (.ref a), .val (.ref b), .val (.ref d), .val (.int (Int32.ofNat i)), .unset]⟩ (fun m => rfl) ?_
  intro p e s m below meth c _ C
  refine C.iloadN db60_0 rfl ?_
  refine C.aloadN db60_1 rfl rfl ?_
  refine C.v0R db60_2 tw200 tw87 tw89 tw88 tw6 tw90 (by decide) (by decide +kernel) rfl nof (Sp.exa) (fun _ q => notFace_of_selects q) (J_len B Sp) (le rfl) (le rfl) (le rfl) (le rfl) ?_
  rintro _ _ ⟨rfl, rfl⟩
  refine C.icmp_ge db60_5 (fun q => ?_) (fun q => ?_)
  · rw [ofNat_lt (by omega) (by omega)] at q
    refine C.iloadN db60_14 rfl ?_
    refine C.aloadN db60_15 rfl rfl ?_
    refine C.v0R db60_16 tw200 tw87 tw89 tw88 tw6 tw90 (by decide) (by decide +kernel) rfl nof (Sp.exa) (fun _ q => notFace_of_selects q) (J_len B Sp) (le rfl) (le rfl) (le rfl) (le rfl) ?_
    rintro _ _ ⟨rfl, rfl⟩
    refine C.isub db60_19 ?_
    rw [ofNat_sub (by omega)]
    rw [List.append_assoc, List.append_assoc, List.getElem?_append_right (by omega)] at hi
    refine C.istore db60_20 rfl rfl ?_
    refine C.iload db60_22 rfl ?_
    refine C.aloadN db60_24 rfl rfl ?_
    refine C.v0R db60_25 tw200 tw87 tw89 tw88 tw6 tw90 (by decide) (by decide +kernel) rfl nof (Sj.exa) (fun _ q => notFace_of_selects q) (J_len B Sj) (le rfl) (le rfl) (le rfl) (le rfl) ?_
    rintro _ _ ⟨rfl, rfl⟩
    refine C.icmp_ge db60_28 (fun q2 => ?_) (fun q2 => ?_)
    · rw [ofNat_lt (by omega) (by omega)] at q2
      rw [List.getElem?_append_right (by omega)] at hi
      refine C.iload db60_38 rfl ?_
      refine C.aloadN db60_40 rfl rfl ?_
      refine C.v0R db60_41 tw200 tw87 tw89 tw88 tw6 tw90 (by decide) (by decide +kernel) rfl nof (Sj.exa) (fun _ q => notFace_of_selects q) (J_len B Sj) (le rfl) (le rfl) (le rfl) (le rfl) ?_
      rintro _ _ ⟨rfl, rfl⟩
      refine C.isub db60_44 ?_
      rw [ofNat_sub (by omega)]
      refine C.istore db60_45 rfl rfl ?_
      refine C.iload db60_47 rfl ?_
      rcases Nat.eq_zero_or_pos (i - ps.length - js.length) with z | z
      · rw [z] at hi ⊢
        refine C.if_ne db60_49 (fun q3 => absurd rfl q3) (fun _ => ?_)
        obtain rfl : 58 = ch := Option.some.inj hi
        refine C.bipush (58) db60_52 rfl ?_
        exact C.ireturn db60_54 rfl (Or.inr (Or.inr (Or.inr (Or.inl rfl)))) (narrow_char hc) ⟨_, rfl, rfl, rfl⟩ (le rfl) (le rfl)
      · refine C.if_ne db60_49 (fun _ => ?_) (fun q3 => absurd (ofNat_inj (j := 0) (by omega) (by omega) q3) (by omega))
        rw [List.getElem?_append_right (by omega), cl] at hi
        have hlt := (List.getElem?_eq_some_iff.mp hi).1
        refine C.iload db60_55 rfl ?_
        refine C.iconst (1) db60_57 rfl ?_
        refine C.isub db60_58 ?_
        rw [show (1 : Int32) = Int32.ofNat 1 from rfl, ofNat_sub (by omega)]
        refine C.istore db60_59 rfl rfl ?_
        refine C.iload db60_61 rfl ?_
        refine C.aloadN db60_63 rfl rfl ?_
        refine C.v0R db60_64 tw200 tw87 tw89 tw88 tw6 tw90 (by decide) (by decide +kernel) rfl nof (Sn.exa) (fun _ q => notFace_of_selects q) (J_len B Sn) (le rfl) (le rfl) (le rfl) (le rfl) ?_
        rintro _ _ ⟨rfl, rfl⟩
        refine C.icmp_ge db60_67 (fun q4 => absurd ((ofNat_lt (by omega) (by omega)).mpr hlt) q4) (fun _ => ?_)
        refine C.aloadN db60_70 rfl rfl ?_
        refine C.iload db60_71 rfl ?_
        refine C.v1R db60_73 tw204 tw135 tw137 tw136 tw6 tw138 (by decide) (by decide +kernel) rfl nof (Sn.exa) (fun _ q => notFace_of_selects q) (J_ch B Sn hi) (le rfl) (le rfl) (le rfl) (le rfl) ?_
        rintro _ _ ⟨rfl, rfl⟩
        exact C.ireturn db60_76 rfl (Or.inr (Or.inr (Or.inr (Or.inl rfl)))) (narrow_char hc) ⟨_, rfl, rfl, rfl⟩ (le rfl) (le rfl)
    · rw [ofNat_lt (by omega) (by omega)] at q2
      rw [List.getElem?_append_left (by omega)] at hi
      refine C.aloadN db60_31 rfl rfl ?_
      refine C.iload db60_32 rfl ?_
      refine C.v1R db60_34 tw204 tw135 tw137 tw136 tw6 tw138 (by decide) (by decide +kernel) rfl nof (Sj.exa) (fun _ q => notFace_of_selects q) (J_ch B Sj hi) (le rfl) (le rfl) (le rfl) (le rfl) ?_
      rintro _ _ ⟨rfl, rfl⟩
      exact C.ireturn db60_37 rfl (Or.inr (Or.inr (Or.inr (Or.inl rfl)))) (narrow_char hc) ⟨_, rfl, rfl, rfl⟩ (le rfl) (le rfl)
  · rw [ofNat_lt (by omega) (by omega)] at q
    rw [List.append_assoc, List.append_assoc, List.getElem?_append_left (by omega)] at hi
    refine C.aloadN db60_8 rfl rfl ?_
    refine C.iloadN db60_9 rfl ?_
    refine C.v1R db60_10 tw204 tw135 tw137 tw136 tw6 tw138 (by decide) (by decide +kernel) rfl nof (Sp.exa) (fun _ q => notFace_of_selects q) (J_ch B Sp hi) (le rfl) (le rfl) (le rfl) (le rfl) ?_
    rintro _ _ ⟨rfl, rfl⟩
    exact C.ireturn db60_13 rfl (Or.inr (Or.inr (Or.inr (Or.inl rfl)))) (narrow_char hc) ⟨_, rfl, rfl, rfl⟩ (le rfl) (le rfl)
theorem P_same (B : Base Z a0 EL) {h : Heap} {k a b d : Addr} {ps js ns : List Int32} {i : Nat} (Sk : StrAt Z h k (ps ++ js ++ colon ++ ns)) (Sp : StrAt Z h a ps) (Sj : StrAt Z h b js) (Sn : StrAt Z h d ns) (l1 : ps.length ≤ 2) (l2 : js.length ≤ 2) (l3 : ns.length ≤ 3) (i8 : i < 8) :
    Con l Z EL nw (⟨"com/example/dommel/dommel/KeySpaceKeyPinLaw", "same", "(Ljava/lang/String;Ljava/lang/String;Ljava/lang/String;Ljava/lang/String;I)Z"⟩ : MethodName) method_5_code 5 (some .boolean) (RM 6 84 0 0) [] #[.ref k, .ref a, .ref b, .ref d, .int (Int32.ofNat i)] h (rR fun v h' => v = .int 1 ∧ h = h') := by
  have cl : colon.length = 1 := rfl
  have kl : (ps ++ js ++ colon ++ ns).length ≤ 8 := by rw [List.length_append, List.length_append, List.length_append]; omega
  have hC : ∀ c ∈ ps ++ js ++ colon ++ ns, IsC c := by obtain ⟨-, -, -, -, -, -, -, -, r, -⟩ := Sk; exact r
  refine Con.of (plainFor_of_name (by decide +kernel)) B.1 B.2.1 ⟨[.val (.ref k), .val (.ref a), .val (.ref b), .val (.ref d), .val (.int (Int32.ofNat i))]⟩ (fun m => rfl) ?_
  intro p e s m below meth c _ C
  refine C.iload db61_0 rfl ?_
  refine C.aloadN db61_2 rfl rfl ?_
  refine C.v0R db61_3 tw200 tw87 tw89 tw88 tw6 tw90 (by decide) (by decide +kernel) rfl nof (Sk.exa) (fun _ q => notFace_of_selects q) (J_len B Sk) (le rfl) (le rfl) (le rfl) (le rfl) ?_
  rintro _ _ ⟨rfl, rfl⟩
  refine C.icmp_lt db61_6 (fun q => ?_) (fun q => ?_)
  · rw [ofNat_lt (by omega) (by omega)] at q
    have hch : (ps ++ js ++ colon ++ ns)[i]? = some (ps ++ js ++ colon ++ ns)[i] := List.getElem?_eq_getElem q
    generalize (ps ++ js ++ colon ++ ns)[i] = ch at hch
    have hc := hC ch (List.mem_of_getElem? hch)
    refine C.aloadN db61_11 rfl rfl ?_
    refine C.iload db61_12 rfl ?_
    refine C.v1R db61_14 tw204 tw135 tw137 tw136 tw6 tw138 (by decide) (by decide +kernel) rfl nof (Sk.exa) (fun _ q => notFace_of_selects q) (J_ch B Sk hch) (le rfl) (le rfl) (le rfl) (le rfl) ?_
    rintro _ _ ⟨rfl, rfl⟩
    refine C.aloadN db61_17 rfl rfl ?_
    refine C.aloadN db61_18 rfl rfl ?_
    refine C.aloadN db61_19 rfl rfl ?_
    refine C.iload db61_20 rfl ?_
    refine C.s4R db61_22 tw205 tw206 tw2 tw207 (by decide) (by decide +kernel) rfl nof (P_at B Sp Sj Sn l1 l2 l3 hch hc) (le rfl) (le rfl) (le rfl) (le rfl) ?_
    rintro _ _ ⟨rfl, rfl⟩
    refine C.icmp_ne db61_25 (fun z => absurd rfl z) (fun _ => ?_)
    refine C.iconst (1) db61_28 rfl ?_
    refine C.goto db61_29 ?_
    exact C.ireturn db61_33 rfl (Or.inr (Or.inl rfl)) rfl ⟨_, rfl, rfl, rfl⟩ (le rfl) (le rfl)
  · refine C.iconst (1) db61_9 rfl ?_
    exact C.ireturn db61_10 rfl (Or.inr (Or.inl rfl)) rfl ⟨_, rfl, rfl, rfl⟩ (le rfl) (le rfl)
theorem P_law (B : Base Z a0 consts_1) {x0 x1 x2 x3 x4 : Int32} : Con l Z consts_1 false x code maxLocals ret room_1 [] #[.int x0, .int x1, .int x2, .int x3, .int x4] Z.heap (rR fun v _ => v = .int 1) := by
  have hm11 : ("com/example/dommel/dommel/KeySpaceKeyPinLaw", 11) ∈ consts_1 := by decide
  have hm29 : ("com/example/dommel/dommel/KeySpace", 29) ∈ consts_1 := by decide
  refine Con.of (plainFor_of_name (by decide +kernel)) B.1 B.2.1 ⟨[.val (.int x0), .val (.int x1), .val (.int x2), .val (.int x3), .val (.int x4), .unset, .unset, .unset, .unset, .unset, .unset, .unset, .unset]⟩ (fun m => rfl) ?_
  intro p e s m below meth c _ C
  have e3 : (3 : Int32).toInt = 3 := rfl
  have hA := c_and x4 3 (by decide)
  have hA2 := (c_irem (x4 &&& 3) 3 3 rfl).1 hA.1
  obtain ⟨kA, hkA, eA⟩ := nat_of (M := 3) (by rw [hA2]; omega) (by rw [hA2]; omega) (by decide)
  have hB := c_and (XT.ushr x4 2) 3 (by decide)
  have hB2 := (c_irem (XT.ushr x4 2 &&& 3) 3 3 rfl).1 hB.1
  obtain ⟨kB, hkB, eB⟩ := nat_of (M := 3) (by rw [hB2]; omega) (by rw [hB2]; omega) (by decide)
  have hC := c_and (XT.ushr x4 4) 3 (by decide)
  obtain ⟨md, hmd, eC⟩ := nat_of (M := 4) hC.1 (by omega) (by decide)
  have p1 := pk_len x0 kA
  have p2 := pk_len x1 kB
  have tail : ∀ (w : Nat) (h4 : Heap) (a b d : Addr) (ns : List Int32) (n : Nat) (y1 y2 : Slot), okS y1 = true → okS y2 = true → Ext Z.heap h4 → StrAt Z h4 a (pk x0 kA) → StrAt Z h4 b (pk x1 kB) → StrAt Z h4 d ns → Wf ns n → n ≤ 512 → ns ≠ [] → ns.length ≤ 3 → OwnW.Goes p l e room_1 s m #[.int x0, .int x1, .int x2, .int x3, .int x4] below meth c Z consts_1 false (rR fun v _ => v = .int 1) [] w h4 16 100 (mkF m 201 ⟨[.val (.int x0), .val (.int x1), .val (.int x2), .val (.int x3), .val (.int x4), .val (.int (Int32.ofNat kA)), .val (.int (Int32.ofNat kB)), .val (.int (Int32.ofNat md)), .val (.ref a), .val (.ref b), .val (.ref d), y1, y2]⟩ []) := by
    intro w h4 a b d ns n y1 y2 ok1 ok2 O4 Sa Sb Sd hw hn h0 l3
    have cl : colon.length = 1 := rfl
    refine C.new dL_201 tw38 tw39 tw40 (le rfl) (le rfl) ?_
    intro h5 f g5 E5 X5 D5
    have F5 := D5 (Or.inr (C.wrd tw52)) (ty := (.object "java/lang/String")) (by decide +kernel)
    have nf : Z.heap.size ≤ f := by have := O4.1; omega
    refine C.dup dL_204 rfl ?_
    refine C.aload dL_205 rfl rfl ?_
    refine C.c1 dL_207 rfl tw41 tw42 tw40 tw43 (by decide) (by decide +kernel) rfl nof (P_ksi B nf X5 F5 (Sa.exa.ext E5)) (le rfl) (le rfl) (le rfl) (le rfl) ?_
    rintro h6 ⟨K6, X6, F6⟩
    have E6 : Ext h4 h6 := ext_of_keep E5 K6 (by simp; omega)
    refine C.astore dL_210 rfl rfl ok1 ?_
    refine C.aload dL_212 rfl rfl ?_
    refine C.aload dL_214 rfl rfl ?_
    refine C.aload dL_216 rfl rfl ?_
    refine C.v2R dL_218 tw53 tw54 tw56 tw55 tw40 tw57 (by decide) (by decide +kernel) rfl nof (X6) (fun _ q => notFace_of_selects q) (P_key B hm29 F6 (Sa.ext E6) (Sb.ext E6) (Sd.ext E6) hw h0 hn p1 p2 l3) (le rfl) (le rfl) (le rfl) (le rfl) ?_
    rintro _ h7 ⟨r, rfl, E7, S7⟩
    have E47 := ext_trans E6 E7
    replace Sa := Sa.ext E47
    replace Sb := Sb.ext E47
    replace Sd := Sd.ext E47
    refine C.astore dL_221 rfl rfl ok2 ?_
    refine C.aload dL_223 rfl rfl ?_
    refine C.v0R dL_225 tw200 tw87 tw89 tw88 tw6 tw90 (by decide) (by decide +kernel) rfl nof (S7.exa) (fun _ q => notFace_of_selects q) (J_len B S7) (le rfl) (le rfl) (le rfl) (le rfl) ?_
    rintro _ _ ⟨rfl, rfl⟩
    refine C.aload dL_228 rfl rfl ?_
    refine C.v0R dL_230 tw200 tw87 tw89 tw88 tw6 tw90 (by decide) (by decide +kernel) rfl nof (Sa.exa) (fun _ q => notFace_of_selects q) (J_len B Sa) (le rfl) (le rfl) (le rfl) (le rfl) ?_
    rintro _ _ ⟨rfl, rfl⟩
    refine C.aload dL_233 rfl rfl ?_
    refine C.v0R dL_235 tw200 tw87 tw89 tw88 tw6 tw90 (by decide) (by decide +kernel) rfl nof (Sb.exa) (fun _ q => notFace_of_selects q) (J_len B Sb) (le rfl) (le rfl) (le rfl) (le rfl) ?_
    rintro _ _ ⟨rfl, rfl⟩
    refine C.iadd dL_238 ?_
    rw [← Int32.ofNat_add]
    refine C.iconst (1) dL_239 rfl ?_
    refine C.iadd dL_240 ?_
    rw [ofNat_succ]
    refine C.aload dL_241 rfl rfl ?_
    refine C.v0R dL_243 tw200 tw87 tw89 tw88 tw6 tw90 (by decide) (by decide +kernel) rfl nof (Sd.exa) (fun _ q => notFace_of_selects q) (J_len B Sd) (le rfl) (le rfl) (le rfl) (le rfl) ?_
    rintro _ _ ⟨rfl, rfl⟩
    refine C.iadd dL_246 ?_
    rw [← Int32.ofNat_add, show (pk x0 kA ++ pk x1 kB ++ colon ++ ns).length = (pk x0 kA).length + (pk x1 kB).length + 1 + ns.length from by rw [List.length_append, List.length_append, List.length_append, cl]]
    refine C.icmp_ne dL_247 (fun q => absurd rfl q) (fun _ => ?_)
    refine C.aload dL_250 rfl rfl ?_
    refine C.aload dL_252 rfl rfl ?_
    refine C.aload dL_254 rfl rfl ?_
    refine C.aload dL_256 rfl rfl ?_
    refine C.iconst (0) dL_258 rfl ?_
    refine C.s5R dL_259 tw201 tw202 tw2 tw203 (by decide) (by decide +kernel) rfl nof (P_same (i := 0) B S7 Sa Sb Sd p1 p2 l3 (by decide)) (le rfl) (le rfl) (le rfl) (le rfl) ?_
    rintro _ _ ⟨rfl, rfl⟩
    refine C.if_eq dL_262 (fun q => absurd q (by decide)) (fun _ => ?_)
    refine C.aload dL_265 rfl rfl ?_
    refine C.aload dL_267 rfl rfl ?_
    refine C.aload dL_269 rfl rfl ?_
    refine C.aload dL_271 rfl rfl ?_
    refine C.iconst (1) dL_273 rfl ?_
    refine C.s5R dL_274 tw201 tw202 tw2 tw203 (by decide) (by decide +kernel) rfl nof (P_same (i := 1) B S7 Sa Sb Sd p1 p2 l3 (by decide)) (le rfl) (le rfl) (le rfl) (le rfl) ?_
    rintro _ _ ⟨rfl, rfl⟩
    refine C.if_eq dL_277 (fun q => absurd q (by decide)) (fun _ => ?_)
    refine C.aload dL_280 rfl rfl ?_
    refine C.aload dL_282 rfl rfl ?_
    refine C.aload dL_284 rfl rfl ?_
    refine C.aload dL_286 rfl rfl ?_
    refine C.iconst (2) dL_288 rfl ?_
    refine C.s5R dL_289 tw201 tw202 tw2 tw203 (by decide) (by decide +kernel) rfl nof (P_same (i := 2) B S7 Sa Sb Sd p1 p2 l3 (by decide)) (le rfl) (le rfl) (le rfl) (le rfl) ?_
    rintro _ _ ⟨rfl, rfl⟩
    refine C.if_eq dL_292 (fun q => absurd q (by decide)) (fun _ => ?_)
    refine C.aload dL_295 rfl rfl ?_
    refine C.aload dL_297 rfl rfl ?_
    refine C.aload dL_299 rfl rfl ?_
    refine C.aload dL_301 rfl rfl ?_
    refine C.iconst (3) dL_303 rfl ?_
    refine C.s5R dL_304 tw201 tw202 tw2 tw203 (by decide) (by decide +kernel) rfl nof (P_same (i := 3) B S7 Sa Sb Sd p1 p2 l3 (by decide)) (le rfl) (le rfl) (le rfl) (le rfl) ?_
    rintro _ _ ⟨rfl, rfl⟩
    refine C.if_eq dL_307 (fun q => absurd q (by decide)) (fun _ => ?_)
    refine C.aload dL_310 rfl rfl ?_
    refine C.aload dL_312 rfl rfl ?_
    refine C.aload dL_314 rfl rfl ?_
    refine C.aload dL_316 rfl rfl ?_
    refine C.iconst (4) dL_318 rfl ?_
    refine C.s5R dL_319 tw201 tw202 tw2 tw203 (by decide) (by decide +kernel) rfl nof (P_same (i := 4) B S7 Sa Sb Sd p1 p2 l3 (by decide)) (le rfl) (le rfl) (le rfl) (le rfl) ?_
    rintro _ _ ⟨rfl, rfl⟩
    refine C.if_eq dL_322 (fun q => absurd q (by decide)) (fun _ => ?_)
    refine C.aload dL_325 rfl rfl ?_
    refine C.aload dL_327 rfl rfl ?_
    refine C.aload dL_329 rfl rfl ?_
    refine C.aload dL_331 rfl rfl ?_
    refine C.iconst (5) dL_333 rfl ?_
    refine C.s5R dL_334 tw201 tw202 tw2 tw203 (by decide) (by decide +kernel) rfl nof (P_same (i := 5) B S7 Sa Sb Sd p1 p2 l3 (by decide)) (le rfl) (le rfl) (le rfl) (le rfl) ?_
    rintro _ _ ⟨rfl, rfl⟩
    refine C.if_eq dL_337 (fun q => absurd q (by decide)) (fun _ => ?_)
    refine C.aload dL_340 rfl rfl ?_
    refine C.aload dL_342 rfl rfl ?_
    refine C.aload dL_344 rfl rfl ?_
    refine C.aload dL_346 rfl rfl ?_
    refine C.bipush (6) dL_348 rfl ?_
    refine C.s5R dL_350 tw201 tw202 tw2 tw203 (by decide) (by decide +kernel) rfl nof (P_same (i := 6) B S7 Sa Sb Sd p1 p2 l3 (by decide)) (le rfl) (le rfl) (le rfl) (le rfl) ?_
    rintro _ _ ⟨rfl, rfl⟩
    refine C.if_eq dL_353 (fun q => absurd q (by decide)) (fun _ => ?_)
    refine C.aload dL_356 rfl rfl ?_
    refine C.aload dL_358 rfl rfl ?_
    refine C.aload dL_360 rfl rfl ?_
    refine C.aload dL_362 rfl rfl ?_
    refine C.bipush (7) dL_364 rfl ?_
    refine C.s5R dL_366 tw201 tw202 tw2 tw203 (by decide) (by decide +kernel) rfl nof (P_same (i := 7) B S7 Sa Sb Sd p1 p2 l3 (by decide)) (le rfl) (le rfl) (le rfl) (le rfl) ?_
    rintro _ _ ⟨rfl, rfl⟩
    refine C.if_eq dL_369 (fun q => absurd q (by decide)) (fun _ => ?_)
    refine C.iconst (1) dL_372 rfl ?_
    refine C.goto dL_373 ?_
    exact C.ireturn dL_377 rfl (Or.inr (Or.inl rfl)) rfl ⟨_, rfl, rfl⟩ (le rfl) (le rfl)
  refine C.iload dL_0 rfl ?_
  refine C.iconst (3) dL_2 rfl ?_
  refine C.iand dL_3 ?_
  refine C.iconst (3) dL_4 rfl ?_
  refine C.irem dL_5 (by decide) ?_
  rw [eA]
  refine C.istore dL_6 rfl rfl ?_
  refine C.iload dL_8 rfl ?_
  refine C.iconst (2) dL_10 rfl ?_
  refine C.iushr dL_11 ?_
  refine C.iconst (3) dL_12 rfl ?_
  refine C.iand dL_13 ?_
  refine C.iconst (3) dL_14 rfl ?_
  refine C.irem dL_15 (by decide) ?_
  rw [eB]
  refine C.istore dL_16 rfl rfl ?_
  refine C.iload dL_18 rfl ?_
  refine C.iconst (4) dL_20 rfl ?_
  refine C.iushr dL_21 ?_
  refine C.iconst (3) dL_22 rfl ?_
  refine C.iand dL_23 ?_
  rw [eC]
  refine C.istore dL_24 rfl rfl ?_
  refine C.iloadN dL_26 rfl ?_
  refine C.iload dL_27 rfl ?_
  refine C.s2R dL_29 tw0 tw1 tw2 tw3 (by decide) (by decide +kernel) rfl nof (P_pick B hm11 hkA) (le rfl) (le rfl) (le rfl) (le rfl) ?_
  rintro _ h1 ⟨a, rfl, E1, S1⟩
  refine C.astore dL_32 rfl rfl rfl ?_
  refine C.iloadN dL_34 rfl ?_
  refine C.iload dL_35 rfl ?_
  refine C.s2R dL_37 tw0 tw1 tw2 tw3 (by decide) (by decide +kernel) rfl nof (P_pick B hm11 hkB) (le rfl) (le rfl) (le rfl) (le rfl) ?_
  rintro _ h2 ⟨b, rfl, E2, S2⟩
  replace S1 := S1.ext E2
  have O2 := ext_trans E1 E2
  refine C.astore dL_40 rfl rfl rfl ?_
  refine C.iload dL_42 rfl ?_
  match md, hmd with
  | 0, _ =>
    refine C.if_ne dL_44 (fun q => absurd rfl q) (fun _ => ?_)
    refine C.iloadN dL_47 rfl ?_
    refine C.s1R dL_48 tw13 tw14 tw2 tw15 (by decide) (by decide +kernel) rfl nof (P_safe (nw := true) B) (le rfl) (le rfl) (le rfl) (le rfl) ?_
    rintro _ _ ⟨⟨c0, rfl, n0⟩, rfl⟩
    refine C.s1R dL_51 tw17 tw18 tw6 tw19 (by decide) (by decide +kernel) rfl nof (J_valofg (nw := true) B n0.isC) (le rfl) (le rfl) (le rfl) (le rfl) ?_
    rintro _ h3 ⟨d, rfl, E3, S3⟩
    obtain ⟨k, hk, hw⟩ := n0.wf .nil
    refine C.astore dL_54 rfl rfl rfl ?_
    refine C.goto dL_56 ?_
    exact Goes.more (le rfl) (le rfl) (tail _ _ _ _ _ _ _ _ _ rfl rfl (ext_trans O2 E3) (S1.ext E3) (S2.ext E3) S3 hw (by omega) (by simp) (by simp))
  | 1, _ =>
    refine C.if_ne dL_44 (fun _ => ?_) (fun q => absurd q (by decide))
    refine C.iload dL_59 rfl ?_
    refine C.iconst (1) dL_61 rfl ?_
    refine C.icmp_ne dL_62 (fun q => absurd rfl q) (fun _ => ?_)
    refine C.new dL_65 tw208 tw7 tw6 (le rfl) (le rfl) ?_
    intro h3 d g3 E3 X3 D3
    have Fv := D3 (Or.inr (C.wrd tw9)) (ty := (.array .byte)) (by decide +kernel)
    have Fc := D3 (Or.inr (C.wrd tw10)) (ty := .byte) (by decide +kernel)
    have la := X3.lt
    refine C.dup dL_68 rfl ?_
    refine C.iconst (2) dL_69 rfl ?_
    refine C.newarray dL_70 tw209 (by decide) rfl (le rfl) (le rfl) (le rfl) ?_
    intro h4 u g4 E4 l4 A4
    replace X3 := X3.ext E4
    replace Fv := Fv.ext E4
    replace Fc := Fc.ext E4
    have ab : @Ne Nat d u := adr_ne la (Nat.le_of_eq g4.symm)
    have nb : Z.heap.size ≤ u := by have := O2.1; have := E3.1; omega
    have EE := ext_trans E3 E4
    refine C.dup dL_72 rfl ?_
    refine C.iconst (0) dL_73 rfl ?_
    refine C.iloadN dL_74 rfl ?_
    refine C.s1R dL_75 tw13 tw14 tw2 tw15 (by decide) (by decide +kernel) rfl nof (P_safe (nw := true) B) (le rfl) (le rfl) (le rfl) (le rfl) ?_
    rintro _ _ ⟨⟨c0, rfl, n0⟩, rfl⟩
    refine C.castore (i := 0) dL_78 A4 (by decide) rfl (le rfl) nb ?_
    intro h10 W10 A5
    rw [nar_char n0.isC] at A5
    replace EE := ext_of_wr EE W10 (by have := E3.1; omega)
    replace X3 := X3.wr W10
    replace Fv := Fv.other W10 (Or.inl ab)
    replace Fc := Fc.other W10 (Or.inl ab)
    clear A4
    have A4 := A5
    clear A5
    refine C.dup dL_79 rfl ?_
    refine C.iconst (1) dL_80 rfl ?_
    refine C.iloadN dL_81 rfl ?_
    refine C.s1R dL_82 tw13 tw14 tw2 tw15 (by decide) (by decide +kernel) rfl nof (P_safe (nw := true) B) (le rfl) (le rfl) (le rfl) (le rfl) ?_
    rintro _ _ ⟨⟨c1, rfl, n1⟩, rfl⟩
    refine C.castore (i := 1) dL_85 A4 (by decide) rfl (le rfl) nb ?_
    intro h11 W11 A5
    rw [nar_char n1.isC] at A5
    replace EE := ext_of_wr EE W11 (by have := E3.1; omega)
    replace X3 := X3.wr W11
    replace Fv := Fv.other W11 (Or.inl ab)
    replace Fc := Fc.other W11 (Or.inl ab)
    clear A4
    have A4 := A5
    clear A5
    obtain ⟨k1, hk1, hw1⟩ := n1.wf .nil
    obtain ⟨k, hk, hw⟩ := n0.wf hw1
    refine C.c1 dL_86 rfl tw210 tw211 tw6 tw212 (by decide) (by decide +kernel) rfl (by simp) (J_new1g (nw := true) B (cs := [c0, c1]) (by intro c hc; simp only [List.mem_cons, List.not_mem_nil, or_false] at hc; rcases hc with rfl | rfl; exact n0.isC; exact n1.isC) (by simp) (by simp) A4 (by have := O2.1; omega) X3 Fv Fc) (le rfl) (le rfl) (le rfl) (le rfl) ?_
    rintro h9 ⟨K9, S9⟩
    have E9 := ext_of_keep EE K9 (by simp; omega)
    refine C.astore dL_89 rfl rfl rfl ?_
    refine C.goto dL_91 ?_
    exact Goes.more (le rfl) (le rfl) (Goes.less (F' := []) nof0 (tail _ _ _ _ _ _ _ _ _ rfl rfl (ext_trans O2 E9) (S1.ext E9) (S2.ext E9) S9 hw (by omega) (by simp) (by simp)))
  | 2, _ =>
    refine C.if_ne dL_44 (fun _ => ?_) (fun q => absurd q (by decide))
    refine C.iload dL_59 rfl ?_
    refine C.iconst (1) dL_61 rfl ?_
    refine C.icmp_ne dL_62 (fun _ => ?_) (fun q => absurd q (by decide))
    refine C.iload dL_94 rfl ?_
    refine C.iconst (2) dL_96 rfl ?_
    refine C.icmp_ne dL_97 (fun q => absurd rfl q) (fun _ => ?_)
    have ya := c_and x2 1023 (by decide)
    have fa : (1023 : Int32).toInt = 1023 := rfl
    have ga : (55296 : Int32).toInt = 55296 := rfl
    have oa := c_or 55296 (x2 &&& 1023) 10 (by decide) 1024 rfl (by rw [ga]; decide) ya.1 (by omega)
    have ra := b32 (55296 ||| (x2 &&& 1023))
    have za : (55296 ||| (x2 &&& 1023)).toInt = 55296 + (x2 &&& 1023).toInt := by omega
    have ia : IsC (55296 ||| (x2 &&& 1023)) := by rw [isC_iff]; omega
    have yb := c_and x3 1023 (by decide)
    have fb : (1023 : Int32).toInt = 1023 := rfl
    have gb : (56320 : Int32).toInt = 56320 := rfl
    have ob := c_or 56320 (x3 &&& 1023) 10 (by decide) 1024 rfl (by rw [gb]; decide) yb.1 (by omega)
    have rb := b32 (56320 ||| (x3 &&& 1023))
    have zb : (56320 ||| (x3 &&& 1023)).toInt = 56320 + (x3 &&& 1023).toInt := by omega
    have ib : IsC (56320 ||| (x3 &&& 1023)) := by rw [isC_iff]; omega
    refine C.ldcInt dL_100 tw16 ?_
    refine C.iloadN dL_102 rfl ?_
    refine C.sipush (1023) dL_103 rfl ?_
    refine C.iand dL_106 ?_
    refine C.ior dL_107 ?_
    refine C.i2c dL_108 ?_
    rw [c16_of ia]
    refine C.istore dL_109 rfl rfl ?_
    refine C.ldcInt dL_111 tw226 ?_
    refine C.iloadN dL_113 rfl ?_
    refine C.sipush (1023) dL_114 rfl ?_
    refine C.iand dL_117 ?_
    refine C.ior dL_118 ?_
    refine C.i2c dL_119 ?_
    rw [c16_of ib]
    refine C.istore dL_120 rfl rfl ?_
    generalize (55296 ||| (x2 &&& 1023)) = c0 at za ia
    generalize (56320 ||| (x3 &&& 1023)) = c1 at zb ib
    refine C.new dL_122 tw208 tw7 tw6 (le rfl) (le rfl) ?_
    intro h3 d g3 E3 X3 D3
    have Fv := D3 (Or.inr (C.wrd tw9)) (ty := (.array .byte)) (by decide +kernel)
    have Fc := D3 (Or.inr (C.wrd tw10)) (ty := .byte) (by decide +kernel)
    have la := X3.lt
    refine C.dup dL_125 rfl ?_
    refine C.iconst (2) dL_126 rfl ?_
    refine C.newarray dL_127 tw209 (by decide) rfl (le rfl) (le rfl) (le rfl) ?_
    intro h4 u g4 E4 l4 A4
    replace X3 := X3.ext E4
    replace Fv := Fv.ext E4
    replace Fc := Fc.ext E4
    have ab : @Ne Nat d u := adr_ne la (Nat.le_of_eq g4.symm)
    have nb : Z.heap.size ≤ u := by have := O2.1; have := E3.1; omega
    have EE := ext_trans E3 E4
    refine C.dup dL_129 rfl ?_
    refine C.iconst (0) dL_130 rfl ?_
    refine C.iload dL_131 rfl ?_
    refine C.castore (i := 0) dL_133 A4 (by decide) rfl (le rfl) nb ?_
    intro h10 W10 A5
    rw [nar_char ia] at A5
    replace EE := ext_of_wr EE W10 (by have := E3.1; omega)
    replace X3 := X3.wr W10
    replace Fv := Fv.other W10 (Or.inl ab)
    replace Fc := Fc.other W10 (Or.inl ab)
    clear A4
    have A4 := A5
    clear A5
    refine C.dup dL_134 rfl ?_
    refine C.iconst (1) dL_135 rfl ?_
    refine C.iload dL_136 rfl ?_
    refine C.castore (i := 1) dL_138 A4 (by decide) rfl (le rfl) nb ?_
    intro h11 W11 A5
    rw [nar_char ib] at A5
    replace EE := ext_of_wr EE W11 (by have := E3.1; omega)
    replace X3 := X3.wr W11
    replace Fv := Fv.other W11 (Or.inl ab)
    replace Fc := Fc.other W11 (Or.inl ab)
    clear A4
    have A4 := A5
    clear A5
    have hw : Wf [c0, c1] (0 + 4) := .pair (by omega) (by omega) (by omega) (by omega) .nil
    refine C.c1 dL_139 rfl tw210 tw211 tw6 tw212 (by decide) (by decide +kernel) rfl (by simp) (J_new1g (nw := true) B (cs := [c0, c1]) (by intro c hc; simp only [List.mem_cons, List.not_mem_nil, or_false] at hc; rcases hc with rfl | rfl; exact ia; exact ib) (by simp) (by simp) A4 (by have := O2.1; omega) X3 Fv Fc) (le rfl) (le rfl) (le rfl) (le rfl) ?_
    rintro h9 ⟨K9, S9⟩
    have E9 := ext_of_keep EE K9 (by simp; omega)
    refine C.astore dL_142 rfl rfl rfl ?_
    refine C.goto dL_144 ?_
    exact Goes.more (le rfl) (le rfl) (Goes.less (F' := []) nof0 (tail _ _ _ _ _ _ _ _ _ rfl rfl (ext_trans O2 E9) (S1.ext E9) (S2.ext E9) S9 hw (by omega) (by simp) (by simp)))
  | 3, _ =>
    refine C.if_ne dL_44 (fun _ => ?_) (fun q => absurd q (by decide))
    refine C.iload dL_59 rfl ?_
    refine C.iconst (1) dL_61 rfl ?_
    refine C.icmp_ne dL_62 (fun _ => ?_) (fun q => absurd q (by decide))
    refine C.iload dL_94 rfl ?_
    refine C.iconst (2) dL_96 rfl ?_
    refine C.icmp_ne dL_97 (fun _ => ?_) (fun q => absurd q (by decide))
    have ya := c_and x3 1023 (by decide)
    have fa : (1023 : Int32).toInt = 1023 := rfl
    have ga : (55296 : Int32).toInt = 55296 := rfl
    have oa := c_or 55296 (x3 &&& 1023) 10 (by decide) 1024 rfl (by rw [ga]; decide) ya.1 (by omega)
    have ra := b32 (55296 ||| (x3 &&& 1023))
    have za : (55296 ||| (x3 &&& 1023)).toInt = 55296 + (x3 &&& 1023).toInt := by omega
    have ia : IsC (55296 ||| (x3 &&& 1023)) := by rw [isC_iff]; omega
    obtain ⟨v10, hv10⟩ : ∃ v, XT.ushr x3 10 = v := ⟨_, rfl⟩
    have yb := c_and v10 1023 (by decide)
    have fb : (1023 : Int32).toInt = 1023 := rfl
    have gb : (56320 : Int32).toInt = 56320 := rfl
    have ob := c_or 56320 (v10 &&& 1023) 10 (by decide) 1024 rfl (by rw [gb]; decide) yb.1 (by omega)
    have rb := b32 (56320 ||| (v10 &&& 1023))
    have zb : (56320 ||| (v10 &&& 1023)).toInt = 56320 + (v10 &&& 1023).toInt := by omega
    have ib : IsC (56320 ||| (v10 &&& 1023)) := by rw [isC_iff]; omega
    refine C.ldcInt dL_147 tw16 ?_
    refine C.iloadN dL_149 rfl ?_
    refine C.sipush (1023) dL_150 rfl ?_
    refine C.iand dL_153 ?_
    refine C.ior dL_154 ?_
    refine C.i2c dL_155 ?_
    rw [c16_of ia]
    refine C.istore dL_156 rfl rfl ?_
    refine C.ldcInt dL_158 tw226 ?_
    refine C.iloadN dL_160 rfl ?_
    refine C.bipush (10) dL_161 rfl ?_
    refine C.iushr dL_163 ?_
    rw [hv10]
    refine C.sipush (1023) dL_164 rfl ?_
    refine C.iand dL_167 ?_
    refine C.ior dL_168 ?_
    refine C.i2c dL_169 ?_
    rw [c16_of ib]
    refine C.istore dL_170 rfl rfl ?_
    generalize (55296 ||| (x3 &&& 1023)) = c1 at za ia
    generalize (56320 ||| (v10 &&& 1023)) = c2 at zb ib
    refine C.new dL_172 tw208 tw7 tw6 (le rfl) (le rfl) ?_
    intro h3 d g3 E3 X3 D3
    have Fv := D3 (Or.inr (C.wrd tw9)) (ty := (.array .byte)) (by decide +kernel)
    have Fc := D3 (Or.inr (C.wrd tw10)) (ty := .byte) (by decide +kernel)
    have la := X3.lt
    refine C.dup dL_175 rfl ?_
    refine C.iconst (3) dL_176 rfl ?_
    refine C.newarray dL_177 tw209 (by decide) rfl (le rfl) (le rfl) (le rfl) ?_
    intro h4 u g4 E4 l4 A4
    replace X3 := X3.ext E4
    replace Fv := Fv.ext E4
    replace Fc := Fc.ext E4
    have ab : @Ne Nat d u := adr_ne la (Nat.le_of_eq g4.symm)
    have nb : Z.heap.size ≤ u := by have := O2.1; have := E3.1; omega
    have EE := ext_trans E3 E4
    refine C.dup dL_179 rfl ?_
    refine C.iconst (0) dL_180 rfl ?_
    refine C.iloadN dL_181 rfl ?_
    refine C.s1R dL_182 tw13 tw14 tw2 tw15 (by decide) (by decide +kernel) rfl nof (P_safe (nw := true) B) (le rfl) (le rfl) (le rfl) (le rfl) ?_
    rintro _ _ ⟨⟨c0, rfl, n0⟩, rfl⟩
    refine C.castore (i := 0) dL_185 A4 (by decide) rfl (le rfl) nb ?_
    intro h10 W10 A5
    rw [nar_char n0.isC] at A5
    replace EE := ext_of_wr EE W10 (by have := E3.1; omega)
    replace X3 := X3.wr W10
    replace Fv := Fv.other W10 (Or.inl ab)
    replace Fc := Fc.other W10 (Or.inl ab)
    clear A4
    have A4 := A5
    clear A5
    refine C.dup dL_186 rfl ?_
    refine C.iconst (1) dL_187 rfl ?_
    refine C.iload dL_188 rfl ?_
    refine C.castore (i := 1) dL_190 A4 (by decide) rfl (le rfl) nb ?_
    intro h11 W11 A5
    rw [nar_char ia] at A5
    replace EE := ext_of_wr EE W11 (by have := E3.1; omega)
    replace X3 := X3.wr W11
    replace Fv := Fv.other W11 (Or.inl ab)
    replace Fc := Fc.other W11 (Or.inl ab)
    clear A4
    have A4 := A5
    clear A5
    refine C.dup dL_191 rfl ?_
    refine C.iconst (2) dL_192 rfl ?_
    refine C.iload dL_193 rfl ?_
    refine C.castore (i := 2) dL_195 A4 (by decide) rfl (le rfl) nb ?_
    intro h12 W12 A5
    rw [nar_char ib] at A5
    replace EE := ext_of_wr EE W12 (by have := E3.1; omega)
    replace X3 := X3.wr W12
    replace Fv := Fv.other W12 (Or.inl ab)
    replace Fc := Fc.other W12 (Or.inl ab)
    clear A4
    have A4 := A5
    clear A5
    have hw1 : Wf [c1, c2] (0 + 4) := .pair (by omega) (by omega) (by omega) (by omega) .nil
    obtain ⟨k, hk, hw⟩ := n0.wf hw1
    refine C.c1 dL_196 rfl tw210 tw211 tw6 tw212 (by decide) (by decide +kernel) rfl (by simp) (J_new1g (nw := true) B (cs := [c0, c1, c2]) (by intro c hc; simp only [List.mem_cons, List.not_mem_nil, or_false] at hc; rcases hc with rfl | rfl | rfl; exact n0.isC; exact ia; exact ib) (by simp) (by simp) A4 (by have := O2.1; omega) X3 Fv Fc) (le rfl) (le rfl) (le rfl) (le rfl) ?_
    rintro h9 ⟨K9, S9⟩
    have E9 := ext_of_keep EE K9 (by simp; omega)
    refine C.astore dL_199 rfl rfl rfl ?_
    exact Goes.more (le rfl) (le rfl) (Goes.less (F' := []) nof0 (tail _ _ _ _ _ _ _ _ _ rfl rfl (ext_trans O2 E9) (S1.ext E9) (S2.ext E9) S9 hw (by omega) (by simp) (by simp)))
  | n + 4, hmd => omega
theorem comes_1 {Post : Tables → Env → Array Value → State → Outcome → State → Prop} (hpost : ∀ tb e args s v u, (limb_1_1.after args s (.returned v) u = true ∧ limb_1_2.after args s (.returned v) u = true) → Jvm.D.FramedW s (.returned v) u (Jvm.fieldLocs frame_1_writes args s ++ Jvm.arrayLocs frame_1_arrays args s ++ Jvm.staticLocs frame_1_statics s) 56 4416 → Post tb e args s (.returned v) u) :
    ArmFor flags0 classFile x code maxLocals ret World_1 tables_1 room_1 Calls_1 rest_1 Pre_1 Post := by
  intro l hfl _ _ p e ha hc hk s m args below hf hA hF happ hP
  obtain ⟨hcalls, hrest, hpre⟩ := hP
  obtain ⟨-, -, -, hnamed, -, -, -, hat⟩ := (Spec.applies_iff hf).mp happ
  obtain ⟨hg0, hn⟩ := and_e (Cond.before_iff.mp (show (Jvm.Cond.and given_1 narrow_1).before args s = true from hpre))
  obtain ⟨hc0, hg1⟩ := and_e hg0
  obtain ⟨hc1, hg2⟩ := and_e hg1
  obtain ⟨hc2, hg3⟩ := and_e hg2
  obtain ⟨hc3, hg4⟩ := and_e hg3
  obtain ⟨hc4, hg5⟩ := and_e hg4
  obtain ⟨w0, w1, w2, w3, w4, rfl⟩ : ∃ w0 w1 w2 w3 w4 : Value, args = #[w0, w1, w2, w3, w4] := by
    have hs : args.size = 5 := by simpa [Cond.value, given_1] using hc0
    obtain ⟨L⟩ := args
    match L, hs with
    | [w0, w1, w2, w3, w4], _ => exact ⟨w0, w1, w2, w3, w4, rfl⟩
  have hw := fun d (hd : d ∈ tables_1) => atoms_spec (ws := Jvm.Cond.code x code maxLocals ret :: tables_1) hat d (List.mem_cons_of_mem _ hd)
  obtain ⟨hsets, hown0⟩ := atoms_of _ (rest_1_c_eq ▸ (show rest_1_c.before _ s = true from hrest))
  have hfit : Fit s := fun {y c} hc i hi => by
    obtain ⟨ha, rfl⟩ := Array.getElem?_eq_some_iff.mp hc
    have q := List.all_eq_true.mp ((Array.all_eq_true_iff_forall_mem.mp hF) _ (Array.getElem_mem ha)) i (List.mem_range.mpr hi)
    simpa [Array.getElem?_eq_getElem hi] using q
  obtain ⟨x0, ex0⟩ := is_v hc1
  obtain rfl : w0 = (.int x0) := Option.some.inj ex0
  obtain ⟨x1, ex1⟩ := is_v hc2
  obtain rfl : w1 = (.int x1) := Option.some.inj ex1
  obtain ⟨x2, ex2⟩ := is_v hc3
  obtain rfl : w2 = (.int x2) := Option.some.inj ex2
  obtain ⟨x3, ex3⟩ := is_v hc4
  obtain rfl : w3 = (.int x3) := Option.some.inj ex3
  obtain ⟨x4, ex4⟩ := is_v hg5
  obtain rfl : w4 = (.int x4) := Option.some.inj ex4
  obtain ⟨cz, ecz⟩ := is_v (Cond.before_iff.mp (hsets _ (List.mem_of_getElem? (i := 1) rfl)))
  have Scs : Sta s s.heap ST "COMPACT_STRINGS" "Z" (.int cz) := Sta.start ecz (Or.inl (hsets _ (List.mem_of_getElem? (i := 0) rfl)))
  have ncz : ¬ cz = 0 := gotF (Cond.eq_ints ecz (Term.int_eval (0))) (not_v (Cond.before_iff.mp (hsets _ (List.mem_of_getElem? (i := 2) rfl))))
  obtain ⟨sf, esf, rsf⟩ := isR_v (Cond.before_iff.mp (hsets _ (List.mem_of_getElem? (i := 8) rfl)))
  have Ssf : Sta s s.heap "jdk/internal/util/Preconditions" "SIOOBE_FORMATTER" "Ljava/util/function/BiFunction;" sf := Sta.start esf (Or.inl (hsets _ (List.mem_of_getElem? (i := 7) rfl)))
  have UassertionsDisabled : Sta s s.heap "java/lang/StringUTF16" "$assertionsDisabled" "Z" (.int 1) := Sta.start (eq_stat (Cond.before_iff.mp (hsets _ (List.mem_of_getElem? (i := 12) rfl)))) (Or.inl (hsets _ (List.mem_of_getElem? (i := 11) rfl)))
  have UHI_BYTE_SHIFT : Sta s s.heap "java/lang/StringUTF16" "HI_BYTE_SHIFT" "I" (.int 0) := Sta.start (eq_stat (Cond.before_iff.mp (hsets _ (List.mem_of_getElem? (i := 15) rfl)))) (Or.inl (hsets _ (List.mem_of_getElem? (i := 14) rfl)))
  have ULO_BYTE_SHIFT : Sta s s.heap "java/lang/StringUTF16" "LO_BYTE_SHIFT" "I" (.int 8) := Sta.start (eq_stat (Cond.before_iff.mp (hsets _ (List.mem_of_getElem? (i := 18) rfl)))) (Or.inl (hsets _ (List.mem_of_getElem? (i := 17) rfl)))
  have hEW : EW s #[.int x0, .int x1, .int x2, .int x3, .int x4] consts_1 := (EW.cons (hw _ tw45) (by decide) (EW.cons (hw _ tw123) (by decide) (EW.cons (hw _ tw127) (by decide) (EW.cons (hw _ tw5) (by decide) EW.nil))))
  have hCH : CHv s consts_1 s.vm s.heap := CHv.start hEW (fun p hp => hcalls.1 p hp) (hsets _ (List.mem_of_getElem? (i := 2) rfl)) (hw _ tw8) (hw _ tw7)
  have B : Base s #[.int x0, .int x1, .int x2, .int x3, .int x4] consts_1 := ⟨hw, hEW, ⟨cz, Scs, ncz⟩, ⟨sf, Ssf, rsf⟩, ⟨UassertionsDisabled, UHI_BYTE_SHIFT, ULO_BYTE_SHIFT⟩⟩
  obtain ⟨n, o, q1, q2, q3, v, L, rfl, ⟨v, rfl, rfl⟩, N, hCR, hWH, -, hq⟩ := P_law (l := l) B tables_1 p e ha hc hk s m _ below hf ((Spec.applies_iff_loose hf).mp happ).1 ⟨rfl, State.Warmed39.refl s, rfl, hCH, fun _ q => (nomatch q), ext_refl _⟩ trivial
  exact ⟨n, _, q1, q2, q3, hpost _ _ _ _ _ _ ⟨Cond.after_iff.mpr rfl, Cond.after_iff.mpr (eq_i res_at (Term.int_eval (1)) rfl)⟩ ⟨hq.1, hq.2.1, hq.2.2.1, ((hq.2.2.2.sift fun y hy => Or.inr (N y hy)).mono (le rfl : room_1.cells ≤ 56) (le rfl : room_1.slots ≤ 4416))⟩⟩
theorem main_1_1 : Claimed_1_1 := comes_1 fun _ _ _ _ _ _ h hF => ⟨h.1, hF⟩
theorem main_1_2 : Claimed_1_2 := comes_1 fun _ _ _ _ _ _ h hF => ⟨h.2, hF⟩
end
end Jvm.Pilot.@@N@@
namespace Jvm.Pilot.@@N@@
open Jvm Jvm.ClassFile Sem Op Lib Jvm.Free Jvm.Stand Jvm.Pilot.@@N@@.Jvm.D
/-! MADE BY PROGRAM (witnessworld.py) out of the Statement's table words and the real class files: 28 classes; the members and pool entries that the words name. The judged class is class 1, her method 5. -/
namespace start1
open Jvm.ClassFile
def u (s : String) : CpInfo := .utf8 (stringToUtf16 s)
/-- a pool by its gaps: so many unusable entries, then the entry; so many at the end -/
def gap : Nat → List CpInfo → List CpInfo
  | 0, r => r
  | n + 1, r => .unusable :: gap n r
def poolList (es : List (Nat × CpInfo)) (last : Nat) : List CpInfo := es.foldr (fun e r => gap e.1 (e.2 :: r)) (gap last [])
def pool (es : List (Nat × CpInfo)) (last : Nat) : Array CpInfo := ⟨poolList es last⟩
def fileOf (pool : Array CpInfo) (this : Nat) (attrs : Array Attribute := #[]) (ms : Array MethodInfo := #[]) (fl : Nat := 33) (sup : Nat := 0) (ifs : Array Nat := #[]) (fds : Array FieldInfo := #[]) : ClassFile where
  minorVersion := 0
  majorVersion := 65
  constantPool := pool
  accessFlags := fl
  thisClass := this
  superClass := sup
  interfaces := ifs
  fields := fds
  methods := ms
  attributes := attrs
def plain (name : String) (sup : Option ClassId) : Class where
  name := name
  kind := .ordinary
  loader := none
  accessFlags := 33
  super := sup
  interfaces := #[]
  cf := none
  fields := #[]
  methods := #[]
  instanceTypes := #[]
  staticTypes := #[]
  resolved := #[]
  callSites := []
  init := .initialized
  statics := none
  mirror := none

def pool0 : Array CpInfo := pool [(5, u "<init>"), (0, u "()V"), (1, .class_ 10), (1, u "java/lang/Object")] 113

def k0c0 : Code := { maxStack := 0, maxLocals := 1, code := object_method_1_code, exceptionTable := #[], attributes := #[] }
def k0m0 : Method := { name := "<init>", desc := "()V", sig := { parameters := [], returnType := none }, accessFlags := 1, code := some k0c0 }
/-- java/lang/Object -/
def k0 : Class := { plain "java/lang/Object" none with
  accessFlags := 33
  interfaces := #[]
  cf := some (fileOf pool0 8 #[] #[{ accessFlags := 1, nameIndex := 5, descriptorIndex := 6, attributes := #[] }] 33 0 #[] #[])
  fields := #[]
  methods := #[k0m0]
  instanceTypes := #[]
  staticTypes := #[]
  resolved := Array.replicate 124 none
  statics := none }

def pool1 : Array CpInfo := pool [(2, .class_ 4), (1, u "java/lang/Object"), (0, u "<init>"), (0, u "()V"), (0, .integer 65535), (0, .integer 55296), (0, .integer 57344), (0, .integer 32768), (0, .string 12), (0, u ""), (0, .methodref 14 15), (0, .class_ 16), (0, .nameAndType 17 18), (0, u "java/lang/String"), (0, u "valueOf"), (0, u "(C)Ljava/lang/String;"), (0, .methodref 14 20), (0, .nameAndType 5 21), (0, u "([C)V"), (0, .methodref 14 23), (0, .nameAndType 24 25), (0, u "length"), (0, u "()I"), (0, .methodref 14 27), (0, .nameAndType 28 29), (0, u "charAt"), (0, u "(I)C"), (0, .methodref 31 32), (0, .class_ 33), (0, .nameAndType 34 35), (0, u "com/example/dommel/dommel/KeySpaceKeyPinLaw"), (0, u "at"), (0, u "(Ljava/lang/String;Ljava/lang/String;Ljava/lang/String;I)C"), (0, .methodref 31 37), (0, .nameAndType 38 39), (0, u "pick"), (0, u "(II)Ljava/lang/String;"), (0, .methodref 31 41), (0, .nameAndType 42 29), (0, u "safe"), (0, .integer 56320), (0, .class_ 45), (0, u "com/example/dommel/dommel/KeySpace"), (0, .methodref 44 47), (0, .nameAndType 5 48), (0, u "(Ljava/lang/String;)V"), (0, .methodref 44 50), (0, .nameAndType 51 52), (0, u "key"), (0, u "(Ljava/lang/String;Ljava/lang/String;)Ljava/lang/String;"), (0, .methodref 31 54), (0, .nameAndType 55 56), (0, u "same"), (0, u "(Ljava/lang/String;Ljava/lang/String;Ljava/lang/String;Ljava/lang/String;I)Z"), (3, u "law"), (0, u "(IIIII)Z")] 2

def k1m0 : Method := { name := "<init>", desc := "()V", sig := { parameters := [], returnType := none }, accessFlags := 1, code := none }
def k1c1 : Code := { maxStack := 2, maxLocals := 2, code := method_2_code, exceptionTable := #[], attributes := #[] }
def k1m1 : Method := { name := "safe", desc := "(I)C", sig := { parameters := [.int], returnType := some .char }, accessFlags := 10, code := some k1c1 }
def k1c2 : Code := { maxStack := 6, maxLocals := 4, code := method_3_code, exceptionTable := #[], attributes := #[] }
def k1m2 : Method := { name := "pick", desc := "(II)Ljava/lang/String;", sig := { parameters := [.int, .int], returnType := some (.object "java/lang/String") }, accessFlags := 10, code := some k1c2 }
def k1c3 : Code := { maxStack := 2, maxLocals := 5, code := method_4_code, exceptionTable := #[], attributes := #[] }
def k1m3 : Method := { name := "at", desc := "(Ljava/lang/String;Ljava/lang/String;Ljava/lang/String;I)C", sig := { parameters := [(.object "java/lang/String"), (.object "java/lang/String"), (.object "java/lang/String"), .int], returnType := some .char }, accessFlags := 10, code := some k1c3 }
def k1c4 : Code := { maxStack := 5, maxLocals := 5, code := method_5_code, exceptionTable := #[], attributes := #[] }
def k1m4 : Method := { name := "same", desc := "(Ljava/lang/String;Ljava/lang/String;Ljava/lang/String;Ljava/lang/String;I)Z", sig := { parameters := [(.object "java/lang/String"), (.object "java/lang/String"), (.object "java/lang/String"), (.object "java/lang/String"), .int], returnType := some .boolean }, accessFlags := 10, code := some k1c4 }
def k1c5 : Code := { maxStack := 6, maxLocals := 13, code := code, exceptionTable := #[], attributes := #[] }
def k1m5 : Method := { name := "law", desc := "(IIIII)Z", sig := { parameters := [.int, .int, .int, .int, .int], returnType := some .boolean }, accessFlags := 9, code := some k1c5 }
/-- com/example/dommel/dommel/KeySpaceKeyPinLaw -/
def k1 : Class := { plain "com/example/dommel/dommel/KeySpaceKeyPinLaw" (some 0) with
  accessFlags := 49
  interfaces := #[]
  cf := some (fileOf pool1 31 #[] #[{ accessFlags := 1, nameIndex := 5, descriptorIndex := 6, attributes := #[] }, { accessFlags := 10, nameIndex := 42, descriptorIndex := 29, attributes := #[] }, { accessFlags := 10, nameIndex := 38, descriptorIndex := 39, attributes := #[] }, { accessFlags := 10, nameIndex := 34, descriptorIndex := 35, attributes := #[] }, { accessFlags := 10, nameIndex := 55, descriptorIndex := 56, attributes := #[] }, { accessFlags := 9, nameIndex := 60, descriptorIndex := 61, attributes := #[] }] 49 2 #[] #[])
  fields := #[]
  methods := #[k1m0, k1m1, k1m2, k1m3, k1m4, k1m5]
  instanceTypes := #[]
  staticTypes := #[]
  resolved := Array.replicate 64 none
  statics := none }

def pool2 : Array CpInfo := pool [(1, .class_ 2), (0, u "java/io/Serializable"), (0, .class_ 4), (0, u "java/lang/Object")] 2

/-- java/io/Serializable -/
def k2 : Class := { plain "java/io/Serializable" (some 0) with
  accessFlags := 1537
  interfaces := #[]
  cf := some (fileOf pool2 1 #[] #[] 1537 3 #[] #[])
  fields := #[]
  methods := #[]
  instanceTypes := #[]
  staticTypes := #[]
  resolved := Array.replicate 7 none
  statics := none }

def pool3 : Array CpInfo := pool [(1, .class_ 2), (0, u "java/lang/Comparable"), (0, .class_ 4), (0, u "java/lang/Object")] 7

/-- java/lang/Comparable -/
def k3 : Class := { plain "java/lang/Comparable" (some 0) with
  accessFlags := 1537
  interfaces := #[]
  cf := some (fileOf pool3 1 #[] #[] 1537 3 #[] #[])
  fields := #[]
  methods := #[]
  instanceTypes := #[]
  staticTypes := #[]
  resolved := Array.replicate 12 none
  statics := none }

def pool4 : Array CpInfo := pool [(2, .class_ 4), (1, u "java/lang/CharSequence"), (42, .class_ 48), (0, u "java/lang/CharSequence$1CodePointIterator"), (10, .class_ 60), (0, u "java/lang/CharSequence$1CharIterator"), (5, .class_ 67), (0, u "java/lang/Object")] 63

/-- java/lang/CharSequence -/
def k4 : Class := { plain "java/lang/CharSequence" (some 0) with
  accessFlags := 1537
  interfaces := #[]
  cf := some (fileOf pool4 2 #[.nestMembers #[47, 59]] #[] 1537 66 #[] #[])
  fields := #[]
  methods := #[]
  instanceTypes := #[]
  staticTypes := #[]
  resolved := Array.replicate 131 none
  statics := none }

def pool5 : Array CpInfo := pool [(1, .class_ 2), (0, u "java/lang/constant/Constable"), (0, .class_ 4), (0, u "java/lang/Object")] 6

/-- java/lang/constant/Constable -/
def k5 : Class := { plain "java/lang/constant/Constable" (some 0) with
  accessFlags := 1537
  interfaces := #[]
  cf := some (fileOf pool5 1 #[] #[] 1537 3 #[] #[])
  fields := #[]
  methods := #[]
  instanceTypes := #[]
  staticTypes := #[]
  resolved := Array.replicate 11 none
  statics := none }

def pool6 : Array CpInfo := pool [(1, .class_ 2), (0, u "java/lang/constant/ConstantDesc"), (0, .class_ 4), (0, u "java/lang/Object")] 32

/-- java/lang/constant/ConstantDesc -/
def k6 : Class := { plain "java/lang/constant/ConstantDesc" (some 0) with
  accessFlags := 1537
  interfaces := #[]
  cf := some (fileOf pool6 1 #[] #[] 1537 3 #[] #[])
  fields := #[]
  methods := #[]
  instanceTypes := #[]
  staticTypes := #[]
  resolved := Array.replicate 37 none
  statics := none }

def pool7 : Array CpInfo := pool [(1, .methodref 2 3), (0, .class_ 4), (0, .nameAndType 5 6), (0, u "java/lang/Object"), (0, u "<init>"), (0, u "()V"), (2, .fieldref 10 11), (0, .class_ 12), (0, .nameAndType 13 14), (0, u "java/lang/String"), (0, u "value"), (0, u "[B"), (0, .fieldref 10 16), (0, .nameAndType 17 18), (0, u "coder"), (0, u "B"), (2, u "hash"), (0, u "I"), (2, u "hashIsZero"), (0, u "Z"), (0, .methodref 10 28), (0, .nameAndType 5 29), (0, u "([CIILjava/lang/Void;)V"), (6, u "checkBoundsOffCount"), (0, u "(III)I"), (0, .fieldref 10 39), (0, .nameAndType 40 26), (0, u "COMPACT_STRINGS"), (1, .class_ 44), (1, u "java/lang/StringUTF16"), (0, u "compress"), (1, .methodref 42 48), (0, .nameAndType 49 50), (0, u "coderFromArrayLen"), (0, u "([BI)B"), (2, u "toBytes"), (0, .methodref 55 56), (0, .class_ 57), (0, .nameAndType 58 59), (0, u "java/util/Arrays"), (0, u "copyOfRange"), (0, u "([BII)[B"), (46, .methodref 107 108), (0, .class_ 109), (0, .nameAndType 110 111), (0, u "java/lang/StringLatin1"), (0, u "inflate"), (0, u "([BI[BII)V"), (30, u "()Z"), (34, .methodref 42 178), (0, .nameAndType 45 179), (0, u "([CII)[B"), (13, .class_ 195), (1, u "java/lang/System"), (13, .methodref 10 210), (0, .nameAndType 5 211), (0, u "([BB)V"), (0, .methodref 193 213), (0, .nameAndType 214 215), (0, u "arraycopy"), (0, u "(Ljava/lang/Object;ILjava/lang/Object;II)V"), (118, u "()I"), (0, .methodref 10 336), (0, .nameAndType 17 337), (0, u "()B"), (2, u "()[B"), (22, u "([BI)C"), (5, u "(C)Z"), (21, u "(II)V"), (35, u "(I)C"), (61, .methodref 10 490), (0, .nameAndType 5 491), (0, u "(Ljava/lang/AbstractStringBuilder;Ljava/lang/Void;)V"), (0, .methodref 10 493), (0, .nameAndType 494 142), (0, u "isLatin1"), (0, .methodref 107 496), (0, .nameAndType 497 363), (0, u "charAt"), (0, .methodref 42 496), (2, u "checkIndex"), (4, .nameAndType 507 334), (0, u "length"), (24, u "getBytes"), (16, .methodref 550 506), (0, .class_ 551), (0, u "java/lang/AbstractStringBuilder"), (0, .methodref 550 553), (0, .nameAndType 554 340), (0, u "getValue"), (20, .class_ 576), (0, u "java/lang/CharSequence"), (22, u "CASE_INSENSITIVE_ORDER"), (0, u "Ljava/util/Comparator;"), (91, u "isEmpty"), (89, u "valueOf"), (0, u "(C)Ljava/lang/String;"), (37, u "([BIB)V"), (188, u "([C)V"), (4, .methodref 107 1016), (0, .nameAndType 1017 369), (0, u "canEncode"), (0, .methodref 107 1019), (0, .nameAndType 53 1020), (0, u "(C)[B"), (0, .methodref 42 1019), (25, .methodref 550 493), (0, .fieldref 550 1049), (0, .nameAndType 1050 26), (0, u "maybeLatin1"), (2, .fieldref 1054 1055), (0, .class_ 1056), (0, .nameAndType 1057 1058), (0, u "jdk/internal/util/Preconditions"), (0, u "SIOOBE_FORMATTER"), (0, u "Ljava/util/function/BiFunction;"), (0, .methodref 1054 1060), (0, .nameAndType 501 1061), (0, u "(IILjava/util/function/BiFunction;)I"), (2, u "(IIILjava/util/function/BiFunction;)I"), (0, .methodref 1054 1066), (0, .nameAndType 1067 1064), (0, u "checkFromIndexSize"), (33, u "serialPersistentFields"), (0, u "[Ljava/io/ObjectStreamField;"), (0, .class_ 1104), (0, u "java/lang/String$CaseInsensitiveComparator"), (1, .class_ 1107), (0, u "java/io/Serializable"), (0, .class_ 1109), (0, u "java/lang/Comparable"), (0, .class_ 1111), (0, u "java/lang/constant/Constable"), (0, .class_ 1113), (0, u "java/lang/constant/ConstantDesc"), (2, u "serialVersionUID"), (0, u "J"), (3, u "REPL"), (0, u "C"), (2, u "LATIN1"), (1, u "UTF16"), (105, u "(Ljava/lang/StringBuilder;)V")] 217

def k7m0 : Method := { name := "<init>", desc := "()V", sig := { parameters := [], returnType := none }, accessFlags := 1, code := none }
def k7c1 : Code := { maxStack := 5, maxLocals := 2, code := jdk_42_method_3_code, exceptionTable := #[], attributes := #[] }
def k7m1 : Method := { name := "<init>", desc := "([C)V", sig := { parameters := [(.array .char)], returnType := none }, accessFlags := 1, code := some k7c1 }
def k7c2 : Code := { maxStack := 3, maxLocals := 2, code := jdk_42_method_53_code, exceptionTable := #[], attributes := #[] }
def k7m2 : Method := { name := "<init>", desc := "(Ljava/lang/StringBuilder;)V", sig := { parameters := [(.object "java/lang/StringBuilder")], returnType := none }, accessFlags := 1, code := some k7c2 }
def k7c3 : Code := { maxStack := 2, maxLocals := 1, code := jdk_42_method_54_code, exceptionTable := #[], attributes := #[] }
def k7m3 : Method := { name := "length", desc := "()I", sig := { parameters := [], returnType := some .int }, accessFlags := 1, code := some k7c3 }
def k7c4 : Code := { maxStack := 1, maxLocals := 1, code := jdk_42_method_55_code, exceptionTable := #[], attributes := #[] }
def k7m4 : Method := { name := "isEmpty", desc := "()Z", sig := { parameters := [], returnType := some .boolean }, accessFlags := 1, code := some k7c4 }
def k7c5 : Code := { maxStack := 2, maxLocals := 2, code := jdk_42_method_56_code, exceptionTable := #[], attributes := #[] }
def k7m5 : Method := { name := "charAt", desc := "(I)C", sig := { parameters := [.int], returnType := some .char }, accessFlags := 1, code := some k7c5 }
def k7c6 : Code := { maxStack := 4, maxLocals := 1, code := jdk_42_method_139_code, exceptionTable := #[], attributes := #[] }
def k7m6 : Method := { name := "valueOf", desc := "(C)Ljava/lang/String;", sig := { parameters := [.char], returnType := some (.object "java/lang/String") }, accessFlags := 9, code := some k7c6 }
def k7c7 : Code := { maxStack := 5, maxLocals := 4, code := jdk_42_method_147_code, exceptionTable := #[], attributes := #[] }
def k7m7 : Method := { name := "getBytes", desc := "([BIB)V", sig := { parameters := [(.array .byte), .int, .byte], returnType := none }, accessFlags := 0, code := some k7c7 }
def k7c8 : Code := { maxStack := 4, maxLocals := 6, code := jdk_42_method_149_code, exceptionTable := #[], attributes := #[] }
def k7m8 : Method := { name := "<init>", desc := "([CIILjava/lang/Void;)V", sig := { parameters := [(.array .char), .int, .int, (.object "java/lang/Void")], returnType := none }, accessFlags := 2, code := some k7c8 }
def k7c9 : Code := { maxStack := 5, maxLocals := 5, code := jdk_42_method_150_code, exceptionTable := #[], attributes := #[] }
def k7m9 : Method := { name := "<init>", desc := "(Ljava/lang/AbstractStringBuilder;Ljava/lang/Void;)V", sig := { parameters := [(.object "java/lang/AbstractStringBuilder"), (.object "java/lang/Void")], returnType := none }, accessFlags := 0, code := some k7c9 }
def k7c10 : Code := { maxStack := 2, maxLocals := 3, code := jdk_42_method_151_code, exceptionTable := #[], attributes := #[] }
def k7m10 : Method := { name := "<init>", desc := "([BB)V", sig := { parameters := [(.array .byte), .byte], returnType := none }, accessFlags := 0, code := some k7c10 }
def k7c11 : Code := { maxStack := 1, maxLocals := 1, code := jdk_42_method_152_code, exceptionTable := #[], attributes := #[] }
def k7m11 : Method := { name := "coder", desc := "()B", sig := { parameters := [], returnType := some .byte }, accessFlags := 0, code := some k7c11 }
def k7c12 : Code := { maxStack := 1, maxLocals := 1, code := jdk_42_method_154_code, exceptionTable := #[], attributes := #[] }
def k7m12 : Method := { name := "isLatin1", desc := "()Z", sig := { parameters := [], returnType := some .boolean }, accessFlags := 0, code := some k7c12 }
def k7c13 : Code := { maxStack := 3, maxLocals := 2, code := jdk_42_method_155_code, exceptionTable := #[], attributes := #[] }
def k7m13 : Method := { name := "checkIndex", desc := "(II)V", sig := { parameters := [.int, .int], returnType := none }, accessFlags := 8, code := some k7c13 }
def k7c14 : Code := { maxStack := 4, maxLocals := 3, code := jdk_42_method_157_code, exceptionTable := #[], attributes := #[] }
def k7m14 : Method := { name := "checkBoundsOffCount", desc := "(III)I", sig := { parameters := [.int, .int, .int], returnType := some .int }, accessFlags := 8, code := some k7c14 }
/-- java/lang/String -/
def k7 : Class := { plain "java/lang/String" (some 0) with
  accessFlags := 49
  interfaces := #[2, 3, 4, 5, 6]
  cf := some (fileOf pool7 10 #[.nestMembers #[1103]] #[{ accessFlags := 1, nameIndex := 5, descriptorIndex := 6, attributes := #[] }, { accessFlags := 1, nameIndex := 5, descriptorIndex := 1010, attributes := #[] }, { accessFlags := 1, nameIndex := 5, descriptorIndex := 1233, attributes := #[] }, { accessFlags := 1, nameIndex := 507, descriptorIndex := 334, attributes := #[] }, { accessFlags := 1, nameIndex := 692, descriptorIndex := 142, attributes := #[] }, { accessFlags := 1, nameIndex := 497, descriptorIndex := 427, attributes := #[] }, { accessFlags := 9, nameIndex := 782, descriptorIndex := 783, attributes := #[] }, { accessFlags := 0, nameIndex := 532, descriptorIndex := 821, attributes := #[] }, { accessFlags := 2, nameIndex := 5, descriptorIndex := 29, attributes := #[] }, { accessFlags := 0, nameIndex := 5, descriptorIndex := 491, attributes := #[] }, { accessFlags := 0, nameIndex := 5, descriptorIndex := 211, attributes := #[] }, { accessFlags := 0, nameIndex := 17, descriptorIndex := 337, attributes := #[] }, { accessFlags := 0, nameIndex := 494, descriptorIndex := 142, attributes := #[] }, { accessFlags := 8, nameIndex := 501, descriptorIndex := 391, attributes := #[] }, { accessFlags := 8, nameIndex := 36, descriptorIndex := 37, attributes := #[] }] 49 2 #[1106, 1108, 575, 1110, 1112] #[{ accessFlags := 18, nameIndex := 13, descriptorIndex := 14, attributes := #[] }, { accessFlags := 18, nameIndex := 17, descriptorIndex := 18, attributes := #[] }, { accessFlags := 2, nameIndex := 21, descriptorIndex := 22, attributes := #[] }, { accessFlags := 2, nameIndex := 25, descriptorIndex := 26, attributes := #[] }, { accessFlags := 26, nameIndex := 1116, descriptorIndex := 1117, attributes := #[] }, { accessFlags := 24, nameIndex := 40, descriptorIndex := 26, attributes := #[] }, { accessFlags := 26, nameIndex := 1101, descriptorIndex := 1102, attributes := #[] }, { accessFlags := 26, nameIndex := 1121, descriptorIndex := 1122, attributes := #[] }, { accessFlags := 25, nameIndex := 599, descriptorIndex := 600, attributes := #[] }, { accessFlags := 24, nameIndex := 1125, descriptorIndex := 18, attributes := #[] }, { accessFlags := 24, nameIndex := 1127, descriptorIndex := 18, attributes := #[] }])
  fields := #[{ name := "value", type := (.array .byte), accessFlags := 18, slot := 0, constantValue := 0 }, { name := "coder", type := .byte, accessFlags := 18, slot := 1, constantValue := 0 }, { name := "hash", type := .int, accessFlags := 2, slot := 2, constantValue := 0 }, { name := "hashIsZero", type := .boolean, accessFlags := 2, slot := 3, constantValue := 0 }, { name := "serialVersionUID", type := .long, accessFlags := 26, slot := 0, constantValue := 0 }, { name := "COMPACT_STRINGS", type := .boolean, accessFlags := 24, slot := 1, constantValue := 0 }, { name := "serialPersistentFields", type := (.array (.object "java/io/ObjectStreamField")), accessFlags := 26, slot := 2, constantValue := 0 }, { name := "REPL", type := .char, accessFlags := 26, slot := 3, constantValue := 0 }, { name := "CASE_INSENSITIVE_ORDER", type := (.object "java/util/Comparator"), accessFlags := 25, slot := 4, constantValue := 0 }, { name := "LATIN1", type := .byte, accessFlags := 24, slot := 5, constantValue := 0 }, { name := "UTF16", type := .byte, accessFlags := 24, slot := 6, constantValue := 0 }]
  methods := #[k7m0, k7m1, k7m2, k7m3, k7m4, k7m5, k7m6, k7m7, k7m8, k7m9, k7m10, k7m11, k7m12, k7m13, k7m14]
  instanceTypes := #[(.array .byte), .byte, .int, .boolean]
  staticTypes := #[.long, .boolean, (.array (.object "java/io/ObjectStreamField")), .char, (.object "java/util/Comparator"), .byte, .byte]
  resolved := Array.replicate 1451 none
  statics := some 0 }

def pool8 : Array CpInfo := pool [(1, .class_ 2), (0, u "java/lang/String"), (1, .class_ 6), (1, u "java/lang/Object"), (0, u "<init>"), (0, u "()V"), (0, .methodref 1 10), (0, .nameAndType 11 12), (0, u "checkIndex"), (0, u "(II)V"), (1, .class_ 16), (1, u "java/lang/StringLatin1"), (0, u "inflate"), (2, .class_ 22), (1, u "java/lang/StringUTF16"), (3, .nameAndType 17 27), (0, u "([BI[BII)V"), (25, u "([BI)C"), (36, u "canEncode"), (14, u "(C)Z"), (15, u "$assertionsDisabled"), (0, u "Z"), (98, .class_ 223), (1, u "java/lang/StringLatin1$LinesSpliterator"), (16, .methodref 20 26), (11, u "charAt"), (127, u "toBytes"), (1, u "(C)[B"), (7, .class_ 391), (0, u "java/lang/StringLatin1$CharsSpliterator")] 3

def k8m0 : Method := { name := "<init>", desc := "()V", sig := { parameters := [], returnType := none }, accessFlags := 0, code := none }
def k8c1 : Code := { maxStack := 2, maxLocals := 2, code := jdk_43_method_2_code, exceptionTable := #[], attributes := #[] }
def k8m1 : Method := { name := "charAt", desc := "([BI)C", sig := { parameters := [(.array .byte), .int], returnType := some .char }, accessFlags := 9, code := some k8c1 }
def k8c2 : Code := { maxStack := 2, maxLocals := 1, code := jdk_43_method_3_code, exceptionTable := #[], attributes := #[] }
def k8m2 : Method := { name := "canEncode", desc := "(C)Z", sig := { parameters := [.char], returnType := some .boolean }, accessFlags := 9, code := some k8c2 }
def k8c3 : Code := { maxStack := 4, maxLocals := 1, code := jdk_43_method_46_code, exceptionTable := #[], attributes := #[] }
def k8m3 : Method := { name := "toBytes", desc := "(C)[B", sig := { parameters := [.char], returnType := some (.array .byte) }, accessFlags := 9, code := some k8c3 }
def k8c4 : Code := { maxStack := 5, maxLocals := 5, code := jdk_43_method_50_code, exceptionTable := #[], attributes := #[] }
def k8m4 : Method := { name := "inflate", desc := "([BI[BII)V", sig := { parameters := [(.array .byte), .int, (.array .byte), .int, .int], returnType := none }, accessFlags := 9, code := some k8c4 }
/-- java/lang/StringLatin1 -/
def k8 : Class := { plain "java/lang/StringLatin1" (some 0) with
  accessFlags := 48
  interfaces := #[]
  cf := some (fileOf pool8 14 #[.nestMembers #[390, 221]] #[{ accessFlags := 0, nameIndex := 7, descriptorIndex := 8, attributes := #[] }, { accessFlags := 9, nameIndex := 252, descriptorIndex := 53, attributes := #[] }, { accessFlags := 9, nameIndex := 90, descriptorIndex := 105, attributes := #[] }, { accessFlags := 9, nameIndex := 380, descriptorIndex := 382, attributes := #[] }, { accessFlags := 9, nameIndex := 17, descriptorIndex := 27, attributes := #[] }] 48 4 #[] #[{ accessFlags := 4120, nameIndex := 121, descriptorIndex := 122, attributes := #[] }])
  fields := #[{ name := "$assertionsDisabled", type := .boolean, accessFlags := 4120, slot := 0, constantValue := 0 }]
  methods := #[k8m0, k8m1, k8m2, k8m3, k8m4]
  instanceTypes := #[]
  staticTypes := #[.boolean]
  resolved := Array.replicate 395 none
  statics := none }

def pool9 : Array CpInfo := pool [(1, .methodref 2 3), (0, .class_ 4), (0, .nameAndType 5 6), (0, u "java/lang/Object"), (0, u "<init>"), (0, u "()V"), (0, .string 8), (0, u "prefix"), (0, .methodref 10 11), (0, .class_ 12), (0, .nameAndType 13 14), (0, u "java/util/Objects"), (0, u "requireNonNull"), (0, u "(Ljava/lang/Object;Ljava/lang/String;)Ljava/lang/Object;"), (0, .class_ 16), (0, u "java/lang/String"), (0, .fieldref 18 19), (0, .class_ 20), (0, .nameAndType 8 21), (0, u "com/example/dommel/dommel/KeySpace"), (0, u "Ljava/lang/String;"), (0, .class_ 23), (0, u "java/lang/StringBuilder"), (0, .methodref 22 3), (0, .methodref 22 26), (0, .nameAndType 27 28), (0, u "append"), (0, u "(Ljava/lang/String;)Ljava/lang/StringBuilder;"), (0, .string 30), (0, u ":"), (0, .methodref 18 32), (0, .nameAndType 33 34), (0, u "requireName"), (0, u "(Ljava/lang/String;)Ljava/lang/String;"), (0, .methodref 22 36), (0, .nameAndType 37 38), (0, u "toString"), (0, u "()Ljava/lang/String;"), (0, .string 40), (0, u "name"), (0, .methodref 15 42), (0, .nameAndType 43 44), (0, u "isEmpty"), (0, u "()Z"), (6, u "(Ljava/lang/String;)V"), (0, .methodref 15 53), (0, .nameAndType 54 55), (0, u "length"), (0, u "()I"), (0, .methodref 15 57), (0, .nameAndType 58 59), (0, u "charAt"), (0, u "(I)C"), (0, .methodref 61 62), (0, .class_ 63), (0, .nameAndType 64 65), (0, u "java/lang/Character"), (0, u "isSurrogate"), (0, u "(C)Z"), (0, .methodref 61 67), (0, .nameAndType 68 65), (0, u "isHighSurrogate"), (0, .methodref 61 70), (0, .nameAndType 71 65), (0, u "isLowSurrogate"), (7, u "MAX_NAME_BYTES"), (0, u "I"), (4, u "key"), (0, u "(Ljava/lang/String;Ljava/lang/String;)Ljava/lang/String;")] 4

def k9c0 : Code := { maxStack := 3, maxLocals := 2, code := prog_8_method_1_code, exceptionTable := #[], attributes := #[] }
def k9m0 : Method := { name := "<init>", desc := "(Ljava/lang/String;)V", sig := { parameters := [(.object "java/lang/String")], returnType := none }, accessFlags := 0, code := some k9c0 }
def k9c1 : Code := { maxStack := 2, maxLocals := 3, code := prog_8_method_2_code, exceptionTable := #[], attributes := #[] }
def k9m1 : Method := { name := "key", desc := "(Ljava/lang/String;Ljava/lang/String;)Ljava/lang/String;", sig := { parameters := [(.object "java/lang/String"), (.object "java/lang/String")], returnType := some (.object "java/lang/String") }, accessFlags := 0, code := some k9c1 }
def k9c2 : Code := { maxStack := 4, maxLocals := 4, code := prog_8_method_4_code, exceptionTable := #[], attributes := #[] }
def k9m2 : Method := { name := "requireName", desc := "(Ljava/lang/String;)Ljava/lang/String;", sig := { parameters := [(.object "java/lang/String")], returnType := some (.object "java/lang/String") }, accessFlags := 8, code := some k9c2 }
/-- com/example/dommel/dommel/KeySpace -/
def k9 : Class := { plain "com/example/dommel/dommel/KeySpace" (some 0) with
  accessFlags := 48
  interfaces := #[]
  cf := some (fileOf pool9 18 #[] #[{ accessFlags := 0, nameIndex := 5, descriptorIndex := 51, attributes := #[] }, { accessFlags := 0, nameIndex := 85, descriptorIndex := 86, attributes := #[] }, { accessFlags := 8, nameIndex := 33, descriptorIndex := 34, attributes := #[] }] 48 2 #[] #[{ accessFlags := 24, nameIndex := 79, descriptorIndex := 80, attributes := #[] }, { accessFlags := 18, nameIndex := 8, descriptorIndex := 21, attributes := #[] }])
  fields := #[{ name := "MAX_NAME_BYTES", type := .int, accessFlags := 24, slot := 0, constantValue := 0 }, { name := "prefix", type := (.object "java/lang/String"), accessFlags := 18, slot := 0, constantValue := 0 }]
  methods := #[k9m0, k9m1, k9m2]
  instanceTypes := #[(.object "java/lang/String")]
  staticTypes := #[.int]
  resolved := Array.replicate 91 none
  statics := none }

def pool10 : Array CpInfo := pool [(2, .class_ 4), (1, u "java/lang/Object"), (0, u "<init>"), (0, u "()V"), (35, .class_ 44), (1, u "java/util/Objects"), (0, u "requireNonNull"), (48, u "(Ljava/lang/Object;Ljava/lang/String;)Ljava/lang/Object;")] 89

def k10m0 : Method := { name := "<init>", desc := "()V", sig := { parameters := [], returnType := none }, accessFlags := 2, code := none }
def k10c1 : Code := { maxStack := 3, maxLocals := 2, code := jdk_31_method_11_code, exceptionTable := #[], attributes := #[] }
def k10m1 : Method := { name := "requireNonNull", desc := "(Ljava/lang/Object;Ljava/lang/String;)Ljava/lang/Object;", sig := { parameters := [(.object "java/lang/Object"), (.object "java/lang/String")], returnType := some (.object "java/lang/Object") }, accessFlags := 9, code := some k10c1 }
/-- java/util/Objects -/
def k10 : Class := { plain "java/util/Objects" (some 0) with
  accessFlags := 49
  interfaces := #[]
  cf := some (fileOf pool10 42 #[] #[{ accessFlags := 2, nameIndex := 5, descriptorIndex := 6, attributes := #[] }, { accessFlags := 9, nameIndex := 45, descriptorIndex := 94, attributes := #[] }] 49 2 #[] #[])
  fields := #[]
  methods := #[k10m0, k10m1]
  instanceTypes := #[]
  staticTypes := #[]
  resolved := Array.replicate 184 none
  statics := none }

def pool11 : Array CpInfo := pool [(1, .class_ 2), (0, u "java/lang/Appendable"), (0, .class_ 4), (0, u "java/lang/Object")] 9

/-- java/lang/Appendable -/
def k11 : Class := { plain "java/lang/Appendable" (some 0) with
  accessFlags := 1537
  interfaces := #[]
  cf := some (fileOf pool11 1 #[] #[] 1537 3 #[] #[])
  fields := #[]
  methods := #[]
  instanceTypes := #[]
  staticTypes := #[]
  resolved := Array.replicate 14 none
  statics := none }

def pool12 : Array CpInfo := pool [(1, .class_ 2), (0, u "java/lang/String"), (0, .methodref 4 5), (0, .class_ 6), (0, .nameAndType 7 8), (0, u "java/lang/Object"), (0, u "<init>"), (0, u "()V"), (1, .class_ 12), (1, u "java/lang/AbstractStringBuilder"), (0, u "EMPTYVALUE"), (0, u "[B"), (0, .fieldref 10 16), (0, .nameAndType 17 14), (0, u "value"), (0, .fieldref 1 19), (0, .nameAndType 20 21), (0, u "COMPACT_STRINGS"), (0, u "Z"), (0, .fieldref 10 23), (0, .nameAndType 24 25), (0, u "coder"), (0, u "B"), (0, .methodref 27 28), (0, .class_ 29), (0, .nameAndType 30 31), (0, u "java/lang/StringUTF16"), (0, u "newBytesFor"), (0, u "(I)[B"), (0, .methodref 1 33), (0, .nameAndType 34 35), (0, u "length"), (0, u "()I"), (4, .methodref 1 41), (0, .nameAndType 24 42), (0, u "()B"), (2, u "append"), (0, u "(Ljava/lang/String;)Ljava/lang/AbstractStringBuilder;"), (1, .class_ 49), (0, u "java/lang/CharSequence"), (19, u "(Ljava/lang/String;)V"), (5, u "maybeLatin1"), (3, .fieldref 10 80), (0, .nameAndType 81 82), (0, u "count"), (0, u "I"), (0, .methodref 10 84), (0, .nameAndType 85 86), (0, u "isLatin1"), (0, u "()Z"), (1, .class_ 90), (1, u "java/lang/StringLatin1"), (9, .methodref 10 101), (0, .nameAndType 102 103), (0, u "ensureCapacityInternal"), (0, u "(I)V"), (21, .methodref 88 126), (0, .nameAndType 127 128), (0, u "inflate"), (0, u "([BI[BII)V"), (66, .methodref 10 196), (0, .nameAndType 127 8), (11, .methodref 10 209), (0, .nameAndType 210 211), (0, u "putStringAt"), (0, u "(ILjava/lang/String;)V"), (5, u "inflateIfNeededFor"), (2, .nameAndType 221 222), (0, u "getBytes"), (0, u "([BIB)V"), (174, .methodref 10 398), (0, .nameAndType 217 69), (0, .methodref 1 220), (3, u "()[B"), (40, .class_ 445), (0, u "java/lang/Appendable"), (106, u "getValue")] 56

def k12m0 : Method := { name := "<init>", desc := "()V", sig := { parameters := [], returnType := none }, accessFlags := 0, code := none }
def k12c1 : Code := { maxStack := 2, maxLocals := 2, code := jdk_68_method_2_code, exceptionTable := #[], attributes := #[] }
def k12m1 : Method := { name := "<init>", desc := "(I)V", sig := { parameters := [.int], returnType := none }, accessFlags := 0, code := some k12c1 }
def k12c2 : Code := { maxStack := 1, maxLocals := 1, code := jdk_68_method_6_code, exceptionTable := #[], attributes := #[] }
def k12m2 : Method := { name := "length", desc := "()I", sig := { parameters := [], returnType := some .int }, accessFlags := 1, code := some k12c2 }
def k12c3 : Code := { maxStack := 4, maxLocals := 3, code := jdk_68_method_9_code, exceptionTable := #[], attributes := #[] }
def k12m3 : Method := { name := "ensureCapacityInternal", desc := "(I)V", sig := { parameters := [.int], returnType := none }, accessFlags := 2, code := some k12c3 }
def k12c4 : Code := { maxStack := 5, maxLocals := 2, code := jdk_68_method_11_code, exceptionTable := #[], attributes := #[] }
def k12m4 : Method := { name := "inflate", desc := "()V", sig := { parameters := [], returnType := none }, accessFlags := 2, code := some k12c4 }
def k12c5 : Code := { maxStack := 3, maxLocals := 3, code := jdk_68_method_22_code, exceptionTable := #[], attributes := #[] }
def k12m5 : Method := { name := "append", desc := "(Ljava/lang/String;)Ljava/lang/AbstractStringBuilder;", sig := { parameters := [(.object "java/lang/String")], returnType := some (.object "java/lang/AbstractStringBuilder") }, accessFlags := 1, code := some k12c5 }
def k12c6 : Code := { maxStack := 1, maxLocals := 1, code := jdk_68_method_64_code, exceptionTable := #[], attributes := #[] }
def k12m6 : Method := { name := "getValue", desc := "()[B", sig := { parameters := [], returnType := some (.array .byte) }, accessFlags := 16, code := some k12c6 }
def k12c7 : Code := { maxStack := 1, maxLocals := 1, code := jdk_68_method_68_code, exceptionTable := #[], attributes := #[] }
def k12m7 : Method := { name := "isLatin1", desc := "()Z", sig := { parameters := [], returnType := some .boolean }, accessFlags := 16, code := some k12c7 }
def k12c8 : Code := { maxStack := 2, maxLocals := 2, code := jdk_68_method_71_code, exceptionTable := #[], attributes := #[] }
def k12m8 : Method := { name := "inflateIfNeededFor", desc := "(Ljava/lang/String;)V", sig := { parameters := [(.object "java/lang/String")], returnType := none }, accessFlags := 2, code := some k12c8 }
def k12c9 : Code := { maxStack := 4, maxLocals := 3, code := jdk_68_method_73_code, exceptionTable := #[], attributes := #[] }
def k12m9 : Method := { name := "putStringAt", desc := "(ILjava/lang/String;)V", sig := { parameters := [.int, (.object "java/lang/String")], returnType := none }, accessFlags := 2, code := some k12c9 }
/-- java/lang/AbstractStringBuilder -/
def k12 : Class := { plain "java/lang/AbstractStringBuilder" (some 0) with
  accessFlags := 1056
  interfaces := #[11, 4]
  cf := some (fileOf pool12 10 #[] #[{ accessFlags := 0, nameIndex := 7, descriptorIndex := 8, attributes := #[] }, { accessFlags := 0, nameIndex := 7, descriptorIndex := 103, attributes := #[] }, { accessFlags := 1, nameIndex := 34, descriptorIndex := 35, attributes := #[] }, { accessFlags := 2, nameIndex := 102, descriptorIndex := 103, attributes := #[] }, { accessFlags := 2, nameIndex := 127, descriptorIndex := 8, attributes := #[] }, { accessFlags := 1, nameIndex := 45, descriptorIndex := 46, attributes := #[] }, { accessFlags := 16, nameIndex := 552, descriptorIndex := 403, attributes := #[] }, { accessFlags := 16, nameIndex := 85, descriptorIndex := 86, attributes := #[] }, { accessFlags := 2, nameIndex := 217, descriptorIndex := 69, attributes := #[] }, { accessFlags := 2, nameIndex := 210, descriptorIndex := 211, attributes := #[] }] 1056 4 #[444, 48] #[{ accessFlags := 0, nameIndex := 17, descriptorIndex := 14, attributes := #[] }, { accessFlags := 0, nameIndex := 24, descriptorIndex := 25, attributes := #[] }, { accessFlags := 0, nameIndex := 75, descriptorIndex := 21, attributes := #[] }, { accessFlags := 0, nameIndex := 81, descriptorIndex := 82, attributes := #[] }, { accessFlags := 26, nameIndex := 13, descriptorIndex := 14, attributes := #[] }])
  fields := #[{ name := "value", type := (.array .byte), accessFlags := 0, slot := 0, constantValue := 0 }, { name := "coder", type := .byte, accessFlags := 0, slot := 1, constantValue := 0 }, { name := "maybeLatin1", type := .boolean, accessFlags := 0, slot := 2, constantValue := 0 }, { name := "count", type := .int, accessFlags := 0, slot := 3, constantValue := 0 }, { name := "EMPTYVALUE", type := (.array .byte), accessFlags := 26, slot := 0, constantValue := 0 }]
  methods := #[k12m0, k12m1, k12m2, k12m3, k12m4, k12m5, k12m6, k12m7, k12m8, k12m9]
  instanceTypes := #[(.array .byte), .byte, .boolean, .int]
  staticTypes := #[(.array .byte)]
  resolved := Array.replicate 609 none
  statics := none }

def pool13 : Array CpInfo := pool [(1, .methodref 2 3), (0, .class_ 4), (0, .nameAndType 5 6), (0, u "java/lang/AbstractStringBuilder"), (0, u "<init>"), (0, u "(I)V"), (11, .class_ 20), (1, u "java/lang/String"), (3, .class_ 26), (1, u "java/lang/StringBuilder"), (0, u "append"), (0, u "(Ljava/lang/String;)Ljava/lang/StringBuilder;"), (0, .methodref 2 30), (0, .nameAndType 27 31), (0, u "(Ljava/lang/String;)Ljava/lang/AbstractStringBuilder;"), (105, .methodref 18 138), (0, .nameAndType 5 139), (0, u "(Ljava/lang/StringBuilder;)V"), (5, u "()V"), (10, u "()I"), (186, .methodref 2 344), (0, .nameAndType 345 156), (0, u "length"), (3, .class_ 350), (0, u "java/lang/Appendable"), (0, .class_ 352), (0, u "java/io/Serializable"), (0, .class_ 354), (0, u "java/lang/Comparable"), (0, .class_ 356), (0, u "java/lang/CharSequence"), (0, u "serialVersionUID"), (0, u "J"), (40, u "toString"), (0, u "()Ljava/lang/String;")] 21

def k13c0 : Code := { maxStack := 2, maxLocals := 1, code := jdk_67_method_1_code, exceptionTable := #[], attributes := #[] }
def k13m0 : Method := { name := "<init>", desc := "()V", sig := { parameters := [], returnType := none }, accessFlags := 1, code := some k13c0 }
def k13c1 : Code := { maxStack := 2, maxLocals := 2, code := jdk_67_method_7_code, exceptionTable := #[], attributes := #[] }
def k13m1 : Method := { name := "append", desc := "(Ljava/lang/String;)Ljava/lang/StringBuilder;", sig := { parameters := [(.object "java/lang/String")], returnType := some (.object "java/lang/StringBuilder") }, accessFlags := 1, code := some k13c1 }
def k13c2 : Code := { maxStack := 3, maxLocals := 1, code := jdk_67_method_42_code, exceptionTable := #[], attributes := #[] }
def k13m2 : Method := { name := "toString", desc := "()Ljava/lang/String;", sig := { parameters := [], returnType := some (.object "java/lang/String") }, accessFlags := 1, code := some k13c2 }
def k13c3 : Code := { maxStack := 1, maxLocals := 1, code := jdk_67_method_93_code, exceptionTable := #[], attributes := #[] }
def k13m3 : Method := { name := "length", desc := "()I", sig := { parameters := [], returnType := some .int }, accessFlags := 4161, code := some k13c3 }
/-- java/lang/StringBuilder -/
def k13 : Class := { plain "java/lang/StringBuilder" (some 12) with
  accessFlags := 49
  interfaces := #[11, 2, 3, 4]
  cf := some (fileOf pool13 24 #[] #[{ accessFlags := 1, nameIndex := 5, descriptorIndex := 145, attributes := #[] }, { accessFlags := 1, nameIndex := 27, descriptorIndex := 28, attributes := #[] }, { accessFlags := 1, nameIndex := 399, descriptorIndex := 400, attributes := #[] }, { accessFlags := 4161, nameIndex := 345, descriptorIndex := 156, attributes := #[] }] 49 2 #[349, 351, 353, 355] #[{ accessFlags := 24, nameIndex := 357, descriptorIndex := 358, attributes := #[] }])
  fields := #[{ name := "serialVersionUID", type := .long, accessFlags := 24, slot := 0, constantValue := 0 }]
  methods := #[k13m0, k13m1, k13m2, k13m3]
  instanceTypes := #[(.array .byte), .byte, .boolean, .int]
  staticTypes := #[.long]
  resolved := Array.replicate 422 none
  statics := none }

def pool14 : Array CpInfo := pool [(2, .class_ 4), (1, u "java/lang/Object"), (0, u "<init>"), (0, u "()V"), (1, .class_ 10), (1, u "java/lang/System"), (0, u "allowSecurityManager"), (0, u "I"), (16, u "cons"), (0, u "Ljava/io/Console;"), (77, .class_ 110), (1, u "java/lang/System$CallersHolder"), (43, u "initialErrStream"), (0, u "Ljava/io/PrintStream;"), (19, u "security"), (0, u "Ljava/lang/SecurityManager;"), (31, .class_ 209), (0, u "java/lang/System$1"), (7, u "props"), (0, u "Ljava/util/Properties;"), (2, u "lineSeparator"), (0, u "Ljava/lang/String;"), (96, .class_ 321), (1, u "java/lang/System$LoggerFinder"), (5, .class_ 328), (0, u "java/lang/System$Logger"), (67, u "err"), (2, u "out"), (91, u "notSupportedJnuEncoding"), (15, u "in"), (17, u "initialIn"), (0, u "Ljava/io/InputStream;"), (35, u "bootLayer"), (0, u "Ljava/lang/ModuleLayer;"), (99, .class_ 664), (0, u "java/lang/System$2"), (9, u "NEVER"), (2, u "MAYBE"), (49, u "arraycopy"), (0, u "(Ljava/lang/Object;ILjava/lang/Object;II)V"), (72, .class_ 802), (0, u "java/lang/System$Logger$Level")] 31

def k14m0 : Method := { name := "<init>", desc := "()V", sig := { parameters := [], returnType := none }, accessFlags := 2, code := none }
def k14m1 : Method := { name := "arraycopy", desc := "(Ljava/lang/Object;ILjava/lang/Object;II)V", sig := { parameters := [(.object "java/lang/Object"), .int, (.object "java/lang/Object"), .int, .int], returnType := none }, accessFlags := 265, code := none }
/-- java/lang/System -/
def k14 : Class := { plain "java/lang/System" (some 0) with
  accessFlags := 49
  interfaces := #[]
  cf := some (fileOf pool14 8 #[.nestMembers #[319, 327, 801, 108, 663, 208]] #[{ accessFlags := 2, nameIndex := 5, descriptorIndex := 6, attributes := #[] }, { accessFlags := 265, nameIndex := 727, descriptorIndex := 728, attributes := #[] }] 49 2 #[] #[{ accessFlags := 25, nameIndex := 507, descriptorIndex := 526, attributes := #[] }, { accessFlags := 25, nameIndex := 399, descriptorIndex := 155, attributes := #[] }, { accessFlags := 25, nameIndex := 396, descriptorIndex := 155, attributes := #[] }, { accessFlags := 10, nameIndex := 525, descriptorIndex := 526, attributes := #[] }, { accessFlags := 26, nameIndex := 674, descriptorIndex := 12, attributes := #[] }, { accessFlags := 26, nameIndex := 677, descriptorIndex := 12, attributes := #[] }, { accessFlags := 10, nameIndex := 11, descriptorIndex := 12, attributes := #[] }, { accessFlags := 74, nameIndex := 175, descriptorIndex := 176, attributes := #[] }, { accessFlags := 10, nameIndex := 491, descriptorIndex := 222, attributes := #[] }, { accessFlags := 74, nameIndex := 29, descriptorIndex := 30, attributes := #[] }, { accessFlags := 74, nameIndex := 154, descriptorIndex := 155, attributes := #[] }, { accessFlags := 10, nameIndex := 217, descriptorIndex := 218, attributes := #[] }, { accessFlags := 10, nameIndex := 221, descriptorIndex := 222, attributes := #[] }, { accessFlags := 8, nameIndex := 562, descriptorIndex := 563, attributes := #[] }])
  fields := #[{ name := "in", type := (.object "java/io/InputStream"), accessFlags := 25, slot := 0, constantValue := 0 }, { name := "out", type := (.object "java/io/PrintStream"), accessFlags := 25, slot := 1, constantValue := 0 }, { name := "err", type := (.object "java/io/PrintStream"), accessFlags := 25, slot := 2, constantValue := 0 }, { name := "initialIn", type := (.object "java/io/InputStream"), accessFlags := 10, slot := 3, constantValue := 0 }, { name := "NEVER", type := .int, accessFlags := 26, slot := 4, constantValue := 0 }, { name := "MAYBE", type := .int, accessFlags := 26, slot := 5, constantValue := 0 }, { name := "allowSecurityManager", type := .int, accessFlags := 10, slot := 6, constantValue := 0 }, { name := "security", type := (.object "java/lang/SecurityManager"), accessFlags := 74, slot := 7, constantValue := 0 }, { name := "notSupportedJnuEncoding", type := (.object "java/lang/String"), accessFlags := 10, slot := 8, constantValue := 0 }, { name := "cons", type := (.object "java/io/Console"), accessFlags := 74, slot := 9, constantValue := 0 }, { name := "initialErrStream", type := (.object "java/io/PrintStream"), accessFlags := 74, slot := 10, constantValue := 0 }, { name := "props", type := (.object "java/util/Properties"), accessFlags := 10, slot := 11, constantValue := 0 }, { name := "lineSeparator", type := (.object "java/lang/String"), accessFlags := 10, slot := 12, constantValue := 0 }, { name := "bootLayer", type := (.object "java/lang/ModuleLayer"), accessFlags := 8, slot := 13, constantValue := 0 }]
  methods := #[k14m0, k14m1]
  instanceTypes := #[]
  staticTypes := #[(.object "java/io/InputStream"), (.object "java/io/PrintStream"), (.object "java/io/PrintStream"), (.object "java/io/InputStream"), .int, .int, .int, (.object "java/lang/SecurityManager"), (.object "java/lang/String"), (.object "java/io/Console"), (.object "java/io/PrintStream"), (.object "java/util/Properties"), (.object "java/lang/String"), (.object "java/lang/ModuleLayer")]
  resolved := Array.replicate 834 none
  statics := none }

def pool15 : Array CpInfo := pool [(2, .class_ 4), (1, u "java/lang/Object"), (0, u "<init>"), (0, u "()V"), (17, .class_ 26), (1, u "jdk/internal/util/Preconditions"), (6, u "checkIndex"), (15, u "checkFromIndexSize"), (5, .class_ 56), (0, u "jdk/internal/util/Preconditions$4"), (57, .class_ 115), (0, u "jdk/internal/util/Preconditions$1"), (7, u "SIOOBE_FORMATTER"), (0, u "Ljava/util/function/BiFunction;"), (0, .class_ 126), (0, u "jdk/internal/util/Preconditions$2"), (3, u "AIOOBE_FORMATTER"), (0, .class_ 132), (0, u "jdk/internal/util/Preconditions$3"), (3, u "IOOBE_FORMATTER"), (41, u "(IILjava/util/function/BiFunction;)I"), (4, u "(IIILjava/util/function/BiFunction;)I")] 10

def k15m0 : Method := { name := "<init>", desc := "()V", sig := { parameters := [], returnType := none }, accessFlags := 1, code := none }
def k15c1 : Code := { maxStack := 3, maxLocals := 3, code := jdk_41_method_11_code, exceptionTable := #[], attributes := #[] }
def k15m1 : Method := { name := "checkIndex", desc := "(IILjava/util/function/BiFunction;)I", sig := { parameters := [.int, .int, (.object "java/util/function/BiFunction")], returnType := some .int }, accessFlags := 9, code := some k15c1 }
def k15c2 : Code := { maxStack := 4, maxLocals := 4, code := jdk_41_method_13_code, exceptionTable := #[], attributes := #[] }
def k15m2 : Method := { name := "checkFromIndexSize", desc := "(IIILjava/util/function/BiFunction;)I", sig := { parameters := [.int, .int, .int, (.object "java/util/function/BiFunction")], returnType := some .int }, accessFlags := 9, code := some k15c2 }
/-- jdk/internal/util/Preconditions -/
def k15 : Class := { plain "jdk/internal/util/Preconditions" (some 0) with
  accessFlags := 33
  interfaces := #[]
  cf := some (fileOf pool15 24 #[.nestMembers #[55, 131, 125, 114]] #[{ accessFlags := 1, nameIndex := 5, descriptorIndex := 6, attributes := #[] }, { accessFlags := 9, nameIndex := 33, descriptorIndex := 178, attributes := #[] }, { accessFlags := 9, nameIndex := 49, descriptorIndex := 183, attributes := #[] }] 33 2 #[] #[{ accessFlags := 25, nameIndex := 123, descriptorIndex := 124, attributes := #[] }, { accessFlags := 25, nameIndex := 130, descriptorIndex := 124, attributes := #[] }, { accessFlags := 25, nameIndex := 136, descriptorIndex := 124, attributes := #[] }])
  fields := #[{ name := "SIOOBE_FORMATTER", type := (.object "java/util/function/BiFunction"), accessFlags := 25, slot := 0, constantValue := 0 }, { name := "AIOOBE_FORMATTER", type := (.object "java/util/function/BiFunction"), accessFlags := 25, slot := 1, constantValue := 0 }, { name := "IOOBE_FORMATTER", type := (.object "java/util/function/BiFunction"), accessFlags := 25, slot := 2, constantValue := 0 }]
  methods := #[k15m0, k15m1, k15m2]
  instanceTypes := #[]
  staticTypes := #[(.object "java/util/function/BiFunction"), (.object "java/util/function/BiFunction"), (.object "java/util/function/BiFunction")]
  resolved := Array.replicate 194 none
  statics := some 1 }

def pool16 : Array CpInfo := pool [(2, .class_ 4), (1, u "java/lang/Object"), (0, u "<init>"), (0, u "()V"), (7, .class_ 16), (1, u "java/util/Arrays"), (57, .class_ 76), (1, u "java/util/Arrays$NaturalOrder"), (36, .class_ 115), (1, u "java/util/Arrays$LegacyMergeSort"), (1, u "Z"), (21, u "copyOfRange"), (10, .methodref 151 152), (0, .class_ 153), (0, .nameAndType 154 155), (0, u "java/lang/System"), (0, u "arraycopy"), (0, u "(Ljava/lang/Object;ILjava/lang/Object;II)V"), (148, .methodref 305 306), (0, .class_ 307), (0, .nameAndType 308 309), (0, u "java/lang/Math"), (0, u "min"), (0, u "(II)I"), (29, .methodref 14 340), (0, .nameAndType 341 342), (0, u "copyOfRangeByte"), (0, u "([BII)[B"), (0, .methodref 14 344), (0, .nameAndType 345 346), (0, u "checkLength"), (0, u "(II)V"), (28, .class_ 376), (0, u "java/util/Arrays$ArrayList"), (68, u "$assertionsDisabled"), (269, u "MIN_ARRAY_SORT_GRAN"), (0, u "I"), (2, u "INSERTIONSORT_THRESHOLD"), (255, .class_ 976), (0, u "java/util/Arrays$ArrayItr")] 52

def k16m0 : Method := { name := "<init>", desc := "()V", sig := { parameters := [], returnType := none }, accessFlags := 2, code := none }
def k16c1 : Code := { maxStack := 4, maxLocals := 2, code := jdk_65_method_131_code, exceptionTable := #[], attributes := #[] }
def k16m1 : Method := { name := "checkLength", desc := "(II)V", sig := { parameters := [.int, .int], returnType := none }, accessFlags := 10, code := some k16c1 }
def k16c2 : Code := { maxStack := 3, maxLocals := 3, code := jdk_65_method_132_code, exceptionTable := #[], attributes := #[] }
def k16m2 : Method := { name := "copyOfRange", desc := "([BII)[B", sig := { parameters := [(.array .byte), .int, .int], returnType := some (.array .byte) }, accessFlags := 9, code := some k16c2 }
def k16c3 : Code := { maxStack := 6, maxLocals := 5, code := jdk_65_method_133_code, exceptionTable := #[], attributes := #[] }
def k16m3 : Method := { name := "copyOfRangeByte", desc := "([BII)[B", sig := { parameters := [(.array .byte), .int, .int], returnType := some (.array .byte) }, accessFlags := 10, code := some k16c3 }
/-- java/util/Arrays -/
def k16 : Class := { plain "java/util/Arrays" (some 0) with
  accessFlags := 49
  interfaces := #[]
  cf := some (fileOf pool16 14 #[.nestMembers #[975, 375, 113, 74]] #[{ accessFlags := 2, nameIndex := 5, descriptorIndex := 6, attributes := #[] }, { accessFlags := 10, nameIndex := 345, descriptorIndex := 346, attributes := #[] }, { accessFlags := 9, nameIndex := 139, descriptorIndex := 342, attributes := #[] }, { accessFlags := 10, nameIndex := 341, descriptorIndex := 342, attributes := #[] }] 49 2 #[] #[{ accessFlags := 26, nameIndex := 715, descriptorIndex := 716, attributes := #[] }, { accessFlags := 26, nameIndex := 719, descriptorIndex := 716, attributes := #[] }, { accessFlags := 4120, nameIndex := 445, descriptorIndex := 117, attributes := #[] }])
  fields := #[{ name := "MIN_ARRAY_SORT_GRAN", type := .int, accessFlags := 26, slot := 0, constantValue := 0 }, { name := "INSERTIONSORT_THRESHOLD", type := .int, accessFlags := 26, slot := 1, constantValue := 0 }, { name := "$assertionsDisabled", type := .boolean, accessFlags := 4120, slot := 2, constantValue := 0 }]
  methods := #[k16m0, k16m1, k16m2, k16m3]
  instanceTypes := #[]
  staticTypes := #[.int, .int, .boolean]
  resolved := Array.replicate 1029 none
  statics := none }

def pool17 : Array CpInfo := pool [(1, .class_ 2), (0, u "java/lang/Math"), (1, .class_ 6), (1, u "java/lang/Object"), (0, u "<init>"), (0, u "()V"), (89, .class_ 100), (1, u "java/lang/Math$RandomNumberGeneratorHolder"), (71, u "negativeZeroFloatBits"), (0, u "J"), (2, u "negativeZeroDoubleBits"), (24, u "min"), (43, u "$assertionsDisabled"), (0, u "Z"), (88, u "(II)I"), (2, u "twoToTheDoubleScaleDown"), (0, u "D"), (4, u "twoToTheDoubleScaleUp"), (9, u "E"), (3, u "PI"), (2, u "TAU"), (2, u "DEGREES_TO_RADIANS"), (0, u "RADIANS_TO_DEGREES")] 94

def k17m0 : Method := { name := "<init>", desc := "()V", sig := { parameters := [], returnType := none }, accessFlags := 2, code := none }
def k17c1 : Code := { maxStack := 2, maxLocals := 2, code := jdk_29_method_69_code, exceptionTable := #[], attributes := #[] }
def k17m1 : Method := { name := "min", desc := "(II)I", sig := { parameters := [.int, .int], returnType := some .int }, accessFlags := 9, code := some k17c1 }
/-- java/lang/Math -/
def k17 : Class := { plain "java/lang/Math" (some 0) with
  accessFlags := 49
  interfaces := #[]
  cf := some (fileOf pool17 1 #[.nestMembers #[98]] #[{ accessFlags := 2, nameIndex := 7, descriptorIndex := 8, attributes := #[] }, { accessFlags := 9, nameIndex := 201, descriptorIndex := 335, attributes := #[] }] 49 4 #[] #[{ accessFlags := 25, nameIndex := 354, descriptorIndex := 339, attributes := #[] }, { accessFlags := 25, nameIndex := 358, descriptorIndex := 339, attributes := #[] }, { accessFlags := 25, nameIndex := 361, descriptorIndex := 339, attributes := #[] }, { accessFlags := 26, nameIndex := 364, descriptorIndex := 339, attributes := #[] }, { accessFlags := 26, nameIndex := 365, descriptorIndex := 339, attributes := #[] }, { accessFlags := 26, nameIndex := 172, descriptorIndex := 173, attributes := #[] }, { accessFlags := 26, nameIndex := 176, descriptorIndex := 173, attributes := #[] }, { accessFlags := 8, nameIndex := 344, descriptorIndex := 339, attributes := #[] }, { accessFlags := 8, nameIndex := 338, descriptorIndex := 339, attributes := #[] }, { accessFlags := 4120, nameIndex := 245, descriptorIndex := 246, attributes := #[] }])
  fields := #[{ name := "E", type := .double, accessFlags := 25, slot := 0, constantValue := 0 }, { name := "PI", type := .double, accessFlags := 25, slot := 1, constantValue := 0 }, { name := "TAU", type := .double, accessFlags := 25, slot := 2, constantValue := 0 }, { name := "DEGREES_TO_RADIANS", type := .double, accessFlags := 26, slot := 3, constantValue := 0 }, { name := "RADIANS_TO_DEGREES", type := .double, accessFlags := 26, slot := 4, constantValue := 0 }, { name := "negativeZeroFloatBits", type := .long, accessFlags := 26, slot := 5, constantValue := 0 }, { name := "negativeZeroDoubleBits", type := .long, accessFlags := 26, slot := 6, constantValue := 0 }, { name := "twoToTheDoubleScaleUp", type := .double, accessFlags := 8, slot := 7, constantValue := 0 }, { name := "twoToTheDoubleScaleDown", type := .double, accessFlags := 8, slot := 8, constantValue := 0 }, { name := "$assertionsDisabled", type := .boolean, accessFlags := 4120, slot := 9, constantValue := 0 }]
  methods := #[k17m0, k17m1]
  instanceTypes := #[]
  staticTypes := #[.double, .double, .double, .double, .double, .long, .long, .double, .double, .boolean]
  resolved := Array.replicate 460 none
  statics := none }

def pool18 : Array CpInfo := pool [(3, .class_ 4), (0, u "java/lang/String"), (1, .class_ 8), (1, u "java/lang/Object"), (0, u "<init>"), (0, u "()V"), (0, .methodref 12 13), (0, .class_ 14), (0, .nameAndType 15 16), (0, u "java/lang/StringUTF16"), (0, u "newBytesLength"), (0, u "(I)I"), (3, .integer 1073741823), (23, .fieldref 12 45), (0, .nameAndType 46 47), (0, u "$assertionsDisabled"), (0, u "Z"), (0, .methodref 12 49), (0, .nameAndType 50 51), (0, u "length"), (0, u "([B)I"), (7, .fieldref 12 60), (0, .nameAndType 61 62), (0, u "HI_BYTE_SHIFT"), (0, u "I"), (0, .fieldref 12 64), (0, .nameAndType 65 62), (0, u "LO_BYTE_SHIFT"), (1, .methodref 12 68), (0, .nameAndType 69 70), (0, u "checkIndex"), (0, u "(I[B)V"), (0, .methodref 12 72), (0, .nameAndType 73 74), (0, u "getChar"), (0, u "([BI)C"), (24, u "(II[B)V"), (7, .methodref 12 108), (0, .nameAndType 109 110), (0, u "newBytesFor"), (0, u "(I)[B"), (0, .methodref 12 112), (0, .nameAndType 113 114), (0, u "putChar"), (0, u "([BII)V"), (0, .methodref 12 116), (0, .nameAndType 117 118), (0, u "compress"), (0, u "([CI[BII)I"), (0, .methodref 12 120), (0, .nameAndType 121 122), (0, u "toBytes"), (0, u "([CII)[B"), (17, u "inflate"), (0, u "([BI[BII)V"), (31, .methodref 12 174), (0, .nameAndType 175 99), (0, u "checkBoundsOffCount"), (85, u "coderFromArrayLen"), (0, u "([BI)B"), (18, u "(III)I"), (87, .class_ 371), (1, u "java/lang/StringUTF16$LinesSpliterator"), (20, u "charAt"), (21, .methodref 3 415), (0, .nameAndType 69 416), (0, u "(II)V"), (2, .methodref 3 420), (0, .nameAndType 175 281), (9, u "MAX_LENGTH"), (44, u "(C)[B"), (151, .class_ 628), (0, u "java/lang/StringUTF16$CodePointsSpliterator"), (0, .class_ 630), (0, u "java/lang/StringUTF16$CharsSpliterator")] 4

def k18m0 : Method := { name := "<init>", desc := "()V", sig := { parameters := [], returnType := none }, accessFlags := 0, code := none }
def k18c1 : Code := { maxStack := 1, maxLocals := 1, code := jdk_52_method_2_code, exceptionTable := #[], attributes := #[] }
def k18m1 : Method := { name := "newBytesFor", desc := "(I)[B", sig := { parameters := [.int], returnType := some (.array .byte) }, accessFlags := 9, code := some k18c1 }
def k18c2 : Code := { maxStack := 4, maxLocals := 1, code := jdk_52_method_3_code, exceptionTable := #[], attributes := #[] }
def k18m2 : Method := { name := "newBytesLength", desc := "(I)I", sig := { parameters := [.int], returnType := some .int }, accessFlags := 9, code := some k18c2 }
def k18c3 : Code := { maxStack := 4, maxLocals := 3, code := jdk_52_method_4_code, exceptionTable := #[], attributes := #[] }
def k18m3 : Method := { name := "putChar", desc := "([BII)V", sig := { parameters := [(.array .byte), .int, .int], returnType := none }, accessFlags := 8, code := some k18c3 }
def k18c4 : Code := { maxStack := 3, maxLocals := 2, code := jdk_52_method_5_code, exceptionTable := #[], attributes := #[] }
def k18m4 : Method := { name := "getChar", desc := "([BI)C", sig := { parameters := [(.array .byte), .int], returnType := some .char }, accessFlags := 8, code := some k18c4 }
def k18c5 : Code := { maxStack := 2, maxLocals := 1, code := jdk_52_method_6_code, exceptionTable := #[], attributes := #[] }
def k18m5 : Method := { name := "length", desc := "([B)I", sig := { parameters := [(.array .byte)], returnType := some .int }, accessFlags := 9, code := some k18c5 }
def k18c6 : Code := { maxStack := 4, maxLocals := 5, code := jdk_52_method_14_code, exceptionTable := #[], attributes := #[] }
def k18m6 : Method := { name := "toBytes", desc := "([CII)[B", sig := { parameters := [(.array .char), .int, .int], returnType := some (.array .byte) }, accessFlags := 9, code := some k18c6 }
def k18c7 : Code := { maxStack := 2, maxLocals := 2, code := jdk_52_method_15_code, exceptionTable := #[], attributes := #[] }
def k18m7 : Method := { name := "coderFromArrayLen", desc := "([BI)B", sig := { parameters := [(.array .byte), .int], returnType := some .byte }, accessFlags := 8, code := some k18c7 }
def k18c8 : Code := { maxStack := 5, maxLocals := 6, code := jdk_52_method_16_code, exceptionTable := #[], attributes := #[] }
def k18m8 : Method := { name := "compress", desc := "([CII)[B", sig := { parameters := [(.array .char), .int, .int], returnType := some (.array .byte) }, accessFlags := 9, code := some k18c8 }
def k18c9 : Code := { maxStack := 3, maxLocals := 7, code := jdk_52_method_21_code, exceptionTable := #[], attributes := #[] }
def k18m9 : Method := { name := "compress", desc := "([CI[BII)I", sig := { parameters := [(.array .char), .int, (.array .byte), .int, .int], returnType := some .int }, accessFlags := 9, code := some k18c9 }
def k18c10 : Code := { maxStack := 3, maxLocals := 2, code := jdk_52_method_24_code, exceptionTable := #[], attributes := #[] }
def k18m10 : Method := { name := "toBytes", desc := "(C)[B", sig := { parameters := [.char], returnType := some (.array .byte) }, accessFlags := 9, code := some k18c10 }
def k18c11 : Code := { maxStack := 2, maxLocals := 2, code := jdk_52_method_83_code, exceptionTable := #[], attributes := #[] }
def k18m11 : Method := { name := "charAt", desc := "([BI)C", sig := { parameters := [(.array .byte), .int], returnType := some .char }, accessFlags := 9, code := some k18c11 }
def k18c12 : Code := { maxStack := 4, maxLocals := 6, code := jdk_52_method_86_code, exceptionTable := #[], attributes := #[] }
def k18m12 : Method := { name := "inflate", desc := "([BI[BII)V", sig := { parameters := [(.array .byte), .int, (.array .byte), .int, .int], returnType := none }, accessFlags := 9, code := some k18c12 }
def k18c13 : Code := { maxStack := 2, maxLocals := 2, code := jdk_52_method_91_code, exceptionTable := #[], attributes := #[] }
def k18m13 : Method := { name := "checkIndex", desc := "(I[B)V", sig := { parameters := [.int, (.array .byte)], returnType := none }, accessFlags := 9, code := some k18c13 }
def k18c14 : Code := { maxStack := 3, maxLocals := 3, code := jdk_52_method_94_code, exceptionTable := #[], attributes := #[] }
def k18m14 : Method := { name := "checkBoundsOffCount", desc := "(II[B)V", sig := { parameters := [.int, .int, (.array .byte)], returnType := none }, accessFlags := 9, code := some k18c14 }
/-- java/lang/StringUTF16 -/
def k18 : Class := { plain "java/lang/StringUTF16" (some 0) with
  accessFlags := 48
  interfaces := #[]
  cf := some (fileOf pool18 12 #[.nestMembers #[627, 629, 369]] #[{ accessFlags := 0, nameIndex := 9, descriptorIndex := 10, attributes := #[] }, { accessFlags := 9, nameIndex := 109, descriptorIndex := 110, attributes := #[] }, { accessFlags := 9, nameIndex := 15, descriptorIndex := 16, attributes := #[] }, { accessFlags := 8, nameIndex := 113, descriptorIndex := 114, attributes := #[] }, { accessFlags := 8, nameIndex := 73, descriptorIndex := 74, attributes := #[] }, { accessFlags := 9, nameIndex := 50, descriptorIndex := 51, attributes := #[] }, { accessFlags := 9, nameIndex := 121, descriptorIndex := 122, attributes := #[] }, { accessFlags := 8, nameIndex := 261, descriptorIndex := 262, attributes := #[] }, { accessFlags := 9, nameIndex := 117, descriptorIndex := 122, attributes := #[] }, { accessFlags := 9, nameIndex := 117, descriptorIndex := 118, attributes := #[] }, { accessFlags := 9, nameIndex := 121, descriptorIndex := 475, attributes := #[] }, { accessFlags := 9, nameIndex := 392, descriptorIndex := 74, attributes := #[] }, { accessFlags := 9, nameIndex := 140, descriptorIndex := 141, attributes := #[] }, { accessFlags := 9, nameIndex := 69, descriptorIndex := 70, attributes := #[] }, { accessFlags := 9, nameIndex := 175, descriptorIndex := 99, attributes := #[] }] 48 6 #[] #[{ accessFlags := 26, nameIndex := 61, descriptorIndex := 62, attributes := #[] }, { accessFlags := 26, nameIndex := 65, descriptorIndex := 62, attributes := #[] }, { accessFlags := 24, nameIndex := 430, descriptorIndex := 62, attributes := #[] }, { accessFlags := 4120, nameIndex := 46, descriptorIndex := 47, attributes := #[] }])
  fields := #[{ name := "HI_BYTE_SHIFT", type := .int, accessFlags := 26, slot := 0, constantValue := 0 }, { name := "LO_BYTE_SHIFT", type := .int, accessFlags := 26, slot := 1, constantValue := 0 }, { name := "MAX_LENGTH", type := .int, accessFlags := 24, slot := 2, constantValue := 0 }, { name := "$assertionsDisabled", type := .boolean, accessFlags := 4120, slot := 3, constantValue := 0 }]
  methods := #[k18m0, k18m1, k18m2, k18m3, k18m4, k18m5, k18m6, k18m7, k18m8, k18m9, k18m10, k18m11, k18m12, k18m13, k18m14]
  instanceTypes := #[]
  staticTypes := #[.int, .int, .int, .boolean]
  resolved := Array.replicate 635 none
  statics := some 2 }

def pool19 : Array CpInfo := pool [(1, .class_ 2), (0, u "java/lang/Character"), (18, u "value"), (0, u "C"), (19, .class_ 44), (1, u "java/lang/Object"), (3, .class_ 50), (1, u "java/lang/Character$CharacterCache"), (24, .integer 55296), (0, .integer 56320), (0, .integer 57344), (2, u "isHighSurrogate"), (0, u "(C)Z"), (2, u "isLowSurrogate"), (199, u "$assertionsDisabled"), (0, u "Z"), (21, .class_ 309), (1, u "java/lang/Character$UnicodeBlock"), (73, u "TYPE"), (0, u "Ljava/lang/Class;"), (0, .class_ 386), (0, u "java/io/Serializable"), (0, .class_ 388), (0, u "java/lang/Comparable"), (0, .class_ 390), (0, u "java/lang/constant/Constable"), (0, u "MIN_RADIX"), (0, u "I"), (2, u "MAX_RADIX"), (1, u "MIN_VALUE"), (1, u "MAX_VALUE"), (3, u "UNASSIGNED"), (0, u "B"), (0, u "UPPERCASE_LETTER"), (1, u "LOWERCASE_LETTER"), (0, u "TITLECASE_LETTER"), (1, u "MODIFIER_LETTER"), (1, u "OTHER_LETTER"), (1, u "NON_SPACING_MARK"), (1, u "ENCLOSING_MARK"), (1, u "COMBINING_SPACING_MARK"), (1, u "DECIMAL_DIGIT_NUMBER"), (1, u "LETTER_NUMBER"), (1, u "OTHER_NUMBER"), (1, u "SPACE_SEPARATOR"), (1, u "LINE_SEPARATOR"), (1, u "PARAGRAPH_SEPARATOR"), (1, u "CONTROL"), (1, u "FORMAT"), (1, u "PRIVATE_USE"), (1, u "SURROGATE"), (1, u "DASH_PUNCTUATION"), (1, u "START_PUNCTUATION"), (1, u "END_PUNCTUATION"), (1, u "CONNECTOR_PUNCTUATION"), (1, u "OTHER_PUNCTUATION"), (1, u "MATH_SYMBOL"), (1, u "CURRENCY_SYMBOL"), (1, u "MODIFIER_SYMBOL"), (1, u "OTHER_SYMBOL"), (1, u "INITIAL_QUOTE_PUNCTUATION"), (1, u "FINAL_QUOTE_PUNCTUATION"), (1, u "ERROR"), (1, u "DIRECTIONALITY_UNDEFINED"), (0, u "DIRECTIONALITY_LEFT_TO_RIGHT"), (0, u "DIRECTIONALITY_RIGHT_TO_LEFT"), (0, u "DIRECTIONALITY_RIGHT_TO_LEFT_ARABIC"), (0, u "DIRECTIONALITY_EUROPEAN_NUMBER"), (0, u "DIRECTIONALITY_EUROPEAN_NUMBER_SEPARATOR"), (0, u "DIRECTIONALITY_EUROPEAN_NUMBER_TERMINATOR"), (0, u "DIRECTIONALITY_ARABIC_NUMBER"), (0, u "DIRECTIONALITY_COMMON_NUMBER_SEPARATOR"), (0, u "DIRECTIONALITY_NONSPACING_MARK"), (0, u "DIRECTIONALITY_BOUNDARY_NEUTRAL"), (0, u "DIRECTIONALITY_PARAGRAPH_SEPARATOR"), (0, u "DIRECTIONALITY_SEGMENT_SEPARATOR"), (0, u "DIRECTIONALITY_WHITESPACE"), (0, u "DIRECTIONALITY_OTHER_NEUTRALS"), (0, u "DIRECTIONALITY_LEFT_TO_RIGHT_EMBEDDING"), (0, u "DIRECTIONALITY_LEFT_TO_RIGHT_OVERRIDE"), (0, u "DIRECTIONALITY_RIGHT_TO_LEFT_EMBEDDING"), (0, u "DIRECTIONALITY_RIGHT_TO_LEFT_OVERRIDE"), (1, u "DIRECTIONALITY_POP_DIRECTIONAL_FORMAT"), (0, u "DIRECTIONALITY_LEFT_TO_RIGHT_ISOLATE"), (0, u "DIRECTIONALITY_RIGHT_TO_LEFT_ISOLATE"), (0, u "DIRECTIONALITY_FIRST_STRONG_ISOLATE"), (0, u "DIRECTIONALITY_POP_DIRECTIONAL_ISOLATE"), (0, u "MIN_HIGH_SURROGATE"), (0, u "MAX_HIGH_SURROGATE"), (1, u "MIN_LOW_SURROGATE"), (0, u "MAX_LOW_SURROGATE"), (1, u "MIN_SURROGATE"), (0, u "MAX_SURROGATE"), (0, u "MIN_SUPPLEMENTARY_CODE_POINT"), (0, u "MIN_CODE_POINT"), (0, u "MAX_CODE_POINT"), (1, u "serialVersionUID"), (0, u "J"), (2, u "SIZE"), (0, u "BYTES"), (24, u "isSurrogate"), (63, .class_ 596), (0, u "java/lang/Character$UnicodeScript"), (0, .class_ 598), (0, u "java/lang/Character$Subset")] 5

def k19c0 : Code := { maxStack := 2, maxLocals := 1, code := jdk_89_method_14_code, exceptionTable := #[], attributes := #[] }
def k19m0 : Method := { name := "isHighSurrogate", desc := "(C)Z", sig := { parameters := [.char], returnType := some .boolean }, accessFlags := 9, code := some k19c0 }
def k19c1 : Code := { maxStack := 2, maxLocals := 1, code := jdk_89_method_15_code, exceptionTable := #[], attributes := #[] }
def k19m1 : Method := { name := "isLowSurrogate", desc := "(C)Z", sig := { parameters := [.char], returnType := some .boolean }, accessFlags := 9, code := some k19c1 }
def k19c2 : Code := { maxStack := 2, maxLocals := 1, code := jdk_89_method_16_code, exceptionTable := #[], attributes := #[] }
def k19m2 : Method := { name := "isSurrogate", desc := "(C)Z", sig := { parameters := [.char], returnType := some .boolean }, accessFlags := 9, code := some k19c2 }
/-- java/lang/Character -/
def k19 : Class := { plain "java/lang/Character" (some 0) with
  accessFlags := 49
  interfaces := #[2, 3, 5]
  cf := some (fileOf pool19 1 #[.nestMembers #[48, 595, 307, 597]] #[{ accessFlags := 9, nameIndex := 80, descriptorIndex := 81, attributes := #[] }, { accessFlags := 9, nameIndex := 84, descriptorIndex := 81, attributes := #[] }, { accessFlags := 9, nameIndex := 531, descriptorIndex := 81, attributes := #[] }] 49 42 #[385, 387, 389] #[{ accessFlags := 25, nameIndex := 391, descriptorIndex := 392, attributes := #[] }, { accessFlags := 25, nameIndex := 395, descriptorIndex := 392, attributes := #[] }, { accessFlags := 25, nameIndex := 397, descriptorIndex := 22, attributes := #[] }, { accessFlags := 25, nameIndex := 399, descriptorIndex := 22, attributes := #[] }, { accessFlags := 25, nameIndex := 383, descriptorIndex := 384, attributes := #[] }, { accessFlags := 25, nameIndex := 403, descriptorIndex := 404, attributes := #[] }, { accessFlags := 25, nameIndex := 405, descriptorIndex := 404, attributes := #[] }, { accessFlags := 25, nameIndex := 407, descriptorIndex := 404, attributes := #[] }, { accessFlags := 25, nameIndex := 408, descriptorIndex := 404, attributes := #[] }, { accessFlags := 25, nameIndex := 410, descriptorIndex := 404, attributes := #[] }, { accessFlags := 25, nameIndex := 412, descriptorIndex := 404, attributes := #[] }, { accessFlags := 25, nameIndex := 414, descriptorIndex := 404, attributes := #[] }, { accessFlags := 25, nameIndex := 416, descriptorIndex := 404, attributes := #[] }, { accessFlags := 25, nameIndex := 418, descriptorIndex := 404, attributes := #[] }, { accessFlags := 25, nameIndex := 420, descriptorIndex := 404, attributes := #[] }, { accessFlags := 25, nameIndex := 422, descriptorIndex := 404, attributes := #[] }, { accessFlags := 25, nameIndex := 424, descriptorIndex := 404, attributes := #[] }, { accessFlags := 25, nameIndex := 426, descriptorIndex := 404, attributes := #[] }, { accessFlags := 25, nameIndex := 428, descriptorIndex := 404, attributes := #[] }, { accessFlags := 25, nameIndex := 430, descriptorIndex := 404, attributes := #[] }, { accessFlags := 25, nameIndex := 432, descriptorIndex := 404, attributes := #[] }, { accessFlags := 25, nameIndex := 434, descriptorIndex := 404, attributes := #[] }, { accessFlags := 25, nameIndex := 436, descriptorIndex := 404, attributes := #[] }, { accessFlags := 25, nameIndex := 438, descriptorIndex := 404, attributes := #[] }, { accessFlags := 25, nameIndex := 440, descriptorIndex := 404, attributes := #[] }, { accessFlags := 25, nameIndex := 442, descriptorIndex := 404, attributes := #[] }, { accessFlags := 25, nameIndex := 444, descriptorIndex := 404, attributes := #[] }, { accessFlags := 25, nameIndex := 446, descriptorIndex := 404, attributes := #[] }, { accessFlags := 25, nameIndex := 448, descriptorIndex := 404, attributes := #[] }, { accessFlags := 25, nameIndex := 450, descriptorIndex := 404, attributes := #[] }, { accessFlags := 25, nameIndex := 452, descriptorIndex := 404, attributes := #[] }, { accessFlags := 25, nameIndex := 454, descriptorIndex := 404, attributes := #[] }, { accessFlags := 25, nameIndex := 456, descriptorIndex := 404, attributes := #[] }, { accessFlags := 25, nameIndex := 458, descriptorIndex := 404, attributes := #[] }, { accessFlags := 25, nameIndex := 460, descriptorIndex := 404, attributes := #[] }, { accessFlags := 24, nameIndex := 462, descriptorIndex := 392, attributes := #[] }, { accessFlags := 25, nameIndex := 464, descriptorIndex := 404, attributes := #[] }, { accessFlags := 25, nameIndex := 465, descriptorIndex := 404, attributes := #[] }, { accessFlags := 25, nameIndex := 466, descriptorIndex := 404, attributes := #[] }, { accessFlags := 25, nameIndex := 467, descriptorIndex := 404, attributes := #[] }, { accessFlags := 25, nameIndex := 468, descriptorIndex := 404, attributes := #[] }, { accessFlags := 25, nameIndex := 469, descriptorIndex := 404, attributes := #[] }, { accessFlags := 25, nameIndex := 470, descriptorIndex := 404, attributes := #[] }, { accessFlags := 25, nameIndex := 471, descriptorIndex := 404, attributes := #[] }, { accessFlags := 25, nameIndex := 472, descriptorIndex := 404, attributes := #[] }, { accessFlags := 25, nameIndex := 473, descriptorIndex := 404, attributes := #[] }, { accessFlags := 25, nameIndex := 474, descriptorIndex := 404, attributes := #[] }, { accessFlags := 25, nameIndex := 475, descriptorIndex := 404, attributes := #[] }, { accessFlags := 25, nameIndex := 476, descriptorIndex := 404, attributes := #[] }, { accessFlags := 25, nameIndex := 477, descriptorIndex := 404, attributes := #[] }, { accessFlags := 25, nameIndex := 478, descriptorIndex := 404, attributes := #[] }, { accessFlags := 25, nameIndex := 479, descriptorIndex := 404, attributes := #[] }, { accessFlags := 25, nameIndex := 480, descriptorIndex := 404, attributes := #[] }, { accessFlags := 25, nameIndex := 481, descriptorIndex := 404, attributes := #[] }, { accessFlags := 25, nameIndex := 482, descriptorIndex := 404, attributes := #[] }, { accessFlags := 25, nameIndex := 484, descriptorIndex := 404, attributes := #[] }, { accessFlags := 25, nameIndex := 485, descriptorIndex := 404, attributes := #[] }, { accessFlags := 25, nameIndex := 486, descriptorIndex := 404, attributes := #[] }, { accessFlags := 25, nameIndex := 487, descriptorIndex := 404, attributes := #[] }, { accessFlags := 25, nameIndex := 488, descriptorIndex := 404, attributes := #[] }, { accessFlags := 25, nameIndex := 489, descriptorIndex := 22, attributes := #[] }, { accessFlags := 25, nameIndex := 490, descriptorIndex := 22, attributes := #[] }, { accessFlags := 25, nameIndex := 492, descriptorIndex := 22, attributes := #[] }, { accessFlags := 25, nameIndex := 493, descriptorIndex := 22, attributes := #[] }, { accessFlags := 25, nameIndex := 495, descriptorIndex := 22, attributes := #[] }, { accessFlags := 25, nameIndex := 496, descriptorIndex := 22, attributes := #[] }, { accessFlags := 25, nameIndex := 497, descriptorIndex := 392, attributes := #[] }, { accessFlags := 25, nameIndex := 498, descriptorIndex := 392, attributes := #[] }, { accessFlags := 25, nameIndex := 499, descriptorIndex := 392, attributes := #[] }, { accessFlags := 18, nameIndex := 21, descriptorIndex := 22, attributes := #[] }, { accessFlags := 26, nameIndex := 501, descriptorIndex := 502, attributes := #[] }, { accessFlags := 25, nameIndex := 505, descriptorIndex := 392, attributes := #[] }, { accessFlags := 25, nameIndex := 506, descriptorIndex := 392, attributes := #[] }, { accessFlags := 4120, nameIndex := 284, descriptorIndex := 285, attributes := #[] }])
  fields := #[{ name := "MIN_RADIX", type := .int, accessFlags := 25, slot := 0, constantValue := 0 }, { name := "MAX_RADIX", type := .int, accessFlags := 25, slot := 1, constantValue := 0 }, { name := "MIN_VALUE", type := .char, accessFlags := 25, slot := 2, constantValue := 0 }, { name := "MAX_VALUE", type := .char, accessFlags := 25, slot := 3, constantValue := 0 }, { name := "TYPE", type := (.object "java/lang/Class"), accessFlags := 25, slot := 4, constantValue := 0 }, { name := "UNASSIGNED", type := .byte, accessFlags := 25, slot := 5, constantValue := 0 }, { name := "UPPERCASE_LETTER", type := .byte, accessFlags := 25, slot := 6, constantValue := 0 }, { name := "LOWERCASE_LETTER", type := .byte, accessFlags := 25, slot := 7, constantValue := 0 }, { name := "TITLECASE_LETTER", type := .byte, accessFlags := 25, slot := 8, constantValue := 0 }, { name := "MODIFIER_LETTER", type := .byte, accessFlags := 25, slot := 9, constantValue := 0 }, { name := "OTHER_LETTER", type := .byte, accessFlags := 25, slot := 10, constantValue := 0 }, { name := "NON_SPACING_MARK", type := .byte, accessFlags := 25, slot := 11, constantValue := 0 }, { name := "ENCLOSING_MARK", type := .byte, accessFlags := 25, slot := 12, constantValue := 0 }, { name := "COMBINING_SPACING_MARK", type := .byte, accessFlags := 25, slot := 13, constantValue := 0 }, { name := "DECIMAL_DIGIT_NUMBER", type := .byte, accessFlags := 25, slot := 14, constantValue := 0 }, { name := "LETTER_NUMBER", type := .byte, accessFlags := 25, slot := 15, constantValue := 0 }, { name := "OTHER_NUMBER", type := .byte, accessFlags := 25, slot := 16, constantValue := 0 }, { name := "SPACE_SEPARATOR", type := .byte, accessFlags := 25, slot := 17, constantValue := 0 }, { name := "LINE_SEPARATOR", type := .byte, accessFlags := 25, slot := 18, constantValue := 0 }, { name := "PARAGRAPH_SEPARATOR", type := .byte, accessFlags := 25, slot := 19, constantValue := 0 }, { name := "CONTROL", type := .byte, accessFlags := 25, slot := 20, constantValue := 0 }, { name := "FORMAT", type := .byte, accessFlags := 25, slot := 21, constantValue := 0 }, { name := "PRIVATE_USE", type := .byte, accessFlags := 25, slot := 22, constantValue := 0 }, { name := "SURROGATE", type := .byte, accessFlags := 25, slot := 23, constantValue := 0 }, { name := "DASH_PUNCTUATION", type := .byte, accessFlags := 25, slot := 24, constantValue := 0 }, { name := "START_PUNCTUATION", type := .byte, accessFlags := 25, slot := 25, constantValue := 0 }, { name := "END_PUNCTUATION", type := .byte, accessFlags := 25, slot := 26, constantValue := 0 }, { name := "CONNECTOR_PUNCTUATION", type := .byte, accessFlags := 25, slot := 27, constantValue := 0 }, { name := "OTHER_PUNCTUATION", type := .byte, accessFlags := 25, slot := 28, constantValue := 0 }, { name := "MATH_SYMBOL", type := .byte, accessFlags := 25, slot := 29, constantValue := 0 }, { name := "CURRENCY_SYMBOL", type := .byte, accessFlags := 25, slot := 30, constantValue := 0 }, { name := "MODIFIER_SYMBOL", type := .byte, accessFlags := 25, slot := 31, constantValue := 0 }, { name := "OTHER_SYMBOL", type := .byte, accessFlags := 25, slot := 32, constantValue := 0 }, { name := "INITIAL_QUOTE_PUNCTUATION", type := .byte, accessFlags := 25, slot := 33, constantValue := 0 }, { name := "FINAL_QUOTE_PUNCTUATION", type := .byte, accessFlags := 25, slot := 34, constantValue := 0 }, { name := "ERROR", type := .int, accessFlags := 24, slot := 35, constantValue := 0 }, { name := "DIRECTIONALITY_UNDEFINED", type := .byte, accessFlags := 25, slot := 36, constantValue := 0 }, { name := "DIRECTIONALITY_LEFT_TO_RIGHT", type := .byte, accessFlags := 25, slot := 37, constantValue := 0 }, { name := "DIRECTIONALITY_RIGHT_TO_LEFT", type := .byte, accessFlags := 25, slot := 38, constantValue := 0 }, { name := "DIRECTIONALITY_RIGHT_TO_LEFT_ARABIC", type := .byte, accessFlags := 25, slot := 39, constantValue := 0 }, { name := "DIRECTIONALITY_EUROPEAN_NUMBER", type := .byte, accessFlags := 25, slot := 40, constantValue := 0 }, { name := "DIRECTIONALITY_EUROPEAN_NUMBER_SEPARATOR", type := .byte, accessFlags := 25, slot := 41, constantValue := 0 }, { name := "DIRECTIONALITY_EUROPEAN_NUMBER_TERMINATOR", type := .byte, accessFlags := 25, slot := 42, constantValue := 0 }, { name := "DIRECTIONALITY_ARABIC_NUMBER", type := .byte, accessFlags := 25, slot := 43, constantValue := 0 }, { name := "DIRECTIONALITY_COMMON_NUMBER_SEPARATOR", type := .byte, accessFlags := 25, slot := 44, constantValue := 0 }, { name := "DIRECTIONALITY_NONSPACING_MARK", type := .byte, accessFlags := 25, slot := 45, constantValue := 0 }, { name := "DIRECTIONALITY_BOUNDARY_NEUTRAL", type := .byte, accessFlags := 25, slot := 46, constantValue := 0 }, { name := "DIRECTIONALITY_PARAGRAPH_SEPARATOR", type := .byte, accessFlags := 25, slot := 47, constantValue := 0 }, { name := "DIRECTIONALITY_SEGMENT_SEPARATOR", type := .byte, accessFlags := 25, slot := 48, constantValue := 0 }, { name := "DIRECTIONALITY_WHITESPACE", type := .byte, accessFlags := 25, slot := 49, constantValue := 0 }, { name := "DIRECTIONALITY_OTHER_NEUTRALS", type := .byte, accessFlags := 25, slot := 50, constantValue := 0 }, { name := "DIRECTIONALITY_LEFT_TO_RIGHT_EMBEDDING", type := .byte, accessFlags := 25, slot := 51, constantValue := 0 }, { name := "DIRECTIONALITY_LEFT_TO_RIGHT_OVERRIDE", type := .byte, accessFlags := 25, slot := 52, constantValue := 0 }, { name := "DIRECTIONALITY_RIGHT_TO_LEFT_EMBEDDING", type := .byte, accessFlags := 25, slot := 53, constantValue := 0 }, { name := "DIRECTIONALITY_RIGHT_TO_LEFT_OVERRIDE", type := .byte, accessFlags := 25, slot := 54, constantValue := 0 }, { name := "DIRECTIONALITY_POP_DIRECTIONAL_FORMAT", type := .byte, accessFlags := 25, slot := 55, constantValue := 0 }, { name := "DIRECTIONALITY_LEFT_TO_RIGHT_ISOLATE", type := .byte, accessFlags := 25, slot := 56, constantValue := 0 }, { name := "DIRECTIONALITY_RIGHT_TO_LEFT_ISOLATE", type := .byte, accessFlags := 25, slot := 57, constantValue := 0 }, { name := "DIRECTIONALITY_FIRST_STRONG_ISOLATE", type := .byte, accessFlags := 25, slot := 58, constantValue := 0 }, { name := "DIRECTIONALITY_POP_DIRECTIONAL_ISOLATE", type := .byte, accessFlags := 25, slot := 59, constantValue := 0 }, { name := "MIN_HIGH_SURROGATE", type := .char, accessFlags := 25, slot := 60, constantValue := 0 }, { name := "MAX_HIGH_SURROGATE", type := .char, accessFlags := 25, slot := 61, constantValue := 0 }, { name := "MIN_LOW_SURROGATE", type := .char, accessFlags := 25, slot := 62, constantValue := 0 }, { name := "MAX_LOW_SURROGATE", type := .char, accessFlags := 25, slot := 63, constantValue := 0 }, { name := "MIN_SURROGATE", type := .char, accessFlags := 25, slot := 64, constantValue := 0 }, { name := "MAX_SURROGATE", type := .char, accessFlags := 25, slot := 65, constantValue := 0 }, { name := "MIN_SUPPLEMENTARY_CODE_POINT", type := .int, accessFlags := 25, slot := 66, constantValue := 0 }, { name := "MIN_CODE_POINT", type := .int, accessFlags := 25, slot := 67, constantValue := 0 }, { name := "MAX_CODE_POINT", type := .int, accessFlags := 25, slot := 68, constantValue := 0 }, { name := "value", type := .char, accessFlags := 18, slot := 0, constantValue := 0 }, { name := "serialVersionUID", type := .long, accessFlags := 26, slot := 69, constantValue := 0 }, { name := "SIZE", type := .int, accessFlags := 25, slot := 70, constantValue := 0 }, { name := "BYTES", type := .int, accessFlags := 25, slot := 71, constantValue := 0 }, { name := "$assertionsDisabled", type := .boolean, accessFlags := 4120, slot := 72, constantValue := 0 }]
  methods := #[k19m0, k19m1, k19m2]
  instanceTypes := #[.char]
  staticTypes := #[.int, .int, .char, .char, (.object "java/lang/Class"), .byte, .byte, .byte, .byte, .byte, .byte, .byte, .byte, .byte, .byte, .byte, .byte, .byte, .byte, .byte, .byte, .byte, .byte, .byte, .byte, .byte, .byte, .byte, .byte, .byte, .byte, .byte, .byte, .byte, .byte, .int, .byte, .byte, .byte, .byte, .byte, .byte, .byte, .byte, .byte, .byte, .byte, .byte, .byte, .byte, .byte, .byte, .byte, .byte, .byte, .byte, .byte, .byte, .byte, .byte, .char, .char, .char, .char, .char, .char, .int, .int, .int, .long, .int, .int, .boolean]
  resolved := Array.replicate 604 none
  statics := none }

def pool20 : Array CpInfo := pool [(9, u "<init>"), (6, .class_ 18), (1, u "java/lang/Object"), (0, u "()V"), (1, .class_ 23), (1, u "jdk/internal/util/ArraysSupport"), (0, u "LOG2_ARRAY_LONG_INDEX_SCALE"), (0, u "I"), (2, u "U"), (0, u "Ljdk/internal/misc/Unsafe;"), (8, u "BIG_ENDIAN"), (0, u "Z"), (8, u "LOG2_BYTE_BIT_SIZE"), (4, u "LOG2_ARRAY_INT_INDEX_SCALE"), (54, u "JLA"), (0, u "Ljdk/internal/access/JavaLangAccess;"), (11, u "LOG2_ARRAY_BOOLEAN_INDEX_SCALE"), (9, u "LOG2_ARRAY_BYTE_INDEX_SCALE"), (5, u "LOG2_ARRAY_CHAR_INDEX_SCALE"), (5, u "LOG2_ARRAY_SHORT_INDEX_SCALE"), (18, u "LOG2_ARRAY_FLOAT_INDEX_SCALE"), (24, u "LOG2_ARRAY_DOUBLE_INDEX_SCALE"), (89, u "T_BOOLEAN"), (2, u "T_CHAR"), (1, u "T_FLOAT"), (1, u "T_DOUBLE"), (1, u "T_BYTE"), (1, u "T_SHORT"), (1, u "T_INT"), (1, u "T_LONG"), (1, u "SOFT_MAX_ARRAY_LENGTH")] 83

def k20m0 : Method := { name := "<init>", desc := "()V", sig := { parameters := [], returnType := none }, accessFlags := 2, code := none }
/-- jdk/internal/util/ArraysSupport -/
def k20 : Class := { plain "jdk/internal/util/ArraysSupport" (some 0) with
  accessFlags := 33
  interfaces := #[]
  cf := some (fileOf pool20 21 #[] #[{ accessFlags := 2, nameIndex := 9, descriptorIndex := 19, attributes := #[] }] 33 16 #[] #[{ accessFlags := 24, nameIndex := 28, descriptorIndex := 29, attributes := #[] }, { accessFlags := 26, nameIndex := 38, descriptorIndex := 39, attributes := #[] }, { accessFlags := 25, nameIndex := 121, descriptorIndex := 25, attributes := #[] }, { accessFlags := 25, nameIndex := 131, descriptorIndex := 25, attributes := #[] }, { accessFlags := 25, nameIndex := 137, descriptorIndex := 25, attributes := #[] }, { accessFlags := 25, nameIndex := 143, descriptorIndex := 25, attributes := #[] }, { accessFlags := 25, nameIndex := 53, descriptorIndex := 25, attributes := #[] }, { accessFlags := 25, nameIndex := 24, descriptorIndex := 25, attributes := #[] }, { accessFlags := 25, nameIndex := 162, descriptorIndex := 25, attributes := #[] }, { accessFlags := 25, nameIndex := 187, descriptorIndex := 25, attributes := #[] }, { accessFlags := 26, nameIndex := 48, descriptorIndex := 25, attributes := #[] }, { accessFlags := 25, nameIndex := 277, descriptorIndex := 25, attributes := #[] }, { accessFlags := 25, nameIndex := 280, descriptorIndex := 25, attributes := #[] }, { accessFlags := 25, nameIndex := 282, descriptorIndex := 25, attributes := #[] }, { accessFlags := 25, nameIndex := 284, descriptorIndex := 25, attributes := #[] }, { accessFlags := 25, nameIndex := 286, descriptorIndex := 25, attributes := #[] }, { accessFlags := 25, nameIndex := 288, descriptorIndex := 25, attributes := #[] }, { accessFlags := 25, nameIndex := 290, descriptorIndex := 25, attributes := #[] }, { accessFlags := 25, nameIndex := 292, descriptorIndex := 25, attributes := #[] }, { accessFlags := 26, nameIndex := 108, descriptorIndex := 109, attributes := #[] }, { accessFlags := 25, nameIndex := 294, descriptorIndex := 25, attributes := #[] }])
  fields := #[{ name := "U", type := (.object "jdk/internal/misc/Unsafe"), accessFlags := 24, slot := 0, constantValue := 0 }, { name := "BIG_ENDIAN", type := .boolean, accessFlags := 26, slot := 1, constantValue := 0 }, { name := "LOG2_ARRAY_BOOLEAN_INDEX_SCALE", type := .int, accessFlags := 25, slot := 2, constantValue := 0 }, { name := "LOG2_ARRAY_BYTE_INDEX_SCALE", type := .int, accessFlags := 25, slot := 3, constantValue := 0 }, { name := "LOG2_ARRAY_CHAR_INDEX_SCALE", type := .int, accessFlags := 25, slot := 4, constantValue := 0 }, { name := "LOG2_ARRAY_SHORT_INDEX_SCALE", type := .int, accessFlags := 25, slot := 5, constantValue := 0 }, { name := "LOG2_ARRAY_INT_INDEX_SCALE", type := .int, accessFlags := 25, slot := 6, constantValue := 0 }, { name := "LOG2_ARRAY_LONG_INDEX_SCALE", type := .int, accessFlags := 25, slot := 7, constantValue := 0 }, { name := "LOG2_ARRAY_FLOAT_INDEX_SCALE", type := .int, accessFlags := 25, slot := 8, constantValue := 0 }, { name := "LOG2_ARRAY_DOUBLE_INDEX_SCALE", type := .int, accessFlags := 25, slot := 9, constantValue := 0 }, { name := "LOG2_BYTE_BIT_SIZE", type := .int, accessFlags := 26, slot := 10, constantValue := 0 }, { name := "T_BOOLEAN", type := .int, accessFlags := 25, slot := 11, constantValue := 0 }, { name := "T_CHAR", type := .int, accessFlags := 25, slot := 12, constantValue := 0 }, { name := "T_FLOAT", type := .int, accessFlags := 25, slot := 13, constantValue := 0 }, { name := "T_DOUBLE", type := .int, accessFlags := 25, slot := 14, constantValue := 0 }, { name := "T_BYTE", type := .int, accessFlags := 25, slot := 15, constantValue := 0 }, { name := "T_SHORT", type := .int, accessFlags := 25, slot := 16, constantValue := 0 }, { name := "T_INT", type := .int, accessFlags := 25, slot := 17, constantValue := 0 }, { name := "T_LONG", type := .int, accessFlags := 25, slot := 18, constantValue := 0 }, { name := "JLA", type := (.object "jdk/internal/access/JavaLangAccess"), accessFlags := 26, slot := 19, constantValue := 0 }, { name := "SOFT_MAX_ARRAY_LENGTH", type := .int, accessFlags := 25, slot := 20, constantValue := 0 }]
  methods := #[k20m0]
  instanceTypes := #[]
  staticTypes := #[(.object "jdk/internal/misc/Unsafe"), .boolean, .int, .int, .int, .int, .int, .int, .int, .int, .int, .int, .int, .int, .int, .int, .int, .int, .int, (.object "jdk/internal/access/JavaLangAccess"), .int]
  resolved := Array.replicate 378 none
  statics := none }

def pool21 : Array CpInfo := pool [(1, u "java/lang/Cloneable"), (0, .class_ 1), (0, u "java/lang/Object"), (0, .class_ 3)] 3

/-- java/lang/Cloneable -/
def k21 : Class := { plain "java/lang/Cloneable" (some 0) with
  accessFlags := 1537
  interfaces := #[]
  cf := some (fileOf pool21 2 #[] #[] 1537 4 #[] #[])
  fields := #[]
  methods := #[]
  instanceTypes := #[]
  staticTypes := #[]
  resolved := Array.replicate 8 none
  statics := none }

/-- the primitive byte -/
def k22 : Class := { plain "byte" none with kind := .primitive 'B', accessFlags := 0x411 }
/-- [B -/
def k23 : Class := { plain "[B" (some 0) with kind := .array 22 .byte, interfaces := #[21, 2], accessFlags := 1041 }

/-- the primitive char -/
def k24 : Class := { plain "char" none with kind := .primitive 'C', accessFlags := 0x411 }
/-- [C -/
def k25 : Class := { plain "[C" (some 0) with kind := .array 24 .char, interfaces := #[21, 2], accessFlags := 1041 }

/-- the primitive int -/
def k26 : Class := { plain "int" none with kind := .primitive 'I', accessFlags := 0x411 }
/-- [I -/
def k27 : Class := { plain "[I" (some 0) with kind := .array 26 .int, interfaces := #[21, 2], accessFlags := 1041 }

def heap : Heap := #[{ cls := 7, slots := #[.long 0, .int 1, .null, .int 0, .null, .int 0, .int 0], vm := .statics 7 },
  { cls := 15, slots := #[.null, .null, .null], vm := .statics 15 },
  { cls := 18, slots := #[.int 0, .int 8, .int 0, .int 1], vm := .statics 18 }]
def classes : Array Class := #[k0, k1, k2, k3, k4, k5, k6, k7, k8, k9, k10, k11, k12, k13, k14, k15, k16, k17, k18, k19, k20, k21, k22, k23, k24, k25, k26, k27]
def interned : List (Array UInt16 × Addr) := []
def slotsUsed : Nat := 14
def theMethod : MethodId := ⟨1, 5⟩
def args0 : Array Value := #[.int 5, .int 6, .int 7, .int 8, .int 9]
def aboutOver (below : List Frame) : State where
  vm := { classes := classes, interned := interned.toArray }
  heap := heap
  slotsUsed := slotsUsed
  threads := #[{ frames := .invoking theMethod args0 :: below }]
def below0 : List Frame := [.native { method := ⟨0, 0⟩, args := #[] }]
def about1 : State := aboutOver below0
def p0 : Program := .bare "" "" ""
def e0 : Env := launch0.env 0 0 0
theorem w_frames : about1.frames = Frame.invoking theMethod args0 :: below0 := rfl
set_option maxRecDepth 65536 in
theorem w_args : argsFit about1.vm theMethod args0 = true := by decide +kernel
set_option maxRecDepth 65536 in
theorem w_heap : heapFits about1 = true := by decide +kernel
set_option maxRecDepth 65536 in
theorem w_runnable : about1.curStatus? = some .runnable := by decide +kernel
set_option maxRecDepth 65536 in
theorem w_alone : about1.alone = true := by decide +kernel
set_option maxRecDepth 65536 in
theorem w_named : about1.methodNamed? x = some theMethod := by decide +kernel
set_option maxRecDepth 65536 in
theorem w_hears : about1.hears theMethod below0 = true := by decide +kernel
set_option maxRecDepth 65536 in
theorem w_ripe : about1.ripe theMethod args0 below0 = true := by decide +kernel
theorem w_running : about1.status = .running := rfl
set_option maxRecDepth 65536 in
theorem w_room : about1.hasRoom e0.platform room_1 = true :=
  launch0.hasRoom_least _ room_1 (by decide +kernel) (by decide +kernel) (by decide +kernel) (by decide +kernel) (by decide +kernel) (by decide +kernel)
theorem allAtoms_all (ts : List Jvm.Cond) (a : Array Jvm.Value) (st : Jvm.State) : (allAtoms ts).before a st = ts.all (fun c => c.before a st) := by
  induction ts with
  | nil => rfl
  | cons c t ih =>
    show (Jvm.Cond.and c (allAtoms t)).before a st = _
    rw [Jvm.Cond.before_and, ih, List.all_cons]
def words1 : List Jvm.Cond := Jvm.Cond.code x code maxLocals ret :: tables_1
/-- a 'code' word, met by the world's own term for the bytes: nothing is compared byte by byte -/
theorem code_word {y : MethodName} {bytes : ByteArray} {mx : Nat} {rt : Option FieldType} {a : Array Value} {s : State} {m : MethodId} {meth : Method} {c : Code} (h1 : s.methodNamed? y = some m) (h2 : s.vm.method? m = some meth) (h3 : meth.code = some c) (h4 : c.code = bytes)
    (h5 : (c.maxLocals == mx && c.exceptionTable.isEmpty && decide (c.maxStack ≤ mostOperands) && decide (meth.sig.returnType = rt) && !meth.locks && decide (parseMethodDescriptor y.desc = some meth.sig)) = true) : (Jvm.Cond.code y bytes mx rt).before a s = true := by
  simp only [Bool.and_eq_true, beq_iff_eq, Bool.not_eq_true', decide_eq_true_eq] at h5
  obtain ⟨⟨⟨⟨⟨g1, g2⟩, g3⟩, g4⟩, g5⟩, g6⟩ := h5
  simp [Cond.before, Cond.holds, Cond.value, h1, h2, h3, h4, g1, g2, g3, g4, g5, g6]
def isCode : Jvm.Cond → Bool
  | .code _ _ _ _ => true
  | _ => false
theorem all_split {L : List Jvm.Cond} {P : Jvm.Cond → Bool} (h1 : L.all (fun c => isCode c || P c) = true) (h2 : ∀ c ∈ L.filter isCode, P c = true) : L.all P = true := by
  refine List.all_eq_true.mpr fun c hc => ?_
  have h := List.all_eq_true.mp h1 c hc
  rcases Bool.eq_false_or_eq_true (isCode c) with hi | hi
  · exact h2 c (List.mem_filter.mpr ⟨hc, hi⟩)
  · simpa [hi] using h
set_option maxRecDepth 65536 in
theorem w_c0 : (Jvm.Cond.code x code maxLocals ret).before args0 about1 = true := code_word (m := ⟨1, 5⟩) (meth := k1m5) (c := k1c5) (by decide +kernel) rfl rfl rfl (by decide +kernel)
set_option maxRecDepth 65536 in
theorem w_c1 : (Jvm.Cond.code ({ cls := "com/example/dommel/dommel/KeySpaceKeyPinLaw", name := "pick", desc := "(II)Ljava/lang/String;" } : Jvm.MethodName) method_3_code (4 : Nat) (Option.some (Jvm.ClassFile.FieldType.object "java/lang/String"))).before args0 about1 = true := code_word (m := ⟨1, 2⟩) (meth := k1m2) (c := k1c2) (by decide +kernel) rfl rfl rfl (by decide +kernel)
set_option maxRecDepth 65536 in
theorem w_c2 : (Jvm.Cond.code ({ cls := "com/example/dommel/dommel/KeySpaceKeyPinLaw", name := "safe", desc := "(I)C" } : Jvm.MethodName) method_2_code (2 : Nat) (Option.some Jvm.ClassFile.FieldType.char)).before args0 about1 = true := code_word (m := ⟨1, 1⟩) (meth := k1m1) (c := k1c1) (by decide +kernel) rfl rfl rfl (by decide +kernel)
set_option maxRecDepth 65536 in
theorem w_c3 : (Jvm.Cond.code ({ cls := "java/lang/String", name := "valueOf", desc := "(C)Ljava/lang/String;" } : Jvm.MethodName) jdk_42_method_139_code (1 : Nat) (Option.some (Jvm.ClassFile.FieldType.object "java/lang/String"))).before args0 about1 = true := code_word (m := ⟨7, 6⟩) (meth := k7m6) (c := k7c6) (by decide +kernel) rfl rfl rfl (by decide +kernel)
set_option maxRecDepth 65536 in
theorem w_c4 : (Jvm.Cond.code ({ cls := "java/lang/StringLatin1", name := "canEncode", desc := "(C)Z" } : Jvm.MethodName) jdk_43_method_3_code (1 : Nat) (Option.some Jvm.ClassFile.FieldType.boolean)).before args0 about1 = true := code_word (m := ⟨8, 2⟩) (meth := k8m2) (c := k8c2) (by decide +kernel) rfl rfl rfl (by decide +kernel)
set_option maxRecDepth 65536 in
theorem w_c5 : (Jvm.Cond.code ({ cls := "java/lang/StringLatin1", name := "toBytes", desc := "(C)[B" } : Jvm.MethodName) jdk_43_method_46_code (1 : Nat) (Option.some (Jvm.ClassFile.FieldType.array Jvm.ClassFile.FieldType.byte))).before args0 about1 = true := code_word (m := ⟨8, 3⟩) (meth := k8m3) (c := k8c3) (by decide +kernel) rfl rfl rfl (by decide +kernel)
set_option maxRecDepth 65536 in
theorem w_c6 : (Jvm.Cond.code ({ cls := "java/lang/String", name := "<init>", desc := "([BB)V" } : Jvm.MethodName) jdk_42_method_151_code (3 : Nat) (Option.none : Option Jvm.ClassFile.FieldType)).before args0 about1 = true := code_word (m := ⟨7, 10⟩) (meth := k7m10) (c := k7c10) (by decide +kernel) rfl rfl rfl (by decide +kernel)
set_option maxRecDepth 65536 in
theorem w_c7 : (Jvm.Cond.code ({ cls := "java/lang/Object", name := "<init>", desc := "()V" } : Jvm.MethodName) object_method_1_code (1 : Nat) (Option.none : Option Jvm.ClassFile.FieldType)).before args0 about1 = true := code_word (m := ⟨0, 0⟩) (meth := k0m0) (c := k0c0) (by decide +kernel) rfl rfl rfl (by decide +kernel)
set_option maxRecDepth 65536 in
theorem w_c8 : (Jvm.Cond.code ({ cls := "com/example/dommel/dommel/KeySpace", name := "<init>", desc := "(Ljava/lang/String;)V" } : Jvm.MethodName) prog_8_method_1_code (2 : Nat) (Option.none : Option Jvm.ClassFile.FieldType)).before args0 about1 = true := code_word (m := ⟨9, 0⟩) (meth := k9m0) (c := k9c0) (by decide +kernel) rfl rfl rfl (by decide +kernel)
set_option maxRecDepth 65536 in
theorem w_c9 : (Jvm.Cond.code ({ cls := "java/util/Objects", name := "requireNonNull", desc := "(Ljava/lang/Object;Ljava/lang/String;)Ljava/lang/Object;" } : Jvm.MethodName) jdk_31_method_11_code (2 : Nat) (Option.some (Jvm.ClassFile.FieldType.object "java/lang/Object"))).before args0 about1 = true := code_word (m := ⟨10, 1⟩) (meth := k10m1) (c := k10c1) (by decide +kernel) rfl rfl rfl (by decide +kernel)
set_option maxRecDepth 65536 in
theorem w_c10 : (Jvm.Cond.code ({ cls := "com/example/dommel/dommel/KeySpace", name := "key", desc := "(Ljava/lang/String;Ljava/lang/String;)Ljava/lang/String;" } : Jvm.MethodName) prog_8_method_2_code (3 : Nat) (Option.some (Jvm.ClassFile.FieldType.object "java/lang/String"))).before args0 about1 = true := code_word (m := ⟨9, 1⟩) (meth := k9m1) (c := k9c1) (by decide +kernel) rfl rfl rfl (by decide +kernel)
set_option maxRecDepth 65536 in
theorem w_c11 : (Jvm.Cond.code ({ cls := "java/lang/StringBuilder", name := "<init>", desc := "()V" } : Jvm.MethodName) jdk_67_method_1_code (1 : Nat) (Option.none : Option Jvm.ClassFile.FieldType)).before args0 about1 = true := code_word (m := ⟨13, 0⟩) (meth := k13m0) (c := k13c0) (by decide +kernel) rfl rfl rfl (by decide +kernel)
set_option maxRecDepth 65536 in
theorem w_c12 : (Jvm.Cond.code ({ cls := "java/lang/AbstractStringBuilder", name := "<init>", desc := "(I)V" } : Jvm.MethodName) jdk_68_method_2_code (2 : Nat) (Option.none : Option Jvm.ClassFile.FieldType)).before args0 about1 = true := code_word (m := ⟨12, 1⟩) (meth := k12m1) (c := k12c1) (by decide +kernel) rfl rfl rfl (by decide +kernel)
set_option maxRecDepth 65536 in
theorem w_c13 : (Jvm.Cond.code ({ cls := "java/lang/StringBuilder", name := "append", desc := "(Ljava/lang/String;)Ljava/lang/StringBuilder;" } : Jvm.MethodName) jdk_67_method_7_code (2 : Nat) (Option.some (Jvm.ClassFile.FieldType.object "java/lang/StringBuilder"))).before args0 about1 = true := code_word (m := ⟨13, 1⟩) (meth := k13m1) (c := k13c1) (by decide +kernel) rfl rfl rfl (by decide +kernel)
set_option maxRecDepth 65536 in
theorem w_c14 : (Jvm.Cond.code ({ cls := "java/lang/AbstractStringBuilder", name := "append", desc := "(Ljava/lang/String;)Ljava/lang/AbstractStringBuilder;" } : Jvm.MethodName) jdk_68_method_22_code (3 : Nat) (Option.some (Jvm.ClassFile.FieldType.object "java/lang/AbstractStringBuilder"))).before args0 about1 = true := code_word (m := ⟨12, 5⟩) (meth := k12m5) (c := k12c5) (by decide +kernel) rfl rfl rfl (by decide +kernel)
set_option maxRecDepth 65536 in
theorem w_c15 : (Jvm.Cond.code ({ cls := "java/lang/String", name := "length", desc := "()I" } : Jvm.MethodName) jdk_42_method_54_code (1 : Nat) (Option.some Jvm.ClassFile.FieldType.int)).before args0 about1 = true := code_word (m := ⟨7, 3⟩) (meth := k7m3) (c := k7c3) (by decide +kernel) rfl rfl rfl (by decide +kernel)
set_option maxRecDepth 65536 in
theorem w_c16 : (Jvm.Cond.code ({ cls := "java/lang/String", name := "coder", desc := "()B" } : Jvm.MethodName) jdk_42_method_152_code (1 : Nat) (Option.some Jvm.ClassFile.FieldType.byte)).before args0 about1 = true := code_word (m := ⟨7, 11⟩) (meth := k7m11) (c := k7c11) (by decide +kernel) rfl rfl rfl (by decide +kernel)
set_option maxRecDepth 65536 in
theorem w_c17 : (Jvm.Cond.code ({ cls := "java/lang/AbstractStringBuilder", name := "ensureCapacityInternal", desc := "(I)V" } : Jvm.MethodName) jdk_68_method_9_code (3 : Nat) (Option.none : Option Jvm.ClassFile.FieldType)).before args0 about1 = true := code_word (m := ⟨12, 3⟩) (meth := k12m3) (c := k12c3) (by decide +kernel) rfl rfl rfl (by decide +kernel)
set_option maxRecDepth 65536 in
theorem w_c18 : (Jvm.Cond.code ({ cls := "java/lang/AbstractStringBuilder", name := "putStringAt", desc := "(ILjava/lang/String;)V" } : Jvm.MethodName) jdk_68_method_73_code (3 : Nat) (Option.none : Option Jvm.ClassFile.FieldType)).before args0 about1 = true := code_word (m := ⟨12, 9⟩) (meth := k12m9) (c := k12c9) (by decide +kernel) rfl rfl rfl (by decide +kernel)
set_option maxRecDepth 65536 in
theorem w_c19 : (Jvm.Cond.code ({ cls := "java/lang/AbstractStringBuilder", name := "inflateIfNeededFor", desc := "(Ljava/lang/String;)V" } : Jvm.MethodName) jdk_68_method_71_code (2 : Nat) (Option.none : Option Jvm.ClassFile.FieldType)).before args0 about1 = true := code_word (m := ⟨12, 8⟩) (meth := k12m8) (c := k12c8) (by decide +kernel) rfl rfl rfl (by decide +kernel)
set_option maxRecDepth 65536 in
theorem w_c20 : (Jvm.Cond.code ({ cls := "java/lang/String", name := "getBytes", desc := "([BIB)V" } : Jvm.MethodName) jdk_42_method_147_code (4 : Nat) (Option.none : Option Jvm.ClassFile.FieldType)).before args0 about1 = true := code_word (m := ⟨7, 7⟩) (meth := k7m7) (c := k7c7) (by decide +kernel) rfl rfl rfl (by decide +kernel)
set_option maxRecDepth 65536 in
theorem w_c21 : (Jvm.Cond.code ({ cls := "com/example/dommel/dommel/KeySpace", name := "requireName", desc := "(Ljava/lang/String;)Ljava/lang/String;" } : Jvm.MethodName) prog_8_method_4_code (4 : Nat) (Option.some (Jvm.ClassFile.FieldType.object "java/lang/String"))).before args0 about1 = true := code_word (m := ⟨9, 2⟩) (meth := k9m2) (c := k9c2) (by decide +kernel) rfl rfl rfl (by decide +kernel)
set_option maxRecDepth 65536 in
theorem w_c22 : (Jvm.Cond.code ({ cls := "java/lang/String", name := "isEmpty", desc := "()Z" } : Jvm.MethodName) jdk_42_method_55_code (1 : Nat) (Option.some Jvm.ClassFile.FieldType.boolean)).before args0 about1 = true := code_word (m := ⟨7, 4⟩) (meth := k7m4) (c := k7c4) (by decide +kernel) rfl rfl rfl (by decide +kernel)
set_option maxRecDepth 65536 in
theorem w_c23 : (Jvm.Cond.code ({ cls := "java/lang/String", name := "charAt", desc := "(I)C" } : Jvm.MethodName) jdk_42_method_56_code (2 : Nat) (Option.some Jvm.ClassFile.FieldType.char)).before args0 about1 = true := code_word (m := ⟨7, 5⟩) (meth := k7m5) (c := k7c5) (by decide +kernel) rfl rfl rfl (by decide +kernel)
set_option maxRecDepth 65536 in
theorem w_c24 : (Jvm.Cond.code ({ cls := "java/lang/String", name := "isLatin1", desc := "()Z" } : Jvm.MethodName) jdk_42_method_154_code (1 : Nat) (Option.some Jvm.ClassFile.FieldType.boolean)).before args0 about1 = true := code_word (m := ⟨7, 12⟩) (meth := k7m12) (c := k7c12) (by decide +kernel) rfl rfl rfl (by decide +kernel)
set_option maxRecDepth 65536 in
theorem w_c25 : (Jvm.Cond.code ({ cls := "java/lang/StringLatin1", name := "charAt", desc := "([BI)C" } : Jvm.MethodName) jdk_43_method_2_code (2 : Nat) (Option.some Jvm.ClassFile.FieldType.char)).before args0 about1 = true := code_word (m := ⟨8, 1⟩) (meth := k8m1) (c := k8c1) (by decide +kernel) rfl rfl rfl (by decide +kernel)
set_option maxRecDepth 65536 in
theorem w_c26 : (Jvm.Cond.code ({ cls := "java/lang/String", name := "checkIndex", desc := "(II)V" } : Jvm.MethodName) jdk_42_method_155_code (2 : Nat) (Option.none : Option Jvm.ClassFile.FieldType)).before args0 about1 = true := code_word (m := ⟨7, 13⟩) (meth := k7m13) (c := k7c13) (by decide +kernel) rfl rfl rfl (by decide +kernel)
set_option maxRecDepth 65536 in
theorem w_c27 : (Jvm.Cond.code ({ cls := "jdk/internal/util/Preconditions", name := "checkIndex", desc := "(IILjava/util/function/BiFunction;)I" } : Jvm.MethodName) jdk_41_method_11_code (3 : Nat) (Option.some Jvm.ClassFile.FieldType.int)).before args0 about1 = true := code_word (m := ⟨15, 1⟩) (meth := k15m1) (c := k15c1) (by decide +kernel) rfl rfl rfl (by decide +kernel)
set_option maxRecDepth 65536 in
theorem w_c28 : (Jvm.Cond.code ({ cls := "java/lang/StringBuilder", name := "toString", desc := "()Ljava/lang/String;" } : Jvm.MethodName) jdk_67_method_42_code (1 : Nat) (Option.some (Jvm.ClassFile.FieldType.object "java/lang/String"))).before args0 about1 = true := code_word (m := ⟨13, 2⟩) (meth := k13m2) (c := k13c2) (by decide +kernel) rfl rfl rfl (by decide +kernel)
set_option maxRecDepth 65536 in
theorem w_c29 : (Jvm.Cond.code ({ cls := "java/lang/String", name := "<init>", desc := "(Ljava/lang/StringBuilder;)V" } : Jvm.MethodName) jdk_42_method_53_code (2 : Nat) (Option.none : Option Jvm.ClassFile.FieldType)).before args0 about1 = true := code_word (m := ⟨7, 2⟩) (meth := k7m2) (c := k7c2) (by decide +kernel) rfl rfl rfl (by decide +kernel)
set_option maxRecDepth 65536 in
theorem w_c30 : (Jvm.Cond.code ({ cls := "java/lang/String", name := "<init>", desc := "(Ljava/lang/AbstractStringBuilder;Ljava/lang/Void;)V" } : Jvm.MethodName) jdk_42_method_150_code (5 : Nat) (Option.none : Option Jvm.ClassFile.FieldType)).before args0 about1 = true := code_word (m := ⟨7, 9⟩) (meth := k7m9) (c := k7c9) (by decide +kernel) rfl rfl rfl (by decide +kernel)
set_option maxRecDepth 65536 in
theorem w_c31 : (Jvm.Cond.code ({ cls := "java/lang/AbstractStringBuilder", name := "getValue", desc := "()[B" } : Jvm.MethodName) jdk_68_method_64_code (1 : Nat) (Option.some (Jvm.ClassFile.FieldType.array Jvm.ClassFile.FieldType.byte))).before args0 about1 = true := code_word (m := ⟨12, 6⟩) (meth := k12m6) (c := k12c6) (by decide +kernel) rfl rfl rfl (by decide +kernel)
set_option maxRecDepth 65536 in
theorem w_c32 : (Jvm.Cond.code ({ cls := "java/lang/StringBuilder", name := "length", desc := "()I" } : Jvm.MethodName) jdk_67_method_93_code (1 : Nat) (Option.some Jvm.ClassFile.FieldType.int)).before args0 about1 = true := code_word (m := ⟨13, 3⟩) (meth := k13m3) (c := k13c3) (by decide +kernel) rfl rfl rfl (by decide +kernel)
set_option maxRecDepth 65536 in
theorem w_c33 : (Jvm.Cond.code ({ cls := "java/lang/AbstractStringBuilder", name := "length", desc := "()I" } : Jvm.MethodName) jdk_68_method_6_code (1 : Nat) (Option.some Jvm.ClassFile.FieldType.int)).before args0 about1 = true := code_word (m := ⟨12, 2⟩) (meth := k12m2) (c := k12c2) (by decide +kernel) rfl rfl rfl (by decide +kernel)
set_option maxRecDepth 65536 in
theorem w_c34 : (Jvm.Cond.code ({ cls := "java/lang/AbstractStringBuilder", name := "isLatin1", desc := "()Z" } : Jvm.MethodName) jdk_68_method_68_code (1 : Nat) (Option.some Jvm.ClassFile.FieldType.boolean)).before args0 about1 = true := code_word (m := ⟨12, 7⟩) (meth := k12m7) (c := k12c7) (by decide +kernel) rfl rfl rfl (by decide +kernel)
set_option maxRecDepth 65536 in
theorem w_c35 : (Jvm.Cond.code ({ cls := "java/util/Arrays", name := "copyOfRange", desc := "([BII)[B" } : Jvm.MethodName) jdk_65_method_132_code (3 : Nat) (Option.some (Jvm.ClassFile.FieldType.array Jvm.ClassFile.FieldType.byte))).before args0 about1 = true := code_word (m := ⟨16, 2⟩) (meth := k16m2) (c := k16c2) (by decide +kernel) rfl rfl rfl (by decide +kernel)
set_option maxRecDepth 65536 in
theorem w_c36 : (Jvm.Cond.code ({ cls := "java/util/Arrays", name := "copyOfRangeByte", desc := "([BII)[B" } : Jvm.MethodName) jdk_65_method_133_code (5 : Nat) (Option.some (Jvm.ClassFile.FieldType.array Jvm.ClassFile.FieldType.byte))).before args0 about1 = true := code_word (m := ⟨16, 3⟩) (meth := k16m3) (c := k16c3) (by decide +kernel) rfl rfl rfl (by decide +kernel)
set_option maxRecDepth 65536 in
theorem w_c37 : (Jvm.Cond.code ({ cls := "java/util/Arrays", name := "checkLength", desc := "(II)V" } : Jvm.MethodName) jdk_65_method_131_code (2 : Nat) (Option.none : Option Jvm.ClassFile.FieldType)).before args0 about1 = true := code_word (m := ⟨16, 1⟩) (meth := k16m1) (c := k16c1) (by decide +kernel) rfl rfl rfl (by decide +kernel)
set_option maxRecDepth 65536 in
theorem w_c38 : (Jvm.Cond.code ({ cls := "java/lang/Math", name := "min", desc := "(II)I" } : Jvm.MethodName) jdk_29_method_69_code (2 : Nat) (Option.some Jvm.ClassFile.FieldType.int)).before args0 about1 = true := code_word (m := ⟨17, 1⟩) (meth := k17m1) (c := k17c1) (by decide +kernel) rfl rfl rfl (by decide +kernel)
set_option maxRecDepth 65536 in
theorem w_c39 : (Jvm.Cond.code ({ cls := "com/example/dommel/dommel/KeySpaceKeyPinLaw", name := "same", desc := "(Ljava/lang/String;Ljava/lang/String;Ljava/lang/String;Ljava/lang/String;I)Z" } : Jvm.MethodName) method_5_code (5 : Nat) (Option.some Jvm.ClassFile.FieldType.boolean)).before args0 about1 = true := code_word (m := ⟨1, 4⟩) (meth := k1m4) (c := k1c4) (by decide +kernel) rfl rfl rfl (by decide +kernel)
set_option maxRecDepth 65536 in
theorem w_c40 : (Jvm.Cond.code ({ cls := "com/example/dommel/dommel/KeySpaceKeyPinLaw", name := "at", desc := "(Ljava/lang/String;Ljava/lang/String;Ljava/lang/String;I)C" } : Jvm.MethodName) method_4_code (5 : Nat) (Option.some Jvm.ClassFile.FieldType.char)).before args0 about1 = true := code_word (m := ⟨1, 3⟩) (meth := k1m3) (c := k1c3) (by decide +kernel) rfl rfl rfl (by decide +kernel)
set_option maxRecDepth 65536 in
theorem w_c41 : (Jvm.Cond.code ({ cls := "java/lang/String", name := "<init>", desc := "([C)V" } : Jvm.MethodName) jdk_42_method_3_code (2 : Nat) (Option.none : Option Jvm.ClassFile.FieldType)).before args0 about1 = true := code_word (m := ⟨7, 1⟩) (meth := k7m1) (c := k7c1) (by decide +kernel) rfl rfl rfl (by decide +kernel)
set_option maxRecDepth 65536 in
theorem w_c42 : (Jvm.Cond.code ({ cls := "java/lang/String", name := "<init>", desc := "([CIILjava/lang/Void;)V" } : Jvm.MethodName) jdk_42_method_149_code (6 : Nat) (Option.none : Option Jvm.ClassFile.FieldType)).before args0 about1 = true := code_word (m := ⟨7, 8⟩) (meth := k7m8) (c := k7c8) (by decide +kernel) rfl rfl rfl (by decide +kernel)
set_option maxRecDepth 65536 in
theorem w_c43 : (Jvm.Cond.code ({ cls := "java/lang/StringUTF16", name := "compress", desc := "([CII)[B" } : Jvm.MethodName) jdk_52_method_16_code (6 : Nat) (Option.some (Jvm.ClassFile.FieldType.array Jvm.ClassFile.FieldType.byte))).before args0 about1 = true := code_word (m := ⟨18, 8⟩) (meth := k18m8) (c := k18c8) (by decide +kernel) rfl rfl rfl (by decide +kernel)
set_option maxRecDepth 65536 in
theorem w_c44 : (Jvm.Cond.code ({ cls := "java/lang/StringUTF16", name := "compress", desc := "([CI[BII)I" } : Jvm.MethodName) jdk_52_method_21_code (7 : Nat) (Option.some Jvm.ClassFile.FieldType.int)).before args0 about1 = true := code_word (m := ⟨18, 9⟩) (meth := k18m9) (c := k18c9) (by decide +kernel) rfl rfl rfl (by decide +kernel)
set_option maxRecDepth 65536 in
theorem w_c45 : (Jvm.Cond.code ({ cls := "java/lang/StringUTF16", name := "coderFromArrayLen", desc := "([BI)B" } : Jvm.MethodName) jdk_52_method_15_code (2 : Nat) (Option.some Jvm.ClassFile.FieldType.byte)).before args0 about1 = true := code_word (m := ⟨18, 7⟩) (meth := k18m7) (c := k18c7) (by decide +kernel) rfl rfl rfl (by decide +kernel)
set_option maxRecDepth 65536 in
theorem w_c46 : (Jvm.Cond.code ({ cls := "java/lang/StringUTF16", name := "toBytes", desc := "([CII)[B" } : Jvm.MethodName) jdk_52_method_14_code (5 : Nat) (Option.some (Jvm.ClassFile.FieldType.array Jvm.ClassFile.FieldType.byte))).before args0 about1 = true := code_word (m := ⟨18, 6⟩) (meth := k18m6) (c := k18c6) (by decide +kernel) rfl rfl rfl (by decide +kernel)
set_option maxRecDepth 65536 in
theorem w_c47 : (Jvm.Cond.code ({ cls := "java/lang/StringUTF16", name := "newBytesFor", desc := "(I)[B" } : Jvm.MethodName) jdk_52_method_2_code (1 : Nat) (Option.some (Jvm.ClassFile.FieldType.array Jvm.ClassFile.FieldType.byte))).before args0 about1 = true := code_word (m := ⟨18, 1⟩) (meth := k18m1) (c := k18c1) (by decide +kernel) rfl rfl rfl (by decide +kernel)
set_option maxRecDepth 65536 in
theorem w_c48 : (Jvm.Cond.code ({ cls := "java/lang/StringUTF16", name := "newBytesLength", desc := "(I)I" } : Jvm.MethodName) jdk_52_method_3_code (1 : Nat) (Option.some Jvm.ClassFile.FieldType.int)).before args0 about1 = true := code_word (m := ⟨18, 2⟩) (meth := k18m2) (c := k18c2) (by decide +kernel) rfl rfl rfl (by decide +kernel)
set_option maxRecDepth 65536 in
theorem w_c49 : (Jvm.Cond.code ({ cls := "java/lang/StringUTF16", name := "putChar", desc := "([BII)V" } : Jvm.MethodName) jdk_52_method_4_code (3 : Nat) (Option.none : Option Jvm.ClassFile.FieldType)).before args0 about1 = true := code_word (m := ⟨18, 3⟩) (meth := k18m3) (c := k18c3) (by decide +kernel) rfl rfl rfl (by decide +kernel)
set_option maxRecDepth 65536 in
theorem w_c50 : (Jvm.Cond.code ({ cls := "java/lang/StringUTF16", name := "getChar", desc := "([BI)C" } : Jvm.MethodName) jdk_52_method_5_code (2 : Nat) (Option.some Jvm.ClassFile.FieldType.char)).before args0 about1 = true := code_word (m := ⟨18, 4⟩) (meth := k18m4) (c := k18c4) (by decide +kernel) rfl rfl rfl (by decide +kernel)
set_option maxRecDepth 65536 in
theorem w_c51 : (Jvm.Cond.code ({ cls := "java/lang/StringUTF16", name := "charAt", desc := "([BI)C" } : Jvm.MethodName) jdk_52_method_83_code (2 : Nat) (Option.some Jvm.ClassFile.FieldType.char)).before args0 about1 = true := code_word (m := ⟨18, 11⟩) (meth := k18m11) (c := k18c11) (by decide +kernel) rfl rfl rfl (by decide +kernel)
set_option maxRecDepth 65536 in
theorem w_c52 : (Jvm.Cond.code ({ cls := "java/lang/StringUTF16", name := "checkIndex", desc := "(I[B)V" } : Jvm.MethodName) jdk_52_method_91_code (2 : Nat) (Option.none : Option Jvm.ClassFile.FieldType)).before args0 about1 = true := code_word (m := ⟨18, 13⟩) (meth := k18m13) (c := k18c13) (by decide +kernel) rfl rfl rfl (by decide +kernel)
set_option maxRecDepth 65536 in
theorem w_c53 : (Jvm.Cond.code ({ cls := "java/lang/StringUTF16", name := "length", desc := "([B)I" } : Jvm.MethodName) jdk_52_method_6_code (1 : Nat) (Option.some Jvm.ClassFile.FieldType.int)).before args0 about1 = true := code_word (m := ⟨18, 5⟩) (meth := k18m5) (c := k18c5) (by decide +kernel) rfl rfl rfl (by decide +kernel)
set_option maxRecDepth 65536 in
theorem w_c54 : (Jvm.Cond.code ({ cls := "java/lang/Character", name := "isSurrogate", desc := "(C)Z" } : Jvm.MethodName) jdk_89_method_16_code (1 : Nat) (Option.some Jvm.ClassFile.FieldType.boolean)).before args0 about1 = true := code_word (m := ⟨19, 2⟩) (meth := k19m2) (c := k19c2) (by decide +kernel) rfl rfl rfl (by decide +kernel)
set_option maxRecDepth 65536 in
theorem w_c55 : (Jvm.Cond.code ({ cls := "java/lang/Character", name := "isHighSurrogate", desc := "(C)Z" } : Jvm.MethodName) jdk_89_method_14_code (1 : Nat) (Option.some Jvm.ClassFile.FieldType.boolean)).before args0 about1 = true := code_word (m := ⟨19, 0⟩) (meth := k19m0) (c := k19c0) (by decide +kernel) rfl rfl rfl (by decide +kernel)
set_option maxRecDepth 65536 in
theorem w_c56 : (Jvm.Cond.code ({ cls := "java/lang/Character", name := "isLowSurrogate", desc := "(C)Z" } : Jvm.MethodName) jdk_89_method_15_code (1 : Nat) (Option.some Jvm.ClassFile.FieldType.boolean)).before args0 about1 = true := code_word (m := ⟨19, 1⟩) (meth := k19m1) (c := k19c1) (by decide +kernel) rfl rfl rfl (by decide +kernel)
set_option maxRecDepth 65536 in
theorem w_c57 : (Jvm.Cond.code ({ cls := "java/lang/AbstractStringBuilder", name := "inflate", desc := "()V" } : Jvm.MethodName) jdk_68_method_11_code (2 : Nat) (Option.none : Option Jvm.ClassFile.FieldType)).before args0 about1 = true := code_word (m := ⟨12, 4⟩) (meth := k12m4) (c := k12c4) (by decide +kernel) rfl rfl rfl (by decide +kernel)
set_option maxRecDepth 65536 in
theorem w_c58 : (Jvm.Cond.code ({ cls := "java/lang/StringLatin1", name := "inflate", desc := "([BI[BII)V" } : Jvm.MethodName) jdk_43_method_50_code (5 : Nat) (Option.none : Option Jvm.ClassFile.FieldType)).before args0 about1 = true := code_word (m := ⟨8, 4⟩) (meth := k8m4) (c := k8c4) (by decide +kernel) rfl rfl rfl (by decide +kernel)
set_option maxRecDepth 65536 in
theorem w_c59 : (Jvm.Cond.code ({ cls := "java/lang/StringUTF16", name := "inflate", desc := "([BI[BII)V" } : Jvm.MethodName) jdk_52_method_86_code (6 : Nat) (Option.none : Option Jvm.ClassFile.FieldType)).before args0 about1 = true := code_word (m := ⟨18, 12⟩) (meth := k18m12) (c := k18c12) (by decide +kernel) rfl rfl rfl (by decide +kernel)
set_option maxRecDepth 65536 in
theorem w_c60 : (Jvm.Cond.code ({ cls := "java/lang/StringUTF16", name := "checkBoundsOffCount", desc := "(II[B)V" } : Jvm.MethodName) jdk_52_method_94_code (3 : Nat) (Option.none : Option Jvm.ClassFile.FieldType)).before args0 about1 = true := code_word (m := ⟨18, 14⟩) (meth := k18m14) (c := k18c14) (by decide +kernel) rfl rfl rfl (by decide +kernel)
set_option maxRecDepth 65536 in
theorem w_c61 : (Jvm.Cond.code ({ cls := "java/lang/String", name := "checkBoundsOffCount", desc := "(III)I" } : Jvm.MethodName) jdk_42_method_157_code (3 : Nat) (Option.some Jvm.ClassFile.FieldType.int)).before args0 about1 = true := code_word (m := ⟨7, 14⟩) (meth := k7m14) (c := k7c14) (by decide +kernel) rfl rfl rfl (by decide +kernel)
set_option maxRecDepth 65536 in
theorem w_c62 : (Jvm.Cond.code ({ cls := "jdk/internal/util/Preconditions", name := "checkFromIndexSize", desc := "(IIILjava/util/function/BiFunction;)I" } : Jvm.MethodName) jdk_41_method_13_code (4 : Nat) (Option.some Jvm.ClassFile.FieldType.int)).before args0 about1 = true := code_word (m := ⟨15, 2⟩) (meth := k15m2) (c := k15c2) (by decide +kernel) rfl rfl rfl (by decide +kernel)
set_option maxRecDepth 65536 in
theorem w_c63 : (Jvm.Cond.code ({ cls := "java/lang/StringUTF16", name := "toBytes", desc := "(C)[B" } : Jvm.MethodName) jdk_52_method_24_code (2 : Nat) (Option.some (Jvm.ClassFile.FieldType.array Jvm.ClassFile.FieldType.byte))).before args0 about1 = true := code_word (m := ⟨18, 10⟩) (meth := k18m10) (c := k18c10) (by decide +kernel) rfl rfl rfl (by decide +kernel)
def codes1 : List Jvm.Cond := [Jvm.Cond.code x code maxLocals ret, Jvm.Cond.code ({ cls := "com/example/dommel/dommel/KeySpaceKeyPinLaw", name := "pick", desc := "(II)Ljava/lang/String;" } : Jvm.MethodName) method_3_code (4 : Nat) (Option.some (Jvm.ClassFile.FieldType.object "java/lang/String")), Jvm.Cond.code ({ cls := "com/example/dommel/dommel/KeySpaceKeyPinLaw", name := "safe", desc := "(I)C" } : Jvm.MethodName) method_2_code (2 : Nat) (Option.some Jvm.ClassFile.FieldType.char), Jvm.Cond.code ({ cls := "java/lang/String", name := "valueOf", desc := "(C)Ljava/lang/String;" } : Jvm.MethodName) jdk_42_method_139_code (1 : Nat) (Option.some (Jvm.ClassFile.FieldType.object "java/lang/String")), Jvm.Cond.code ({ cls := "java/lang/StringLatin1", name := "canEncode", desc := "(C)Z" } : Jvm.MethodName) jdk_43_method_3_code (1 : Nat) (Option.some Jvm.ClassFile.FieldType.boolean), Jvm.Cond.code ({ cls := "java/lang/StringLatin1", name := "toBytes", desc := "(C)[B" } : Jvm.MethodName) jdk_43_method_46_code (1 : Nat) (Option.some (Jvm.ClassFile.FieldType.array Jvm.ClassFile.FieldType.byte)), Jvm.Cond.code ({ cls := "java/lang/String", name := "<init>", desc := "([BB)V" } : Jvm.MethodName) jdk_42_method_151_code (3 : Nat) (Option.none : Option Jvm.ClassFile.FieldType), Jvm.Cond.code ({ cls := "java/lang/Object", name := "<init>", desc := "()V" } : Jvm.MethodName) object_method_1_code (1 : Nat) (Option.none : Option Jvm.ClassFile.FieldType), Jvm.Cond.code ({ cls := "com/example/dommel/dommel/KeySpace", name := "<init>", desc := "(Ljava/lang/String;)V" } : Jvm.MethodName) prog_8_method_1_code (2 : Nat) (Option.none : Option Jvm.ClassFile.FieldType), Jvm.Cond.code ({ cls := "java/util/Objects", name := "requireNonNull", desc := "(Ljava/lang/Object;Ljava/lang/String;)Ljava/lang/Object;" } : Jvm.MethodName) jdk_31_method_11_code (2 : Nat) (Option.some (Jvm.ClassFile.FieldType.object "java/lang/Object")), Jvm.Cond.code ({ cls := "com/example/dommel/dommel/KeySpace", name := "key", desc := "(Ljava/lang/String;Ljava/lang/String;)Ljava/lang/String;" } : Jvm.MethodName) prog_8_method_2_code (3 : Nat) (Option.some (Jvm.ClassFile.FieldType.object "java/lang/String")), Jvm.Cond.code ({ cls := "java/lang/StringBuilder", name := "<init>", desc := "()V" } : Jvm.MethodName) jdk_67_method_1_code (1 : Nat) (Option.none : Option Jvm.ClassFile.FieldType), Jvm.Cond.code ({ cls := "java/lang/AbstractStringBuilder", name := "<init>", desc := "(I)V" } : Jvm.MethodName) jdk_68_method_2_code (2 : Nat) (Option.none : Option Jvm.ClassFile.FieldType), Jvm.Cond.code ({ cls := "java/lang/StringBuilder", name := "append", desc := "(Ljava/lang/String;)Ljava/lang/StringBuilder;" } : Jvm.MethodName) jdk_67_method_7_code (2 : Nat) (Option.some (Jvm.ClassFile.FieldType.object "java/lang/StringBuilder")), Jvm.Cond.code ({ cls := "java/lang/AbstractStringBuilder", name := "append", desc := "(Ljava/lang/String;)Ljava/lang/AbstractStringBuilder;" } : Jvm.MethodName) jdk_68_method_22_code (3 : Nat) (Option.some (Jvm.ClassFile.FieldType.object "java/lang/AbstractStringBuilder")), Jvm.Cond.code ({ cls := "java/lang/String", name := "length", desc := "()I" } : Jvm.MethodName) jdk_42_method_54_code (1 : Nat) (Option.some Jvm.ClassFile.FieldType.int), Jvm.Cond.code ({ cls := "java/lang/String", name := "coder", desc := "()B" } : Jvm.MethodName) jdk_42_method_152_code (1 : Nat) (Option.some Jvm.ClassFile.FieldType.byte), Jvm.Cond.code ({ cls := "java/lang/AbstractStringBuilder", name := "ensureCapacityInternal", desc := "(I)V" } : Jvm.MethodName) jdk_68_method_9_code (3 : Nat) (Option.none : Option Jvm.ClassFile.FieldType), Jvm.Cond.code ({ cls := "java/lang/AbstractStringBuilder", name := "putStringAt", desc := "(ILjava/lang/String;)V" } : Jvm.MethodName) jdk_68_method_73_code (3 : Nat) (Option.none : Option Jvm.ClassFile.FieldType), Jvm.Cond.code ({ cls := "java/lang/AbstractStringBuilder", name := "inflateIfNeededFor", desc := "(Ljava/lang/String;)V" } : Jvm.MethodName) jdk_68_method_71_code (2 : Nat) (Option.none : Option Jvm.ClassFile.FieldType), Jvm.Cond.code ({ cls := "java/lang/String", name := "getBytes", desc := "([BIB)V" } : Jvm.MethodName) jdk_42_method_147_code (4 : Nat) (Option.none : Option Jvm.ClassFile.FieldType), Jvm.Cond.code ({ cls := "com/example/dommel/dommel/KeySpace", name := "requireName", desc := "(Ljava/lang/String;)Ljava/lang/String;" } : Jvm.MethodName) prog_8_method_4_code (4 : Nat) (Option.some (Jvm.ClassFile.FieldType.object "java/lang/String")), Jvm.Cond.code ({ cls := "java/lang/String", name := "isEmpty", desc := "()Z" } : Jvm.MethodName) jdk_42_method_55_code (1 : Nat) (Option.some Jvm.ClassFile.FieldType.boolean), Jvm.Cond.code ({ cls := "java/lang/String", name := "charAt", desc := "(I)C" } : Jvm.MethodName) jdk_42_method_56_code (2 : Nat) (Option.some Jvm.ClassFile.FieldType.char), Jvm.Cond.code ({ cls := "java/lang/String", name := "isLatin1", desc := "()Z" } : Jvm.MethodName) jdk_42_method_154_code (1 : Nat) (Option.some Jvm.ClassFile.FieldType.boolean), Jvm.Cond.code ({ cls := "java/lang/StringLatin1", name := "charAt", desc := "([BI)C" } : Jvm.MethodName) jdk_43_method_2_code (2 : Nat) (Option.some Jvm.ClassFile.FieldType.char), Jvm.Cond.code ({ cls := "java/lang/String", name := "checkIndex", desc := "(II)V" } : Jvm.MethodName) jdk_42_method_155_code (2 : Nat) (Option.none : Option Jvm.ClassFile.FieldType), Jvm.Cond.code ({ cls := "jdk/internal/util/Preconditions", name := "checkIndex", desc := "(IILjava/util/function/BiFunction;)I" } : Jvm.MethodName) jdk_41_method_11_code (3 : Nat) (Option.some Jvm.ClassFile.FieldType.int), Jvm.Cond.code ({ cls := "java/lang/StringBuilder", name := "toString", desc := "()Ljava/lang/String;" } : Jvm.MethodName) jdk_67_method_42_code (1 : Nat) (Option.some (Jvm.ClassFile.FieldType.object "java/lang/String")), Jvm.Cond.code ({ cls := "java/lang/String", name := "<init>", desc := "(Ljava/lang/StringBuilder;)V" } : Jvm.MethodName) jdk_42_method_53_code (2 : Nat) (Option.none : Option Jvm.ClassFile.FieldType), Jvm.Cond.code ({ cls := "java/lang/String", name := "<init>", desc := "(Ljava/lang/AbstractStringBuilder;Ljava/lang/Void;)V" } : Jvm.MethodName) jdk_42_method_150_code (5 : Nat) (Option.none : Option Jvm.ClassFile.FieldType), Jvm.Cond.code ({ cls := "java/lang/AbstractStringBuilder", name := "getValue", desc := "()[B" } : Jvm.MethodName) jdk_68_method_64_code (1 : Nat) (Option.some (Jvm.ClassFile.FieldType.array Jvm.ClassFile.FieldType.byte)), Jvm.Cond.code ({ cls := "java/lang/StringBuilder", name := "length", desc := "()I" } : Jvm.MethodName) jdk_67_method_93_code (1 : Nat) (Option.some Jvm.ClassFile.FieldType.int), Jvm.Cond.code ({ cls := "java/lang/AbstractStringBuilder", name := "length", desc := "()I" } : Jvm.MethodName) jdk_68_method_6_code (1 : Nat) (Option.some Jvm.ClassFile.FieldType.int), Jvm.Cond.code ({ cls := "java/lang/AbstractStringBuilder", name := "isLatin1", desc := "()Z" } : Jvm.MethodName) jdk_68_method_68_code (1 : Nat) (Option.some Jvm.ClassFile.FieldType.boolean), Jvm.Cond.code ({ cls := "java/util/Arrays", name := "copyOfRange", desc := "([BII)[B" } : Jvm.MethodName) jdk_65_method_132_code (3 : Nat) (Option.some (Jvm.ClassFile.FieldType.array Jvm.ClassFile.FieldType.byte)), Jvm.Cond.code ({ cls := "java/util/Arrays", name := "copyOfRangeByte", desc := "([BII)[B" } : Jvm.MethodName) jdk_65_method_133_code (5 : Nat) (Option.some (Jvm.ClassFile.FieldType.array Jvm.ClassFile.FieldType.byte)), Jvm.Cond.code ({ cls := "java/util/Arrays", name := "checkLength", desc := "(II)V" } : Jvm.MethodName) jdk_65_method_131_code (2 : Nat) (Option.none : Option Jvm.ClassFile.FieldType), Jvm.Cond.code ({ cls := "java/lang/Math", name := "min", desc := "(II)I" } : Jvm.MethodName) jdk_29_method_69_code (2 : Nat) (Option.some Jvm.ClassFile.FieldType.int), Jvm.Cond.code ({ cls := "com/example/dommel/dommel/KeySpaceKeyPinLaw", name := "same", desc := "(Ljava/lang/String;Ljava/lang/String;Ljava/lang/String;Ljava/lang/String;I)Z" } : Jvm.MethodName) method_5_code (5 : Nat) (Option.some Jvm.ClassFile.FieldType.boolean), Jvm.Cond.code ({ cls := "com/example/dommel/dommel/KeySpaceKeyPinLaw", name := "at", desc := "(Ljava/lang/String;Ljava/lang/String;Ljava/lang/String;I)C" } : Jvm.MethodName) method_4_code (5 : Nat) (Option.some Jvm.ClassFile.FieldType.char), Jvm.Cond.code ({ cls := "java/lang/String", name := "<init>", desc := "([C)V" } : Jvm.MethodName) jdk_42_method_3_code (2 : Nat) (Option.none : Option Jvm.ClassFile.FieldType), Jvm.Cond.code ({ cls := "java/lang/String", name := "<init>", desc := "([CIILjava/lang/Void;)V" } : Jvm.MethodName) jdk_42_method_149_code (6 : Nat) (Option.none : Option Jvm.ClassFile.FieldType), Jvm.Cond.code ({ cls := "java/lang/StringUTF16", name := "compress", desc := "([CII)[B" } : Jvm.MethodName) jdk_52_method_16_code (6 : Nat) (Option.some (Jvm.ClassFile.FieldType.array Jvm.ClassFile.FieldType.byte)), Jvm.Cond.code ({ cls := "java/lang/StringUTF16", name := "compress", desc := "([CI[BII)I" } : Jvm.MethodName) jdk_52_method_21_code (7 : Nat) (Option.some Jvm.ClassFile.FieldType.int), Jvm.Cond.code ({ cls := "java/lang/StringUTF16", name := "coderFromArrayLen", desc := "([BI)B" } : Jvm.MethodName) jdk_52_method_15_code (2 : Nat) (Option.some Jvm.ClassFile.FieldType.byte), Jvm.Cond.code ({ cls := "java/lang/StringUTF16", name := "toBytes", desc := "([CII)[B" } : Jvm.MethodName) jdk_52_method_14_code (5 : Nat) (Option.some (Jvm.ClassFile.FieldType.array Jvm.ClassFile.FieldType.byte)), Jvm.Cond.code ({ cls := "java/lang/StringUTF16", name := "newBytesFor", desc := "(I)[B" } : Jvm.MethodName) jdk_52_method_2_code (1 : Nat) (Option.some (Jvm.ClassFile.FieldType.array Jvm.ClassFile.FieldType.byte)), Jvm.Cond.code ({ cls := "java/lang/StringUTF16", name := "newBytesLength", desc := "(I)I" } : Jvm.MethodName) jdk_52_method_3_code (1 : Nat) (Option.some Jvm.ClassFile.FieldType.int), Jvm.Cond.code ({ cls := "java/lang/StringUTF16", name := "putChar", desc := "([BII)V" } : Jvm.MethodName) jdk_52_method_4_code (3 : Nat) (Option.none : Option Jvm.ClassFile.FieldType), Jvm.Cond.code ({ cls := "java/lang/StringUTF16", name := "getChar", desc := "([BI)C" } : Jvm.MethodName) jdk_52_method_5_code (2 : Nat) (Option.some Jvm.ClassFile.FieldType.char), Jvm.Cond.code ({ cls := "java/lang/StringUTF16", name := "charAt", desc := "([BI)C" } : Jvm.MethodName) jdk_52_method_83_code (2 : Nat) (Option.some Jvm.ClassFile.FieldType.char), Jvm.Cond.code ({ cls := "java/lang/StringUTF16", name := "checkIndex", desc := "(I[B)V" } : Jvm.MethodName) jdk_52_method_91_code (2 : Nat) (Option.none : Option Jvm.ClassFile.FieldType), Jvm.Cond.code ({ cls := "java/lang/StringUTF16", name := "length", desc := "([B)I" } : Jvm.MethodName) jdk_52_method_6_code (1 : Nat) (Option.some Jvm.ClassFile.FieldType.int), Jvm.Cond.code ({ cls := "java/lang/Character", name := "isSurrogate", desc := "(C)Z" } : Jvm.MethodName) jdk_89_method_16_code (1 : Nat) (Option.some Jvm.ClassFile.FieldType.boolean), Jvm.Cond.code ({ cls := "java/lang/Character", name := "isHighSurrogate", desc := "(C)Z" } : Jvm.MethodName) jdk_89_method_14_code (1 : Nat) (Option.some Jvm.ClassFile.FieldType.boolean), Jvm.Cond.code ({ cls := "java/lang/Character", name := "isLowSurrogate", desc := "(C)Z" } : Jvm.MethodName) jdk_89_method_15_code (1 : Nat) (Option.some Jvm.ClassFile.FieldType.boolean), Jvm.Cond.code ({ cls := "java/lang/AbstractStringBuilder", name := "inflate", desc := "()V" } : Jvm.MethodName) jdk_68_method_11_code (2 : Nat) (Option.none : Option Jvm.ClassFile.FieldType), Jvm.Cond.code ({ cls := "java/lang/StringLatin1", name := "inflate", desc := "([BI[BII)V" } : Jvm.MethodName) jdk_43_method_50_code (5 : Nat) (Option.none : Option Jvm.ClassFile.FieldType), Jvm.Cond.code ({ cls := "java/lang/StringUTF16", name := "inflate", desc := "([BI[BII)V" } : Jvm.MethodName) jdk_52_method_86_code (6 : Nat) (Option.none : Option Jvm.ClassFile.FieldType), Jvm.Cond.code ({ cls := "java/lang/StringUTF16", name := "checkBoundsOffCount", desc := "(II[B)V" } : Jvm.MethodName) jdk_52_method_94_code (3 : Nat) (Option.none : Option Jvm.ClassFile.FieldType), Jvm.Cond.code ({ cls := "java/lang/String", name := "checkBoundsOffCount", desc := "(III)I" } : Jvm.MethodName) jdk_42_method_157_code (3 : Nat) (Option.some Jvm.ClassFile.FieldType.int), Jvm.Cond.code ({ cls := "jdk/internal/util/Preconditions", name := "checkFromIndexSize", desc := "(IIILjava/util/function/BiFunction;)I" } : Jvm.MethodName) jdk_41_method_13_code (4 : Nat) (Option.some Jvm.ClassFile.FieldType.int), Jvm.Cond.code ({ cls := "java/lang/StringUTF16", name := "toBytes", desc := "(C)[B" } : Jvm.MethodName) jdk_52_method_24_code (2 : Nat) (Option.some (Jvm.ClassFile.FieldType.array Jvm.ClassFile.FieldType.byte))]
set_option maxRecDepth 65536 in
theorem codes_eq : words1.filter isCode = codes1 := rfl
theorem w_codes : ∀ c ∈ words1.filter isCode, c.before args0 about1 = true := by
  rw [codes_eq]
  intro c hc
  simp only [codes1, List.mem_cons, List.not_mem_nil, or_false] at hc
  rcases hc with rfl | rfl | rfl | rfl | rfl | rfl | rfl | rfl | rfl | rfl | rfl | rfl | rfl | rfl | rfl | rfl | rfl | rfl | rfl | rfl | rfl | rfl | rfl | rfl | rfl | rfl | rfl | rfl | rfl | rfl | rfl | rfl | rfl | rfl | rfl | rfl | rfl | rfl | rfl | rfl | rfl | rfl | rfl | rfl | rfl | rfl | rfl | rfl | rfl | rfl | rfl | rfl | rfl | rfl | rfl | rfl | rfl | rfl | rfl | rfl | rfl | rfl | rfl | rfl
  · exact w_c0
  · exact w_c1
  · exact w_c2
  · exact w_c3
  · exact w_c4
  · exact w_c5
  · exact w_c6
  · exact w_c7
  · exact w_c8
  · exact w_c9
  · exact w_c10
  · exact w_c11
  · exact w_c12
  · exact w_c13
  · exact w_c14
  · exact w_c15
  · exact w_c16
  · exact w_c17
  · exact w_c18
  · exact w_c19
  · exact w_c20
  · exact w_c21
  · exact w_c22
  · exact w_c23
  · exact w_c24
  · exact w_c25
  · exact w_c26
  · exact w_c27
  · exact w_c28
  · exact w_c29
  · exact w_c30
  · exact w_c31
  · exact w_c32
  · exact w_c33
  · exact w_c34
  · exact w_c35
  · exact w_c36
  · exact w_c37
  · exact w_c38
  · exact w_c39
  · exact w_c40
  · exact w_c41
  · exact w_c42
  · exact w_c43
  · exact w_c44
  · exact w_c45
  · exact w_c46
  · exact w_c47
  · exact w_c48
  · exact w_c49
  · exact w_c50
  · exact w_c51
  · exact w_c52
  · exact w_c53
  · exact w_c54
  · exact w_c55
  · exact w_c56
  · exact w_c57
  · exact w_c58
  · exact w_c59
  · exact w_c60
  · exact w_c61
  · exact w_c62
  · exact w_c63
set_option maxRecDepth 65536 in
theorem w_t1 : (words1.take 24).all (fun c => isCode c || c.before args0 about1) = true := by decide +kernel
set_option maxRecDepth 65536 in
theorem w_t2 : ((words1.drop 24).take 24).all (fun c => isCode c || c.before args0 about1) = true := by decide +kernel
set_option maxRecDepth 65536 in
theorem w_t3 : (((words1.drop 24).drop 24).take 24).all (fun c => isCode c || c.before args0 about1) = true := by decide +kernel
set_option maxRecDepth 65536 in
theorem w_t4 : ((((words1.drop 24).drop 24).drop 24).take 24).all (fun c => isCode c || c.before args0 about1) = true := by decide +kernel
set_option maxRecDepth 65536 in
theorem w_t5 : (((((words1.drop 24).drop 24).drop 24).drop 24).take 24).all (fun c => isCode c || c.before args0 about1) = true := by decide +kernel
set_option maxRecDepth 65536 in
theorem w_t6 : ((((((words1.drop 24).drop 24).drop 24).drop 24).drop 24).take 24).all (fun c => isCode c || c.before args0 about1) = true := by decide +kernel
set_option maxRecDepth 65536 in
theorem w_t7 : (((((((words1.drop 24).drop 24).drop 24).drop 24).drop 24).drop 24).take 24).all (fun c => isCode c || c.before args0 about1) = true := by decide +kernel
set_option maxRecDepth 65536 in
theorem w_t8 : ((((((((words1.drop 24).drop 24).drop 24).drop 24).drop 24).drop 24).drop 24).take 24).all (fun c => isCode c || c.before args0 about1) = true := by decide +kernel
set_option maxRecDepth 65536 in
theorem w_t9 : (((((((((words1.drop 24).drop 24).drop 24).drop 24).drop 24).drop 24).drop 24).drop 24).take 24).all (fun c => isCode c || c.before args0 about1) = true := by decide +kernel
set_option maxRecDepth 65536 in
theorem w_t10 : ((((((((((words1.drop 24).drop 24).drop 24).drop 24).drop 24).drop 24).drop 24).drop 24).drop 24).take 24).all (fun c => isCode c || c.before args0 about1) = true := by decide +kernel
set_option maxRecDepth 65536 in
theorem w_t11 : (((((((((((words1.drop 24).drop 24).drop 24).drop 24).drop 24).drop 24).drop 24).drop 24).drop 24).drop 24).take 24).all (fun c => isCode c || c.before args0 about1) = true := by decide +kernel
set_option maxRecDepth 65536 in
theorem w_t12 : ((((((((((((words1.drop 24).drop 24).drop 24).drop 24).drop 24).drop 24).drop 24).drop 24).drop 24).drop 24).drop 24).take 24).all (fun c => isCode c || c.before args0 about1) = true := by decide +kernel
set_option maxRecDepth 65536 in
theorem w_t13 : ((((((((((((words1.drop 24).drop 24).drop 24).drop 24).drop 24).drop 24).drop 24).drop 24).drop 24).drop 24).drop 24).drop 24).all (fun c => isCode c || c.before args0 about1) = true := by decide +kernel
theorem w_tables : (allAtoms (Jvm.Cond.code x code maxLocals ret :: tables_1)).before args0 about1 = true := by
  rw [allAtoms_all]
  show words1.all (fun c => c.before args0 about1) = true
  refine all_split ?_ w_codes
  rw [← List.take_append_drop 24 words1, List.all_append, w_t1, ← List.take_append_drop 24 (words1.drop 24), List.all_append, w_t2, ← List.take_append_drop 24 ((words1.drop 24).drop 24), List.all_append, w_t3, ← List.take_append_drop 24 (((words1.drop 24).drop 24).drop 24), List.all_append, w_t4, ← List.take_append_drop 24 ((((words1.drop 24).drop 24).drop 24).drop 24), List.all_append, w_t5, ← List.take_append_drop 24 (((((words1.drop 24).drop 24).drop 24).drop 24).drop 24), List.all_append, w_t6, ← List.take_append_drop 24 ((((((words1.drop 24).drop 24).drop 24).drop 24).drop 24).drop 24), List.all_append, w_t7, ← List.take_append_drop 24 (((((((words1.drop 24).drop 24).drop 24).drop 24).drop 24).drop 24).drop 24), List.all_append, w_t8, ← List.take_append_drop 24 ((((((((words1.drop 24).drop 24).drop 24).drop 24).drop 24).drop 24).drop 24).drop 24), List.all_append, w_t9, ← List.take_append_drop 24 (((((((((words1.drop 24).drop 24).drop 24).drop 24).drop 24).drop 24).drop 24).drop 24).drop 24), List.all_append, w_t10, ← List.take_append_drop 24 ((((((((((words1.drop 24).drop 24).drop 24).drop 24).drop 24).drop 24).drop 24).drop 24).drop 24).drop 24), List.all_append, w_t11, ← List.take_append_drop 24 (((((((((((words1.drop 24).drop 24).drop 24).drop 24).drop 24).drop 24).drop 24).drop 24).drop 24).drop 24).drop 24), List.all_append, w_t12, w_t13]
  rfl
set_option maxRecDepth 65536 in
theorem w_rest : rest_1_c.before args0 about1 = true := by decide +kernel
set_option maxRecDepth 65536 in
theorem w_case : (Jvm.Cond.and given_1 narrow_1).before args0 about1 = true := by decide +kernel
set_option maxRecDepth 65536 in
theorem w_consts : constsHeld consts_1 about1 := Jvm.Lit.constsHeldB_iff.mp (by decide +kernel)
theorem w_applies : (headSpec (Jvm.Cond.code x code maxLocals ret :: tables_1) room_1).applies x e0.platform about1 = true :=
  (Spec.applies_iff w_frames).mpr ⟨w_running, w_runnable, w_alone, w_named, w_hears, w_ripe, w_room, w_tables⟩
theorem atStart : AtStart classFile x code maxLocals ret World_1 tables_1 room_1 Calls_1 rest_1 Pre_1 launch0 p0 e0 about1 theMethod args0 below0 :=
  ⟨lists_1, trivial, launch0.admits_env _ _ _, launch0.least_env, fairChoices_fair.cas, fairChoices_fair.clock, w_frames, w_args, w_heap, w_applies, ⟨w_consts, trivial⟩, w_rest, w_case⟩
end start1
theorem witness_1 : WitnessClaimed_1 := ⟨start1.p0, start1.e0, start1.about1, start1.theMethod, start1.args0, start1.below0, start1.atStart⟩
end Jvm.Pilot.@@N@@
