import JvmDerived
import JvmDerived.Pilot.@@N@@Statement
import JvmDerived.Pilot.@@N@@Code
set_option linter.unusedVariables false
set_option linter.unusedSimpArgs false
namespace Jvm.OwnW
open Sem ClassFile Op Lib Jvm.Stand Jvm.Free Jvm.LawKit Jvm.RoadKit Bundle
def Dec (b : ByteArray) (pc : Nat) (i : Instr) (len nx : Nat) : Prop := decode b pc = .ok (i, len) ∧ pc + len = nx
def DecJ (b : ByteArray) (pc : Nat) (i : Instr) (o : Int) (nx tgt : Nat) : Prop := decode b pc = .ok (i, 3) ∧ pc + 3 = nx ∧ 0 ≤ (pc : Int) + o ∧ ((pc : Int) + o).toNat = tgt
theorem le {a b : Nat} (h : Nat.ble a b = true) : a ≤ b := Nat.le_of_ble_eq_true h
theorem ext_refl (h : Heap) : Ext h h := ⟨Nat.le_refl _, fun _ _ q => q⟩
theorem ext_trans {h h' h2 : Heap} (A : Ext h h') (B : Ext h' h2) : Ext h h2 := ⟨Nat.le_trans A.1 B.1, fun a c q => B.2 a c (A.2 a c q)⟩
theorem keep_ext {h h' : Heap} (E : Ext h h') (ws : List Addr) : Keep h h' ws := (Keep.refl h ws).ext E
theorem ext_keep {h h' : Heap} (K : Keep h h' []) : Ext h h' := ⟨K.1, fun a c q => K.2.1 a c q nin0⟩
def Here (p : Program) (l : Launch) (e : Env) (R : Room) (s : State) (m : MethodId) (args : Array Value) (below : List Frame) (meth : Method) (c : Code) (Z : State) (EL : List (String × Nat)) (nw : Bool)
    (F : List Addr) (w : Nat) (h : Heap) (k n : Nat) (T : State) (vm0 : Vm) (locs : List Loc) (k0 : Nat) : Prop :=
  Stand p l e R (s.setVm vm0) m args below meth c T locs k n ∧ T.heap = h ∧ Fr Z.heap.size locs ∧ s.Since vm0 k0 ∧ k0 ≤ h.size ∧ Z.Warmed39 vm0 ∧ CHr Z EL s.vm s.heap vm0 h ∧ (nw = true → s.WarmedH vm0) ∧ (∀ x ∈ F, x < h.size ∧ Safe Z EL vm0 h x) ∧ Ext Z.heap h ∧ (∀ x, w ≤ x → Safe Z EL vm0 h x) ∧ (nw = true → ∀ y, Bk Z EL vm0 h y → Bk Z EL s.vm s.heap y)
def wm (nwc : Bool) (w : Nat) (h : Heap) : Nat := match nwc with | true => w | false => h.size
def Ends (p : Program) (e : Env) (R : Room) (s : State) (below : List Frame) (Z : State) (EL : List (String × Nat)) (nw : Bool) (Q : Option Value → Heap → Prop) (t0 : State) : Prop :=
  ∃ t v L, Steps p.tables e below t0 t ∧ t.status = .running ∧ Ended t below (.returned v) ∧ Q v t.heap ∧ Fr Z.heap.size L ∧ CHr Z EL s.vm s.heap t.vm t.heap ∧ (nw = true → s.WarmedH t.vm ∧ ∀ y, Bk Z EL t.vm t.heap y → Bk Z EL s.vm s.heap y) ∧ Ext Z.heap t.heap ∧ ReturnedEndW s (.returned v) t L R.cells R.slots
def Goes (p : Program) (l : Launch) (e : Env) (R : Room) (s : State) (m : MethodId) (args : Array Value) (below : List Frame) (meth : Method) (c : Code) (Z : State) (EL : List (String × Nat)) (nw : Bool)
    (Q : Option Value → Heap → Prop) (F : List Addr) (w : Nat) (h : Heap) (k n : Nat) (f : JFrame) : Prop :=
  ∀ T vm0 locs k0, Here p l e R s m args below meth c Z EL nw F w h k n T vm0 locs k0 → Ends p e R s below Z EL nw Q (T.setTop f)
def Cxt (p : Program) (m : MethodId) (meth : Method) (c : Code) (Z : State) (a0 : Array Value) (EL : List (String × Nat)) (own mn : String) (bytes : ByteArray) (ml : Nat) (ret : Option FieldType) (Ws : List Jvm.Cond) : Prop :=
  p.tables.exec = Jvm.exec ∧ c.code = bytes ∧ c.maxLocals = ml ∧ Z.vm.findClass own = some m.cls ∧ meth.sig.returnType = ret ∧ meth.locks = false ∧ meth.name = mn ∧ (∀ d ∈ Ws, d.before a0 Z = true) ∧ EW Z a0 EL
/-- who pays a call -/
def Pays (p : Program) (l : Launch) (e : Env) (R : Room) (s : State) (args : Array Value) (below : List Frame) (Z : State) (EL : List (String × Nat)) (nw : Bool)
    (y : MethodName) (len W : Nat) (F : List Addr) (as' : Array Value) (h : Heap) (rc rs : Nat) (Qc : Option Value → Heap → Prop) : Prop :=
  ∀ vm0, Z.Warmed39 vm0 → CHv Z EL vm0 h → (∀ x ∈ F, x < h.size ∧ Safe Z EL vm0 h x) → Ext Z.heap h →
    BackS l R p e below (s.setVm vm0) args y len W (fun A a => a = as' ∧ A.U.heap = h ∧ A.cells + rc ≤ R.cells ∧ A.slots + rs ≤ R.slots)
      (fun A _ v B => ∃ L, Qc v B.U.heap ∧ Fr Z.heap.size L ∧ B.locs = A.locs ++ L ∧ B.cells = A.cells + rc ∧ B.slots = A.slots + rs ∧ CHr Z EL vm0 h B.U.vm B.U.heap ∧ (nw = true → (s.setVm vm0).WarmedH B.U.vm ∧ ∀ y, Bk Z EL B.U.vm B.U.heap y → Bk Z EL vm0 h y) ∧ Ext Z.heap B.U.heap)
/-- a method's contract -/
def Con (l : Launch) (Z : State) (EL : List (String × Nat)) (nw : Bool) (y : MethodName) (bytes : ByteArray) (maxL : Nat) (ret : Option FieldType) (rm : Room) (F : List Addr) (as' : Array Value) (h : Heap) (Q : Option Value → Heap → Prop) : Prop :=
  ∀ ws : List Jvm.Cond, MetFree l y (head1 (Jvm.Cond.code y bytes maxL ret :: ws) rm) (fun a U => a = as' ∧ Z.Warmed39 U.vm ∧ U.heap = h ∧ CHv Z EL U.vm h ∧ (∀ x ∈ F, x < h.size ∧ Safe Z EL U.vm h x) ∧ Ext Z.heap h) (fun _ _ _ _ _ => True)
    (fun _ U o U' => ∃ v L, o = .returned v ∧ Q v U'.heap ∧ Fr Z.heap.size L ∧ CHr Z EL U.vm U.heap U'.vm U'.heap ∧ (nw = true → U.WarmedH U'.vm ∧ ∀ y, Bk Z EL U'.vm U'.heap y → Bk Z EL U.vm U.heap y) ∧ Ext Z.heap U'.heap ∧ ReturnedEndW U o U' L rm.cells rm.slots)
section
variable {p : Program} {l : Launch} {e : Env} {R : Room} {s : State} {m : MethodId} {args : Array Value} {below : List Frame} {meth : Method} {c : Code} {Z : State} {a0 : Array Value} {EL : List (String × Nat)} {nw : Bool} {own mn : String} {bytes : ByteArray} {ml : Nat} {ret : Option FieldType} {Ws : List Jvm.Cond} {Q : Option Value → Heap → Prop} {F : List Addr} {w : Nat} {h : Heap} {k n : Nat} {pc nx : Nat} {Ls : Array Slot} {st : List Value}
theorem Cxt.own_at (C : Cxt p m meth c Z a0 EL own mn bytes ml ret Ws) {vm0 : Vm} (hZ : Z.Warmed39 vm0) : (s.setVm vm0).vm.findClass own = some m.cls := by
  show vm0.findClass own = _
  rw [hZ.alike.findClass]; exact C.2.2.2.1
theorem Cxt.wrd (C : Cxt p m meth c Z a0 EL own mn bytes ml ret Ws) {d : Jvm.Cond} (hd : d ∈ Ws) : d.before a0 Z = true := C.2.2.2.2.2.2.2.1 d hd
theorem Here.step {T T' : State} {vm0 : Vm} {locs locs' : List Loc} {k0 k' n' : Nat} {h' : Heap} {ws : List Addr} (H : Here p l e R s m args below meth c Z EL nw F w h k n T vm0 locs k0) (X' : Stand p l e R (s.setVm vm0) m args below meth c T' locs' k' n') (e' : T'.heap = h') (N' : Fr Z.heap.size locs') (K : Keep h h' ws) (hs : ∀ x ∈ ws, Safe Z EL vm0 h x ∧ Z.heap.size ≤ x) :
    Here p l e R s m args below meth c Z EL nw F w h' k' n' T' vm0 locs' k0 := by
  obtain ⟨X, eT, N, S, hk0, hZ, H1, hw, hF, O, hwm, hbk⟩ := H
  have hs1 : ∀ x ∈ ws, Safe Z EL vm0 h x := fun x hx => (hs x hx).1
  exact ⟨X', e', N', S, Nat.le_trans hk0 K.1, hZ, H1.trans (CHr.keep K hs1 H1.1), hw, fun x hx => ⟨Nat.lt_of_lt_of_le (hF x hx).1 K.1, (hF x hx).2.keep K hs1 H1.1⟩, (Old.keep (n0 := Z.heap.size) ⟨rfl, O⟩ K fun x hx => (hs x hx).2).2, fun x hx => (hwm x hx).keep K hs1 H1.1, fun q y hy => hbk q y ((H1.1.keepStep K hs1).2 y hy)⟩
theorem Goes.pure {f f' : JFrame} (stp : ∀ T vm0 locs, Stand p l e R (s.setVm vm0) m args below meth c T locs k n → ∀ t, Steps p.tables e below (T.setTop f') t → Steps p.tables e below (T.setTop f) t) (g : Goes p l e R s m args below meth c Z EL nw Q F w h k n f') : Goes p l e R s m args below meth c Z EL nw Q F w h k n f := by
  intro T vm0 locs k0 H
  obtain ⟨t, v, L, h1, r⟩ := g T vm0 locs k0 H
  exact ⟨t, v, L, stp T vm0 locs H.1 t h1, r⟩
theorem Goes.old {f : JFrame} (g : Ext Z.heap h → Goes p l e R s m args below meth c Z EL nw Q F w h k n f) : Goes p l e R s m args below meth c Z EL nw Q F w h k n f := fun T vm0 locs k0 H => g H.2.2.2.2.2.2.2.2.2.1 T vm0 locs k0 H
theorem Goes.more {f : JFrame} {k' n' : Nat} (hk : k ≤ k') (hn : n ≤ n') (g : Goes p l e R s m args below meth c Z EL nw Q F w h k' n' f) : Goes p l e R s m args below meth c Z EL nw Q F w h k n f := fun T vm0 locs k0 H => g T vm0 locs k0 ⟨H.1.more hk hn, H.2⟩
theorem Goes.less {f : JFrame} {F' : List Addr} (hF : ∀ x ∈ F', x ∈ F) (g : Goes p l e R s m args below meth c Z EL nw Q F' w h k n f) : Goes p l e R s m args below meth c Z EL nw Q F w h k n f := fun T vm0 locs k0 H => by
  obtain ⟨X, eT, N, S, hk0, hZ, H1, hw, hF1, O, hwm, hbk⟩ := H
  exact g T vm0 locs k0 ⟨X, eT, N, S, hk0, hZ, H1, hw, fun x hx => hF1 x (hF x hx), O, hwm, hbk⟩
theorem Goes.safeOf {f : JFrame} {a : Addr} (hs : ∀ vm0, Z.Warmed39 vm0 → CHr Z EL s.vm s.heap vm0 h → a < h.size ∧ Safe Z EL vm0 h a) (g : Goes p l e R s m args below meth c Z EL nw Q (a :: F) w h k n f) : Goes p l e R s m args below meth c Z EL nw Q F w h k n f := fun T vm0 locs k0 H => by
  obtain ⟨X, eT, N, S, hk0, hZ, H1, hw, hF1, O, hwm, hbk⟩ := H
  exact g T vm0 locs k0 ⟨X, eT, N, S, hk0, hZ, H1, hw, fun x hx => (List.mem_cons.mp hx).elim (fun q => by subst q; exact hs vm0 hZ H1) (hF1 x), O, hwm, hbk⟩
theorem Goes.cast {f f' : JFrame} (q : f = f') (g : Goes p l e R s m args below meth c Z EL nw Q F w h k n f') : Goes p l e R s m args below meth c Z EL nw Q F w h k n f := q ▸ g

/-- (char) x -/
def c16 (x : Int32) : Int32 := x.toUInt32.toUInt16.toUInt32.toInt32
/-- (byte) x -/
def b8 (x : Int32) : Int32 := x.toInt8.toInt32
theorem Cxt.aloadN (C : Cxt p m meth c Z a0 EL own mn bytes ml ret Ws) {i : Fin 4} {v : Value} (d : Dec bytes pc (.aload_n i) 1 nx) (hl : Ls[i.val]? = some (.val v)) (hv : v.isRef = true) (g : Goes p l e R s m args below meth c Z EL nw Q F w h k n (mkF m nx Ls (v :: st))) : Goes p l e R s m args below meth c Z EL nw Q F w h k n (mkF m pc Ls st) := by
  obtain ⟨d1, rfl⟩ := d
  exact Goes.pure (fun T vm0 locs X t ht => XS.aloadN X.here C.1 rfl (hb C.2.1 d1) hl hv ht) g
theorem Cxt.aload (C : Cxt p m meth c Z a0 EL own mn bytes ml ret Ws) {i : Nat} {v : Value} (d : Dec bytes pc (.aload i) 2 nx) (hl : Ls[i]? = some (.val v)) (hv : v.isRef = true) (g : Goes p l e R s m args below meth c Z EL nw Q F w h k n (mkF m nx Ls (v :: st))) : Goes p l e R s m args below meth c Z EL nw Q F w h k n (mkF m pc Ls st) := by
  obtain ⟨d1, rfl⟩ := d
  exact Goes.pure (fun T vm0 locs X t ht => XS.aload X.here C.1 rfl (hb C.2.1 d1) hl hv ht) g
theorem Cxt.iloadN (C : Cxt p m meth c Z a0 EL own mn bytes ml ret Ws) {i : Fin 4} {v : Int32} (d : Dec bytes pc (.iload_n i) 1 nx) (hl : Ls[i.val]? = some (.val (.int v))) (g : Goes p l e R s m args below meth c Z EL nw Q F w h k n (mkF m nx Ls (.int v :: st))) : Goes p l e R s m args below meth c Z EL nw Q F w h k n (mkF m pc Ls st) := by
  obtain ⟨d1, rfl⟩ := d
  exact Goes.pure (fun T vm0 locs X t ht => XS.iloadN X.here C.1 rfl (hb C.2.1 d1) hl ht) g
theorem Cxt.iload (C : Cxt p m meth c Z a0 EL own mn bytes ml ret Ws) {i : Nat} {v : Int32} (d : Dec bytes pc (.iload i) 2 nx) (hl : Ls[i]? = some (.val (.int v))) (g : Goes p l e R s m args below meth c Z EL nw Q F w h k n (mkF m nx Ls (.int v :: st))) : Goes p l e R s m args below meth c Z EL nw Q F w h k n (mkF m pc Ls st) := by
  obtain ⟨d1, rfl⟩ := d
  exact Goes.pure (fun T vm0 locs X t ht => XS.iload X.here C.1 rfl (hb C.2.1 d1) hl ht) g
theorem Cxt.lloadN (C : Cxt p m meth c Z a0 EL own mn bytes ml ret Ws) {i : Fin 4} {v : Int64} (d : Dec bytes pc (.lload_n i) 1 nx) (hl : Ls[i.val]? = some (.val (.long v))) (g : Goes p l e R s m args below meth c Z EL nw Q F w h k n (mkF m nx Ls (.long v :: st))) : Goes p l e R s m args below meth c Z EL nw Q F w h k n (mkF m pc Ls st) := by
  obtain ⟨d1, rfl⟩ := d
  exact Goes.pure (fun T vm0 locs X t ht => XT.lloadN X.here C.1 rfl (hb C.2.1 d1) hl ht) g
theorem Cxt.lload (C : Cxt p m meth c Z a0 EL own mn bytes ml ret Ws) {i : Nat} {v : Int64} (d : Dec bytes pc (.lload i) 2 nx) (hl : Ls[i]? = some (.val (.long v))) (g : Goes p l e R s m args below meth c Z EL nw Q F w h k n (mkF m nx Ls (.long v :: st))) : Goes p l e R s m args below meth c Z EL nw Q F w h k n (mkF m pc Ls st) := by
  obtain ⟨d1, rfl⟩ := d
  exact Goes.pure (fun T vm0 locs X t ht => XT.lload X.here C.1 rfl (hb C.2.1 d1) hl ht) g
theorem Cxt.iconst (C : Cxt p m meth c Z a0 EL own mn bytes ml ret Ws) {i : Int} (v : Int32) (d : Dec bytes pc (.iconst i) 1 nx) (hv : Int32.ofInt i = v) (g : Goes p l e R s m args below meth c Z EL nw Q F w h k n (mkF m nx Ls (.int v :: st))) : Goes p l e R s m args below meth c Z EL nw Q F w h k n (mkF m pc Ls st) := by
  subst hv; obtain ⟨d1, rfl⟩ := d
  exact Goes.pure (fun T vm0 locs X t ht => XS.iconst X.here C.1 rfl (hb C.2.1 d1) ht) g
theorem Cxt.bipush (C : Cxt p m meth c Z a0 EL own mn bytes ml ret Ws) {i : Int} (v : Int32) (d : Dec bytes pc (.bipush i) 2 nx) (hv : (Int8.ofInt i).toInt32 = v) (g : Goes p l e R s m args below meth c Z EL nw Q F w h k n (mkF m nx Ls (.int v :: st))) : Goes p l e R s m args below meth c Z EL nw Q F w h k n (mkF m pc Ls st) := by
  subst hv; obtain ⟨d1, rfl⟩ := d
  exact Goes.pure (fun T vm0 locs X t ht => XS.bipush X.here C.1 rfl (hb C.2.1 d1) ht) g
theorem Cxt.sipush (C : Cxt p m meth c Z a0 EL own mn bytes ml ret Ws) {i : Int} (v : Int32) (d : Dec bytes pc (.sipush i) 3 nx) (hv : (Int16.ofInt i).toInt32 = v) (g : Goes p l e R s m args below meth c Z EL nw Q F w h k n (mkF m nx Ls (.int v :: st))) : Goes p l e R s m args below meth c Z EL nw Q F w h k n (mkF m pc Ls st) := by
  subst hv; obtain ⟨d1, rfl⟩ := d
  exact Goes.pure (fun T vm0 locs X t ht => XS.sipush X.here C.1 rfl (hb C.2.1 d1) ht) g
theorem Cxt.aconst_null (C : Cxt p m meth c Z a0 EL own mn bytes ml ret Ws)  (d : Dec bytes pc (.aconst_null) 1 nx)  (g : Goes p l e R s m args below meth c Z EL nw Q F w h k n (mkF m nx Ls (.null :: st))) : Goes p l e R s m args below meth c Z EL nw Q F w h k n (mkF m pc Ls st) := by
  obtain ⟨d1, rfl⟩ := d
  exact Goes.pure (fun T vm0 locs X t ht => XS.aconstNull X.here C.1 rfl (hb C.2.1 d1) ht) g
theorem Cxt.lconst (C : Cxt p m meth c Z a0 EL own mn bytes ml ret Ws) {i : Fin 2} (d : Dec bytes pc (.lconst i) 1 nx)  (g : Goes p l e R s m args below meth c Z EL nw Q F w h k n (mkF m nx Ls (.long (Int64.ofNat i) :: st))) : Goes p l e R s m args below meth c Z EL nw Q F w h k n (mkF m pc Ls st) := by
  obtain ⟨d1, rfl⟩ := d
  exact Goes.pure (fun T vm0 locs X t ht => XT.lconst X.here C.1 rfl (hb C.2.1 d1) ht) g
theorem Cxt.iadd (C : Cxt p m meth c Z a0 EL own mn bytes ml ret Ws) {x y : Int32} (d : Dec bytes pc (.iadd) 1 nx)  (g : Goes p l e R s m args below meth c Z EL nw Q F w h k n (mkF m nx Ls (.int (x + y) :: st))) : Goes p l e R s m args below meth c Z EL nw Q F w h k n (mkF m pc Ls (.int y :: .int x :: st)) := by
  obtain ⟨d1, rfl⟩ := d
  exact Goes.pure (fun T vm0 locs X t ht => XS.iadd X.here C.1 rfl (hb C.2.1 d1) rfl ht) g
theorem Cxt.isub (C : Cxt p m meth c Z a0 EL own mn bytes ml ret Ws) {x y : Int32} (d : Dec bytes pc (.isub) 1 nx)  (g : Goes p l e R s m args below meth c Z EL nw Q F w h k n (mkF m nx Ls (.int (x - y) :: st))) : Goes p l e R s m args below meth c Z EL nw Q F w h k n (mkF m pc Ls (.int y :: .int x :: st)) := by
  obtain ⟨d1, rfl⟩ := d
  exact Goes.pure (fun T vm0 locs X t ht => XS.isub X.here C.1 rfl (hb C.2.1 d1) rfl ht) g
theorem Cxt.imul (C : Cxt p m meth c Z a0 EL own mn bytes ml ret Ws) {x y : Int32} (d : Dec bytes pc (.imul) 1 nx)  (g : Goes p l e R s m args below meth c Z EL nw Q F w h k n (mkF m nx Ls (.int (x * y) :: st))) : Goes p l e R s m args below meth c Z EL nw Q F w h k n (mkF m pc Ls (.int y :: .int x :: st)) := by
  obtain ⟨d1, rfl⟩ := d
  exact Goes.pure (fun T vm0 locs X t ht => XS.imul X.here C.1 rfl (hb C.2.1 d1) rfl ht) g
theorem Cxt.iand (C : Cxt p m meth c Z a0 EL own mn bytes ml ret Ws) {x y : Int32} (d : Dec bytes pc (.iand) 1 nx)  (g : Goes p l e R s m args below meth c Z EL nw Q F w h k n (mkF m nx Ls (.int (x &&& y) :: st))) : Goes p l e R s m args below meth c Z EL nw Q F w h k n (mkF m pc Ls (.int y :: .int x :: st)) := by
  obtain ⟨d1, rfl⟩ := d
  exact Goes.pure (fun T vm0 locs X t ht => XS.iand X.here C.1 rfl (hb C.2.1 d1) rfl ht) g
theorem Cxt.ior (C : Cxt p m meth c Z a0 EL own mn bytes ml ret Ws) {x y : Int32} (d : Dec bytes pc (.ior) 1 nx)  (g : Goes p l e R s m args below meth c Z EL nw Q F w h k n (mkF m nx Ls (.int (x ||| y) :: st))) : Goes p l e R s m args below meth c Z EL nw Q F w h k n (mkF m pc Ls (.int y :: .int x :: st)) := by
  obtain ⟨d1, rfl⟩ := d
  exact Goes.pure (fun T vm0 locs X t ht => XT.ior X.here C.1 rfl (hb C.2.1 d1) rfl ht) g
theorem Cxt.ixor (C : Cxt p m meth c Z a0 EL own mn bytes ml ret Ws) {x y : Int32} (d : Dec bytes pc (.ixor) 1 nx)  (g : Goes p l e R s m args below meth c Z EL nw Q F w h k n (mkF m nx Ls (.int (x ^^^ y) :: st))) : Goes p l e R s m args below meth c Z EL nw Q F w h k n (mkF m pc Ls (.int y :: .int x :: st)) := by
  obtain ⟨d1, rfl⟩ := d
  exact Goes.pure (fun T vm0 locs X t ht => XT.ixor X.here C.1 rfl (hb C.2.1 d1) rfl ht) g
theorem Cxt.ishl (C : Cxt p m meth c Z a0 EL own mn bytes ml ret Ws) {x y : Int32} (d : Dec bytes pc (.ishl) 1 nx)  (g : Goes p l e R s m args below meth c Z EL nw Q F w h k n (mkF m nx Ls (.int (x <<< (y &&& 31)) :: st))) : Goes p l e R s m args below meth c Z EL nw Q F w h k n (mkF m pc Ls (.int y :: .int x :: st)) := by
  obtain ⟨d1, rfl⟩ := d
  exact Goes.pure (fun T vm0 locs X t ht => XT.ishl X.here C.1 rfl (hb C.2.1 d1) rfl ht) g
theorem Cxt.ishr (C : Cxt p m meth c Z a0 EL own mn bytes ml ret Ws) {x y : Int32} (d : Dec bytes pc (.ishr) 1 nx)  (g : Goes p l e R s m args below meth c Z EL nw Q F w h k n (mkF m nx Ls (.int (x >>> (y &&& 31)) :: st))) : Goes p l e R s m args below meth c Z EL nw Q F w h k n (mkF m pc Ls (.int y :: .int x :: st)) := by
  obtain ⟨d1, rfl⟩ := d
  exact Goes.pure (fun T vm0 locs X t ht => XT.ishr X.here C.1 rfl (hb C.2.1 d1) rfl ht) g
theorem Cxt.iushr (C : Cxt p m meth c Z a0 EL own mn bytes ml ret Ws) {x y : Int32} (d : Dec bytes pc (.iushr) 1 nx)  (g : Goes p l e R s m args below meth c Z EL nw Q F w h k n (mkF m nx Ls (.int (XT.ushr x y) :: st))) : Goes p l e R s m args below meth c Z EL nw Q F w h k n (mkF m pc Ls (.int y :: .int x :: st)) := by
  obtain ⟨d1, rfl⟩ := d
  exact Goes.pure (fun T vm0 locs X t ht => XT.iushr X.here C.1 rfl (hb C.2.1 d1) rfl ht) g
theorem Cxt.idiv (C : Cxt p m meth c Z a0 EL own mn bytes ml ret Ws) {x y : Int32} (d : Dec bytes pc (.idiv) 1 nx) (hy : y ≠ 0) (g : Goes p l e R s m args below meth c Z EL nw Q F w h k n (mkF m nx Ls (.int (x / y) :: st))) : Goes p l e R s m args below meth c Z EL nw Q F w h k n (mkF m pc Ls (.int y :: .int x :: st)) := by
  obtain ⟨d1, rfl⟩ := d
  exact Goes.pure (fun T vm0 locs X t ht => XS.idiv X.here C.1 rfl (hb C.2.1 d1) rfl hy ht) g
theorem Cxt.irem (C : Cxt p m meth c Z a0 EL own mn bytes ml ret Ws) {x y : Int32} (d : Dec bytes pc (.irem) 1 nx) (hy : y ≠ 0) (g : Goes p l e R s m args below meth c Z EL nw Q F w h k n (mkF m nx Ls (.int (x % y) :: st))) : Goes p l e R s m args below meth c Z EL nw Q F w h k n (mkF m pc Ls (.int y :: .int x :: st)) := by
  obtain ⟨d1, rfl⟩ := d
  exact Goes.pure (fun T vm0 locs X t ht => iremM X C.1 rfl (hb C.2.1 d1) rfl hy ht) g
theorem Cxt.ineg (C : Cxt p m meth c Z a0 EL own mn bytes ml ret Ws) {x : Int32} (d : Dec bytes pc (.ineg) 1 nx)  (g : Goes p l e R s m args below meth c Z EL nw Q F w h k n (mkF m nx Ls (.int (-x) :: st))) : Goes p l e R s m args below meth c Z EL nw Q F w h k n (mkF m pc Ls (.int x :: st)) := by
  obtain ⟨d1, rfl⟩ := d
  exact Goes.pure (fun T vm0 locs X t ht => XS.ineg X.here C.1 rfl (hb C.2.1 d1) rfl ht) g
theorem Cxt.ladd (C : Cxt p m meth c Z a0 EL own mn bytes ml ret Ws) {x y : Int64} (d : Dec bytes pc (.ladd) 1 nx)  (g : Goes p l e R s m args below meth c Z EL nw Q F w h k n (mkF m nx Ls (.long (x + y) :: st))) : Goes p l e R s m args below meth c Z EL nw Q F w h k n (mkF m pc Ls (.long y :: .long x :: st)) := by
  obtain ⟨d1, rfl⟩ := d
  exact Goes.pure (fun T vm0 locs X t ht => XT.ladd X.here C.1 rfl (hb C.2.1 d1) rfl ht) g
theorem Cxt.lsub (C : Cxt p m meth c Z a0 EL own mn bytes ml ret Ws) {x y : Int64} (d : Dec bytes pc (.lsub) 1 nx)  (g : Goes p l e R s m args below meth c Z EL nw Q F w h k n (mkF m nx Ls (.long (x - y) :: st))) : Goes p l e R s m args below meth c Z EL nw Q F w h k n (mkF m pc Ls (.long y :: .long x :: st)) := by
  obtain ⟨d1, rfl⟩ := d
  exact Goes.pure (fun T vm0 locs X t ht => XT.lsub X.here C.1 rfl (hb C.2.1 d1) rfl ht) g
theorem Cxt.lmul (C : Cxt p m meth c Z a0 EL own mn bytes ml ret Ws) {x y : Int64} (d : Dec bytes pc (.lmul) 1 nx)  (g : Goes p l e R s m args below meth c Z EL nw Q F w h k n (mkF m nx Ls (.long (x * y) :: st))) : Goes p l e R s m args below meth c Z EL nw Q F w h k n (mkF m pc Ls (.long y :: .long x :: st)) := by
  obtain ⟨d1, rfl⟩ := d
  exact Goes.pure (fun T vm0 locs X t ht => XT.lmul X.here C.1 rfl (hb C.2.1 d1) rfl ht) g
theorem Cxt.land (C : Cxt p m meth c Z a0 EL own mn bytes ml ret Ws) {x y : Int64} (d : Dec bytes pc (.land) 1 nx)  (g : Goes p l e R s m args below meth c Z EL nw Q F w h k n (mkF m nx Ls (.long (x &&& y) :: st))) : Goes p l e R s m args below meth c Z EL nw Q F w h k n (mkF m pc Ls (.long y :: .long x :: st)) := by
  obtain ⟨d1, rfl⟩ := d
  exact Goes.pure (fun T vm0 locs X t ht => XT.land X.here C.1 rfl (hb C.2.1 d1) rfl ht) g
theorem Cxt.lor (C : Cxt p m meth c Z a0 EL own mn bytes ml ret Ws) {x y : Int64} (d : Dec bytes pc (.lor) 1 nx)  (g : Goes p l e R s m args below meth c Z EL nw Q F w h k n (mkF m nx Ls (.long (x ||| y) :: st))) : Goes p l e R s m args below meth c Z EL nw Q F w h k n (mkF m pc Ls (.long y :: .long x :: st)) := by
  obtain ⟨d1, rfl⟩ := d
  exact Goes.pure (fun T vm0 locs X t ht => XT.lor X.here C.1 rfl (hb C.2.1 d1) rfl ht) g
theorem Cxt.lxor (C : Cxt p m meth c Z a0 EL own mn bytes ml ret Ws) {x y : Int64} (d : Dec bytes pc (.lxor) 1 nx)  (g : Goes p l e R s m args below meth c Z EL nw Q F w h k n (mkF m nx Ls (.long (x ^^^ y) :: st))) : Goes p l e R s m args below meth c Z EL nw Q F w h k n (mkF m pc Ls (.long y :: .long x :: st)) := by
  obtain ⟨d1, rfl⟩ := d
  exact Goes.pure (fun T vm0 locs X t ht => XT.lxor X.here C.1 rfl (hb C.2.1 d1) rfl ht) g
theorem Cxt.lushr (C : Cxt p m meth c Z a0 EL own mn bytes ml ret Ws) {x : Int64} {y : Int32} (d : Dec bytes pc (.lushr) 1 nx)  (g : Goes p l e R s m args below meth c Z EL nw Q F w h k n (mkF m nx Ls (.long (XT.ushrL x y) :: st))) : Goes p l e R s m args below meth c Z EL nw Q F w h k n (mkF m pc Ls (.int y :: .long x :: st)) := by
  obtain ⟨d1, rfl⟩ := d
  exact Goes.pure (fun T vm0 locs X t ht => XT.lushr X.here C.1 rfl (hb C.2.1 d1) rfl ht) g
theorem Cxt.l2i (C : Cxt p m meth c Z a0 EL own mn bytes ml ret Ws) {x : Int64} (d : Dec bytes pc (.l2i) 1 nx)  (g : Goes p l e R s m args below meth c Z EL nw Q F w h k n (mkF m nx Ls (.int x.toInt32 :: st))) : Goes p l e R s m args below meth c Z EL nw Q F w h k n (mkF m pc Ls (.long x :: st)) := by
  obtain ⟨d1, rfl⟩ := d
  exact Goes.pure (fun T vm0 locs X t ht => XT.l2i X.here C.1 rfl (hb C.2.1 d1) rfl ht) g
theorem Cxt.i2l (C : Cxt p m meth c Z a0 EL own mn bytes ml ret Ws) {x : Int32} (d : Dec bytes pc (.i2l) 1 nx)  (g : Goes p l e R s m args below meth c Z EL nw Q F w h k n (mkF m nx Ls (.long x.toInt64 :: st))) : Goes p l e R s m args below meth c Z EL nw Q F w h k n (mkF m pc Ls (.int x :: st)) := by
  obtain ⟨d1, rfl⟩ := d
  exact Goes.pure (fun T vm0 locs X t ht => XT.i2l X.here C.1 rfl (hb C.2.1 d1) rfl ht) g
theorem Cxt.i2c (C : Cxt p m meth c Z a0 EL own mn bytes ml ret Ws) {x : Int32} (d : Dec bytes pc (.i2c) 1 nx)  (g : Goes p l e R s m args below meth c Z EL nw Q F w h k n (mkF m nx Ls (.int (c16 x) :: st))) : Goes p l e R s m args below meth c Z EL nw Q F w h k n (mkF m pc Ls (.int x :: st)) := by
  obtain ⟨d1, rfl⟩ := d
  exact Goes.pure (fun T vm0 locs X t ht => XT.i2c X.here C.1 rfl (hb C.2.1 d1) rfl ht) g
theorem Cxt.i2b (C : Cxt p m meth c Z a0 EL own mn bytes ml ret Ws) {x : Int32} (d : Dec bytes pc (.i2b) 1 nx)  (g : Goes p l e R s m args below meth c Z EL nw Q F w h k n (mkF m nx Ls (.int (b8 x) :: st))) : Goes p l e R s m args below meth c Z EL nw Q F w h k n (mkF m pc Ls (.int x :: st)) := by
  obtain ⟨d1, rfl⟩ := d
  exact Goes.pure (fun T vm0 locs X t ht => XT.i2b X.here C.1 rfl (hb C.2.1 d1) rfl ht) g
theorem Cxt.lcmp (C : Cxt p m meth c Z a0 EL own mn bytes ml ret Ws) {x y : Int64} (d : Dec bytes pc (.lcmp) 1 nx)  (g : Goes p l e R s m args below meth c Z EL nw Q F w h k n (mkF m nx Ls (.int (XT.cmpL x y) :: st))) : Goes p l e R s m args below meth c Z EL nw Q F w h k n (mkF m pc Ls (.long y :: .long x :: st)) := by
  obtain ⟨d1, rfl⟩ := d
  exact Goes.pure (fun T vm0 locs X t ht => XT.lcmp X.here C.1 rfl (hb C.2.1 d1) rfl ht) g
theorem Cxt.dup (C : Cxt p m meth c Z a0 EL own mn bytes ml ret Ws) {x : Value} (d : Dec bytes pc (.dup) 1 nx) (hc : x.category = 1) (g : Goes p l e R s m args below meth c Z EL nw Q F w h k n (mkF m nx Ls (x :: x :: st))) : Goes p l e R s m args below meth c Z EL nw Q F w h k n (mkF m pc Ls (x :: st)) := by
  obtain ⟨d1, rfl⟩ := d
  exact Goes.pure (fun T vm0 locs X t ht => XS.dup X.here C.1 rfl (hb C.2.1 d1) rfl hc ht) g
theorem Cxt.pop (C : Cxt p m meth c Z a0 EL own mn bytes ml ret Ws) {x : Value} (d : Dec bytes pc (.pop) 1 nx) (hc : x.category = 1) (g : Goes p l e R s m args below meth c Z EL nw Q F w h k n (mkF m nx Ls st)) : Goes p l e R s m args below meth c Z EL nw Q F w h k n (mkF m pc Ls (x :: st)) := by
  obtain ⟨d1, rfl⟩ := d
  exact Goes.pure (fun T vm0 locs X t ht => XT.pop X.here C.1 rfl (hb C.2.1 d1) rfl hc ht) g
theorem Cxt.dup_x1 (C : Cxt p m meth c Z a0 EL own mn bytes ml ret Ws) {x y : Value} (d : Dec bytes pc (.dup_x1) 1 nx) (hc : x.category = 1) (hc' : y.category = 1) (g : Goes p l e R s m args below meth c Z EL nw Q F w h k n (mkF m nx Ls (x :: y :: x :: st))) : Goes p l e R s m args below meth c Z EL nw Q F w h k n (mkF m pc Ls (x :: y :: st)) := by
  obtain ⟨d1, rfl⟩ := d
  exact Goes.pure (fun T vm0 locs X t ht => XT.dupX1 X.here C.1 rfl (hb C.2.1 d1) rfl hc hc' ht) g
theorem Cxt.dup2 (C : Cxt p m meth c Z a0 EL own mn bytes ml ret Ws) {x y : Value} (d : Dec bytes pc (.dup2) 1 nx) (hc : x.category = 1) (hc' : y.category = 1) (g : Goes p l e R s m args below meth c Z EL nw Q F w h k n (mkF m nx Ls (x :: y :: x :: y :: st))) : Goes p l e R s m args below meth c Z EL nw Q F w h k n (mkF m pc Ls (x :: y :: st)) := by
  obtain ⟨d1, rfl⟩ := d
  exact Goes.pure (fun T vm0 locs X t ht => XT.dup2 X.here C.1 rfl (hb C.2.1 d1) rfl hc hc' ht) g
theorem Cxt.lstoreN (C : Cxt p m meth c Z a0 EL own mn bytes ml ret Ws) {i : Fin 4} {x : Int64} {l' : Array Slot} (d : Dec bytes pc (.lstore_n i) 1 nx) (hl : storeLocals Ls i.val (.long x) = some l') (g : Goes p l e R s m args below meth c Z EL nw Q F w h k n (mkF m nx l' st)) : Goes p l e R s m args below meth c Z EL nw Q F w h k n (mkF m pc Ls (.long x :: st)) := by
  obtain ⟨d1, rfl⟩ := d
  exact Goes.pure (fun T vm0 locs X t ht => XT.lstoreN X.here C.1 rfl (hb C.2.1 d1) rfl hl ht) g
theorem Cxt.lstore (C : Cxt p m meth c Z a0 EL own mn bytes ml ret Ws) {i : Nat} {x : Int64} {l' : Array Slot} (d : Dec bytes pc (.lstore i) 2 nx) (hl : storeLocals Ls i (.long x) = some l') (g : Goes p l e R s m args below meth c Z EL nw Q F w h k n (mkF m nx l' st)) : Goes p l e R s m args below meth c Z EL nw Q F w h k n (mkF m pc Ls (.long x :: st)) := by
  obtain ⟨d1, rfl⟩ := d
  exact Goes.pure (fun T vm0 locs X t ht => XT.lstore X.here C.1 rfl (hb C.2.1 d1) rfl hl ht) g
def okS : Slot → Bool | .unset => true | .val w => w.category == 1 | .second => false
theorem store_ok {L : List Slot} {i : Nat} {o : Slot} {v : Value} (hold : L[i]? = some o) (ho : okS o = true) (hv : v.category = 1) : storeLocals ⟨L⟩ i v = some ⟨L.set i (.val v)⟩ := by
  have h1 : (⟨L⟩ : Array Slot)[i]? = some o := by simpa using hold
  have h2 : o = .unset ∨ ∃ w, o = .val w ∧ w.category = 1 := by
    cases o with
    | unset => exact Or.inl rfl
    | val w => exact Or.inr ⟨w, rfl, by simpa [okS] using ho⟩
    | second => simp [okS] at ho
  rw [XS.store1 h1 h2 hv]
  simp
theorem Cxt.istoreN (C : Cxt p m meth c Z a0 EL own mn bytes ml ret Ws) {L : List Slot} {o : Slot} {i : Fin 4} {x : Int32} (d : Dec bytes pc (.istore_n i) 1 nx) (hold : L[i.val]? = some o) (ho : okS o = true) (g : Goes p l e R s m args below meth c Z EL nw Q F w h k n (mkF m nx ⟨L.set i.val (.val (.int x))⟩ st)) : Goes p l e R s m args below meth c Z EL nw Q F w h k n (mkF m pc ⟨L⟩ (.int x :: st)) := by
  obtain ⟨d1, rfl⟩ := d
  exact Goes.pure (fun T vm0 locs X t ht => XS.istoreN X.here C.1 rfl (hb C.2.1 d1) rfl (store_ok hold ho rfl) ht) g
theorem Cxt.istore (C : Cxt p m meth c Z a0 EL own mn bytes ml ret Ws) {L : List Slot} {o : Slot} {i : Nat} {x : Int32} (d : Dec bytes pc (.istore i) 2 nx) (hold : L[i]? = some o) (ho : okS o = true) (g : Goes p l e R s m args below meth c Z EL nw Q F w h k n (mkF m nx ⟨L.set i (.val (.int x))⟩ st)) : Goes p l e R s m args below meth c Z EL nw Q F w h k n (mkF m pc ⟨L⟩ (.int x :: st)) := by
  obtain ⟨d1, rfl⟩ := d
  exact Goes.pure (fun T vm0 locs X t ht => XS.istore X.here C.1 rfl (hb C.2.1 d1) rfl (store_ok hold ho rfl) ht) g
theorem ref_cat {v : Value} (h : v.isRef = true) : v.category = 1 := by cases v <;> simp [Value.isRef] at h <;> rfl
theorem Cxt.astoreN (C : Cxt p m meth c Z a0 EL own mn bytes ml ret Ws) {L : List Slot} {o : Slot} {i : Fin 4} {x : Value} (d : Dec bytes pc (.astore_n i) 1 nx) (hv : x.isRef = true) (hold : L[i.val]? = some o) (ho : okS o = true) (g : Goes p l e R s m args below meth c Z EL nw Q F w h k n (mkF m nx ⟨L.set i.val (.val x)⟩ st)) : Goes p l e R s m args below meth c Z EL nw Q F w h k n (mkF m pc ⟨L⟩ (x :: st)) := by
  obtain ⟨d1, rfl⟩ := d
  exact Goes.pure (fun T vm0 locs X t ht => XS.astoreN X.here C.1 rfl (hb C.2.1 d1) rfl hv (store_ok hold ho (ref_cat hv)) ht) g
theorem Cxt.astore (C : Cxt p m meth c Z a0 EL own mn bytes ml ret Ws) {L : List Slot} {o : Slot} {i : Nat} {x : Value} (d : Dec bytes pc (.astore i) 2 nx) (hv : x.isRef = true) (hold : L[i]? = some o) (ho : okS o = true) (g : Goes p l e R s m args below meth c Z EL nw Q F w h k n (mkF m nx ⟨L.set i (.val x)⟩ st)) : Goes p l e R s m args below meth c Z EL nw Q F w h k n (mkF m pc ⟨L⟩ (x :: st)) := by
  obtain ⟨d1, rfl⟩ := d
  exact Goes.pure (fun T vm0 locs X t ht => XS.astore X.here C.1 rfl (hb C.2.1 d1) rfl hv (store_ok hold ho (ref_cat hv)) ht) g
theorem Cxt.iinc (C : Cxt p m meth c Z a0 EL own mn bytes ml ret Ws) {L : List Slot} {i : Nat} {cst : Int} {x : Int32} (y : Int32) (d : Dec bytes pc (.iinc i cst) 3 nx) (hy : Int32.ofInt cst = y) (hl : L[i]? = some (.val (.int x))) (g : Goes p l e R s m args below meth c Z EL nw Q F w h k n (mkF m nx ⟨L.set i (.val (.int (x + y)))⟩ st)) : Goes p l e R s m args below meth c Z EL nw Q F w h k n (mkF m pc ⟨L⟩ st) := by
  subst hy; obtain ⟨d1, rfl⟩ := d
  exact Goes.pure (fun T vm0 locs X t ht => XS.iinc X.here C.1 rfl (hb C.2.1 d1) (by simpa using hl) (store_ok hl rfl rfl) ht) g
theorem Cxt.goto (C : Cxt p m meth c Z a0 EL own mn bytes ml ret Ws) {o : Int} {tgt : Nat} (d : DecJ bytes pc (.goto o) o nx tgt) (g : Goes p l e R s m args below meth c Z EL nw Q F w h k n (mkF m tgt Ls st)) : Goes p l e R s m args below meth c Z EL nw Q F w h k n (mkF m pc Ls st) :=
  Goes.pure (fun T vm0 locs X t ht => XS.goto X.here C.1 rfl rfl (hb C.2.1 d.1) d.2.2.1 d.2.2.2 ht) g
theorem Cxt.if_eq (C : Cxt p m meth c Z a0 EL own mn bytes ml ret Ws) {o : Int} {tgt : Nat} {x : Int32} (d : DecJ bytes pc (.ifCond .eq o) o nx tgt) (g1 : x = 0 → Goes p l e R s m args below meth c Z EL nw Q F w h k n (mkF m tgt Ls st)) (g2 : ¬ x = 0 → Goes p l e R s m args below meth c Z EL nw Q F w h k n (mkF m nx Ls st)) : Goes p l e R s m args below meth c Z EL nw Q F w h k n (mkF m pc Ls (.int x :: st)) := by
  obtain ⟨d1, rfl, d3, d4⟩ := d
  by_cases q : x = 0
  · exact Goes.pure (fun T vm0 locs X t ht => XS.ifYes X.here C.1 rfl rfl (hb C.2.1 d1) rfl (XT.i0_eq_t q) d3 d4 ht) (g1 q)
  · exact Goes.pure (fun T vm0 locs X t ht => XS.ifNo X.here C.1 rfl (hb C.2.1 d1) rfl (XT.i0_eq_f q) ht) (g2 q)
theorem Cxt.if_ne (C : Cxt p m meth c Z a0 EL own mn bytes ml ret Ws) {o : Int} {tgt : Nat} {x : Int32} (d : DecJ bytes pc (.ifCond .ne o) o nx tgt) (g1 : ¬ x = 0 → Goes p l e R s m args below meth c Z EL nw Q F w h k n (mkF m tgt Ls st)) (g2 : x = 0 → Goes p l e R s m args below meth c Z EL nw Q F w h k n (mkF m nx Ls st)) : Goes p l e R s m args below meth c Z EL nw Q F w h k n (mkF m pc Ls (.int x :: st)) := by
  obtain ⟨d1, rfl, d3, d4⟩ := d
  by_cases q : x = 0
  · exact Goes.pure (fun T vm0 locs X t ht => XS.ifNo X.here C.1 rfl (hb C.2.1 d1) rfl (XT.i0_ne_f q) ht) (g2 q)
  · exact Goes.pure (fun T vm0 locs X t ht => XS.ifYes X.here C.1 rfl rfl (hb C.2.1 d1) rfl (XT.i0_ne_t q) d3 d4 ht) (g1 q)
theorem Cxt.if_lt (C : Cxt p m meth c Z a0 EL own mn bytes ml ret Ws) {o : Int} {tgt : Nat} {x : Int32} (d : DecJ bytes pc (.ifCond .lt o) o nx tgt) (g1 : x < 0 → Goes p l e R s m args below meth c Z EL nw Q F w h k n (mkF m tgt Ls st)) (g2 : ¬ x < 0 → Goes p l e R s m args below meth c Z EL nw Q F w h k n (mkF m nx Ls st)) : Goes p l e R s m args below meth c Z EL nw Q F w h k n (mkF m pc Ls (.int x :: st)) := by
  obtain ⟨d1, rfl, d3, d4⟩ := d
  by_cases q : x < 0
  · exact Goes.pure (fun T vm0 locs X t ht => XS.ifYes X.here C.1 rfl rfl (hb C.2.1 d1) rfl (XT.i0_lt_t q) d3 d4 ht) (g1 q)
  · exact Goes.pure (fun T vm0 locs X t ht => XS.ifNo X.here C.1 rfl (hb C.2.1 d1) rfl (XT.i0_lt_f q) ht) (g2 q)
theorem Cxt.if_ge (C : Cxt p m meth c Z a0 EL own mn bytes ml ret Ws) {o : Int} {tgt : Nat} {x : Int32} (d : DecJ bytes pc (.ifCond .ge o) o nx tgt) (g1 : ¬ x < 0 → Goes p l e R s m args below meth c Z EL nw Q F w h k n (mkF m tgt Ls st)) (g2 : x < 0 → Goes p l e R s m args below meth c Z EL nw Q F w h k n (mkF m nx Ls st)) : Goes p l e R s m args below meth c Z EL nw Q F w h k n (mkF m pc Ls (.int x :: st)) := by
  obtain ⟨d1, rfl, d3, d4⟩ := d
  by_cases q : x < 0
  · exact Goes.pure (fun T vm0 locs X t ht => XS.ifNo X.here C.1 rfl (hb C.2.1 d1) rfl (XT.i0_ge_f q) ht) (g2 q)
  · exact Goes.pure (fun T vm0 locs X t ht => XS.ifYes X.here C.1 rfl rfl (hb C.2.1 d1) rfl (XT.i0_ge_t q) d3 d4 ht) (g1 q)
theorem Cxt.if_gt (C : Cxt p m meth c Z a0 EL own mn bytes ml ret Ws) {o : Int} {tgt : Nat} {x : Int32} (d : DecJ bytes pc (.ifCond .gt o) o nx tgt) (g1 : 0 < x → Goes p l e R s m args below meth c Z EL nw Q F w h k n (mkF m tgt Ls st)) (g2 : ¬ 0 < x → Goes p l e R s m args below meth c Z EL nw Q F w h k n (mkF m nx Ls st)) : Goes p l e R s m args below meth c Z EL nw Q F w h k n (mkF m pc Ls (.int x :: st)) := by
  obtain ⟨d1, rfl, d3, d4⟩ := d
  by_cases q : 0 < x
  · exact Goes.pure (fun T vm0 locs X t ht => XS.ifYes X.here C.1 rfl rfl (hb C.2.1 d1) rfl (XT.i0_gt_t q) d3 d4 ht) (g1 q)
  · exact Goes.pure (fun T vm0 locs X t ht => XS.ifNo X.here C.1 rfl (hb C.2.1 d1) rfl (XT.i0_gt_f q) ht) (g2 q)
theorem Cxt.if_le (C : Cxt p m meth c Z a0 EL own mn bytes ml ret Ws) {o : Int} {tgt : Nat} {x : Int32} (d : DecJ bytes pc (.ifCond .le o) o nx tgt) (g1 : ¬ 0 < x → Goes p l e R s m args below meth c Z EL nw Q F w h k n (mkF m tgt Ls st)) (g2 : 0 < x → Goes p l e R s m args below meth c Z EL nw Q F w h k n (mkF m nx Ls st)) : Goes p l e R s m args below meth c Z EL nw Q F w h k n (mkF m pc Ls (.int x :: st)) := by
  obtain ⟨d1, rfl, d3, d4⟩ := d
  by_cases q : 0 < x
  · exact Goes.pure (fun T vm0 locs X t ht => XS.ifNo X.here C.1 rfl (hb C.2.1 d1) rfl (XT.i0_le_f q) ht) (g2 q)
  · exact Goes.pure (fun T vm0 locs X t ht => XS.ifYes X.here C.1 rfl rfl (hb C.2.1 d1) rfl (XT.i0_le_t q) d3 d4 ht) (g1 q)
theorem Cxt.icmp_eq (C : Cxt p m meth c Z a0 EL own mn bytes ml ret Ws) {o : Int} {tgt : Nat} {x y : Int32} (d : DecJ bytes pc (.if_icmp .eq o) o nx tgt) (g1 : x = y → Goes p l e R s m args below meth c Z EL nw Q F w h k n (mkF m tgt Ls st)) (g2 : ¬ x = y → Goes p l e R s m args below meth c Z EL nw Q F w h k n (mkF m nx Ls st)) : Goes p l e R s m args below meth c Z EL nw Q F w h k n (mkF m pc Ls (.int y :: .int x :: st)) := by
  obtain ⟨d1, rfl, d3, d4⟩ := d
  by_cases q : x = y
  · exact Goes.pure (fun T vm0 locs X t ht => XS.icmpYes X.here C.1 rfl rfl (hb C.2.1 d1) rfl (XT.ii_eq_t q) d3 d4 ht) (g1 q)
  · exact Goes.pure (fun T vm0 locs X t ht => XS.icmpNo X.here C.1 rfl (hb C.2.1 d1) rfl (XT.ii_eq_f q) ht) (g2 q)
theorem Cxt.icmp_ne (C : Cxt p m meth c Z a0 EL own mn bytes ml ret Ws) {o : Int} {tgt : Nat} {x y : Int32} (d : DecJ bytes pc (.if_icmp .ne o) o nx tgt) (g1 : ¬ x = y → Goes p l e R s m args below meth c Z EL nw Q F w h k n (mkF m tgt Ls st)) (g2 : x = y → Goes p l e R s m args below meth c Z EL nw Q F w h k n (mkF m nx Ls st)) : Goes p l e R s m args below meth c Z EL nw Q F w h k n (mkF m pc Ls (.int y :: .int x :: st)) := by
  obtain ⟨d1, rfl, d3, d4⟩ := d
  by_cases q : x = y
  · exact Goes.pure (fun T vm0 locs X t ht => XS.icmpNo X.here C.1 rfl (hb C.2.1 d1) rfl (XT.ii_ne_f q) ht) (g2 q)
  · exact Goes.pure (fun T vm0 locs X t ht => XS.icmpYes X.here C.1 rfl rfl (hb C.2.1 d1) rfl (XT.ii_ne_t q) d3 d4 ht) (g1 q)
theorem Cxt.icmp_lt (C : Cxt p m meth c Z a0 EL own mn bytes ml ret Ws) {o : Int} {tgt : Nat} {x y : Int32} (d : DecJ bytes pc (.if_icmp .lt o) o nx tgt) (g1 : x < y → Goes p l e R s m args below meth c Z EL nw Q F w h k n (mkF m tgt Ls st)) (g2 : ¬ x < y → Goes p l e R s m args below meth c Z EL nw Q F w h k n (mkF m nx Ls st)) : Goes p l e R s m args below meth c Z EL nw Q F w h k n (mkF m pc Ls (.int y :: .int x :: st)) := by
  obtain ⟨d1, rfl, d3, d4⟩ := d
  by_cases q : x < y
  · exact Goes.pure (fun T vm0 locs X t ht => XS.icmpYes X.here C.1 rfl rfl (hb C.2.1 d1) rfl (XT.ii_lt_t q) d3 d4 ht) (g1 q)
  · exact Goes.pure (fun T vm0 locs X t ht => XS.icmpNo X.here C.1 rfl (hb C.2.1 d1) rfl (XT.ii_lt_f q) ht) (g2 q)
theorem Cxt.icmp_ge (C : Cxt p m meth c Z a0 EL own mn bytes ml ret Ws) {o : Int} {tgt : Nat} {x y : Int32} (d : DecJ bytes pc (.if_icmp .ge o) o nx tgt) (g1 : ¬ x < y → Goes p l e R s m args below meth c Z EL nw Q F w h k n (mkF m tgt Ls st)) (g2 : x < y → Goes p l e R s m args below meth c Z EL nw Q F w h k n (mkF m nx Ls st)) : Goes p l e R s m args below meth c Z EL nw Q F w h k n (mkF m pc Ls (.int y :: .int x :: st)) := by
  obtain ⟨d1, rfl, d3, d4⟩ := d
  by_cases q : x < y
  · exact Goes.pure (fun T vm0 locs X t ht => XS.icmpNo X.here C.1 rfl (hb C.2.1 d1) rfl (XT.ii_ge_f q) ht) (g2 q)
  · exact Goes.pure (fun T vm0 locs X t ht => XS.icmpYes X.here C.1 rfl rfl (hb C.2.1 d1) rfl (XT.ii_ge_t q) d3 d4 ht) (g1 q)
theorem Cxt.icmp_gt (C : Cxt p m meth c Z a0 EL own mn bytes ml ret Ws) {o : Int} {tgt : Nat} {x y : Int32} (d : DecJ bytes pc (.if_icmp .gt o) o nx tgt) (g1 : y < x → Goes p l e R s m args below meth c Z EL nw Q F w h k n (mkF m tgt Ls st)) (g2 : ¬ y < x → Goes p l e R s m args below meth c Z EL nw Q F w h k n (mkF m nx Ls st)) : Goes p l e R s m args below meth c Z EL nw Q F w h k n (mkF m pc Ls (.int y :: .int x :: st)) := by
  obtain ⟨d1, rfl, d3, d4⟩ := d
  by_cases q : y < x
  · exact Goes.pure (fun T vm0 locs X t ht => XS.icmpYes X.here C.1 rfl rfl (hb C.2.1 d1) rfl (XT.ii_gt_t q) d3 d4 ht) (g1 q)
  · exact Goes.pure (fun T vm0 locs X t ht => XS.icmpNo X.here C.1 rfl (hb C.2.1 d1) rfl (XT.ii_gt_f q) ht) (g2 q)
theorem Cxt.icmp_le (C : Cxt p m meth c Z a0 EL own mn bytes ml ret Ws) {o : Int} {tgt : Nat} {x y : Int32} (d : DecJ bytes pc (.if_icmp .le o) o nx tgt) (g1 : ¬ y < x → Goes p l e R s m args below meth c Z EL nw Q F w h k n (mkF m tgt Ls st)) (g2 : y < x → Goes p l e R s m args below meth c Z EL nw Q F w h k n (mkF m nx Ls st)) : Goes p l e R s m args below meth c Z EL nw Q F w h k n (mkF m pc Ls (.int y :: .int x :: st)) := by
  obtain ⟨d1, rfl, d3, d4⟩ := d
  by_cases q : y < x
  · exact Goes.pure (fun T vm0 locs X t ht => XS.icmpNo X.here C.1 rfl (hb C.2.1 d1) rfl (XT.ii_le_f q) ht) (g2 q)
  · exact Goes.pure (fun T vm0 locs X t ht => XS.icmpYes X.here C.1 rfl rfl (hb C.2.1 d1) rfl (XT.ii_le_t q) d3 d4 ht) (g1 q)
theorem Cxt.ifnullY (C : Cxt p m meth c Z a0 EL own mn bytes ml ret Ws) {o : Int} {tgt : Nat} (d : DecJ bytes pc (.ifnull o) o nx tgt) (g : Goes p l e R s m args below meth c Z EL nw Q F w h k n (mkF m tgt Ls st)) : Goes p l e R s m args below meth c Z EL nw Q F w h k n (mkF m pc Ls (.null :: st)) :=
  Goes.pure (fun T vm0 locs X t ht => XS.ifnullYes X.here C.1 rfl rfl (hb C.2.1 d.1) rfl d.2.2.1 d.2.2.2 ht) g
theorem Cxt.ifnullN (C : Cxt p m meth c Z a0 EL own mn bytes ml ret Ws) {o : Int} {tgt : Nat} {b : Addr} (d : DecJ bytes pc (.ifnull o) o nx tgt) (g : Goes p l e R s m args below meth c Z EL nw Q F w h k n (mkF m nx Ls st)) : Goes p l e R s m args below meth c Z EL nw Q F w h k n (mkF m pc Ls (.ref b :: st)) := by
  obtain ⟨d1, rfl, d3, d4⟩ := d
  exact Goes.pure (fun T vm0 locs X t ht => XS.ifnullNo X.here C.1 rfl (hb C.2.1 d1) rfl ht) g
theorem Cxt.ifnonnullY (C : Cxt p m meth c Z a0 EL own mn bytes ml ret Ws) {o : Int} {tgt : Nat} {b : Addr} (d : DecJ bytes pc (.ifnonnull o) o nx tgt) (g : Goes p l e R s m args below meth c Z EL nw Q F w h k n (mkF m tgt Ls st)) : Goes p l e R s m args below meth c Z EL nw Q F w h k n (mkF m pc Ls (.ref b :: st)) :=
  Goes.pure (fun T vm0 locs X t ht => XT.ifnonnullYes X.here C.1 rfl rfl (hb C.2.1 d.1) rfl d.2.2.1 d.2.2.2 ht) g
theorem Cxt.ifnonnullN (C : Cxt p m meth c Z a0 EL own mn bytes ml ret Ws) {o : Int} {tgt : Nat} (d : DecJ bytes pc (.ifnonnull o) o nx tgt) (g : Goes p l e R s m args below meth c Z EL nw Q F w h k n (mkF m nx Ls st)) : Goes p l e R s m args below meth c Z EL nw Q F w h k n (mkF m pc Ls (.null :: st)) := by
  obtain ⟨d1, rfl, d3, d4⟩ := d
  exact Goes.pure (fun T vm0 locs X t ht => XT.ifnonnullNo X.here C.1 rfl (hb C.2.1 d1) rfl ht) g
theorem Cxt.acmp_eq (C : Cxt p m meth c Z a0 EL own mn bytes ml ret Ws) {o : Int} {tgt : Nat} {x y : Value} (d : DecJ bytes pc (.if_acmp .eq o) o nx tgt) (hx : x.isRef = true) (hy : y.isRef = true) (g1 : x = y → Goes p l e R s m args below meth c Z EL nw Q F w h k n (mkF m tgt Ls st)) (g2 : ¬ x = y → Goes p l e R s m args below meth c Z EL nw Q F w h k n (mkF m nx Ls st)) : Goes p l e R s m args below meth c Z EL nw Q F w h k n (mkF m pc Ls (y :: x :: st)) := by
  obtain ⟨d1, rfl, d3, d4⟩ := d
  by_cases q : x = y
  · exact Goes.pure (fun T vm0 locs X t ht => XT.acmpYes X.here C.1 rfl rfl (hb C.2.1 d1) rfl hx hy (by simp [XT.acmp, q]) d3 d4 ht) (g1 q)
  · exact Goes.pure (fun T vm0 locs X t ht => XT.acmpNo X.here C.1 rfl (hb C.2.1 d1) rfl hx hy (by simp [XT.acmp, q]) ht) (g2 q)
theorem Cxt.acmp_ne (C : Cxt p m meth c Z a0 EL own mn bytes ml ret Ws) {o : Int} {tgt : Nat} {x y : Value} (d : DecJ bytes pc (.if_acmp .ne o) o nx tgt) (hx : x.isRef = true) (hy : y.isRef = true) (g1 : ¬ x = y → Goes p l e R s m args below meth c Z EL nw Q F w h k n (mkF m tgt Ls st)) (g2 : x = y → Goes p l e R s m args below meth c Z EL nw Q F w h k n (mkF m nx Ls st)) : Goes p l e R s m args below meth c Z EL nw Q F w h k n (mkF m pc Ls (y :: x :: st)) := by
  obtain ⟨d1, rfl, d3, d4⟩ := d
  by_cases q : x = y
  · exact Goes.pure (fun T vm0 locs X t ht => XT.acmpNo X.here C.1 rfl (hb C.2.1 d1) rfl hx hy (by simp [XT.acmp, q]) ht) (g2 q)
  · exact Goes.pure (fun T vm0 locs X t ht => XT.acmpYes X.here C.1 rfl rfl (hb C.2.1 d1) rfl hx hy (by simp [XT.acmp, q]) d3 d4 ht) (g1 q)
theorem Cxt.ends (C : Cxt p m meth c Z a0 EL own mn bytes ml ret Ws) {T : State} {vm0 : Vm} {locs : List Loc} {k0 : Nat} (H : Here p l e R s m args below meth c Z EL nw F w h k n T vm0 locs k0) {v : Option Value} (hv : ret = none → v = none) (hq : Q v h) (hk : k ≤ R.cells) (hn : n ≤ R.slots) {f : JFrame}
    (stp : ∀ fs, (∀ (f : JFrame) (acts : List Action), f.method = m → f.locked = none → f.entered = [] → (doReturn e (T.setTop f) acts v).1 = T.setFrames fs) → Steps p.tables e below (T.setTop f) (T.setFrames fs)) : Ends p e R s below Z EL nw Q (T.setTop f) := by
  obtain ⟨X, eT, N, S, hk0, hZ, H1, hw, hF, O, hwm, hbk⟩ := H
  obtain ⟨fs, h1, h2, h3, h4⟩ := X.leaveW S (by rw [eT]; exact hk0) (v := v) (fun q => hv (C.2.2.2.2.1 ▸ q)) C.2.2.2.2.2.1
  have A := CHv.at X hZ C.2.2.2.2.2.2.2.2 H1.1
  refine ⟨T.setFrames fs, v, locs, stp fs h1, h2, h3, ?_, N, ?_, fun q => ⟨State.WarmedH.trans (hw q) X.warmed, ?_⟩, ?_, ⟨h4.1, h4.2.1, h4.2.2.1, h4.2.2.2.mono hk hn⟩⟩
  · show Q v T.heap; rw [eT]; exact hq
  · show CHr Z EL s.vm s.heap T.vm T.heap; rw [eT]; exact H1.trans A
  · intro y hy
    have hy' : Bk Z EL T.vm h y := eT ▸ hy
    rcases A.2.2 y hy' with z | z
    · exact hbk q y z
    · obtain ⟨cell, hcell⟩ := hy'.there
      exact absurd (Array.getElem?_eq_some_iff.mp hcell).1 (Nat.not_lt.mpr z)
  · show Ext Z.heap T.heap; rw [eT]; exact O
theorem Cxt.return_ (C : Cxt p m meth c Z a0 EL own mn bytes ml ret Ws) (d : Dec bytes pc .return_ 1 nx) (hr : ret = none) (hq : Q none h) (hk : k ≤ R.cells) (hn : n ≤ R.slots) : Goes p l e R s m args below meth c Z EL nw Q F w h k n (mkF m pc Ls []) := fun T vm0 locs k0 H =>
  C.ends H (fun _ => rfl) hq hk hn fun fs hl => H.1.returnOut C.1 (C.2.2.2.2.1.trans hr) (hb C.2.1 d.1) hl
theorem Cxt.ireturn (C : Cxt p m meth c Z a0 EL own mn bytes ml ret Ws) {t : FieldType} {v : Int32} (d : Dec bytes pc .ireturn 1 nx) (hr : ret = some t) (ht : t = .int ∨ t = .boolean ∨ t = .byte ∨ t = .char ∨ t = .short) (hnv : narrow t (.int v) = .int v) (hq : Q (some (.int v)) h) (hk : k ≤ R.cells) (hn : n ≤ R.slots) : Goes p l e R s m args below meth c Z EL nw Q F w h k n (mkF m pc Ls (.int v :: st)) := fun T vm0 locs k0 H =>
  C.ends H (fun q => by rw [hr] at q; cases q) hq hk hn fun fs hl => retOut H.1 C.1 (C.2.2.2.2.1.trans hr) hnv (Or.inl ⟨rfl, ht, v, rfl⟩) (hb C.2.1 d.1) hl
theorem Cxt.areturn (C : Cxt p m meth c Z a0 EL own mn bytes ml ret Ws) {t : FieldType} {v : Value} (d : Dec bytes pc .areturn 1 nx) (hr : ret = some t) (ht : t.isReference = true) (hv : v.isRef = true) (hnv : narrow t v = v) (hq : Q (some v) h) (hk : k ≤ R.cells) (hn : n ≤ R.slots) : Goes p l e R s m args below meth c Z EL nw Q F w h k n (mkF m pc Ls (v :: st)) := fun T vm0 locs k0 H =>
  C.ends H (fun q => by rw [hr] at q; cases q) hq hk hn fun fs hl => retOut H.1 C.1 (C.2.2.2.2.1.trans hr) hnv (Or.inr (Or.inr (Or.inr (Or.inr ⟨rfl, ht, hv⟩)))) (hb C.2.1 d.1) hl
theorem Cxt.new (C : Cxt p m meth c Z a0 EL own mn bytes ml ret Ws) {idx q : Nat} {cls : String} (d : Dec bytes pc (.new idx) 3 nx) (ww : Jvm.Cond.classLink own idx cls ∈ Ws) (wi : Jvm.Cond.instantiable cls q ∈ Ws) (wz : Jvm.Cond.initialized cls ∈ Ws) (hk : k + 1 ≤ R.cells) (hn : n + q ≤ R.slots)
    (g : ∀ h' a, @Eq Nat a h.size → Ext h h' → Exa Z h' a cls → (∀ {O nm d : String} {ty : FieldType}, Laid Z a0 cls O nm d → parseFieldDescriptor d = some ty → Fld Z h' a O nm d (defaultValue ty)) → Goes p l e R s m args below meth c Z EL nw Q (a :: F) w h' (k + 1) (n + q) (mkF m nx Ls (.ref a :: st))) : Goes p l e R s m args below meth c Z EL nw Q F w h k n (mkF m pc Ls st) := by
  obtain ⟨d1, rfl⟩ := d
  intro T vm0 locs k0 H
  obtain ⟨X, eT, N, S, hk0, hZ, H1, hw, hF, O, hwm, hbk⟩ := id H
  obtain ⟨T', h', X', e', E', A', D', -, st'⟩ := RoadKit.newO X C.1 hZ (C.own_at hZ) (C.wrd ww) (C.wrd wi) (C.wrd wz) eT (g := mkF m pc Ls st) rfl (hb C.2.1 d1) hk hn
  obtain ⟨X2, eT2, N2, S2, hk2, hZ2, H2, hw2, hF2, O2, hwm2, hbk2⟩ := H.step X' e' N (keep_ext E' []) (fun x hx => nomatch hx)
  obtain ⟨t, v, L, h1, r⟩ := g h' h.size rfl E' A' D' T' vm0 locs k0 ⟨X2, eT2, N2, S2, hk2, hZ2, H2, hw2, fun x hx => (List.mem_cons.mp hx).elim (fun q => by subst q; exact ⟨A'.lt, (Safe.new (Nat.le_refl _)).ext E' H1.1⟩) (hF2 x), O2, hwm2, hbk2⟩
  exact ⟨t, v, L, st' _ h1, r⟩
theorem Cxt.getF (C : Cxt p m meth c Z a0 EL own mn bytes ml ret Ws) {idx : Nat} {O fn fd : String} {a : Addr} {v : Value} (d : Dec bytes pc (.getfield idx) 3 nx) (ww : Jvm.Cond.fieldLink own idx O fn fd ∈ Ws) (A : Fld Z h a O fn fd v) (g : Goes p l e R s m args below meth c Z EL nw Q F w h k n (mkF m nx Ls (v :: st))) : Goes p l e R s m args below meth c Z EL nw Q F w h k n (mkF m pc Ls (.ref a :: st)) := by
  obtain ⟨d1, rfl⟩ := d
  intro T vm0 locs k0 H
  obtain ⟨T', X', e', st'⟩ := RoadKit.getF H.1 C.1 H.2.2.2.2.2.1 (C.own_at H.2.2.2.2.2.1) (host := "") (Or.inl (C.wrd ww)) Via.refl H.2.1 A (g := mkF m pc Ls (.ref a :: st)) rfl rfl (hb C.2.1 d1)
  obtain ⟨t, v, L, h1, r⟩ := g T' vm0 locs k0 (H.step X' e' H.2.2.1 (Keep.refl _ []) (fun x hx => nomatch hx))
  exact ⟨t, v, L, st' _ h1, r⟩
theorem Cxt.getFV (C : Cxt p m meth c Z a0 EL own mn bytes ml ret Ws) {idx : Nat} {R0 O fn fd : String} {a : Addr} {v : Value} (d : Dec bytes pc (.getfield idx) 3 nx) (ww : Jvm.Cond.fieldLink own idx R0 fn fd ∈ Ws) (wv : Jvm.Cond.sameField R0 O fn fd ∈ Ws) (A : Fld Z h a O fn fd v) (g : Goes p l e R s m args below meth c Z EL nw Q F w h k n (mkF m nx Ls (v :: st))) : Goes p l e R s m args below meth c Z EL nw Q F w h k n (mkF m pc Ls (.ref a :: st)) := by
  obtain ⟨d1, rfl⟩ := d
  intro T vm0 locs k0 H
  obtain ⟨T', X', e', st'⟩ := RoadKit.getF H.1 C.1 H.2.2.2.2.2.1 (C.own_at H.2.2.2.2.2.1) (host := "") (Or.inl (C.wrd ww)) (Via.of (C.wrd wv)) H.2.1 A (g := mkF m pc Ls (.ref a :: st)) rfl rfl (hb C.2.1 d1)
  obtain ⟨t, v, L, h1, r⟩ := g T' vm0 locs k0 (H.step X' e' H.2.2.1 (Keep.refl _ []) (fun x hx => nomatch hx))
  exact ⟨t, v, L, st' _ h1, r⟩
theorem Cxt.getS (C : Cxt p m meth c Z a0 EL own mn bytes ml ret Ws) {idx : Nat} {O fn fd : String} {v : Value} (d : Dec bytes pc (.getstatic idx) 3 nx) (ww : Jvm.Cond.fieldLink own idx O fn fd ∈ Ws) (A : Sta Z Z.heap O fn fd v) (g : Goes p l e R s m args below meth c Z EL nw Q F w h k n (mkF m nx Ls (v :: st))) : Goes p l e R s m args below meth c Z EL nw Q F w h k n (mkF m pc Ls st) := by
  obtain ⟨d1, rfl⟩ := d
  intro T vm0 locs k0 H
  obtain ⟨T', X', e', st'⟩ := RoadKit.getS H.1 C.1 H.2.2.2.2.2.1 (C.own_at H.2.2.2.2.2.1) (host := "") (C.wrd ww) Via.refl H.2.1 (A.ext H.2.2.2.2.2.2.2.2.2.1) (g := mkF m pc Ls st) rfl (hb C.2.1 d1)
  obtain ⟨t, v, L, h1, r⟩ := g T' vm0 locs k0 (H.step X' e' H.2.2.1 (Keep.refl _ []) (fun x hx => nomatch hx))
  exact ⟨t, v, L, st' _ h1, r⟩
theorem Cxt.putF (C : Cxt p m meth c Z a0 EL own mn bytes ml ret Ws) {idx kk : Nat} {O cls fn fd : String} {ty : FieldType} {a : Addr} {v old : Value} (d : Dec bytes pc (.putfield idx) 3 nx) (ww : Jvm.Cond.fieldLink own idx O fn fd ∈ Ws) (A : Fld Z h a O fn fd old) (E : Exa Z h a cls)
    (Ly : Jvm.Cond.lays cls O fn fd ∈ Ws ∨ (Jvm.Cond.laysFinal cls O fn fd ∈ Ws ∧ own = O ∧ mn = "<init>")) (wi : Jvm.Cond.instantiable cls kk ∈ Ws) (hty : parseFieldDescriptor fd = some ty) (hnv : narrow ty v = v) (hf : fits ty v = true) (na : Z.heap.size ≤ a) (sf : a ∈ F ∨ w ≤ a ∨ (cls ≠ "java/lang/String" ∧ cls ≠ "[B"))
    (g : ∀ h', Wr h h' a (RoadKit.slotOf Z O fn fd) v → Goes p l e R s m args below meth c Z EL nw Q F w h' k n (mkF m nx Ls st)) : Goes p l e R s m args below meth c Z EL nw Q F w h k n (mkF m pc Ls (v :: .ref a :: st)) := by
  obtain ⟨d1, rfl⟩ := d
  intro T vm0 locs k0 H
  obtain ⟨X, eT, N, S, hk0, hZ, H1, hw, hF, O', hwm, hbk⟩ := id H
  obtain ⟨T', h', X', e', W', st'⟩ := RoadKit.putF X C.1 hZ (C.own_at hZ) (host := "") (Or.inl (C.wrd ww)) Via.refl eT A E (Ly.imp C.wrd fun q => ⟨C.wrd q.1, q.2.1, C.2.2.2.2.2.2.1.trans q.2.2⟩) (C.wrd wi) hty hnv hf (g := mkF m pc Ls (v :: .ref a :: st)) rfl rfl (hb C.2.1 d1)
  have sa : Safe Z EL vm0 h a := sf.elim (fun q => (hF a q).2) fun q => q.elim (hwm a) fun q => Safe.exa hZ.alike E q.1 q.2
  obtain ⟨t, v, L, h1, r⟩ := g h' W' T' vm0 _ k0 (H.step X' e' (Fr.snoc X' N na) (Keep.of_wr W') (fun x hx => by cases List.mem_singleton.mp hx; exact ⟨sa, na⟩))
  exact ⟨t, v, L, st' _ h1, r⟩
theorem Cxt.initO (C : Cxt p m meth c Z a0 EL own mn bytes ml ret Ws) {idx : Nat} {a : Addr} (d : Dec bytes pc (.invokespecial idx) 3 nx) (w1 : Jvm.Cond.methodLink own idx Lib.objectInit ∈ Ws) (w2 : Jvm.Cond.instanceMethod Lib.objectInit ∈ Ws) (w3 : Jvm.Cond.code Lib.objectInit ⟨#[0xb1]⟩ 1 none ∈ Ws) (hsz : Ls.size = ml) (hf : 1 ≤ R.frames) (hl : (st.map fun v => v.category).sum + 12 ≤ R.locals)
    (g : Goes p l e R s m args below meth c Z EL nw Q F w h k n (mkF m nx Ls st)) : Goes p l e R s m args below meth c Z EL nw Q F w h k n (mkF m pc Ls (.ref a :: st)) := by
  obtain ⟨d1, rfl⟩ := d
  intro T vm0 locs k0 H
  obtain ⟨T', X', e', st'⟩ := RoadKit.initO H.1 C.1 H.2.2.2.2.2.1 (C.own_at H.2.2.2.2.2.1) (C.wrd w1) (C.wrd w2) (C.wrd w3) H.2.1 (g := mkF m pc Ls (.ref a :: st)) rfl (hsz.trans C.2.2.1.symm) rfl (hb C.2.1 d1) hf (W := (st.map fun v => v.category).sum) (by show 2 * 0 + _ ≤ _; omega) hl
  obtain ⟨t, v, L, h1, r⟩ := g T' vm0 locs k0 (H.step X' e' H.2.2.1 (Keep.refl _ []) (fun x hx => nomatch hx))
  exact ⟨t, v, L, st' _ h1, r⟩
/-- the array at a holds just these values -/
def Arl (Z : State) (h : Heap) (a : Addr) (ty : FieldType) (vs : List Value) : Prop := ∃ cl : Cell, Arr Z h a cl ty ∧ cl.slots.toList = vs ∧ vs.length < 2 ^ 31 ∧ ∀ v ∈ vs, fits ty v = true
theorem Arl.lt {a : Addr} {ty : FieldType} {vs : List Value} (A : Arl Z h a ty vs) : a < h.size := by obtain ⟨cl, A, -⟩ := A; exact A.lt
theorem Arl.ext {h' : Heap} {a : Addr} {ty : FieldType} {vs : List Value} (A : Arl Z h a ty vs) (E : Ext h h') : Arl Z h' a ty vs := by obtain ⟨cl, A, r⟩ := A; exact ⟨cl, A.ext E, r⟩
theorem Arl.other {h' : Heap} {a b : Addr} {sl : Nat} {w : Value} {ty : FieldType} {vs : List Value} (A : Arl Z h a ty vs) (W : Wr h h' b sl w) (q : a ≠ b) : Arl Z h' a ty vs := by obtain ⟨cl, A, r⟩ := A; exact ⟨cl, A.other W q, r⟩
theorem Arl.keep {h' : Heap} {a : Addr} {ws : List Addr} {ty : FieldType} {vs : List Value} (A : Arl Z h a ty vs) (K : Keep h h' ws) (q : a ∉ ws) : Arl Z h' a ty vs := by obtain ⟨cl, A, r⟩ := A; exact ⟨cl, ⟨K.2.1 a cl A.1 q, A.2⟩, r⟩
theorem Arl.len {a : Addr} {ty : FieldType} {vs : List Value} (A : Arl Z h a ty vs) : vs.length < 2 ^ 31 := by obtain ⟨cl, A, r⟩ := A; exact r.2.1
theorem Arl.set {h' : Heap} {a : Addr} {i : Nat} {w : Value} {ty : FieldType} {vs : List Value} (A : Arl Z h a ty vs) (W : Wr h h' a i w) (hw : fits ty w = true) : Arl Z h' a ty (vs.set i w) := by
  obtain ⟨cl, A, rfl, r2, r3⟩ := A
  refine ⟨_, A.same W, ?_, ?_, ?_⟩
  · simp [Cell.setSlot]
  · simpa using r2
  · intro v hv
    rcases List.mem_or_eq_of_mem_set hv with q | rfl
    · exact r3 v q
    · exact hw
theorem Arl.safe {vm0 : Vm} {a : Addr} {ty : FieldType} {vs : List Value} (hal : Z.vm.Alike vm0) (A : Arl Z h a ty vs) (ht : ty ≠ .byte) : Safe Z EL vm0 h a := by obtain ⟨cl, A, -⟩ := A; exact Safe.arr hal A ht
theorem Cxt.newarray (C : Cxt p m meth c Z a0 EL own mn bytes ml ret Ws) {aty : ArrayType} {q : Nat} {z : Int32} (d : Dec bytes pc (.newarray aty) 2 nx) (ww : Jvm.Cond.arrayClass (newarray.typeOf aty) ∈ Ws) (hz : ¬ z < 0) (hzq : z.toNatClampNeg = q) (hq : q ≤ 60000000) (hk : k + 1 ≤ R.cells) (hn : n + q ≤ R.slots)
    (g : ∀ h' a, @Eq Nat a h.size → Ext h h' → a < h'.size → Arl Z h' a (newarray.typeOf aty) (List.replicate q (defaultValue (newarray.typeOf aty))) → Goes p l e R s m args below meth c Z EL nw Q (a :: F) w h' (k + 1) (n + q) (mkF m nx Ls (.ref a :: st))) : Goes p l e R s m args below meth c Z EL nw Q F w h k n (mkF m pc Ls (.int z :: st)) := by
  obtain ⟨d1, rfl⟩ := d
  intro T vm0 locs k0 H
  obtain ⟨X, eT, N, S, hk0, hZ, H1, hw, hF, O, hwm, hbk⟩ := id H
  obtain ⟨T', h', cA, X', e', E', A', st'⟩ := newP X C.1 hZ (C.wrd ww) eT (g := mkF m pc Ls (.int z :: st)) rfl (hb C.2.1 d1) rfl hz (cap := q) (Nat.le_of_eq hzq) (by omega) hk hn
  obtain ⟨X2, eT2, N2, S2, hk2, hZ2, H2, hw2, hF2, O2, hwm2, hbk2⟩ := H.step X' e' N (keep_ext E' []) (fun x hx => nomatch hx)
  have AL : Arl Z h' h.size (newarray.typeOf aty) (List.replicate q (defaultValue (newarray.typeOf aty))) := ⟨_, A', by simp [newA, hzq], by rw [List.length_replicate]; omega, fun v hv => by rw [List.eq_of_mem_replicate hv]; cases aty <;> rfl⟩
  obtain ⟨t, v, L, h1, r⟩ := g h' h.size rfl E' A'.lt AL T' vm0 locs k0 ⟨X2, eT2, N2, S2, hk2, hZ2, H2, hw2, fun x hx => (List.mem_cons.mp hx).elim (fun q => by subst q; exact ⟨A'.lt, (Safe.new (Nat.le_refl _)).ext E' H1.1⟩) (hF2 x), O2, hwm2, hbk2⟩
  exact ⟨t, v, L, st' _ h1, r⟩
theorem Cxt.cloneA (C : Cxt p m meth c Z a0 EL own mn bytes ml ret Ws) {idx q : Nat} {ad : String} {a : Addr} {ty : FieldType} {vs : List Value} (d : Dec bytes pc (.invokevirtual idx) 3 nx) (w1 : Jvm.Cond.methodLink own idx ⟨ad, "clone", "()Ljava/lang/Object;"⟩ ∈ Ws) (w2 : Jvm.Cond.sameMethod ad "java/lang/Object" "clone" "()Ljava/lang/Object;" ∈ Ws) (w3 : Jvm.Cond.native ⟨"java/lang/Object", "clone", "()Ljava/lang/Object;"⟩ ∈ Ws) (w4 : Jvm.Cond.instanceMethod ⟨"java/lang/Object", "clone", "()Ljava/lang/Object;"⟩ ∈ Ws) (w5 : Jvm.Cond.selects ad ⟨ad, "clone", "()Ljava/lang/Object;"⟩ ⟨"java/lang/Object", "clone", "()Ljava/lang/Object;"⟩ ∈ Ws) (w6 : Jvm.Cond.castable ad "java/lang/Cloneable" ∈ Ws)
    (A : Arl Z h a ty vs) (E : Exa Z h a ad) (hsz : Ls.size = ml) (hf : 1 ≤ R.frames) (hl : (st.map fun v => v.category).sum + 14 ≤ R.locals) (hq : vs.length = q) (hk : k + 1 ≤ R.cells) (hn : n + q ≤ R.slots)
    (g : ∀ h' b, @Eq Nat b h.size → Ext h h' → Arl Z h' b ty vs → Exa Z h' b ad → Goes p l e R s m args below meth c Z EL nw Q (b :: F) w h' (k + 1) (n + q) (mkF m nx Ls (.ref b :: st))) : Goes p l e R s m args below meth c Z EL nw Q F w h k n (mkF m pc Ls (.ref a :: st)) := by
  obtain ⟨d1, rfl⟩ := d
  intro T vm0 locs k0 H
  obtain ⟨X, eT, N, S, hk0, hZ, H1, hw, hF, O, hwm, hbk⟩ := id H
  obtain ⟨cl, A0, q1, q2, q3⟩ := id A
  obtain ⟨T', h', X', e', E', A', X2', st'⟩ := RoadKit.cloneA X C.1 hZ (C.own_at hZ) (C.wrd w1) (C.wrd w2) (C.wrd w3) (C.wrd w4) (C.wrd w5) (C.wrd w6) eT A0 E (fitC_of A0 fun i hi v hv => q3 v (by rw [← q1]; exact List.mem_of_getElem? (i := i) (by rw [Array.getElem?_toList]; exact hv))) (g := mkF m pc Ls (.ref a :: st)) rfl (hsz.trans C.2.2.1.symm) rfl (hb C.2.1 d1) hf (W := (st.map fun v => v.category).sum) (by show 2 * 0 + _ ≤ _; omega) hl (cap := q) (by rw [← hq, ← q1]; simp) hk hn
  obtain ⟨X2, eT2, N2, S2, hk2, hZ2, H2, hw2, hF2, O2, hwm2, hbk2⟩ := H.step X' e' N (keep_ext E' []) (fun x hx => nomatch hx)
  obtain ⟨t, v, L, h1, r⟩ := g h' h.size rfl E' ⟨_, A', q1, q2, q3⟩ X2' T' vm0 locs k0 ⟨X2, eT2, N2, S2, hk2, hZ2, H2, hw2, fun x hx => (List.mem_cons.mp hx).elim (fun q => by subst q; exact ⟨A'.lt, (Safe.new (Nat.le_refl _)).ext E' H1.1⟩) (hF2 x), O2, hwm2, hbk2⟩
  exact ⟨t, v, L, st' _ h1, r⟩
theorem inb {cl : Cell} {j : Int32} {i : Nat} (hi : j.toNatClampNeg = i) (hj : ¬ j < 0) (hlt : i < cl.slots.toList.length) : ¬ (j < 0 ∨ cl.slots.size ≤ j.toNatClampNeg) := by
  rw [hi]; intro q; rcases q with q | q
  · exact hj q
  · simp at hlt; omega
theorem Cxt.arraylength (C : Cxt p m meth c Z a0 EL own mn bytes ml ret Ws) {a : Addr} {ty : FieldType} {vs : List Value} (d : Dec bytes pc .arraylength 1 nx) (A : Arl Z h a ty vs) (g : Goes p l e R s m args below meth c Z EL nw Q F w h k n (mkF m nx Ls (.int (Int32.ofNat vs.length) :: st))) : Goes p l e R s m args below meth c Z EL nw Q F w h k n (mkF m pc Ls (.ref a :: st)) := by
  obtain ⟨d1, rfl⟩ := d
  intro T vm0 locs k0 H
  obtain ⟨t, v, L, h1, r⟩ := g T vm0 locs k0 H
  obtain ⟨cl, A, rfl, r2, r3⟩ := A
  refine ⟨t, v, L, H.1.arraylength C.1 (by rw [H.2.1]; exact A.1) (State.isArrayOf_alike H.2.2.2.2.2.1.alike A.2.1) (g := mkF m pc Ls (.ref a :: st)) rfl rfl (hb C.2.1 d1) _ ?_, r⟩
  have q : cl.slots.size.toInt32 = Int32.ofNat cl.slots.toList.length := by simp
  rw [q]; exact h1
theorem Cxt.caload (C : Cxt p m meth c Z a0 EL own mn bytes ml ret Ws) {a : Addr} {vs : List Value} {j : Int32} {i : Nat} {v : Value} (d : Dec bytes pc .caload 1 nx) (A : Arl Z h a .char vs) (hj : ¬ j < 0) (hi : j.toNatClampNeg = i) (hv : vs[i]? = some v) (g : Goes p l e R s m args below meth c Z EL nw Q F w h k n (mkF m nx Ls (v :: st))) : Goes p l e R s m args below meth c Z EL nw Q F w h k n (mkF m pc Ls (.int j :: .ref a :: st)) := by
  obtain ⟨d1, rfl⟩ := d
  intro T vm0 locs k0 H
  obtain ⟨t, v', L, h1, r⟩ := g T vm0 locs k0 H
  obtain ⟨cl, A, rfl, r2, r3⟩ := A
  exact ⟨t, v', L, H.1.caload C.1 (by rw [H.2.1]; exact A.1) (State.isArrayOf_alike H.2.2.2.2.2.1.alike A.2.1) A.2.2 (inb hi hj (List.getElem?_eq_some_iff.mp hv).1) (v := v) (by rw [hi]; simpa using hv) (g := mkF m pc Ls (.int j :: .ref a :: st)) rfl rfl (hb C.2.1 d1) _ h1, r⟩
theorem Cxt.baload (C : Cxt p m meth c Z a0 EL own mn bytes ml ret Ws) {a : Addr} {vs : List Value} {j : Int32} {i : Nat} {v : Value} (d : Dec bytes pc .baload 1 nx) (A : Arl Z h a .byte vs) (hj : ¬ j < 0) (hi : j.toNatClampNeg = i) (hv : vs[i]? = some v) (g : Goes p l e R s m args below meth c Z EL nw Q F w h k n (mkF m nx Ls (v :: st))) : Goes p l e R s m args below meth c Z EL nw Q F w h k n (mkF m pc Ls (.int j :: .ref a :: st)) := by
  obtain ⟨d1, rfl⟩ := d
  intro T vm0 locs k0 H
  obtain ⟨t, v', L, h1, r⟩ := g T vm0 locs k0 H
  obtain ⟨cl, A, rfl, r2, r3⟩ := A
  exact ⟨t, v', L, H.1.baloadBytes C.1 (by rw [H.2.1]; exact A.1) (State.isArrayOf_alike H.2.2.2.2.2.1.alike A.2.1) A.2.2 (inb hi hj (List.getElem?_eq_some_iff.mp hv).1) (v := v) (by rw [hi]; simpa using hv) (g := mkF m pc Ls (.int j :: .ref a :: st)) rfl rfl (hb C.2.1 d1) _ h1, r⟩
theorem Cxt.iaload (C : Cxt p m meth c Z a0 EL own mn bytes ml ret Ws) {a : Addr} {vs : List Value} {j : Int32} {i : Nat} {v : Value} (d : Dec bytes pc .iaload 1 nx) (A : Arl Z h a .int vs) (hj : ¬ j < 0) (hi : j.toNatClampNeg = i) (hv : vs[i]? = some v) (g : Goes p l e R s m args below meth c Z EL nw Q F w h k n (mkF m nx Ls (v :: st))) : Goes p l e R s m args below meth c Z EL nw Q F w h k n (mkF m pc Ls (.int j :: .ref a :: st)) := by
  obtain ⟨d1, rfl⟩ := d
  intro T vm0 locs k0 H
  obtain ⟨t, v', L, h1, r⟩ := g T vm0 locs k0 H
  obtain ⟨cl, A, rfl, r2, r3⟩ := A
  exact ⟨t, v', L, H.1.iaload C.1 (by rw [H.2.1]; exact A.1) (State.isArrayOf_alike H.2.2.2.2.2.1.alike A.2.1) A.2.2 (inb hi hj (List.getElem?_eq_some_iff.mp hv).1) (v := v) (by rw [hi]; simpa using hv) (g := mkF m pc Ls (.int j :: .ref a :: st)) rfl rfl (hb C.2.1 d1) _ h1, r⟩
theorem Cxt.aaload (C : Cxt p m meth c Z a0 EL own mn bytes ml ret Ws) {a : Addr} {ty : FieldType} {vs : List Value} {j : Int32} {i : Nat} {v : Value} (d : Dec bytes pc .aaload 1 nx) (A : Arl Z h a ty vs) (hty : ty.isReference = true) (hj : ¬ j < 0) (hi : j.toNatClampNeg = i) (hv : vs[i]? = some v) (g : Goes p l e R s m args below meth c Z EL nw Q F w h k n (mkF m nx Ls (v :: st))) : Goes p l e R s m args below meth c Z EL nw Q F w h k n (mkF m pc Ls (.int j :: .ref a :: st)) := by
  obtain ⟨d1, rfl⟩ := d
  intro T vm0 locs k0 H
  obtain ⟨t, v', L, h1, r⟩ := g T vm0 locs k0 H
  obtain ⟨cl, A, rfl, r2, r3⟩ := A
  exact ⟨t, v', L, H.1.aaload C.1 (by rw [H.2.1]; exact A.1) (State.isArrayOf_alike H.2.2.2.2.2.1.alike A.2.1) hty A.2.2 (inb hi hj (List.getElem?_eq_some_iff.mp hv).1) (v := v) (by rw [hi]; simpa using hv) (g := mkF m pc Ls (.int j :: .ref a :: st)) rfl rfl (hb C.2.1 d1) _ h1, r⟩
theorem Cxt.castore (C : Cxt p m meth c Z a0 EL own mn bytes ml ret Ws) {a : Addr} {vs : List Value} {j x : Int32} {i : Nat} (d : Dec bytes pc .castore 1 nx) (A : Arl Z h a .char vs) (hj : ¬ j < 0) (hi : j.toNatClampNeg = i) (hlt : i < vs.length) (na : Z.heap.size ≤ a) 
    (g : ∀ h', Wr h h' a i (.int (nar .char x)) → Arl Z h' a .char (vs.set i (.int (nar .char x))) → Goes p l e R s m args below meth c Z EL nw Q F w h' k n (mkF m nx Ls st)) : Goes p l e R s m args below meth c Z EL nw Q F w h k n (mkF m pc Ls (.int x :: .int j :: .ref a :: st)) := by
  obtain ⟨d1, rfl⟩ := d
  intro T vm0 locs k0 H
  obtain ⟨X, eT, N, S, hk0, hZ, H1, hw, hF, O', hwm, hbk⟩ := id H
  have sa : Safe Z EL vm0 h a := Arl.safe hZ.alike A (by simp)
  obtain ⟨cl, A', q1, q2, q3⟩ := id A
  subst hi
  obtain ⟨T', h', X', e', W', st'⟩ := stC X C.1 hZ eT A' (j := j) (x := x) (inb rfl hj (by rw [q1]; exact hlt)) (g := mkF m pc Ls (.int x :: .int j :: .ref a :: st)) rfl rfl (hb C.2.1 d1)
  obtain ⟨t, v, L, h1, r⟩ := g h' W' (A.set W' (fits_nar_char _)) T' vm0 _ k0 (H.step X' e' (Fr.snoc X' N na) (Keep.of_wr W') (fun x hx => by cases List.mem_singleton.mp hx; exact ⟨sa, na⟩))
  exact ⟨t, v, L, st' _ h1, r⟩
theorem fits_b8' (x : Int32) : fits .byte (.int (nar .byte x)) = true := fits_nar_byte x
theorem Cxt.bastore (C : Cxt p m meth c Z a0 EL own mn bytes ml ret Ws) {a : Addr} {vs : List Value} {j x : Int32} {i : Nat} (d : Dec bytes pc .bastore 1 nx) (A : Arl Z h a .byte vs) (hj : ¬ j < 0) (hi : j.toNatClampNeg = i) (hlt : i < vs.length) (na : Z.heap.size ≤ a) (sf : a ∈ F ∨ w ≤ a) 
    (g : ∀ h', Wr h h' a i (.int (nar .byte x)) → Arl Z h' a .byte (vs.set i (.int (nar .byte x))) → Goes p l e R s m args below meth c Z EL nw Q F w h' k n (mkF m nx Ls st)) : Goes p l e R s m args below meth c Z EL nw Q F w h k n (mkF m pc Ls (.int x :: .int j :: .ref a :: st)) := by
  obtain ⟨d1, rfl⟩ := d
  intro T vm0 locs k0 H
  obtain ⟨X, eT, N, S, hk0, hZ, H1, hw, hF, O', hwm, hbk⟩ := id H
  have sa : Safe Z EL vm0 h a := sf.elim (fun q => (hF a q).2) (hwm a)
  obtain ⟨cl, A', q1, q2, q3⟩ := id A
  subst hi
  obtain ⟨T', h', X', e', W', st'⟩ := stB X C.1 hZ eT A' (j := j) (x := x) (inb rfl hj (by rw [q1]; exact hlt)) (g := mkF m pc Ls (.int x :: .int j :: .ref a :: st)) rfl rfl (hb C.2.1 d1)
  obtain ⟨t, v, L, h1, r⟩ := g h' W' (A.set W' (fits_b8' _)) T' vm0 _ k0 (H.step X' e' (Fr.snoc X' N na) (Keep.of_wr W') (fun x hx => by cases List.mem_singleton.mp hx; exact ⟨sa, na⟩))
  exact ⟨t, v, L, st' _ h1, r⟩
theorem Cxt.iastore (C : Cxt p m meth c Z a0 EL own mn bytes ml ret Ws) {a : Addr} {vs : List Value} {j x : Int32} {i : Nat} (d : Dec bytes pc .iastore 1 nx) (A : Arl Z h a .int vs) (hj : ¬ j < 0) (hi : j.toNatClampNeg = i) (hlt : i < vs.length) (na : Z.heap.size ≤ a) 
    (g : ∀ h', Wr h h' a i (.int (x)) → Arl Z h' a .int (vs.set i (.int (x))) → Goes p l e R s m args below meth c Z EL nw Q F w h' k n (mkF m nx Ls st)) : Goes p l e R s m args below meth c Z EL nw Q F w h k n (mkF m pc Ls (.int x :: .int j :: .ref a :: st)) := by
  obtain ⟨d1, rfl⟩ := d
  intro T vm0 locs k0 H
  obtain ⟨X, eT, N, S, hk0, hZ, H1, hw, hF, O', hwm, hbk⟩ := id H
  have sa : Safe Z EL vm0 h a := Arl.safe hZ.alike A (by simp)
  obtain ⟨cl, A', q1, q2, q3⟩ := id A
  subst hi
  obtain ⟨T', h', X', e', W', st'⟩ := stI X C.1 hZ eT A' (j := j) (x := x) (inb rfl hj (by rw [q1]; exact hlt)) (g := mkF m pc Ls (.int x :: .int j :: .ref a :: st)) rfl rfl (hb C.2.1 d1)
  obtain ⟨t, v, L, h1, r⟩ := g h' W' (A.set W' (rfl)) T' vm0 _ k0 (H.step X' e' (Fr.snoc X' N na) (Keep.of_wr W') (fun x hx => by cases List.mem_singleton.mp hx; exact ⟨sa, na⟩))
  exact ⟨t, v, L, st' _ h1, r⟩
theorem ofNat_idx {i : Nat} (h : i < 2 ^ 31) : ¬ (Int32.ofNat i) < 0 ∧ (Int32.ofNat i).toNatClampNeg = i := by
  have q := idx_in (i := i) (n := i + 1) (Nat.lt_succ_self i)
  have e : (Int32.ofNat i).toInt = i := by
    rw [Int32.toInt_ofNat']
    simp only [Int.bmod_def]
    have z : (Int32.size : Int) = 4294967296 := rfl
    rw [z]
    omega
  constructor
  · intro z; rw [Int32.lt_iff_toInt_lt, e] at z; simp at z; omega
  · simp [Int32.toNatClampNeg, e]
theorem arl_of_arv {Z : State} {h : Heap} {a : Addr} {kb : ClassId} {ty : FieldType} {z : Int32} {vs : List Value} {dv : Value} (A : Arv Z h a kb ty z vs dv) (hz : z.toNatClampNeg = vs.length) (hl : vs.length < 2 ^ 31) : Arl Z h a ty vs := by
  obtain ⟨cl, A, -, q2, -, H, G⟩ := A
  have e : cl.slots.toList = vs := by
    apply List.ext_getElem?
    intro i
    by_cases hi : i < cl.slots.size
    · have := H i hi
      rw [Array.getElem?_toList, this]
      have hi' : i < vs.length := by omega
      simp [List.getD_eq_getElem?_getD, hi']
    · rw [List.getElem?_eq_none (by simpa using hi), List.getElem?_eq_none (by omega)]
  refine ⟨cl, A, e, hl, fun v hv => ?_⟩
  obtain ⟨i, hi, rfl⟩ := List.mem_iff_getElem.mp hv
  have := G i (by omega)
  simpa [List.getD_eq_getElem?_getD, hi] using this
theorem Con.of {y : MethodName} {rm : Room} {as' : Array Value} (hy : plainFor y = true) (hw : ∀ d ∈ Ws, d.before a0 Z = true) (hEL : EW Z a0 EL) (Ls : Array Slot) (hef : ∀ m, entryFrame m as' ml = mkF m 0 Ls [])
    (g : ∀ (p : Program) (e : Env) (s : State) (m : MethodId) (below : List Frame) (meth : Method) (c : Code), s.heap = h → Cxt p m meth c Z a0 EL y.cls y.name bytes ml ret Ws → Goes p l e rm s m as' below meth c Z EL nw Q F h.size h 0 0 (mkF m 0 Ls [])) : Con l Z EL nw y bytes ml ret rm F as' h Q := by
  intro ws
  refine MetFree.of_bodySF hy hisR ?_
  intro p e s m args below meth c s₁ Bd hml0 hP hK
  obtain ⟨rfl, hZ, hh, hC, hF, hO⟩ := hP
  have C : Cxt p m meth c Z a0 EL y.cls y.name bytes ml ret Ws := ⟨Bd.exec, Bd.bytes, hml0, (hZ.alike.findClass _ _).symm.trans (findClass_of_methodNamed Bd.named), Bd.returns, Bd.notSynchronized, (name_of_methodNamed Bd.named Bd.method).1, hw, hEL⟩
  have X0 : Stand p l e rm s m args below meth c s₁ [] 0 0 := Stand.of_body Bd
  have e0 : s₁.heap = h := by rw [← hh, Bd.state]; rfl
  subst hh
  obtain ⟨t, v, L, h1, h2, h3, h4, h5, h6, h7, h8, h9⟩ := g p e s m below meth c rfl C s₁ s.vm [] 0 ⟨X0, e0, Fr.nil _, (State.WarmedH.refl s).since 0, Nat.zero_le _, hZ, CHr.refl hC, fun _ => State.WarmedH.refl s, hF, hO, fun x hx => Safe.new hx, fun _ y hy => hy⟩
  exact ⟨t, .returned v, castTop (hef m) h1, h2, h3, v, L, rfl, h4, h5, h6, h7, h8, h9⟩
theorem Con.pays {y : MethodName} {yb : ByteArray} {yl : Nat} {yr : Option FieldType} {rm : Room} {as' : Array Value} {len W : Nat} (K : Con l Z EL nw y yb yl yr rm F as' h Q) (wc : (Jvm.Cond.code y yb yl yr).before a0 Z = true) (wz : (Jvm.Cond.initialized y.cls).before a0 Z = true) (hEL : EW Z a0 EL) (hf : rm.frames + 1 ≤ R.frames) (hl : W + (yl + 11) + rm.locals ≤ R.locals) :
    Pays p l e R s args below Z EL nw y len W F as' h rm.cells rm.slots Q := by
  intro vm0 hZ H hF hO
  refine BackS.of_freeW (bytes := yb) (maxL := yl) (ret := yr) (E := fun _ first o t L k n => k = rm.cells ∧ n = rm.slots ∧ (∃ v, o = .returned v ∧ Q v t.heap) ∧ Fr Z.heap.size L ∧ CHr Z EL first.vm first.heap t.vm t.heap ∧ (nw = true → first.WarmedH t.vm ∧ ∀ y, Bk Z EL t.vm t.heap y → Bk Z EL first.vm first.heap y) ∧ Ext Z.heap t.heap) (K []) hf hl
    (fun m meth c A a Y hp => have hU : Z.Warmed39 A.U.vm := wtrans (s := s.setVm vm0) hZ Y.warmed
      ⟨by show (Jvm.Cond.and _ .tt).before a A.U = true; rw [Cond.before_and, mv hU wc]; rfl, mv hU wc, mv hU wz, hp.2.2.1, hp.2.2.2⟩)
    (fun m meth c A a g mk Y hp => ⟨hp.1, wtrans (s := s.setVm vm0) hZ Y.warmed, hp.2.1, (CHv.at Y hZ hEL H).1, fun x hx => ⟨(hF x hx).1, (CHv.at Y hZ hEL H).safe (hF x hx).1 (hF x hx).2⟩, hO⟩) (fun _ _ _ _ _ _ _ _ _ => trivial)
    (fun _ _ _ _ ⟨v, L, h1, h2, h3, h4, h5, h6, h7⟩ => ⟨L, _, _, h7, rfl, rfl, ⟨v, h1, h2⟩, h3, h4, h5, h6⟩)
    (fun m meth c A a g mk v t L k n Y hp _ _ ⟨e1, e2, ⟨v', e3, e4⟩, e5, e6, e7, e8⟩ => by
      cases e3; subst e1 e2
      refine ⟨L, e4, e5, rfl, rfl, rfl, (CHv.at Y hZ hEL H).trans ?_, fun q => ⟨State.WarmedH.trans Y.warmed (e7 q).1, fun y hy => ?_⟩, e8⟩
      · rw [← hp.2.1]; exact e6
      · have z := (e7 q).2 y hy
        have z' : Bk Z EL A.U.vm h y := by rw [← hp.2.1]; exact z
        rcases (CHv.at Y hZ hEL H).2.2 y z' with z2 | z2
        · exact z2
        · obtain ⟨cell, hcell⟩ := z'.there
          exact absurd (Array.getElem?_eq_some_iff.mp hcell).1 (Nat.not_lt.mpr z2))
theorem Pays.mono {y : MethodName} {as' : Array Value} {len W rc rs : Nat} {Q' : Option Value → Heap → Prop} (K : Pays p l e R s args below Z EL nw y len W F as' h rc rs Q) (hq : ∀ v h', Q v h' → Q' v h') : Pays p l e R s args below Z EL nw y len W F as' h rc rs Q' := by
  intro vm0 hZ H hF hO m meth c A g ig mk a X hg hsize hdg hW hn hp
  obtain ⟨v, B, X', S, gr, ⟨L, h1, r⟩, stp⟩ := K vm0 hZ H hF hO m meth c A g ig mk a X hg hsize hdg hW hn hp
  exact ⟨v, B, X', S, gr, ⟨L, hq _ _ h1, r⟩, stp⟩
theorem after {nwc : Bool} (hnw : nw = true → nwc = true) {T : State} {vm0 : Vm} {locs : List Loc} {k0 rc rs : Nat} {B : Pt} {vm1 : Vm} (H : Here p l e R s m args below meth c Z EL nw F w h k n T vm0 locs k0) (X' : Stand p l e R (s.setVm B.U.vm) m args below meth c B.U B.locs B.cells B.slots) (S' : (s.setVm vm0).Since B.U.vm B.U.heap.size) (gr : T.heap.size ≤ B.U.heap.size)
    (post : ∃ L, Fr Z.heap.size L ∧ B.locs = locs ++ L ∧ B.cells = k + rc ∧ B.slots = n + rs ∧ CHr Z EL vm0 h B.U.vm B.U.heap ∧ (nwc = true → (s.setVm vm0).WarmedH B.U.vm ∧ ∀ y, Bk Z EL B.U.vm B.U.heap y → Bk Z EL vm0 h y) ∧ Ext Z.heap B.U.heap) : Here p l e R s m args below meth c Z EL nw F (wm nwc w B.U.heap) B.U.heap (k + rc) (n + rs) B.U B.U.vm B.locs B.U.heap.size := by
  obtain ⟨X, eT, N, S, hk0, hZ, H1, hw, hF, O, hwm, hbk⟩ := H
  obtain ⟨L, p1, p2, p3, p4, p5, p6, p7⟩ := post
  rw [p3, p4] at X'
  rw [eT] at gr
  refine ⟨X', rfl, by rw [p2]; exact N.app p1, S.trans S' (Nat.le_trans hk0 gr), Nat.le_refl _, State.Warmed39.trans (t := s.setVm vm0) hZ S'.1, H1.trans p5, fun q => State.WarmedH.trans (t := s.setVm vm0) (hw q) (p6 (hnw q)).1, fun x hx => ⟨Nat.lt_of_lt_of_le (hF x hx).1 gr, p5.safe (hF x hx).1 (hF x hx).2⟩, p7, fun x hx => ?_, fun q y hy => hbk q y ((p6 (hnw q)).2 y hy)⟩
  cases nwc with
  | true => exact fun hy => hwm x hx ((p6 rfl).2 x hy)
  | false => exact Safe.new hx
theorem Cxt.static (C : Cxt p m meth c Z a0 EL own mn bytes ml ret Ws) {nwc : Bool} (hnw : nw = true → nwc = true) {F' : List Addr} (hF' : ∀ x ∈ F', x ∈ F ∨ (w ≤ x ∧ x < h.size)) {idx W rc rs : Nat} {y : MethodName} {yb : ByteArray} {yl : Nat} {yr : Option FieldType} {Qc : Option Value → Heap → Prop} {argsL rest : List Value} (d : Dec bytes pc (.invokestatic idx) 3 nx) (w1 : Jvm.Cond.methodLink own idx y ∈ Ws) (w2 : Jvm.Cond.static y ∈ Ws) (w3 : Jvm.Cond.initialized y.cls ∈ Ws) (w4 : Jvm.Cond.code y yb yl yr ∈ Ws)
    (hy : y.cls ≠ "java/lang/invoke/MethodHandle" ∧ y.cls ≠ "java/lang/invoke/VarHandle") (hlen : ∀ sig, parseMethodDescriptor y.desc = some sig → argsL.length = sig.parameters.length) (hst : st = argsL.reverse ++ rest) (hsz : Ls.size = ml) (hk : k + rc ≤ R.cells) (hn : n + rs ≤ R.slots)
    (K : Pays p l e R s args below Z EL nwc y 3 W F' argsL.toArray h rc rs Qc) (hW : (rest.map fun v => v.category).sum ≤ W) (g : ∀ v h', Qc v h' → Goes p l e R s m args below meth c Z EL nw Q F (wm nwc w h') h' (k + rc) (n + rs) (mkF m nx Ls (v.toList ++ rest))) : Goes p l e R s m args below meth c Z EL nw Q F w h k n (mkF m pc Ls st) := by
  obtain ⟨d1, rfl⟩ := d
  intro T vm0 locs k0 H
  obtain ⟨X, eT, N, S, hk0, hZ, H1, hw, hF, O, hwm, hbk⟩ := id H
  obtain ⟨v, vm1, B, hW1, X', S', gr, ⟨L, q, post⟩, st'⟩ := callSS X C.1 (C.own_at hZ) (mv hZ (C.wrd w1)) (mv hZ (C.wrd w2)) (mv hZ (C.wrd w3)) (mv hZ (C.wrd w4)) hy (K vm0 hZ H1.1 (fun x hx => (hF' x hx).elim (hF x) fun q => ⟨q.2, hwm x q.1⟩) O) (g := mkF m pc Ls st) rfl (hsz.trans C.2.2.1.symm) hlen hst (by show 2 * 0 + _ ≤ _; omega) (hb C.2.1 d1) (fun vm1 _ => ⟨rfl, eT, hk, hn⟩)
  obtain ⟨t, v, L, h1, r⟩ := g v B.U.heap q B.U B.U.vm B.locs B.U.heap.size (after (nwc := nwc) hnw (vm1 := vm1) H X' S' gr ⟨L, post⟩)
  exact ⟨t, v, L, st'.trans h1, r⟩
theorem Cxt.special (C : Cxt p m meth c Z a0 EL own mn bytes ml ret Ws) {nwc : Bool} (hnw : nw = true → nwc = true) {F' : List Addr} (hF' : ∀ x ∈ F', x ∈ F ∨ (w ≤ x ∧ x < h.size)) {idx W rc rs : Nat} {y : MethodName} {yb : ByteArray} {yl : Nat} {Qc : Option Value → Heap → Prop} {a : Addr} {argsL rest : List Value} (d : Dec bytes pc (.invokespecial idx) 3 nx) (hy1 : y.name = "<init>") (w1 : Jvm.Cond.methodLink own idx y ∈ Ws) (w2 : Jvm.Cond.instanceMethod y ∈ Ws) (w4 : Jvm.Cond.code y yb yl none ∈ Ws)
    (hy : y.cls ≠ "java/lang/invoke/MethodHandle" ∧ y.cls ≠ "java/lang/invoke/VarHandle") (hlen : ∀ sig, parseMethodDescriptor y.desc = some sig → argsL.length = sig.parameters.length) (hst : st = argsL.reverse ++ .ref a :: rest) (hsz : Ls.size = ml) (hk : k + rc ≤ R.cells) (hn : n + rs ≤ R.slots)
    (K : Pays p l e R s args below Z EL nwc y 3 W F' (.ref a :: argsL).toArray h rc rs Qc) (hW : (rest.map fun v => v.category).sum ≤ W) (g : ∀ v h', Qc v h' → Goes p l e R s m args below meth c Z EL nw Q F (wm nwc w h') h' (k + rc) (n + rs) (mkF m nx Ls (v.toList ++ rest))) : Goes p l e R s m args below meth c Z EL nw Q F w h k n (mkF m pc Ls st) := by
  obtain ⟨d1, rfl⟩ := d
  intro T vm0 locs k0 H
  obtain ⟨X, eT, N, S, hk0, hZ, H1, hw, hF, O, hwm, hbk⟩ := id H
  obtain ⟨v, vm1, B, hW1, X', S', gr, ⟨L, q, post⟩, st'⟩ := X.specialBackS C.1 hy1 (C.own_at hZ) (mv hZ (C.wrd w1)) (mv hZ (C.wrd w2)) (mv hZ (C.wrd w4)) hy (K vm0 hZ H1.1 (fun x hx => (hF' x hx).elim (hF x) fun q => ⟨q.2, hwm x q.1⟩) O) (g := mkF m pc Ls st) rfl (hsz.trans C.2.2.1.symm) (Steps.refl _) hlen hst (by show 2 * 0 + _ ≤ _; omega) (hb C.2.1 d1) (fun vm1 _ => ⟨rfl, eT, hk, hn⟩)
  obtain ⟨t, v, L, h1, r⟩ := g v B.U.heap q B.U B.U.vm B.locs B.U.heap.size (after (nwc := nwc) hnw (vm1 := vm1) H X' S' gr ⟨L, post⟩)
  exact ⟨t, v, L, st'.trans h1, r⟩
theorem Cxt.virtual (C : Cxt p m meth c Z a0 EL own mn bytes ml ret Ws) {nwc : Bool} (hnw : nw = true → nwc = true) {F' : List Addr} (hF' : ∀ x ∈ F', x ∈ F ∨ (w ≤ x ∧ x < h.size)) {idx W rc rs : Nat} {y z : MethodName} {cls : String} {Qc : Option Value → Heap → Prop} {a : Addr} {argsL rest : List Value} (d : Dec bytes pc (.invokevirtual idx) 3 nx) (w1 : Jvm.Cond.methodLink own idx y ∈ Ws) (w2 : Jvm.Cond.declares y ∈ Ws) (w3 : Jvm.Cond.selects cls y z ∈ Ws) (w4 : Jvm.Cond.instanceMethod z ∈ Ws)
    (hy : y.cls ≠ "java/lang/invoke/MethodHandle" ∧ y.cls ≠ "java/lang/invoke/VarHandle") (hlen : ∀ sig, parseMethodDescriptor y.desc = some sig → argsL.length = sig.parameters.length) (hst : st = argsL.reverse ++ .ref a :: rest) (hsz : Ls.size = ml) (hk : k + rc ≤ R.cells) (hn : n + rs ≤ R.slots) (E : Exa Z h a cls)
    (nf : ∀ vm0 : Vm, (Jvm.Cond.selects cls y z).before args (s.setVm vm0) = true → NotFace (s.setVm vm0) y)
    (K : Pays p l e R s args below Z EL nwc z 3 W F' (.ref a :: argsL).toArray h rc rs Qc) (hW : (rest.map fun v => v.category).sum ≤ W) (g : ∀ v h', Qc v h' → Goes p l e R s m args below meth c Z EL nw Q F (wm nwc w h') h' (k + rc) (n + rs) (mkF m nx Ls (v.toList ++ rest))) : Goes p l e R s m args below meth c Z EL nw Q F w h k n (mkF m pc Ls st) := by
  obtain ⟨d1, rfl⟩ := d
  intro T vm0 locs k0 H
  obtain ⟨X, eT, N, S, hk0, hZ, H1, hw, hF, O, hwm, hbk⟩ := id H
  obtain ⟨cq, kq, qa, qb, qc⟩ := isOf (s := s.setVm vm0) hZ eT E
  obtain ⟨v, vm1, B, hW1, X', S', gr, ⟨L, q, post⟩, st'⟩ := X.virtualBackS C.1 (C.own_at hZ) (mv hZ (C.wrd w1)) (mv hZ (C.wrd w2)) (nf vm0 (mv hZ (C.wrd w3))) (mv hZ (C.wrd w3)) (mv hZ (C.wrd w4)) hy (K vm0 hZ H1.1 (fun x hx => (hF' x hx).elim (hF x) fun q => ⟨q.2, hwm x q.1⟩) O) qa qc (g := mkF m pc Ls st) rfl (hsz.trans C.2.2.1.symm) (Steps.refl _) hlen hst (by show 2 * 0 + _ ≤ _; omega) (hb C.2.1 d1) (fun vm1 _ => ⟨rfl, eT, hk, hn⟩)
  obtain ⟨t, v, L, h1, r⟩ := g v B.U.heap q B.U B.U.vm B.locs B.U.heap.size (after (nwc := nwc) hnw (vm1 := vm1) H X' S' gr ⟨L, post⟩)
  exact ⟨t, v, L, st'.trans h1, r⟩
def rV (Q : Heap → Prop) : Option Value → Heap → Prop := fun o h => o = none ∧ Q h
def rR (Q : Value → Heap → Prop) : Option Value → Heap → Prop := fun o h => ∃ v, o = some v ∧ Q v h
theorem Pays.less {y : MethodName} {as' : Array Value} {len W rc rs : Nat} {F' : List Addr} (hF : ∀ x ∈ F', x ∈ F) (K : Pays p l e R s args below Z EL nw y len W F' as' h rc rs Q) : Pays p l e R s args below Z EL nw y len W F as' h rc rs Q := fun vm0 hZ H hF1 hO => K vm0 hZ H (fun x hx => hF1 x (hF x hx)) hO
theorem Con.weaken {y : MethodName} {yb : ByteArray} {yl : Nat} {yr : Option FieldType} {rm : Room} {as' : Array Value} {Q' : Option Value → Heap → Prop} (hq : ∀ v h', Q v h' → Q' v h') (K : Con l Z EL nw y yb yl yr rm F as' h Q) : Con l Z EL nw y yb yl yr rm F as' h Q' := by
  intro ws p e ha hc hk s m args below hf happ hP hK
  obtain ⟨n, o, h1, h2, h3, v, L, h4, h5, r⟩ := K ws p e ha hc hk s m args below hf happ hP hK
  exact ⟨n, o, h1, h2, h3, v, L, h4, hq _ _ h5, r⟩
theorem len_par {d : String} {k : Nat} (h : (parseMethodDescriptor d).map (fun sg => sg.parameters.length) = some k) {L : List Value} (hl : L.length = k) : ∀ sig, parseMethodDescriptor d = some sig → L.length = sig.parameters.length := fun sig hs => by
  rw [hs] at h; simp at h; omega
theorem Cxt.s0V (C : Cxt p m meth c Z a0 EL own mn bytes ml ret Ws) {idx : Nat} {y : MethodName} {yb : ByteArray} {yl : Nat} {yr : Option FieldType} {rm : Room} {F' : List Addr}  {Qc : Heap → Prop} {nwc : Bool} (d : Dec bytes pc (.invokestatic idx) 3 nx) (w1 : Jvm.Cond.methodLink own idx y ∈ Ws) (w2 : Jvm.Cond.static y ∈ Ws) (w3 : Jvm.Cond.initialized y.cls ∈ Ws) (w4 : Jvm.Cond.code y yb yl yr ∈ Ws) (hy : y.cls ≠ "java/lang/invoke/MethodHandle" ∧ y.cls ≠ "java/lang/invoke/VarHandle") (hpar : (parseMethodDescriptor y.desc).map (fun sg => sg.parameters.length) = some 0) (hsz : Ls.size = ml) (hF : ∀ x ∈ F', x ∈ F ∨ (w ≤ x ∧ x < h.size))
    (K : Con l Z EL nwc y yb yl yr rm F' #[] h (rV Qc)) (hf : rm.frames + 1 ≤ R.frames) (hl : (st.map fun v => v.category).sum + (yl + 11) + rm.locals ≤ R.locals) (hk : k + rm.cells ≤ R.cells) (hn : n + rm.slots ≤ R.slots) (g : ∀ h', Qc h' → Goes p l e R s m args below meth c Z EL nw Q F (wm nwc w h') h' (k + rm.cells) (n + rm.slots) (mkF m nx Ls st)) (hnw : nw = true → nwc = true := by first | exact id | exact fun _ => rfl) : Goes p l e R s m args below meth c Z EL nw Q F w h k n (mkF m pc Ls st) :=
  C.static hnw hF (argsL := []) (rest := st) d w1 w2 w3 w4 hy (len_par hpar rfl) rfl hsz hk hn (K.pays (C.wrd w4) (C.wrd w3) C.2.2.2.2.2.2.2.2 hf hl) (Nat.le_refl _) (fun v h' q => by obtain ⟨rfl, q⟩ := q; exact g h' q)
theorem Cxt.c0 (C : Cxt p m meth c Z a0 EL own mn bytes ml ret Ws) {idx : Nat} {y : MethodName} {yb : ByteArray} {yl : Nat} {rm : Room} {F' : List Addr} {a : Addr}  {Qc : Heap → Prop} {nwc : Bool} (d : Dec bytes pc (.invokespecial idx) 3 nx) (hy1 : y.name = "<init>") (w1 : Jvm.Cond.methodLink own idx y ∈ Ws) (w2 : Jvm.Cond.instanceMethod y ∈ Ws) (w3 : Jvm.Cond.initialized y.cls ∈ Ws) (w4 : Jvm.Cond.code y yb yl none ∈ Ws) (hy : y.cls ≠ "java/lang/invoke/MethodHandle" ∧ y.cls ≠ "java/lang/invoke/VarHandle") (hpar : (parseMethodDescriptor y.desc).map (fun sg => sg.parameters.length) = some 0) (hsz : Ls.size = ml) (hF : ∀ x ∈ F', x ∈ F ∨ (w ≤ x ∧ x < h.size))
    (K : Con l Z EL nwc y yb yl none rm F' #[.ref a] h (rV Qc)) (hf : rm.frames + 1 ≤ R.frames) (hl : (st.map fun v => v.category).sum + (yl + 11) + rm.locals ≤ R.locals) (hk : k + rm.cells ≤ R.cells) (hn : n + rm.slots ≤ R.slots) (g : ∀ h', Qc h' → Goes p l e R s m args below meth c Z EL nw Q F (wm nwc w h') h' (k + rm.cells) (n + rm.slots) (mkF m nx Ls st)) (hnw : nw = true → nwc = true := by first | exact id | exact fun _ => rfl) : Goes p l e R s m args below meth c Z EL nw Q F w h k n (mkF m pc Ls (.ref a :: st)) :=
  C.special hnw hF (argsL := []) (rest := st) d hy1 w1 w2 w4 hy (len_par hpar rfl) rfl hsz hk hn (K.pays (C.wrd w4) (C.wrd w3) C.2.2.2.2.2.2.2.2 hf hl) (Nat.le_refl _) (fun v h' q => by obtain ⟨rfl, q⟩ := q; exact g h' q)
theorem Cxt.v0V (C : Cxt p m meth c Z a0 EL own mn bytes ml ret Ws) {idx : Nat} {y z : MethodName} {yb : ByteArray} {yl : Nat} {yr : Option FieldType} {rm : Room} {F' : List Addr} {cls : String} {a : Addr}  {Qc : Heap → Prop} {nwc : Bool} (d : Dec bytes pc (.invokevirtual idx) 3 nx) (w1 : Jvm.Cond.methodLink own idx y ∈ Ws) (w2 : Jvm.Cond.declares y ∈ Ws) (w5 : Jvm.Cond.selects cls y z ∈ Ws) (w6 : Jvm.Cond.instanceMethod z ∈ Ws) (w3 : Jvm.Cond.initialized z.cls ∈ Ws) (w4 : Jvm.Cond.code z yb yl yr ∈ Ws) (hy : y.cls ≠ "java/lang/invoke/MethodHandle" ∧ y.cls ≠ "java/lang/invoke/VarHandle") (hpar : (parseMethodDescriptor y.desc).map (fun sg => sg.parameters.length) = some 0) (hsz : Ls.size = ml) (hF : ∀ x ∈ F', x ∈ F ∨ (w ≤ x ∧ x < h.size)) (E : Exa Z h a cls)
    (nf : ∀ vm0 : Vm, (Jvm.Cond.selects cls y z).before args (s.setVm vm0) = true → NotFace (s.setVm vm0) y)
    (K : Con l Z EL nwc z yb yl yr rm F' #[.ref a] h (rV Qc)) (hf : rm.frames + 1 ≤ R.frames) (hl : (st.map fun v => v.category).sum + (yl + 11) + rm.locals ≤ R.locals) (hk : k + rm.cells ≤ R.cells) (hn : n + rm.slots ≤ R.slots) (g : ∀ h', Qc h' → Goes p l e R s m args below meth c Z EL nw Q F (wm nwc w h') h' (k + rm.cells) (n + rm.slots) (mkF m nx Ls st)) (hnw : nw = true → nwc = true := by first | exact id | exact fun _ => rfl) : Goes p l e R s m args below meth c Z EL nw Q F w h k n (mkF m pc Ls (.ref a :: st)) :=
  C.virtual hnw hF (argsL := []) (rest := st) d w1 w2 w5 w6 hy (len_par hpar rfl) rfl hsz hk hn E nf (K.pays (C.wrd w4) (C.wrd w3) C.2.2.2.2.2.2.2.2 hf hl) (Nat.le_refl _) (fun v h' q => by obtain ⟨rfl, q⟩ := q; exact g h' q)
theorem Cxt.s0R (C : Cxt p m meth c Z a0 EL own mn bytes ml ret Ws) {idx : Nat} {y : MethodName} {yb : ByteArray} {yl : Nat} {yr : Option FieldType} {rm : Room} {F' : List Addr}  {Qc : Value → Heap → Prop} {nwc : Bool} (d : Dec bytes pc (.invokestatic idx) 3 nx) (w1 : Jvm.Cond.methodLink own idx y ∈ Ws) (w2 : Jvm.Cond.static y ∈ Ws) (w3 : Jvm.Cond.initialized y.cls ∈ Ws) (w4 : Jvm.Cond.code y yb yl yr ∈ Ws) (hy : y.cls ≠ "java/lang/invoke/MethodHandle" ∧ y.cls ≠ "java/lang/invoke/VarHandle") (hpar : (parseMethodDescriptor y.desc).map (fun sg => sg.parameters.length) = some 0) (hsz : Ls.size = ml) (hF : ∀ x ∈ F', x ∈ F ∨ (w ≤ x ∧ x < h.size))
    (K : Con l Z EL nwc y yb yl yr rm F' #[] h (rR Qc)) (hf : rm.frames + 1 ≤ R.frames) (hl : (st.map fun v => v.category).sum + (yl + 11) + rm.locals ≤ R.locals) (hk : k + rm.cells ≤ R.cells) (hn : n + rm.slots ≤ R.slots) (g : ∀ v h', Qc v h' → Goes p l e R s m args below meth c Z EL nw Q F (wm nwc w h') h' (k + rm.cells) (n + rm.slots) (mkF m nx Ls (v :: st))) (hnw : nw = true → nwc = true := by first | exact id | exact fun _ => rfl) : Goes p l e R s m args below meth c Z EL nw Q F w h k n (mkF m pc Ls st) :=
  C.static hnw hF (argsL := []) (rest := st) d w1 w2 w3 w4 hy (len_par hpar rfl) rfl hsz hk hn (K.pays (C.wrd w4) (C.wrd w3) C.2.2.2.2.2.2.2.2 hf hl) (Nat.le_refl _) (fun v h' q => by obtain ⟨v, rfl, q⟩ := q; exact g v h' q)
theorem Cxt.v0R (C : Cxt p m meth c Z a0 EL own mn bytes ml ret Ws) {idx : Nat} {y z : MethodName} {yb : ByteArray} {yl : Nat} {yr : Option FieldType} {rm : Room} {F' : List Addr} {cls : String} {a : Addr}  {Qc : Value → Heap → Prop} {nwc : Bool} (d : Dec bytes pc (.invokevirtual idx) 3 nx) (w1 : Jvm.Cond.methodLink own idx y ∈ Ws) (w2 : Jvm.Cond.declares y ∈ Ws) (w5 : Jvm.Cond.selects cls y z ∈ Ws) (w6 : Jvm.Cond.instanceMethod z ∈ Ws) (w3 : Jvm.Cond.initialized z.cls ∈ Ws) (w4 : Jvm.Cond.code z yb yl yr ∈ Ws) (hy : y.cls ≠ "java/lang/invoke/MethodHandle" ∧ y.cls ≠ "java/lang/invoke/VarHandle") (hpar : (parseMethodDescriptor y.desc).map (fun sg => sg.parameters.length) = some 0) (hsz : Ls.size = ml) (hF : ∀ x ∈ F', x ∈ F ∨ (w ≤ x ∧ x < h.size)) (E : Exa Z h a cls)
    (nf : ∀ vm0 : Vm, (Jvm.Cond.selects cls y z).before args (s.setVm vm0) = true → NotFace (s.setVm vm0) y)
    (K : Con l Z EL nwc z yb yl yr rm F' #[.ref a] h (rR Qc)) (hf : rm.frames + 1 ≤ R.frames) (hl : (st.map fun v => v.category).sum + (yl + 11) + rm.locals ≤ R.locals) (hk : k + rm.cells ≤ R.cells) (hn : n + rm.slots ≤ R.slots) (g : ∀ v h', Qc v h' → Goes p l e R s m args below meth c Z EL nw Q F (wm nwc w h') h' (k + rm.cells) (n + rm.slots) (mkF m nx Ls (v :: st))) (hnw : nw = true → nwc = true := by first | exact id | exact fun _ => rfl) : Goes p l e R s m args below meth c Z EL nw Q F w h k n (mkF m pc Ls (.ref a :: st)) :=
  C.virtual hnw hF (argsL := []) (rest := st) d w1 w2 w5 w6 hy (len_par hpar rfl) rfl hsz hk hn E nf (K.pays (C.wrd w4) (C.wrd w3) C.2.2.2.2.2.2.2.2 hf hl) (Nat.le_refl _) (fun v h' q => by obtain ⟨v, rfl, q⟩ := q; exact g v h' q)
theorem Cxt.s1V (C : Cxt p m meth c Z a0 EL own mn bytes ml ret Ws) {idx : Nat} {y : MethodName} {yb : ByteArray} {yl : Nat} {yr : Option FieldType} {rm : Room} {F' : List Addr} {x1 : Value} {Qc : Heap → Prop} {nwc : Bool} (d : Dec bytes pc (.invokestatic idx) 3 nx) (w1 : Jvm.Cond.methodLink own idx y ∈ Ws) (w2 : Jvm.Cond.static y ∈ Ws) (w3 : Jvm.Cond.initialized y.cls ∈ Ws) (w4 : Jvm.Cond.code y yb yl yr ∈ Ws) (hy : y.cls ≠ "java/lang/invoke/MethodHandle" ∧ y.cls ≠ "java/lang/invoke/VarHandle") (hpar : (parseMethodDescriptor y.desc).map (fun sg => sg.parameters.length) = some 1) (hsz : Ls.size = ml) (hF : ∀ x ∈ F', x ∈ F ∨ (w ≤ x ∧ x < h.size))
    (K : Con l Z EL nwc y yb yl yr rm F' #[x1] h (rV Qc)) (hf : rm.frames + 1 ≤ R.frames) (hl : (st.map fun v => v.category).sum + (yl + 11) + rm.locals ≤ R.locals) (hk : k + rm.cells ≤ R.cells) (hn : n + rm.slots ≤ R.slots) (g : ∀ h', Qc h' → Goes p l e R s m args below meth c Z EL nw Q F (wm nwc w h') h' (k + rm.cells) (n + rm.slots) (mkF m nx Ls st)) (hnw : nw = true → nwc = true := by first | exact id | exact fun _ => rfl) : Goes p l e R s m args below meth c Z EL nw Q F w h k n (mkF m pc Ls (x1 :: st)) :=
  C.static hnw hF (argsL := [x1]) (rest := st) d w1 w2 w3 w4 hy (len_par hpar rfl) rfl hsz hk hn (K.pays (C.wrd w4) (C.wrd w3) C.2.2.2.2.2.2.2.2 hf hl) (Nat.le_refl _) (fun v h' q => by obtain ⟨rfl, q⟩ := q; exact g h' q)
theorem Cxt.c1 (C : Cxt p m meth c Z a0 EL own mn bytes ml ret Ws) {idx : Nat} {y : MethodName} {yb : ByteArray} {yl : Nat} {rm : Room} {F' : List Addr} {a : Addr} {x1 : Value} {Qc : Heap → Prop} {nwc : Bool} (d : Dec bytes pc (.invokespecial idx) 3 nx) (hy1 : y.name = "<init>") (w1 : Jvm.Cond.methodLink own idx y ∈ Ws) (w2 : Jvm.Cond.instanceMethod y ∈ Ws) (w3 : Jvm.Cond.initialized y.cls ∈ Ws) (w4 : Jvm.Cond.code y yb yl none ∈ Ws) (hy : y.cls ≠ "java/lang/invoke/MethodHandle" ∧ y.cls ≠ "java/lang/invoke/VarHandle") (hpar : (parseMethodDescriptor y.desc).map (fun sg => sg.parameters.length) = some 1) (hsz : Ls.size = ml) (hF : ∀ x ∈ F', x ∈ F ∨ (w ≤ x ∧ x < h.size))
    (K : Con l Z EL nwc y yb yl none rm F' #[.ref a, x1] h (rV Qc)) (hf : rm.frames + 1 ≤ R.frames) (hl : (st.map fun v => v.category).sum + (yl + 11) + rm.locals ≤ R.locals) (hk : k + rm.cells ≤ R.cells) (hn : n + rm.slots ≤ R.slots) (g : ∀ h', Qc h' → Goes p l e R s m args below meth c Z EL nw Q F (wm nwc w h') h' (k + rm.cells) (n + rm.slots) (mkF m nx Ls st)) (hnw : nw = true → nwc = true := by first | exact id | exact fun _ => rfl) : Goes p l e R s m args below meth c Z EL nw Q F w h k n (mkF m pc Ls (x1 :: .ref a :: st)) :=
  C.special hnw hF (argsL := [x1]) (rest := st) d hy1 w1 w2 w4 hy (len_par hpar rfl) rfl hsz hk hn (K.pays (C.wrd w4) (C.wrd w3) C.2.2.2.2.2.2.2.2 hf hl) (Nat.le_refl _) (fun v h' q => by obtain ⟨rfl, q⟩ := q; exact g h' q)
theorem Cxt.v1V (C : Cxt p m meth c Z a0 EL own mn bytes ml ret Ws) {idx : Nat} {y z : MethodName} {yb : ByteArray} {yl : Nat} {yr : Option FieldType} {rm : Room} {F' : List Addr} {cls : String} {a : Addr} {x1 : Value} {Qc : Heap → Prop} {nwc : Bool} (d : Dec bytes pc (.invokevirtual idx) 3 nx) (w1 : Jvm.Cond.methodLink own idx y ∈ Ws) (w2 : Jvm.Cond.declares y ∈ Ws) (w5 : Jvm.Cond.selects cls y z ∈ Ws) (w6 : Jvm.Cond.instanceMethod z ∈ Ws) (w3 : Jvm.Cond.initialized z.cls ∈ Ws) (w4 : Jvm.Cond.code z yb yl yr ∈ Ws) (hy : y.cls ≠ "java/lang/invoke/MethodHandle" ∧ y.cls ≠ "java/lang/invoke/VarHandle") (hpar : (parseMethodDescriptor y.desc).map (fun sg => sg.parameters.length) = some 1) (hsz : Ls.size = ml) (hF : ∀ x ∈ F', x ∈ F ∨ (w ≤ x ∧ x < h.size)) (E : Exa Z h a cls)
    (nf : ∀ vm0 : Vm, (Jvm.Cond.selects cls y z).before args (s.setVm vm0) = true → NotFace (s.setVm vm0) y)
    (K : Con l Z EL nwc z yb yl yr rm F' #[.ref a, x1] h (rV Qc)) (hf : rm.frames + 1 ≤ R.frames) (hl : (st.map fun v => v.category).sum + (yl + 11) + rm.locals ≤ R.locals) (hk : k + rm.cells ≤ R.cells) (hn : n + rm.slots ≤ R.slots) (g : ∀ h', Qc h' → Goes p l e R s m args below meth c Z EL nw Q F (wm nwc w h') h' (k + rm.cells) (n + rm.slots) (mkF m nx Ls st)) (hnw : nw = true → nwc = true := by first | exact id | exact fun _ => rfl) : Goes p l e R s m args below meth c Z EL nw Q F w h k n (mkF m pc Ls (x1 :: .ref a :: st)) :=
  C.virtual hnw hF (argsL := [x1]) (rest := st) d w1 w2 w5 w6 hy (len_par hpar rfl) rfl hsz hk hn E nf (K.pays (C.wrd w4) (C.wrd w3) C.2.2.2.2.2.2.2.2 hf hl) (Nat.le_refl _) (fun v h' q => by obtain ⟨rfl, q⟩ := q; exact g h' q)
theorem Cxt.s1R (C : Cxt p m meth c Z a0 EL own mn bytes ml ret Ws) {idx : Nat} {y : MethodName} {yb : ByteArray} {yl : Nat} {yr : Option FieldType} {rm : Room} {F' : List Addr} {x1 : Value} {Qc : Value → Heap → Prop} {nwc : Bool} (d : Dec bytes pc (.invokestatic idx) 3 nx) (w1 : Jvm.Cond.methodLink own idx y ∈ Ws) (w2 : Jvm.Cond.static y ∈ Ws) (w3 : Jvm.Cond.initialized y.cls ∈ Ws) (w4 : Jvm.Cond.code y yb yl yr ∈ Ws) (hy : y.cls ≠ "java/lang/invoke/MethodHandle" ∧ y.cls ≠ "java/lang/invoke/VarHandle") (hpar : (parseMethodDescriptor y.desc).map (fun sg => sg.parameters.length) = some 1) (hsz : Ls.size = ml) (hF : ∀ x ∈ F', x ∈ F ∨ (w ≤ x ∧ x < h.size))
    (K : Con l Z EL nwc y yb yl yr rm F' #[x1] h (rR Qc)) (hf : rm.frames + 1 ≤ R.frames) (hl : (st.map fun v => v.category).sum + (yl + 11) + rm.locals ≤ R.locals) (hk : k + rm.cells ≤ R.cells) (hn : n + rm.slots ≤ R.slots) (g : ∀ v h', Qc v h' → Goes p l e R s m args below meth c Z EL nw Q F (wm nwc w h') h' (k + rm.cells) (n + rm.slots) (mkF m nx Ls (v :: st))) (hnw : nw = true → nwc = true := by first | exact id | exact fun _ => rfl) : Goes p l e R s m args below meth c Z EL nw Q F w h k n (mkF m pc Ls (x1 :: st)) :=
  C.static hnw hF (argsL := [x1]) (rest := st) d w1 w2 w3 w4 hy (len_par hpar rfl) rfl hsz hk hn (K.pays (C.wrd w4) (C.wrd w3) C.2.2.2.2.2.2.2.2 hf hl) (Nat.le_refl _) (fun v h' q => by obtain ⟨v, rfl, q⟩ := q; exact g v h' q)
theorem Cxt.v1R (C : Cxt p m meth c Z a0 EL own mn bytes ml ret Ws) {idx : Nat} {y z : MethodName} {yb : ByteArray} {yl : Nat} {yr : Option FieldType} {rm : Room} {F' : List Addr} {cls : String} {a : Addr} {x1 : Value} {Qc : Value → Heap → Prop} {nwc : Bool} (d : Dec bytes pc (.invokevirtual idx) 3 nx) (w1 : Jvm.Cond.methodLink own idx y ∈ Ws) (w2 : Jvm.Cond.declares y ∈ Ws) (w5 : Jvm.Cond.selects cls y z ∈ Ws) (w6 : Jvm.Cond.instanceMethod z ∈ Ws) (w3 : Jvm.Cond.initialized z.cls ∈ Ws) (w4 : Jvm.Cond.code z yb yl yr ∈ Ws) (hy : y.cls ≠ "java/lang/invoke/MethodHandle" ∧ y.cls ≠ "java/lang/invoke/VarHandle") (hpar : (parseMethodDescriptor y.desc).map (fun sg => sg.parameters.length) = some 1) (hsz : Ls.size = ml) (hF : ∀ x ∈ F', x ∈ F ∨ (w ≤ x ∧ x < h.size)) (E : Exa Z h a cls)
    (nf : ∀ vm0 : Vm, (Jvm.Cond.selects cls y z).before args (s.setVm vm0) = true → NotFace (s.setVm vm0) y)
    (K : Con l Z EL nwc z yb yl yr rm F' #[.ref a, x1] h (rR Qc)) (hf : rm.frames + 1 ≤ R.frames) (hl : (st.map fun v => v.category).sum + (yl + 11) + rm.locals ≤ R.locals) (hk : k + rm.cells ≤ R.cells) (hn : n + rm.slots ≤ R.slots) (g : ∀ v h', Qc v h' → Goes p l e R s m args below meth c Z EL nw Q F (wm nwc w h') h' (k + rm.cells) (n + rm.slots) (mkF m nx Ls (v :: st))) (hnw : nw = true → nwc = true := by first | exact id | exact fun _ => rfl) : Goes p l e R s m args below meth c Z EL nw Q F w h k n (mkF m pc Ls (x1 :: .ref a :: st)) :=
  C.virtual hnw hF (argsL := [x1]) (rest := st) d w1 w2 w5 w6 hy (len_par hpar rfl) rfl hsz hk hn E nf (K.pays (C.wrd w4) (C.wrd w3) C.2.2.2.2.2.2.2.2 hf hl) (Nat.le_refl _) (fun v h' q => by obtain ⟨v, rfl, q⟩ := q; exact g v h' q)
theorem Cxt.s2V (C : Cxt p m meth c Z a0 EL own mn bytes ml ret Ws) {idx : Nat} {y : MethodName} {yb : ByteArray} {yl : Nat} {yr : Option FieldType} {rm : Room} {F' : List Addr} {x1 x2 : Value} {Qc : Heap → Prop} {nwc : Bool} (d : Dec bytes pc (.invokestatic idx) 3 nx) (w1 : Jvm.Cond.methodLink own idx y ∈ Ws) (w2 : Jvm.Cond.static y ∈ Ws) (w3 : Jvm.Cond.initialized y.cls ∈ Ws) (w4 : Jvm.Cond.code y yb yl yr ∈ Ws) (hy : y.cls ≠ "java/lang/invoke/MethodHandle" ∧ y.cls ≠ "java/lang/invoke/VarHandle") (hpar : (parseMethodDescriptor y.desc).map (fun sg => sg.parameters.length) = some 2) (hsz : Ls.size = ml) (hF : ∀ x ∈ F', x ∈ F ∨ (w ≤ x ∧ x < h.size))
    (K : Con l Z EL nwc y yb yl yr rm F' #[x1, x2] h (rV Qc)) (hf : rm.frames + 1 ≤ R.frames) (hl : (st.map fun v => v.category).sum + (yl + 11) + rm.locals ≤ R.locals) (hk : k + rm.cells ≤ R.cells) (hn : n + rm.slots ≤ R.slots) (g : ∀ h', Qc h' → Goes p l e R s m args below meth c Z EL nw Q F (wm nwc w h') h' (k + rm.cells) (n + rm.slots) (mkF m nx Ls st)) (hnw : nw = true → nwc = true := by first | exact id | exact fun _ => rfl) : Goes p l e R s m args below meth c Z EL nw Q F w h k n (mkF m pc Ls (x2 :: x1 :: st)) :=
  C.static hnw hF (argsL := [x1, x2]) (rest := st) d w1 w2 w3 w4 hy (len_par hpar rfl) rfl hsz hk hn (K.pays (C.wrd w4) (C.wrd w3) C.2.2.2.2.2.2.2.2 hf hl) (Nat.le_refl _) (fun v h' q => by obtain ⟨rfl, q⟩ := q; exact g h' q)
theorem Cxt.c2 (C : Cxt p m meth c Z a0 EL own mn bytes ml ret Ws) {idx : Nat} {y : MethodName} {yb : ByteArray} {yl : Nat} {rm : Room} {F' : List Addr} {a : Addr} {x1 x2 : Value} {Qc : Heap → Prop} {nwc : Bool} (d : Dec bytes pc (.invokespecial idx) 3 nx) (hy1 : y.name = "<init>") (w1 : Jvm.Cond.methodLink own idx y ∈ Ws) (w2 : Jvm.Cond.instanceMethod y ∈ Ws) (w3 : Jvm.Cond.initialized y.cls ∈ Ws) (w4 : Jvm.Cond.code y yb yl none ∈ Ws) (hy : y.cls ≠ "java/lang/invoke/MethodHandle" ∧ y.cls ≠ "java/lang/invoke/VarHandle") (hpar : (parseMethodDescriptor y.desc).map (fun sg => sg.parameters.length) = some 2) (hsz : Ls.size = ml) (hF : ∀ x ∈ F', x ∈ F ∨ (w ≤ x ∧ x < h.size))
    (K : Con l Z EL nwc y yb yl none rm F' #[.ref a, x1, x2] h (rV Qc)) (hf : rm.frames + 1 ≤ R.frames) (hl : (st.map fun v => v.category).sum + (yl + 11) + rm.locals ≤ R.locals) (hk : k + rm.cells ≤ R.cells) (hn : n + rm.slots ≤ R.slots) (g : ∀ h', Qc h' → Goes p l e R s m args below meth c Z EL nw Q F (wm nwc w h') h' (k + rm.cells) (n + rm.slots) (mkF m nx Ls st)) (hnw : nw = true → nwc = true := by first | exact id | exact fun _ => rfl) : Goes p l e R s m args below meth c Z EL nw Q F w h k n (mkF m pc Ls (x2 :: x1 :: .ref a :: st)) :=
  C.special hnw hF (argsL := [x1, x2]) (rest := st) d hy1 w1 w2 w4 hy (len_par hpar rfl) rfl hsz hk hn (K.pays (C.wrd w4) (C.wrd w3) C.2.2.2.2.2.2.2.2 hf hl) (Nat.le_refl _) (fun v h' q => by obtain ⟨rfl, q⟩ := q; exact g h' q)
theorem Cxt.v2V (C : Cxt p m meth c Z a0 EL own mn bytes ml ret Ws) {idx : Nat} {y z : MethodName} {yb : ByteArray} {yl : Nat} {yr : Option FieldType} {rm : Room} {F' : List Addr} {cls : String} {a : Addr} {x1 x2 : Value} {Qc : Heap → Prop} {nwc : Bool} (d : Dec bytes pc (.invokevirtual idx) 3 nx) (w1 : Jvm.Cond.methodLink own idx y ∈ Ws) (w2 : Jvm.Cond.declares y ∈ Ws) (w5 : Jvm.Cond.selects cls y z ∈ Ws) (w6 : Jvm.Cond.instanceMethod z ∈ Ws) (w3 : Jvm.Cond.initialized z.cls ∈ Ws) (w4 : Jvm.Cond.code z yb yl yr ∈ Ws) (hy : y.cls ≠ "java/lang/invoke/MethodHandle" ∧ y.cls ≠ "java/lang/invoke/VarHandle") (hpar : (parseMethodDescriptor y.desc).map (fun sg => sg.parameters.length) = some 2) (hsz : Ls.size = ml) (hF : ∀ x ∈ F', x ∈ F ∨ (w ≤ x ∧ x < h.size)) (E : Exa Z h a cls)
    (nf : ∀ vm0 : Vm, (Jvm.Cond.selects cls y z).before args (s.setVm vm0) = true → NotFace (s.setVm vm0) y)
    (K : Con l Z EL nwc z yb yl yr rm F' #[.ref a, x1, x2] h (rV Qc)) (hf : rm.frames + 1 ≤ R.frames) (hl : (st.map fun v => v.category).sum + (yl + 11) + rm.locals ≤ R.locals) (hk : k + rm.cells ≤ R.cells) (hn : n + rm.slots ≤ R.slots) (g : ∀ h', Qc h' → Goes p l e R s m args below meth c Z EL nw Q F (wm nwc w h') h' (k + rm.cells) (n + rm.slots) (mkF m nx Ls st)) (hnw : nw = true → nwc = true := by first | exact id | exact fun _ => rfl) : Goes p l e R s m args below meth c Z EL nw Q F w h k n (mkF m pc Ls (x2 :: x1 :: .ref a :: st)) :=
  C.virtual hnw hF (argsL := [x1, x2]) (rest := st) d w1 w2 w5 w6 hy (len_par hpar rfl) rfl hsz hk hn E nf (K.pays (C.wrd w4) (C.wrd w3) C.2.2.2.2.2.2.2.2 hf hl) (Nat.le_refl _) (fun v h' q => by obtain ⟨rfl, q⟩ := q; exact g h' q)
theorem Cxt.s2R (C : Cxt p m meth c Z a0 EL own mn bytes ml ret Ws) {idx : Nat} {y : MethodName} {yb : ByteArray} {yl : Nat} {yr : Option FieldType} {rm : Room} {F' : List Addr} {x1 x2 : Value} {Qc : Value → Heap → Prop} {nwc : Bool} (d : Dec bytes pc (.invokestatic idx) 3 nx) (w1 : Jvm.Cond.methodLink own idx y ∈ Ws) (w2 : Jvm.Cond.static y ∈ Ws) (w3 : Jvm.Cond.initialized y.cls ∈ Ws) (w4 : Jvm.Cond.code y yb yl yr ∈ Ws) (hy : y.cls ≠ "java/lang/invoke/MethodHandle" ∧ y.cls ≠ "java/lang/invoke/VarHandle") (hpar : (parseMethodDescriptor y.desc).map (fun sg => sg.parameters.length) = some 2) (hsz : Ls.size = ml) (hF : ∀ x ∈ F', x ∈ F ∨ (w ≤ x ∧ x < h.size))
    (K : Con l Z EL nwc y yb yl yr rm F' #[x1, x2] h (rR Qc)) (hf : rm.frames + 1 ≤ R.frames) (hl : (st.map fun v => v.category).sum + (yl + 11) + rm.locals ≤ R.locals) (hk : k + rm.cells ≤ R.cells) (hn : n + rm.slots ≤ R.slots) (g : ∀ v h', Qc v h' → Goes p l e R s m args below meth c Z EL nw Q F (wm nwc w h') h' (k + rm.cells) (n + rm.slots) (mkF m nx Ls (v :: st))) (hnw : nw = true → nwc = true := by first | exact id | exact fun _ => rfl) : Goes p l e R s m args below meth c Z EL nw Q F w h k n (mkF m pc Ls (x2 :: x1 :: st)) :=
  C.static hnw hF (argsL := [x1, x2]) (rest := st) d w1 w2 w3 w4 hy (len_par hpar rfl) rfl hsz hk hn (K.pays (C.wrd w4) (C.wrd w3) C.2.2.2.2.2.2.2.2 hf hl) (Nat.le_refl _) (fun v h' q => by obtain ⟨v, rfl, q⟩ := q; exact g v h' q)
theorem Cxt.v2R (C : Cxt p m meth c Z a0 EL own mn bytes ml ret Ws) {idx : Nat} {y z : MethodName} {yb : ByteArray} {yl : Nat} {yr : Option FieldType} {rm : Room} {F' : List Addr} {cls : String} {a : Addr} {x1 x2 : Value} {Qc : Value → Heap → Prop} {nwc : Bool} (d : Dec bytes pc (.invokevirtual idx) 3 nx) (w1 : Jvm.Cond.methodLink own idx y ∈ Ws) (w2 : Jvm.Cond.declares y ∈ Ws) (w5 : Jvm.Cond.selects cls y z ∈ Ws) (w6 : Jvm.Cond.instanceMethod z ∈ Ws) (w3 : Jvm.Cond.initialized z.cls ∈ Ws) (w4 : Jvm.Cond.code z yb yl yr ∈ Ws) (hy : y.cls ≠ "java/lang/invoke/MethodHandle" ∧ y.cls ≠ "java/lang/invoke/VarHandle") (hpar : (parseMethodDescriptor y.desc).map (fun sg => sg.parameters.length) = some 2) (hsz : Ls.size = ml) (hF : ∀ x ∈ F', x ∈ F ∨ (w ≤ x ∧ x < h.size)) (E : Exa Z h a cls)
    (nf : ∀ vm0 : Vm, (Jvm.Cond.selects cls y z).before args (s.setVm vm0) = true → NotFace (s.setVm vm0) y)
    (K : Con l Z EL nwc z yb yl yr rm F' #[.ref a, x1, x2] h (rR Qc)) (hf : rm.frames + 1 ≤ R.frames) (hl : (st.map fun v => v.category).sum + (yl + 11) + rm.locals ≤ R.locals) (hk : k + rm.cells ≤ R.cells) (hn : n + rm.slots ≤ R.slots) (g : ∀ v h', Qc v h' → Goes p l e R s m args below meth c Z EL nw Q F (wm nwc w h') h' (k + rm.cells) (n + rm.slots) (mkF m nx Ls (v :: st))) (hnw : nw = true → nwc = true := by first | exact id | exact fun _ => rfl) : Goes p l e R s m args below meth c Z EL nw Q F w h k n (mkF m pc Ls (x2 :: x1 :: .ref a :: st)) :=
  C.virtual hnw hF (argsL := [x1, x2]) (rest := st) d w1 w2 w5 w6 hy (len_par hpar rfl) rfl hsz hk hn E nf (K.pays (C.wrd w4) (C.wrd w3) C.2.2.2.2.2.2.2.2 hf hl) (Nat.le_refl _) (fun v h' q => by obtain ⟨v, rfl, q⟩ := q; exact g v h' q)
theorem Cxt.s3V (C : Cxt p m meth c Z a0 EL own mn bytes ml ret Ws) {idx : Nat} {y : MethodName} {yb : ByteArray} {yl : Nat} {yr : Option FieldType} {rm : Room} {F' : List Addr} {x1 x2 x3 : Value} {Qc : Heap → Prop} {nwc : Bool} (d : Dec bytes pc (.invokestatic idx) 3 nx) (w1 : Jvm.Cond.methodLink own idx y ∈ Ws) (w2 : Jvm.Cond.static y ∈ Ws) (w3 : Jvm.Cond.initialized y.cls ∈ Ws) (w4 : Jvm.Cond.code y yb yl yr ∈ Ws) (hy : y.cls ≠ "java/lang/invoke/MethodHandle" ∧ y.cls ≠ "java/lang/invoke/VarHandle") (hpar : (parseMethodDescriptor y.desc).map (fun sg => sg.parameters.length) = some 3) (hsz : Ls.size = ml) (hF : ∀ x ∈ F', x ∈ F ∨ (w ≤ x ∧ x < h.size))
    (K : Con l Z EL nwc y yb yl yr rm F' #[x1, x2, x3] h (rV Qc)) (hf : rm.frames + 1 ≤ R.frames) (hl : (st.map fun v => v.category).sum + (yl + 11) + rm.locals ≤ R.locals) (hk : k + rm.cells ≤ R.cells) (hn : n + rm.slots ≤ R.slots) (g : ∀ h', Qc h' → Goes p l e R s m args below meth c Z EL nw Q F (wm nwc w h') h' (k + rm.cells) (n + rm.slots) (mkF m nx Ls st)) (hnw : nw = true → nwc = true := by first | exact id | exact fun _ => rfl) : Goes p l e R s m args below meth c Z EL nw Q F w h k n (mkF m pc Ls (x3 :: x2 :: x1 :: st)) :=
  C.static hnw hF (argsL := [x1, x2, x3]) (rest := st) d w1 w2 w3 w4 hy (len_par hpar rfl) rfl hsz hk hn (K.pays (C.wrd w4) (C.wrd w3) C.2.2.2.2.2.2.2.2 hf hl) (Nat.le_refl _) (fun v h' q => by obtain ⟨rfl, q⟩ := q; exact g h' q)
theorem Cxt.c3 (C : Cxt p m meth c Z a0 EL own mn bytes ml ret Ws) {idx : Nat} {y : MethodName} {yb : ByteArray} {yl : Nat} {rm : Room} {F' : List Addr} {a : Addr} {x1 x2 x3 : Value} {Qc : Heap → Prop} {nwc : Bool} (d : Dec bytes pc (.invokespecial idx) 3 nx) (hy1 : y.name = "<init>") (w1 : Jvm.Cond.methodLink own idx y ∈ Ws) (w2 : Jvm.Cond.instanceMethod y ∈ Ws) (w3 : Jvm.Cond.initialized y.cls ∈ Ws) (w4 : Jvm.Cond.code y yb yl none ∈ Ws) (hy : y.cls ≠ "java/lang/invoke/MethodHandle" ∧ y.cls ≠ "java/lang/invoke/VarHandle") (hpar : (parseMethodDescriptor y.desc).map (fun sg => sg.parameters.length) = some 3) (hsz : Ls.size = ml) (hF : ∀ x ∈ F', x ∈ F ∨ (w ≤ x ∧ x < h.size))
    (K : Con l Z EL nwc y yb yl none rm F' #[.ref a, x1, x2, x3] h (rV Qc)) (hf : rm.frames + 1 ≤ R.frames) (hl : (st.map fun v => v.category).sum + (yl + 11) + rm.locals ≤ R.locals) (hk : k + rm.cells ≤ R.cells) (hn : n + rm.slots ≤ R.slots) (g : ∀ h', Qc h' → Goes p l e R s m args below meth c Z EL nw Q F (wm nwc w h') h' (k + rm.cells) (n + rm.slots) (mkF m nx Ls st)) (hnw : nw = true → nwc = true := by first | exact id | exact fun _ => rfl) : Goes p l e R s m args below meth c Z EL nw Q F w h k n (mkF m pc Ls (x3 :: x2 :: x1 :: .ref a :: st)) :=
  C.special hnw hF (argsL := [x1, x2, x3]) (rest := st) d hy1 w1 w2 w4 hy (len_par hpar rfl) rfl hsz hk hn (K.pays (C.wrd w4) (C.wrd w3) C.2.2.2.2.2.2.2.2 hf hl) (Nat.le_refl _) (fun v h' q => by obtain ⟨rfl, q⟩ := q; exact g h' q)
theorem Cxt.v3V (C : Cxt p m meth c Z a0 EL own mn bytes ml ret Ws) {idx : Nat} {y z : MethodName} {yb : ByteArray} {yl : Nat} {yr : Option FieldType} {rm : Room} {F' : List Addr} {cls : String} {a : Addr} {x1 x2 x3 : Value} {Qc : Heap → Prop} {nwc : Bool} (d : Dec bytes pc (.invokevirtual idx) 3 nx) (w1 : Jvm.Cond.methodLink own idx y ∈ Ws) (w2 : Jvm.Cond.declares y ∈ Ws) (w5 : Jvm.Cond.selects cls y z ∈ Ws) (w6 : Jvm.Cond.instanceMethod z ∈ Ws) (w3 : Jvm.Cond.initialized z.cls ∈ Ws) (w4 : Jvm.Cond.code z yb yl yr ∈ Ws) (hy : y.cls ≠ "java/lang/invoke/MethodHandle" ∧ y.cls ≠ "java/lang/invoke/VarHandle") (hpar : (parseMethodDescriptor y.desc).map (fun sg => sg.parameters.length) = some 3) (hsz : Ls.size = ml) (hF : ∀ x ∈ F', x ∈ F ∨ (w ≤ x ∧ x < h.size)) (E : Exa Z h a cls)
    (nf : ∀ vm0 : Vm, (Jvm.Cond.selects cls y z).before args (s.setVm vm0) = true → NotFace (s.setVm vm0) y)
    (K : Con l Z EL nwc z yb yl yr rm F' #[.ref a, x1, x2, x3] h (rV Qc)) (hf : rm.frames + 1 ≤ R.frames) (hl : (st.map fun v => v.category).sum + (yl + 11) + rm.locals ≤ R.locals) (hk : k + rm.cells ≤ R.cells) (hn : n + rm.slots ≤ R.slots) (g : ∀ h', Qc h' → Goes p l e R s m args below meth c Z EL nw Q F (wm nwc w h') h' (k + rm.cells) (n + rm.slots) (mkF m nx Ls st)) (hnw : nw = true → nwc = true := by first | exact id | exact fun _ => rfl) : Goes p l e R s m args below meth c Z EL nw Q F w h k n (mkF m pc Ls (x3 :: x2 :: x1 :: .ref a :: st)) :=
  C.virtual hnw hF (argsL := [x1, x2, x3]) (rest := st) d w1 w2 w5 w6 hy (len_par hpar rfl) rfl hsz hk hn E nf (K.pays (C.wrd w4) (C.wrd w3) C.2.2.2.2.2.2.2.2 hf hl) (Nat.le_refl _) (fun v h' q => by obtain ⟨rfl, q⟩ := q; exact g h' q)
theorem Cxt.s3R (C : Cxt p m meth c Z a0 EL own mn bytes ml ret Ws) {idx : Nat} {y : MethodName} {yb : ByteArray} {yl : Nat} {yr : Option FieldType} {rm : Room} {F' : List Addr} {x1 x2 x3 : Value} {Qc : Value → Heap → Prop} {nwc : Bool} (d : Dec bytes pc (.invokestatic idx) 3 nx) (w1 : Jvm.Cond.methodLink own idx y ∈ Ws) (w2 : Jvm.Cond.static y ∈ Ws) (w3 : Jvm.Cond.initialized y.cls ∈ Ws) (w4 : Jvm.Cond.code y yb yl yr ∈ Ws) (hy : y.cls ≠ "java/lang/invoke/MethodHandle" ∧ y.cls ≠ "java/lang/invoke/VarHandle") (hpar : (parseMethodDescriptor y.desc).map (fun sg => sg.parameters.length) = some 3) (hsz : Ls.size = ml) (hF : ∀ x ∈ F', x ∈ F ∨ (w ≤ x ∧ x < h.size))
    (K : Con l Z EL nwc y yb yl yr rm F' #[x1, x2, x3] h (rR Qc)) (hf : rm.frames + 1 ≤ R.frames) (hl : (st.map fun v => v.category).sum + (yl + 11) + rm.locals ≤ R.locals) (hk : k + rm.cells ≤ R.cells) (hn : n + rm.slots ≤ R.slots) (g : ∀ v h', Qc v h' → Goes p l e R s m args below meth c Z EL nw Q F (wm nwc w h') h' (k + rm.cells) (n + rm.slots) (mkF m nx Ls (v :: st))) (hnw : nw = true → nwc = true := by first | exact id | exact fun _ => rfl) : Goes p l e R s m args below meth c Z EL nw Q F w h k n (mkF m pc Ls (x3 :: x2 :: x1 :: st)) :=
  C.static hnw hF (argsL := [x1, x2, x3]) (rest := st) d w1 w2 w3 w4 hy (len_par hpar rfl) rfl hsz hk hn (K.pays (C.wrd w4) (C.wrd w3) C.2.2.2.2.2.2.2.2 hf hl) (Nat.le_refl _) (fun v h' q => by obtain ⟨v, rfl, q⟩ := q; exact g v h' q)
theorem Cxt.v3R (C : Cxt p m meth c Z a0 EL own mn bytes ml ret Ws) {idx : Nat} {y z : MethodName} {yb : ByteArray} {yl : Nat} {yr : Option FieldType} {rm : Room} {F' : List Addr} {cls : String} {a : Addr} {x1 x2 x3 : Value} {Qc : Value → Heap → Prop} {nwc : Bool} (d : Dec bytes pc (.invokevirtual idx) 3 nx) (w1 : Jvm.Cond.methodLink own idx y ∈ Ws) (w2 : Jvm.Cond.declares y ∈ Ws) (w5 : Jvm.Cond.selects cls y z ∈ Ws) (w6 : Jvm.Cond.instanceMethod z ∈ Ws) (w3 : Jvm.Cond.initialized z.cls ∈ Ws) (w4 : Jvm.Cond.code z yb yl yr ∈ Ws) (hy : y.cls ≠ "java/lang/invoke/MethodHandle" ∧ y.cls ≠ "java/lang/invoke/VarHandle") (hpar : (parseMethodDescriptor y.desc).map (fun sg => sg.parameters.length) = some 3) (hsz : Ls.size = ml) (hF : ∀ x ∈ F', x ∈ F ∨ (w ≤ x ∧ x < h.size)) (E : Exa Z h a cls)
    (nf : ∀ vm0 : Vm, (Jvm.Cond.selects cls y z).before args (s.setVm vm0) = true → NotFace (s.setVm vm0) y)
    (K : Con l Z EL nwc z yb yl yr rm F' #[.ref a, x1, x2, x3] h (rR Qc)) (hf : rm.frames + 1 ≤ R.frames) (hl : (st.map fun v => v.category).sum + (yl + 11) + rm.locals ≤ R.locals) (hk : k + rm.cells ≤ R.cells) (hn : n + rm.slots ≤ R.slots) (g : ∀ v h', Qc v h' → Goes p l e R s m args below meth c Z EL nw Q F (wm nwc w h') h' (k + rm.cells) (n + rm.slots) (mkF m nx Ls (v :: st))) (hnw : nw = true → nwc = true := by first | exact id | exact fun _ => rfl) : Goes p l e R s m args below meth c Z EL nw Q F w h k n (mkF m pc Ls (x3 :: x2 :: x1 :: .ref a :: st)) :=
  C.virtual hnw hF (argsL := [x1, x2, x3]) (rest := st) d w1 w2 w5 w6 hy (len_par hpar rfl) rfl hsz hk hn E nf (K.pays (C.wrd w4) (C.wrd w3) C.2.2.2.2.2.2.2.2 hf hl) (Nat.le_refl _) (fun v h' q => by obtain ⟨v, rfl, q⟩ := q; exact g v h' q)
theorem Cxt.s4V (C : Cxt p m meth c Z a0 EL own mn bytes ml ret Ws) {idx : Nat} {y : MethodName} {yb : ByteArray} {yl : Nat} {yr : Option FieldType} {rm : Room} {F' : List Addr} {x1 x2 x3 x4 : Value} {Qc : Heap → Prop} {nwc : Bool} (d : Dec bytes pc (.invokestatic idx) 3 nx) (w1 : Jvm.Cond.methodLink own idx y ∈ Ws) (w2 : Jvm.Cond.static y ∈ Ws) (w3 : Jvm.Cond.initialized y.cls ∈ Ws) (w4 : Jvm.Cond.code y yb yl yr ∈ Ws) (hy : y.cls ≠ "java/lang/invoke/MethodHandle" ∧ y.cls ≠ "java/lang/invoke/VarHandle") (hpar : (parseMethodDescriptor y.desc).map (fun sg => sg.parameters.length) = some 4) (hsz : Ls.size = ml) (hF : ∀ x ∈ F', x ∈ F ∨ (w ≤ x ∧ x < h.size))
    (K : Con l Z EL nwc y yb yl yr rm F' #[x1, x2, x3, x4] h (rV Qc)) (hf : rm.frames + 1 ≤ R.frames) (hl : (st.map fun v => v.category).sum + (yl + 11) + rm.locals ≤ R.locals) (hk : k + rm.cells ≤ R.cells) (hn : n + rm.slots ≤ R.slots) (g : ∀ h', Qc h' → Goes p l e R s m args below meth c Z EL nw Q F (wm nwc w h') h' (k + rm.cells) (n + rm.slots) (mkF m nx Ls st)) (hnw : nw = true → nwc = true := by first | exact id | exact fun _ => rfl) : Goes p l e R s m args below meth c Z EL nw Q F w h k n (mkF m pc Ls (x4 :: x3 :: x2 :: x1 :: st)) :=
  C.static hnw hF (argsL := [x1, x2, x3, x4]) (rest := st) d w1 w2 w3 w4 hy (len_par hpar rfl) rfl hsz hk hn (K.pays (C.wrd w4) (C.wrd w3) C.2.2.2.2.2.2.2.2 hf hl) (Nat.le_refl _) (fun v h' q => by obtain ⟨rfl, q⟩ := q; exact g h' q)
theorem Cxt.c4 (C : Cxt p m meth c Z a0 EL own mn bytes ml ret Ws) {idx : Nat} {y : MethodName} {yb : ByteArray} {yl : Nat} {rm : Room} {F' : List Addr} {a : Addr} {x1 x2 x3 x4 : Value} {Qc : Heap → Prop} {nwc : Bool} (d : Dec bytes pc (.invokespecial idx) 3 nx) (hy1 : y.name = "<init>") (w1 : Jvm.Cond.methodLink own idx y ∈ Ws) (w2 : Jvm.Cond.instanceMethod y ∈ Ws) (w3 : Jvm.Cond.initialized y.cls ∈ Ws) (w4 : Jvm.Cond.code y yb yl none ∈ Ws) (hy : y.cls ≠ "java/lang/invoke/MethodHandle" ∧ y.cls ≠ "java/lang/invoke/VarHandle") (hpar : (parseMethodDescriptor y.desc).map (fun sg => sg.parameters.length) = some 4) (hsz : Ls.size = ml) (hF : ∀ x ∈ F', x ∈ F ∨ (w ≤ x ∧ x < h.size))
    (K : Con l Z EL nwc y yb yl none rm F' #[.ref a, x1, x2, x3, x4] h (rV Qc)) (hf : rm.frames + 1 ≤ R.frames) (hl : (st.map fun v => v.category).sum + (yl + 11) + rm.locals ≤ R.locals) (hk : k + rm.cells ≤ R.cells) (hn : n + rm.slots ≤ R.slots) (g : ∀ h', Qc h' → Goes p l e R s m args below meth c Z EL nw Q F (wm nwc w h') h' (k + rm.cells) (n + rm.slots) (mkF m nx Ls st)) (hnw : nw = true → nwc = true := by first | exact id | exact fun _ => rfl) : Goes p l e R s m args below meth c Z EL nw Q F w h k n (mkF m pc Ls (x4 :: x3 :: x2 :: x1 :: .ref a :: st)) :=
  C.special hnw hF (argsL := [x1, x2, x3, x4]) (rest := st) d hy1 w1 w2 w4 hy (len_par hpar rfl) rfl hsz hk hn (K.pays (C.wrd w4) (C.wrd w3) C.2.2.2.2.2.2.2.2 hf hl) (Nat.le_refl _) (fun v h' q => by obtain ⟨rfl, q⟩ := q; exact g h' q)
theorem Cxt.v4V (C : Cxt p m meth c Z a0 EL own mn bytes ml ret Ws) {idx : Nat} {y z : MethodName} {yb : ByteArray} {yl : Nat} {yr : Option FieldType} {rm : Room} {F' : List Addr} {cls : String} {a : Addr} {x1 x2 x3 x4 : Value} {Qc : Heap → Prop} {nwc : Bool} (d : Dec bytes pc (.invokevirtual idx) 3 nx) (w1 : Jvm.Cond.methodLink own idx y ∈ Ws) (w2 : Jvm.Cond.declares y ∈ Ws) (w5 : Jvm.Cond.selects cls y z ∈ Ws) (w6 : Jvm.Cond.instanceMethod z ∈ Ws) (w3 : Jvm.Cond.initialized z.cls ∈ Ws) (w4 : Jvm.Cond.code z yb yl yr ∈ Ws) (hy : y.cls ≠ "java/lang/invoke/MethodHandle" ∧ y.cls ≠ "java/lang/invoke/VarHandle") (hpar : (parseMethodDescriptor y.desc).map (fun sg => sg.parameters.length) = some 4) (hsz : Ls.size = ml) (hF : ∀ x ∈ F', x ∈ F ∨ (w ≤ x ∧ x < h.size)) (E : Exa Z h a cls)
    (nf : ∀ vm0 : Vm, (Jvm.Cond.selects cls y z).before args (s.setVm vm0) = true → NotFace (s.setVm vm0) y)
    (K : Con l Z EL nwc z yb yl yr rm F' #[.ref a, x1, x2, x3, x4] h (rV Qc)) (hf : rm.frames + 1 ≤ R.frames) (hl : (st.map fun v => v.category).sum + (yl + 11) + rm.locals ≤ R.locals) (hk : k + rm.cells ≤ R.cells) (hn : n + rm.slots ≤ R.slots) (g : ∀ h', Qc h' → Goes p l e R s m args below meth c Z EL nw Q F (wm nwc w h') h' (k + rm.cells) (n + rm.slots) (mkF m nx Ls st)) (hnw : nw = true → nwc = true := by first | exact id | exact fun _ => rfl) : Goes p l e R s m args below meth c Z EL nw Q F w h k n (mkF m pc Ls (x4 :: x3 :: x2 :: x1 :: .ref a :: st)) :=
  C.virtual hnw hF (argsL := [x1, x2, x3, x4]) (rest := st) d w1 w2 w5 w6 hy (len_par hpar rfl) rfl hsz hk hn E nf (K.pays (C.wrd w4) (C.wrd w3) C.2.2.2.2.2.2.2.2 hf hl) (Nat.le_refl _) (fun v h' q => by obtain ⟨rfl, q⟩ := q; exact g h' q)
theorem Cxt.s4R (C : Cxt p m meth c Z a0 EL own mn bytes ml ret Ws) {idx : Nat} {y : MethodName} {yb : ByteArray} {yl : Nat} {yr : Option FieldType} {rm : Room} {F' : List Addr} {x1 x2 x3 x4 : Value} {Qc : Value → Heap → Prop} {nwc : Bool} (d : Dec bytes pc (.invokestatic idx) 3 nx) (w1 : Jvm.Cond.methodLink own idx y ∈ Ws) (w2 : Jvm.Cond.static y ∈ Ws) (w3 : Jvm.Cond.initialized y.cls ∈ Ws) (w4 : Jvm.Cond.code y yb yl yr ∈ Ws) (hy : y.cls ≠ "java/lang/invoke/MethodHandle" ∧ y.cls ≠ "java/lang/invoke/VarHandle") (hpar : (parseMethodDescriptor y.desc).map (fun sg => sg.parameters.length) = some 4) (hsz : Ls.size = ml) (hF : ∀ x ∈ F', x ∈ F ∨ (w ≤ x ∧ x < h.size))
    (K : Con l Z EL nwc y yb yl yr rm F' #[x1, x2, x3, x4] h (rR Qc)) (hf : rm.frames + 1 ≤ R.frames) (hl : (st.map fun v => v.category).sum + (yl + 11) + rm.locals ≤ R.locals) (hk : k + rm.cells ≤ R.cells) (hn : n + rm.slots ≤ R.slots) (g : ∀ v h', Qc v h' → Goes p l e R s m args below meth c Z EL nw Q F (wm nwc w h') h' (k + rm.cells) (n + rm.slots) (mkF m nx Ls (v :: st))) (hnw : nw = true → nwc = true := by first | exact id | exact fun _ => rfl) : Goes p l e R s m args below meth c Z EL nw Q F w h k n (mkF m pc Ls (x4 :: x3 :: x2 :: x1 :: st)) :=
  C.static hnw hF (argsL := [x1, x2, x3, x4]) (rest := st) d w1 w2 w3 w4 hy (len_par hpar rfl) rfl hsz hk hn (K.pays (C.wrd w4) (C.wrd w3) C.2.2.2.2.2.2.2.2 hf hl) (Nat.le_refl _) (fun v h' q => by obtain ⟨v, rfl, q⟩ := q; exact g v h' q)
theorem Cxt.v4R (C : Cxt p m meth c Z a0 EL own mn bytes ml ret Ws) {idx : Nat} {y z : MethodName} {yb : ByteArray} {yl : Nat} {yr : Option FieldType} {rm : Room} {F' : List Addr} {cls : String} {a : Addr} {x1 x2 x3 x4 : Value} {Qc : Value → Heap → Prop} {nwc : Bool} (d : Dec bytes pc (.invokevirtual idx) 3 nx) (w1 : Jvm.Cond.methodLink own idx y ∈ Ws) (w2 : Jvm.Cond.declares y ∈ Ws) (w5 : Jvm.Cond.selects cls y z ∈ Ws) (w6 : Jvm.Cond.instanceMethod z ∈ Ws) (w3 : Jvm.Cond.initialized z.cls ∈ Ws) (w4 : Jvm.Cond.code z yb yl yr ∈ Ws) (hy : y.cls ≠ "java/lang/invoke/MethodHandle" ∧ y.cls ≠ "java/lang/invoke/VarHandle") (hpar : (parseMethodDescriptor y.desc).map (fun sg => sg.parameters.length) = some 4) (hsz : Ls.size = ml) (hF : ∀ x ∈ F', x ∈ F ∨ (w ≤ x ∧ x < h.size)) (E : Exa Z h a cls)
    (nf : ∀ vm0 : Vm, (Jvm.Cond.selects cls y z).before args (s.setVm vm0) = true → NotFace (s.setVm vm0) y)
    (K : Con l Z EL nwc z yb yl yr rm F' #[.ref a, x1, x2, x3, x4] h (rR Qc)) (hf : rm.frames + 1 ≤ R.frames) (hl : (st.map fun v => v.category).sum + (yl + 11) + rm.locals ≤ R.locals) (hk : k + rm.cells ≤ R.cells) (hn : n + rm.slots ≤ R.slots) (g : ∀ v h', Qc v h' → Goes p l e R s m args below meth c Z EL nw Q F (wm nwc w h') h' (k + rm.cells) (n + rm.slots) (mkF m nx Ls (v :: st))) (hnw : nw = true → nwc = true := by first | exact id | exact fun _ => rfl) : Goes p l e R s m args below meth c Z EL nw Q F w h k n (mkF m pc Ls (x4 :: x3 :: x2 :: x1 :: .ref a :: st)) :=
  C.virtual hnw hF (argsL := [x1, x2, x3, x4]) (rest := st) d w1 w2 w5 w6 hy (len_par hpar rfl) rfl hsz hk hn E nf (K.pays (C.wrd w4) (C.wrd w3) C.2.2.2.2.2.2.2.2 hf hl) (Nat.le_refl _) (fun v h' q => by obtain ⟨v, rfl, q⟩ := q; exact g v h' q)
theorem Cxt.s5V (C : Cxt p m meth c Z a0 EL own mn bytes ml ret Ws) {idx : Nat} {y : MethodName} {yb : ByteArray} {yl : Nat} {yr : Option FieldType} {rm : Room} {F' : List Addr} {x1 x2 x3 x4 x5 : Value} {Qc : Heap → Prop} {nwc : Bool} (d : Dec bytes pc (.invokestatic idx) 3 nx) (w1 : Jvm.Cond.methodLink own idx y ∈ Ws) (w2 : Jvm.Cond.static y ∈ Ws) (w3 : Jvm.Cond.initialized y.cls ∈ Ws) (w4 : Jvm.Cond.code y yb yl yr ∈ Ws) (hy : y.cls ≠ "java/lang/invoke/MethodHandle" ∧ y.cls ≠ "java/lang/invoke/VarHandle") (hpar : (parseMethodDescriptor y.desc).map (fun sg => sg.parameters.length) = some 5) (hsz : Ls.size = ml) (hF : ∀ x ∈ F', x ∈ F ∨ (w ≤ x ∧ x < h.size))
    (K : Con l Z EL nwc y yb yl yr rm F' #[x1, x2, x3, x4, x5] h (rV Qc)) (hf : rm.frames + 1 ≤ R.frames) (hl : (st.map fun v => v.category).sum + (yl + 11) + rm.locals ≤ R.locals) (hk : k + rm.cells ≤ R.cells) (hn : n + rm.slots ≤ R.slots) (g : ∀ h', Qc h' → Goes p l e R s m args below meth c Z EL nw Q F (wm nwc w h') h' (k + rm.cells) (n + rm.slots) (mkF m nx Ls st)) (hnw : nw = true → nwc = true := by first | exact id | exact fun _ => rfl) : Goes p l e R s m args below meth c Z EL nw Q F w h k n (mkF m pc Ls (x5 :: x4 :: x3 :: x2 :: x1 :: st)) :=
  C.static hnw hF (argsL := [x1, x2, x3, x4, x5]) (rest := st) d w1 w2 w3 w4 hy (len_par hpar rfl) rfl hsz hk hn (K.pays (C.wrd w4) (C.wrd w3) C.2.2.2.2.2.2.2.2 hf hl) (Nat.le_refl _) (fun v h' q => by obtain ⟨rfl, q⟩ := q; exact g h' q)
theorem Cxt.c5 (C : Cxt p m meth c Z a0 EL own mn bytes ml ret Ws) {idx : Nat} {y : MethodName} {yb : ByteArray} {yl : Nat} {rm : Room} {F' : List Addr} {a : Addr} {x1 x2 x3 x4 x5 : Value} {Qc : Heap → Prop} {nwc : Bool} (d : Dec bytes pc (.invokespecial idx) 3 nx) (hy1 : y.name = "<init>") (w1 : Jvm.Cond.methodLink own idx y ∈ Ws) (w2 : Jvm.Cond.instanceMethod y ∈ Ws) (w3 : Jvm.Cond.initialized y.cls ∈ Ws) (w4 : Jvm.Cond.code y yb yl none ∈ Ws) (hy : y.cls ≠ "java/lang/invoke/MethodHandle" ∧ y.cls ≠ "java/lang/invoke/VarHandle") (hpar : (parseMethodDescriptor y.desc).map (fun sg => sg.parameters.length) = some 5) (hsz : Ls.size = ml) (hF : ∀ x ∈ F', x ∈ F ∨ (w ≤ x ∧ x < h.size))
    (K : Con l Z EL nwc y yb yl none rm F' #[.ref a, x1, x2, x3, x4, x5] h (rV Qc)) (hf : rm.frames + 1 ≤ R.frames) (hl : (st.map fun v => v.category).sum + (yl + 11) + rm.locals ≤ R.locals) (hk : k + rm.cells ≤ R.cells) (hn : n + rm.slots ≤ R.slots) (g : ∀ h', Qc h' → Goes p l e R s m args below meth c Z EL nw Q F (wm nwc w h') h' (k + rm.cells) (n + rm.slots) (mkF m nx Ls st)) (hnw : nw = true → nwc = true := by first | exact id | exact fun _ => rfl) : Goes p l e R s m args below meth c Z EL nw Q F w h k n (mkF m pc Ls (x5 :: x4 :: x3 :: x2 :: x1 :: .ref a :: st)) :=
  C.special hnw hF (argsL := [x1, x2, x3, x4, x5]) (rest := st) d hy1 w1 w2 w4 hy (len_par hpar rfl) rfl hsz hk hn (K.pays (C.wrd w4) (C.wrd w3) C.2.2.2.2.2.2.2.2 hf hl) (Nat.le_refl _) (fun v h' q => by obtain ⟨rfl, q⟩ := q; exact g h' q)
theorem Cxt.s5R (C : Cxt p m meth c Z a0 EL own mn bytes ml ret Ws) {idx : Nat} {y : MethodName} {yb : ByteArray} {yl : Nat} {yr : Option FieldType} {rm : Room} {F' : List Addr} {x1 x2 x3 x4 x5 : Value} {Qc : Value → Heap → Prop} {nwc : Bool} (d : Dec bytes pc (.invokestatic idx) 3 nx) (w1 : Jvm.Cond.methodLink own idx y ∈ Ws) (w2 : Jvm.Cond.static y ∈ Ws) (w3 : Jvm.Cond.initialized y.cls ∈ Ws) (w4 : Jvm.Cond.code y yb yl yr ∈ Ws) (hy : y.cls ≠ "java/lang/invoke/MethodHandle" ∧ y.cls ≠ "java/lang/invoke/VarHandle") (hpar : (parseMethodDescriptor y.desc).map (fun sg => sg.parameters.length) = some 5) (hsz : Ls.size = ml) (hF : ∀ x ∈ F', x ∈ F ∨ (w ≤ x ∧ x < h.size))
    (K : Con l Z EL nwc y yb yl yr rm F' #[x1, x2, x3, x4, x5] h (rR Qc)) (hf : rm.frames + 1 ≤ R.frames) (hl : (st.map fun v => v.category).sum + (yl + 11) + rm.locals ≤ R.locals) (hk : k + rm.cells ≤ R.cells) (hn : n + rm.slots ≤ R.slots) (g : ∀ v h', Qc v h' → Goes p l e R s m args below meth c Z EL nw Q F (wm nwc w h') h' (k + rm.cells) (n + rm.slots) (mkF m nx Ls (v :: st))) (hnw : nw = true → nwc = true := by first | exact id | exact fun _ => rfl) : Goes p l e R s m args below meth c Z EL nw Q F w h k n (mkF m pc Ls (x5 :: x4 :: x3 :: x2 :: x1 :: st)) :=
  C.static hnw hF (argsL := [x1, x2, x3, x4, x5]) (rest := st) d w1 w2 w3 w4 hy (len_par hpar rfl) rfl hsz hk hn (K.pays (C.wrd w4) (C.wrd w3) C.2.2.2.2.2.2.2.2 hf hl) (Nat.le_refl _) (fun v h' q => by obtain ⟨v, rfl, q⟩ := q; exact g v h' q)
theorem Cxt.s6V (C : Cxt p m meth c Z a0 EL own mn bytes ml ret Ws) {idx : Nat} {y : MethodName} {yb : ByteArray} {yl : Nat} {yr : Option FieldType} {rm : Room} {F' : List Addr} {x1 x2 x3 x4 x5 x6 : Value} {Qc : Heap → Prop} {nwc : Bool} (d : Dec bytes pc (.invokestatic idx) 3 nx) (w1 : Jvm.Cond.methodLink own idx y ∈ Ws) (w2 : Jvm.Cond.static y ∈ Ws) (w3 : Jvm.Cond.initialized y.cls ∈ Ws) (w4 : Jvm.Cond.code y yb yl yr ∈ Ws) (hy : y.cls ≠ "java/lang/invoke/MethodHandle" ∧ y.cls ≠ "java/lang/invoke/VarHandle") (hpar : (parseMethodDescriptor y.desc).map (fun sg => sg.parameters.length) = some 6) (hsz : Ls.size = ml) (hF : ∀ x ∈ F', x ∈ F ∨ (w ≤ x ∧ x < h.size))
    (K : Con l Z EL nwc y yb yl yr rm F' #[x1, x2, x3, x4, x5, x6] h (rV Qc)) (hf : rm.frames + 1 ≤ R.frames) (hl : (st.map fun v => v.category).sum + (yl + 11) + rm.locals ≤ R.locals) (hk : k + rm.cells ≤ R.cells) (hn : n + rm.slots ≤ R.slots) (g : ∀ h', Qc h' → Goes p l e R s m args below meth c Z EL nw Q F (wm nwc w h') h' (k + rm.cells) (n + rm.slots) (mkF m nx Ls st)) (hnw : nw = true → nwc = true := by first | exact id | exact fun _ => rfl) : Goes p l e R s m args below meth c Z EL nw Q F w h k n (mkF m pc Ls (x6 :: x5 :: x4 :: x3 :: x2 :: x1 :: st)) :=
  C.static hnw hF (argsL := [x1, x2, x3, x4, x5, x6]) (rest := st) d w1 w2 w3 w4 hy (len_par hpar rfl) rfl hsz hk hn (K.pays (C.wrd w4) (C.wrd w3) C.2.2.2.2.2.2.2.2 hf hl) (Nat.le_refl _) (fun v h' q => by obtain ⟨rfl, q⟩ := q; exact g h' q)
theorem Cxt.c6 (C : Cxt p m meth c Z a0 EL own mn bytes ml ret Ws) {idx : Nat} {y : MethodName} {yb : ByteArray} {yl : Nat} {rm : Room} {F' : List Addr} {a : Addr} {x1 x2 x3 x4 x5 x6 : Value} {Qc : Heap → Prop} {nwc : Bool} (d : Dec bytes pc (.invokespecial idx) 3 nx) (hy1 : y.name = "<init>") (w1 : Jvm.Cond.methodLink own idx y ∈ Ws) (w2 : Jvm.Cond.instanceMethod y ∈ Ws) (w3 : Jvm.Cond.initialized y.cls ∈ Ws) (w4 : Jvm.Cond.code y yb yl none ∈ Ws) (hy : y.cls ≠ "java/lang/invoke/MethodHandle" ∧ y.cls ≠ "java/lang/invoke/VarHandle") (hpar : (parseMethodDescriptor y.desc).map (fun sg => sg.parameters.length) = some 6) (hsz : Ls.size = ml) (hF : ∀ x ∈ F', x ∈ F ∨ (w ≤ x ∧ x < h.size))
    (K : Con l Z EL nwc y yb yl none rm F' #[.ref a, x1, x2, x3, x4, x5, x6] h (rV Qc)) (hf : rm.frames + 1 ≤ R.frames) (hl : (st.map fun v => v.category).sum + (yl + 11) + rm.locals ≤ R.locals) (hk : k + rm.cells ≤ R.cells) (hn : n + rm.slots ≤ R.slots) (g : ∀ h', Qc h' → Goes p l e R s m args below meth c Z EL nw Q F (wm nwc w h') h' (k + rm.cells) (n + rm.slots) (mkF m nx Ls st)) (hnw : nw = true → nwc = true := by first | exact id | exact fun _ => rfl) : Goes p l e R s m args below meth c Z EL nw Q F w h k n (mkF m pc Ls (x6 :: x5 :: x4 :: x3 :: x2 :: x1 :: .ref a :: st)) :=
  C.special hnw hF (argsL := [x1, x2, x3, x4, x5, x6]) (rest := st) d hy1 w1 w2 w4 hy (len_par hpar rfl) rfl hsz hk hn (K.pays (C.wrd w4) (C.wrd w3) C.2.2.2.2.2.2.2.2 hf hl) (Nat.le_refl _) (fun v h' q => by obtain ⟨rfl, q⟩ := q; exact g h' q)
theorem Cxt.s6R (C : Cxt p m meth c Z a0 EL own mn bytes ml ret Ws) {idx : Nat} {y : MethodName} {yb : ByteArray} {yl : Nat} {yr : Option FieldType} {rm : Room} {F' : List Addr} {x1 x2 x3 x4 x5 x6 : Value} {Qc : Value → Heap → Prop} {nwc : Bool} (d : Dec bytes pc (.invokestatic idx) 3 nx) (w1 : Jvm.Cond.methodLink own idx y ∈ Ws) (w2 : Jvm.Cond.static y ∈ Ws) (w3 : Jvm.Cond.initialized y.cls ∈ Ws) (w4 : Jvm.Cond.code y yb yl yr ∈ Ws) (hy : y.cls ≠ "java/lang/invoke/MethodHandle" ∧ y.cls ≠ "java/lang/invoke/VarHandle") (hpar : (parseMethodDescriptor y.desc).map (fun sg => sg.parameters.length) = some 6) (hsz : Ls.size = ml) (hF : ∀ x ∈ F', x ∈ F ∨ (w ≤ x ∧ x < h.size))
    (K : Con l Z EL nwc y yb yl yr rm F' #[x1, x2, x3, x4, x5, x6] h (rR Qc)) (hf : rm.frames + 1 ≤ R.frames) (hl : (st.map fun v => v.category).sum + (yl + 11) + rm.locals ≤ R.locals) (hk : k + rm.cells ≤ R.cells) (hn : n + rm.slots ≤ R.slots) (g : ∀ v h', Qc v h' → Goes p l e R s m args below meth c Z EL nw Q F (wm nwc w h') h' (k + rm.cells) (n + rm.slots) (mkF m nx Ls (v :: st))) (hnw : nw = true → nwc = true := by first | exact id | exact fun _ => rfl) : Goes p l e R s m args below meth c Z EL nw Q F w h k n (mkF m pc Ls (x6 :: x5 :: x4 :: x3 :: x2 :: x1 :: st)) :=
  C.static hnw hF (argsL := [x1, x2, x3, x4, x5, x6]) (rest := st) d w1 w2 w3 w4 hy (len_par hpar rfl) rfl hsz hk hn (K.pays (C.wrd w4) (C.wrd w3) C.2.2.2.2.2.2.2.2 hf hl) (Nat.le_refl _) (fun v h' q => by obtain ⟨v, rfl, q⟩ := q; exact g v h' q)
theorem Cxt.ldcInt (C : Cxt p m meth c Z a0 EL own mn bytes ml ret Ws) {idx : Nat} {v : Int32} (d : Dec bytes pc (.ldc idx) 2 nx) (ww : Jvm.Cond.constant own idx v ∈ Ws) (g : Goes p l e R s m args below meth c Z EL nw Q F w h k n (mkF m nx Ls (.int v :: st))) : Goes p l e R s m args below meth c Z EL nw Q F w h k n (mkF m pc Ls st) := by
  obtain ⟨d1, rfl⟩ := d
  intro T vm0 locs k0 H
  obtain ⟨t, v', L, h1, r⟩ := g T vm0 locs k0 H
  exact ⟨t, v', L, H.1.ldcInt C.1 (C.own_at H.2.2.2.2.2.1) (mv H.2.2.2.2.2.1 (C.wrd ww)) (g := mkF m pc Ls st) rfl (hb C.2.1 d1) _ h1, r⟩
theorem Cxt.ldc2Long (C : Cxt p m meth c Z a0 EL own mn bytes ml ret Ws) {idx : Nat} {v : Int64} (d : Dec bytes pc (.ldc2_w idx) 3 nx) (ww : Jvm.Cond.constantLong own idx v ∈ Ws) (g : Goes p l e R s m args below meth c Z EL nw Q F w h k n (mkF m nx Ls (.long v :: st))) : Goes p l e R s m args below meth c Z EL nw Q F w h k n (mkF m pc Ls st) := by
  obtain ⟨d1, rfl⟩ := d
  intro T vm0 locs k0 H
  obtain ⟨t, v', L, h1, r⟩ := g T vm0 locs k0 H
  exact ⟨t, v', L, H.1.ldc2Long C.1 (C.own_at H.2.2.2.2.2.1) (mv H.2.2.2.2.2.1 (C.wrd ww)) (g := mkF m pc Ls st) rfl (hb C.2.1 d1) _ h1, r⟩
theorem Cxt.checkcast (C : Cxt p m meth c Z a0 EL own mn bytes ml ret Ws) {idx : Nat} {K : String} {a : Addr} (d : Dec bytes pc (.checkcast idx) 3 nx) (ww : Jvm.Cond.classLink own idx K ∈ Ws) (I : Ins Z h a K true) (g : Goes p l e R s m args below meth c Z EL nw Q F w h k n (mkF m nx Ls (.ref a :: st))) : Goes p l e R s m args below meth c Z EL nw Q F w h k n (mkF m pc Ls (.ref a :: st)) := by
  obtain ⟨d1, rfl⟩ := d
  intro T vm0 locs k0 H
  obtain ⟨T', X', e', st'⟩ := castY H.1 C.1 H.2.2.2.2.2.1 (C.own_at H.2.2.2.2.2.1) (C.wrd ww) H.2.1 I (g := mkF m pc Ls (.ref a :: st)) rfl rfl (hb C.2.1 d1)
  obtain ⟨t, v, L, h1, r⟩ := g T' vm0 locs k0 (H.step X' e' H.2.2.1 (Keep.refl _ []) (fun x hx => nomatch hx))
  exact ⟨t, v, L, st' _ h1, r⟩
theorem Cxt.checkcastNull (C : Cxt p m meth c Z a0 EL own mn bytes ml ret Ws) {idx : Nat} (d : Dec bytes pc (.checkcast idx) 3 nx) (g : Goes p l e R s m args below meth c Z EL nw Q F w h k n (mkF m nx Ls (.null :: st))) : Goes p l e R s m args below meth c Z EL nw Q F w h k n (mkF m pc Ls (.null :: st)) := by
  obtain ⟨d1, rfl⟩ := d
  intro T vm0 locs k0 H
  obtain ⟨t, v', L, h1, r⟩ := g T vm0 locs k0 H
  exact ⟨t, v', L, H.1.checkcastNull C.1 (g := mkF m pc Ls (.null :: st)) rfl rfl (hb C.2.1 d1) _ h1, r⟩
theorem Cxt.instY (C : Cxt p m meth c Z a0 EL own mn bytes ml ret Ws) {idx : Nat} {K : String} {a : Addr} (d : Dec bytes pc (.instanceof idx) 3 nx) (ww : Jvm.Cond.classLink own idx K ∈ Ws) (I : Ins Z h a K true) (g : Goes p l e R s m args below meth c Z EL nw Q F w h k n (mkF m nx Ls (.int 1 :: st))) : Goes p l e R s m args below meth c Z EL nw Q F w h k n (mkF m pc Ls (.ref a :: st)) := by
  obtain ⟨d1, rfl⟩ := d
  intro T vm0 locs k0 H
  obtain ⟨T', X', e', st'⟩ := instY H.1 C.1 H.2.2.2.2.2.1 (C.own_at H.2.2.2.2.2.1) (C.wrd ww) H.2.1 I (g := mkF m pc Ls (.ref a :: st)) rfl rfl (hb C.2.1 d1)
  obtain ⟨t, v, L, h1, r⟩ := g T' vm0 locs k0 (H.step X' e' H.2.2.1 (Keep.refl _ []) (fun x hx => nomatch hx))
  exact ⟨t, v, L, st' _ h1, r⟩
theorem Cxt.instN (C : Cxt p m meth c Z a0 EL own mn bytes ml ret Ws) {idx : Nat} {K cls : String} {a : Addr} (d : Dec bytes pc (.instanceof idx) 3 nx) (ww : Jvm.Cond.classLink own idx K ∈ Ws) (I : Ins Z s.heap a K false) (E : Exa Z s.heap a cls) (g : Goes p l e R s m args below meth c Z EL nw Q F w h k n (mkF m nx Ls (.int 0 :: st))) : Goes p l e R s m args below meth c Z EL nw Q F w h k n (mkF m pc Ls (.ref a :: st)) := by
  obtain ⟨d1, rfl⟩ := d
  intro T vm0 locs k0 H
  obtain ⟨T', X', e', st'⟩ := instN (s := s.setVm vm0) H.1 C.1 H.2.2.2.2.2.1 (C.own_at H.2.2.2.2.2.1) (C.wrd ww) H.2.1 I E (g := mkF m pc Ls (.ref a :: st)) rfl rfl (hb C.2.1 d1)
  obtain ⟨t, v, L, h1, r⟩ := g T' vm0 locs k0 (H.step X' e' H.2.2.1 (Keep.refl _ []) (fun x hx => nomatch hx))
  exact ⟨t, v, L, st' _ h1, r⟩
theorem Cxt.instNo (C : Cxt p m meth c Z a0 EL own mn bytes ml ret Ws) {idx : Nat} {K cls : String} {a : Addr} (d : Dec bytes pc (.instanceof idx) 3 nx) (ww : Jvm.Cond.classLink own idx K ∈ Ws) (E : Exa Z h a cls) (I : ∃ c t, Z.vm.findClass cls = some c ∧ Z.vm.findClass K = some t ∧ Z.vm.assignable c t = false) (g : Goes p l e R s m args below meth c Z EL nw Q F w h k n (mkF m nx Ls (.int 0 :: st))) : Goes p l e R s m args below meth c Z EL nw Q F w h k n (mkF m pc Ls (.ref a :: st)) := by
  obtain ⟨d1, rfl⟩ := d
  intro T vm0 locs k0 H
  obtain ⟨T', X', e', st'⟩ := instNo H.1 C.1 H.2.2.2.2.2.1 (C.own_at H.2.2.2.2.2.1) (C.wrd ww) H.2.1 E I (g := mkF m pc Ls (.ref a :: st)) rfl rfl (hb C.2.1 d1)
  obtain ⟨t, v, L, h1, r⟩ := g T' vm0 locs k0 (H.step X' e' H.2.2.1 (Keep.refl _ []) (fun x hx => nomatch hx))
  exact ⟨t, v, L, st' _ h1, r⟩
theorem Cxt.instNull (C : Cxt p m meth c Z a0 EL own mn bytes ml ret Ws) {idx : Nat} (d : Dec bytes pc (.instanceof idx) 3 nx) (g : Goes p l e R s m args below meth c Z EL nw Q F w h k n (mkF m nx Ls (.int 0 :: st))) : Goes p l e R s m args below meth c Z EL nw Q F w h k n (mkF m pc Ls (.null :: st)) := by
  obtain ⟨d1, rfl⟩ := d
  intro T vm0 locs k0 H
  obtain ⟨t, v', L, h1, r⟩ := g T vm0 locs k0 H
  exact ⟨t, v', L, H.1.instanceofNull C.1 (g := mkF m pc Ls (.null :: st)) rfl rfl (hb C.2.1 d1) _ h1, r⟩
/-- a String constant, its text unread -/
theorem Cxt.ldcO (C : Cxt p m meth c Z a0 EL own mn bytes ml ret Ws) {idx : Nat} {text : String} (q : Nat) (d : Dec bytes pc (.ldc idx) 2 nx) (hnw : nw = false) (ww : Jvm.Cond.stringLink own idx text ∈ Ws) (wS : ∀ a ∈ Bundle.stringAtoms, a.before a0 Z = true) (hq : 4 * text.toList.length ≤ q) (hq2 : q ≤ 536870912) (hk : k + 2 ≤ R.cells) (hn : n + (q + 4) ≤ R.slots)
    (g : ∀ h' a, Ext h h' → Goes p l e R s m args below meth c Z EL nw Q F h'.size h' (k + 2) (n + (q + 4)) (mkF m nx Ls (.ref a :: st))) : Goes p l e R s m args below meth c Z EL nw Q F w h k n (mkF m pc Ls st) := by
  obtain ⟨d1, rfl⟩ := d
  intro T vm0 locs k0 H
  obtain ⟨X, eT, N, S, hk0, hZ, H1, hw, hF, O, hwm, hbk⟩ := id H
  obtain ⟨a, T', h', k1, X', e', E, S', hk1, hW, hf, hC, hL, st'⟩ := ldcOH X C.1 hZ (C.own_at (s := s) hZ) (C.wrd ww) wS eT S hk0 C.2.2.2.2.2.2.2.2 H1.1 (g := mkF m pc Ls st) rfl (hb C.2.1 d1) hq hq2 hk hn
  obtain ⟨t, v, L, h1, r⟩ := g h' a E T' T'.vm locs k1 ⟨X', e', N, S', hk1, hW, H1.trans hC, fun q => (by rw [hnw] at q; cases q), fun x hx => ⟨Nat.lt_of_lt_of_le (hF x hx).1 E.1, hC.safe (hF x hx).1 (hF x hx).2⟩, ext_trans O E, fun x hx => Safe.new hx, fun q => (by rw [hnw] at q; cases q)⟩
  exact ⟨t, v, L, st' _ h1, r⟩
/-- a String constant of EL, its text read -/
theorem Cxt.ldcS (C : Cxt p m meth c Z a0 EL own mn bytes ml ret Ws) {idx : Nat} {text : String} {vs : List Value} (q : Nat) (d : Dec bytes pc (.ldc idx) 2 nx) (hnw : nw = false) (ww : Jvm.Cond.stringLink own idx text ∈ Ws) (wS : ∀ a ∈ Bundle.stringAtoms, a.before a0 Z = true) (hmem : (own, idx) ∈ EL) (ht : (∀ c ∈ text.toList, c.toNat < 256) ∧ text.toList.map (fun c => Value.int (Jvm.Lit.byteI c.toNat.toUInt16)) = vs) (hlt : vs.length < 1000000)
    (hq : 4 * text.toList.length ≤ q) (hq2 : q ≤ 536870912) (hk : k + 2 ≤ R.cells) (hn : n + (q + 4) ≤ R.slots)
    (g : ∀ h' a b, Ext h h' → Exa Z h' a "java/lang/String" → Fld Z h' a "java/lang/String" "coder" "B" (.int 0) → Fld Z h' a "java/lang/String" "value" "[B" (.ref b) → Arl Z h' b .byte vs → (∀ x ∈ F, x ≠ a ∧ x ≠ b) → Goes p l e R s m args below meth c Z EL nw Q F h'.size h' (k + 2) (n + (q + 4)) (mkF m nx Ls (.ref a :: st))) : Goes p l e R s m args below meth c Z EL nw Q F w h k n (mkF m pc Ls st) := by
  obtain ⟨d1, rfl⟩ := d
  intro T vm0 locs k0 H
  obtain ⟨X, eT, N, S, hk0, hZ, H1, hw, hF, O, hwm, hbk⟩ := id H
  have hz : ¬ (Int32.ofNat vs.length) < 0 ∧ (Int32.ofNat vs.length).toNatClampNeg = vs.length := ofNat_idx (by omega)
  obtain ⟨a, T', h', k1, b, kb, X', e', E, S', hk1, hW, hf, hE, hc, hv, hA, la, lb, hC, hL, hS, st'⟩ := ldcCH X C.1 hZ (C.own_at (s := s) hZ) (C.wrd ww) wS eT S hk0 C.2.2.2.2.2.2.2.2 hmem H1.1 ht hz.1 hz.2 (g := mkF m pc Ls st) rfl (hb C.2.1 d1) hq hq2 hk hn
  have hF' : ∀ x ∈ F, x < h'.size ∧ Safe Z EL T'.vm h' x := fun x hx => ⟨Nat.lt_of_lt_of_le (hF x hx).1 E.1, hC.safe (hF x hx).1 (hF x hx).2⟩
  obtain ⟨t, v, L, h1, r⟩ := g h' a b E hE hc hv (arl_of_arv hA hz.2 (by omega)) (fun x hx => hS x (hF' x hx).2) T' T'.vm locs k1 ⟨X', e', N, S', hk1, hW, H1.trans hC, fun q => (by rw [hnw] at q; cases q), hF', ext_trans O E, fun x hx => Safe.new hx, fun q => (by rw [hnw] at q; cases q)⟩
  exact ⟨t, v, L, st' _ h1, r⟩
end
end Jvm.OwnW
namespace Jvm.OwnW
open Sem ClassFile Op Lib Jvm.Stand Jvm.Free Jvm.LawKit Jvm.RoadKit Bundle
abbrev ST : String := "java/lang/String"
def IsC (x : Int32) : Prop := ¬ x < 0 ∧ ¬ (65535 : Int32) < x
def IsL (x : Int32) : Prop := ¬ x < 0 ∧ ¬ (255 : Int32) < x
theorem nlt {x y : Int32} : ¬ x < y ↔ y.toInt ≤ x.toInt := by rw [Int32.lt_iff_toInt_lt]; omega
theorem ilt {x y : Int32} : x < y ↔ x.toInt < y.toInt := Int32.lt_iff_toInt_lt
theorem isC_iff {x : Int32} : IsC x ↔ 0 ≤ x.toInt ∧ x.toInt ≤ 65535 := by
  unfold IsC; rw [nlt, nlt]; exact Iff.rfl
theorem isL_iff {x : Int32} : IsL x ↔ 0 ≤ x.toInt ∧ x.toInt ≤ 255 := by
  unfold IsL; rw [nlt, nlt]; exact Iff.rfl
theorem IsL.isC {x : Int32} (h : IsL x) : IsC x := by rw [isL_iff] at h; rw [isC_iff]; omega
theorem isC_c16 (x : Int32) : IsC (c16 x) := by
  rw [isC_iff]; have := c_i2c x; unfold c16; omega
theorem c16_of {x : Int32} (h : IsC x) : c16 x = x := by
  rw [isC_iff] at h
  have q := c_i2c x
  apply Int32.toInt_inj.mp
  unfold c16; omega
theorem nar_c16 (x : Int32) : nar .char x = c16 x := rfl
theorem nar_char {x : Int32} (h : IsC x) : nar .char x = x := (nar_c16 x).trans (c16_of h)
theorem nar_b8 (x : Int32) : nar .byte x = b8 x := rfl
theorem narrow_char {x : Int32} (h : IsC x) : narrow .char (.int x) = .int x := by
  show Value.int (nar .char x) = _; rw [nar_char h]
theorem b8_bounds (x : Int32) : -128 ≤ (b8 x).toInt ∧ (b8 x).toInt ≤ 127 := by
  have h := rng_byte (fits_nar_byte x)
  rw [nlt, nlt] at h
  exact h
theorem b8_mod (x : Int32) : ((b8 x).toInt - x.toInt) % 256 = 0 := by
  have e : (b8 x).toInt = x.toInt.bmod 256 := by
    unfold b8
    rw [Int8.toInt_toInt32, Int32.toInt_toInt8]
  rw [e, Int.bmod_def]
  split <;> omega
theorem b8_b8 (x : Int32) : b8 (b8 x) = b8 x := by
  apply Int32.toInt_inj.mp
  have h1 := b8_bounds x; have h2 := b8_bounds (b8 x); have h3 := b8_mod (b8 x)
  omega
theorem narrow_byte (x : Int32) : narrow .byte (.int (b8 x)) = .int (b8 x) := by
  show Value.int (nar .byte (b8 x)) = _; rw [nar_b8, b8_b8]
theorem ofNat_toInt {i : Nat} (h : i < 2 ^ 31) : (Int32.ofNat i).toInt = i := by
  rw [Int32.toInt_ofNat']
  simp only [Int.bmod_def]
  have z : (Int32.size : Int) = 4294967296 := rfl
  rw [z]
  omega
theorem ofNat_succ (i : Nat) : Int32.ofNat i + 1 = Int32.ofNat (i + 1) := (Int32.ofNat_add i 1).symm
theorem ofNat_lt {i j : Nat} (hi : i < 2 ^ 31) (hj : j < 2 ^ 31) : Int32.ofNat i < Int32.ofNat j ↔ i < j := by
  rw [ilt, ofNat_toInt hi, ofNat_toInt hj]; omega
theorem ofNat_inj {i j : Nat} (hi : i < 2 ^ 31) (hj : j < 2 ^ 31) (h : Int32.ofNat i = Int32.ofNat j) : i = j := by
  have := congrArg Int32.toInt h; rw [ofNat_toInt hi, ofNat_toInt hj] at this; omega
def lat (cs : List Int32) : List Value := cs.map fun c => .int (b8 c)
def wid (cs : List Int32) : List Value := cs.flatMap fun c => [.int (b8 c), .int (b8 (c >>> 8))]
def ints (cs : List Int32) : List Value := cs.map Value.int
/-- the bytes vs under the coder cd spell the chars cs -/
def Txt (cs : List Int32) (cd : Int32) (vs : List Value) : Prop := (cd = 0 ∧ vs = lat cs ∧ ∀ c ∈ cs, ¬ (255 : Int32) < c) ∨ (cd = 1 ∧ vs = wid cs ∧ ∃ c ∈ cs, (255 : Int32) < c)
/-- the String at a spells cs -/
def StrAt (Z : State) (h : Heap) (a : Addr) (cs : List Int32) : Prop :=
  ∃ t cd vs, Exa Z h a ST ∧ Fld Z h a ST "value" "[B" (.ref t) ∧ Fld Z h a ST "coder" "B" (.int cd) ∧ Arl Z h t .byte vs ∧ Txt cs cd vs ∧ (∀ c ∈ cs, IsC c) ∧ cs.length ≤ 4000
theorem StrAt.ext {Z : State} {h h' : Heap} {a : Addr} {cs : List Int32} (S : StrAt Z h a cs) (E : Ext h h') : StrAt Z h' a cs := by
  obtain ⟨t, cd, vs, h1, h2, h3, h4, r⟩ := S
  exact ⟨t, cd, vs, h1.ext E, h2.ext E, h3.ext E, h4.ext E, r⟩
theorem StrAt.lt {Z : State} {h : Heap} {a : Addr} {cs : List Int32} (S : StrAt Z h a cs) : a < h.size := by
  obtain ⟨t, cd, vs, h1, -⟩ := S; exact h1.lt
theorem StrAt.exa {Z : State} {h : Heap} {a : Addr} {cs : List Int32} (S : StrAt Z h a cs) : Exa Z h a ST := by
  obtain ⟨t, cd, vs, h1, -⟩ := S; exact h1
/-- over a call that writes one object that is no String -/
theorem StrAt.keep {Z : State} {h h' : Heap} {a o : Addr} {cs : List Int32} {cls : String} {a0 : Array Value} {kk : Nat} (S : StrAt Z h a cs) (K : Keep h h' [o]) (E : Exa Z h o cls) (hn : cls ≠ ST) (wi : (Jvm.Cond.instantiable cls kk).before a0 Z = true) : StrAt Z h' a cs := by
  obtain ⟨t, cd, vs, h1, h2, h3, h4, r⟩ := S
  have n1 : a ∉ [o] := by
    intro q; cases List.mem_singleton.mp q; exact ne_exa E h1 hn rfl
  have n2 : t ∉ [o] := by
    intro q; cases List.mem_singleton.mp q
    obtain ⟨cl, A, -⟩ := h4
    exact ne_arr E wi A rfl
  exact ⟨t, cd, vs, h1.keep K, h2.keep K n1, h3.keep K n1, h4.keep K n2, r⟩
theorem ext_of_keep {h0 h h' : Heap} {ws : List Addr} (E : Ext h0 h) (K : Keep h h' ws) (q : ∀ w ∈ ws, h0.size ≤ w) : Ext h0 h' :=
  ⟨Nat.le_trans E.1 K.1, fun a c r => K.2.1 a c (E.2 a c r) fun z => absurd (Array.getElem?_eq_some_iff.mp r).1 (Nat.not_lt.mpr (q a z))⟩
theorem ext_of_wr {h0 h h' : Heap} {a : Addr} {sl : Nat} {v : Value} (E : Ext h0 h) (W : Wr h h' a sl v) (q : h0.size ≤ a) : Ext h0 h' :=
  ext_of_keep E (Keep.of_wr W) fun w hw => by cases List.mem_singleton.mp hw; exact q
theorem wid_length (cs : List Int32) : (wid cs).length = 2 * cs.length := by
  unfold wid; induction cs with
  | nil => rfl
  | cons c r ih => simp only [List.flatMap_cons, List.length_append, ih, List.length_cons, List.length_nil]; omega
theorem lat_length (cs : List Int32) : (lat cs).length = cs.length := by simp [lat]
theorem ints_length (cs : List Int32) : (ints cs).length = cs.length := by simp [ints]
theorem ints_get {cs : List Int32} {i : Nat} {c : Int32} (h : cs[i]? = some c) : (ints cs)[i]? = some (.int c) := by simp [ints, h]
theorem lat_get {cs : List Int32} {i : Nat} {c : Int32} (h : cs[i]? = some c) : (lat cs)[i]? = some (.int (b8 c)) := by simp [lat, h]
end Jvm.OwnW
namespace Jvm.OwnW
open Sem ClassFile Op Lib Jvm.Stand Jvm.Free Jvm.LawKit Jvm.RoadKit Bundle
abbrev RM (f lo c s : Nat) : Room := { frames := f, cells := c, slots := s, locals := lo }
theorem adr_ne {a b n : Nat} (h : a < n) (h2 : n ≤ b) : a ≠ b := by omega
theorem nof0 {F : List Addr} : ∀ x ∈ ([] : List Addr), x ∈ F := fun _ q => nomatch q
theorem nof {F : List Addr} {w : Nat} {h : Heap} : ∀ x ∈ ([] : List Addr), x ∈ F ∨ (w ≤ x ∧ x < h.size) := fun _ q => nomatch q
theorem fill_step {pre : List Value} {i r : Nat} {z v : Value} (h : pre.length = i) : (pre ++ List.replicate (r + 1) z).set i v = (pre ++ [v]) ++ List.replicate r z := by
  subst h
  rw [List.set_append_right _ _ (Nat.le_refl _)]
  simp [List.replicate_succ]
end Jvm.OwnW
namespace Jvm.OwnW
open Sem ClassFile Op Lib Jvm.Stand Jvm.Free Jvm.LawKit Jvm.RoadKit Bundle
theorem eq_stat {args : Array Value} {s : State} {C n d : String} {v : Int32} (h : (Jvm.Cond.eq (.static C n d) (.int v)).value args s none s [] = some true) : (Term.static C n d).eval args s none [] s = some (.int v) := by
  simp only [Cond.value, Term.int_eval] at h
  cases hv : (Term.static C n d).eval args s none [] s with
  | none => simp [hv] at h
  | some w => cases w <;> simp [hv] at h <;> simp [h]
theorem isL_and (x : Int32) : IsL (x &&& 255) := by
  rw [isL_iff]; have := c_and x 255 (by decide); exact this
theorem isC_isL {x : Int32} (h : IsL x) : c16 x = x := c16_of h.isC
end Jvm.OwnW
namespace Jvm.OwnW
open Sem ClassFile Op Lib Jvm.Stand Jvm.Free Jvm.LawKit Jvm.RoadKit Bundle
theorem st_exact {args : Array Value} {s : State} {C n d K : String} (h : (Jvm.Cond.exactly (.static C n d) K).value args s none s [] = some true) (wi : (Jvm.Cond.initialized C).before args s = true) (wl : (Jvm.Cond.laysStatic C n d).before args s = true) :
    ∃ a, (Term.static C n d).eval args s none [] s = some (.ref a) ∧ Sta s s.heap C n d (.ref a) ∧ Exa s s.heap a K := by
  obtain ⟨a, _, _, _, e, -⟩ := Cond.exactly_spec (Cond.before_iff.mpr h)
  exact ⟨a, e, Sta.start e (Or.inr ⟨wi, wl⟩), Exa.start e h⟩
theorem st_field {args : Array Value} {s : State} {t : Term} {O f fd : String} {a : Addr} {v : Int32} (ev : t.eval args s none [] s = some (.ref a)) (h : (Jvm.Cond.eq (.field t O f fd) (.int v)).value args s none s [] = some true) : Fld s s.heap a O f fd (.int v) := by
  apply Fld.start
  have e : (Term.field t O f fd).eval args s none [] s = s.fieldOf? a O f fd := by simp [Term.eval, ev]
  simp only [Cond.value, Term.int_eval, e] at h
  cases hv : s.fieldOf? a O f fd with
  | none => simp [hv] at h
  | some w => cases w <;> simp [hv] at h <;> simp [h]
end Jvm.OwnW
namespace Jvm.OwnW
open Sem ClassFile Op Lib Jvm.Stand Jvm.Free Jvm.LawKit Jvm.RoadKit Bundle
theorem pos30 (x : Int32) : ¬ ((x &&& 1073741823) + 1) < 1 := by
  have h := c_and x 1073741823 (by decide)
  have e : (1073741823 : Int32).toInt = 1073741823 := rfl
  rw [e] at h
  rw [nlt, Int32.toInt_add]
  have e1 : (1 : Int32).toInt = 1 := rfl
  rw [e1, Int.bmod_def]
  split <;> omega
end Jvm.OwnW
namespace Jvm.OwnW
open Sem ClassFile Op Lib Jvm.Stand Jvm.Free Jvm.LawKit Jvm.RoadKit Bundle
theorem Arl.intAt {Z : State} {h : Heap} {a : Addr} {vs : List Value} {v : Value} (A : Arl Z h a .byte vs) (hv : v ∈ vs) : ∃ x, v = .int x := by
  obtain ⟨cl, -, -, -, r⟩ := A
  exact fit_I (r v hv) (Or.inr (Or.inr (Or.inl rfl)))
theorem Txt.cd01 {cs : List Int32} {cd : Int32} {vs : List Value} (T : Txt cs cd vs) : cd = 0 ∨ cd = 1 := T.imp (·.1) (·.1)
theorem Txt.vlen {cs : List Int32} {cd : Int32} {vs : List Value} (T : Txt cs cd vs) : vs.length = cs.length ∨ vs.length = 2 * cs.length := by
  rcases T with ⟨-, rfl, -⟩ | ⟨-, rfl, -⟩
  · exact Or.inl (lat_length cs)
  · exact Or.inr (wid_length cs)
theorem Txt.len {cs : List Int32} {cd : Int32} {vs : List Value} (T : Txt cs cd vs) (hn : cs.length ≤ 4000) : Int32.ofNat vs.length >>> (cd &&& 31) = Int32.ofNat cs.length := by
  apply Int32.toInt_inj.mp
  rcases T with ⟨rfl, rfl, -⟩ | ⟨rfl, rfl, -⟩
  · rw [c_ishr _ _ 0 (by decide), lat_length]; simp
  · rw [c_ishr _ _ 1 (by decide), wid_length, ofNat_toInt (by omega), ofNat_toInt (by omega)]; omega
theorem Txt.coder {cs : List Int32} {cd ce : Int32} {vs ws : List Value} (T : Txt cs cd vs) (U : Txt cs ce ws) : cd = ce := by
  rcases T with ⟨rfl, -, q⟩ | ⟨rfl, -, c, q1, q2⟩ <;> rcases U with ⟨rfl, -, z⟩ | ⟨rfl, -, d, z1, z2⟩
  · rfl
  · exact absurd z2 (q d z1)
  · exact absurd q2 (z c q1)
  · rfl
theorem Txt.bytes {cs : List Int32} {cd ce : Int32} {vs ws : List Value} (T : Txt cs cd vs) (U : Txt cs ce ws) : vs = ws := by
  rcases T with ⟨rfl, rfl, q⟩ | ⟨rfl, rfl, c, q1, q2⟩ <;> rcases U with ⟨rfl, rfl, z⟩ | ⟨rfl, rfl, d, z1, z2⟩
  · rfl
  · exact absurd z2 (q d z1)
  · exact absurd q2 (z c q1)
  · rfl
theorem b8_inj_L {x y : Int32} (hx : IsL x) (hy : IsL y) (h : b8 x = b8 y) : x = y := by
  rw [isL_iff] at hx hy
  have h1 := b8_mod x; have h2 := b8_mod y
  rw [h] at h1
  apply Int32.toInt_inj.mp; omega
theorem shr8 (x : Int32) : (x >>> 8).toInt = x.toInt / 256 := by
  have := c_ishr x 8 8 (by decide)
  have e : (8 : Int32) &&& 31 = 8 := by decide
  rw [e] at this
  simpa using this
theorem b8_inj_W {x y : Int32} (hx : IsC x) (hy : IsC y) (h : b8 x = b8 y) (h' : b8 (x >>> 8) = b8 (y >>> 8)) : x = y := by
  rw [isC_iff] at hx hy
  have h1 := b8_mod x; have h2 := b8_mod y
  have h3 := b8_mod (x >>> 8); have h4 := b8_mod (y >>> 8)
  rw [h] at h1; rw [h'] at h3
  rw [shr8] at h3 h4
  apply Int32.toInt_inj.mp; omega
theorem lat_inj : ∀ {cs ds : List Int32}, (∀ c ∈ cs, IsL c) → (∀ c ∈ ds, IsL c) → lat cs = lat ds → cs = ds
  | [], [], _, _, _ => rfl
  | [], d :: ds, _, _, h => by simp [lat] at h
  | c :: cs, [], _, _, h => by simp [lat] at h
  | c :: cs, d :: ds, h1, h2, h => by
    simp only [lat, List.map_cons, List.cons.injEq, Value.int.injEq] at h
    rw [b8_inj_L (h1 c (List.mem_cons_self ..)) (h2 d (List.mem_cons_self ..)) h.1, lat_inj (fun x hx => h1 x (List.mem_cons_of_mem _ hx)) (fun x hx => h2 x (List.mem_cons_of_mem _ hx)) h.2]
theorem wid_inj : ∀ {cs ds : List Int32}, (∀ c ∈ cs, IsC c) → (∀ c ∈ ds, IsC c) → wid cs = wid ds → cs = ds
  | [], [], _, _, _ => rfl
  | [], d :: ds, _, _, h => by simp [wid] at h
  | c :: cs, [], _, _, h => by simp [wid] at h
  | c :: cs, d :: ds, h1, h2, h => by
    simp only [wid, List.flatMap_cons, List.cons_append, List.nil_append, List.cons.injEq, Value.int.injEq] at h
    rw [b8_inj_W (h1 c (List.mem_cons_self ..)) (h2 d (List.mem_cons_self ..)) h.1 h.2.1, wid_inj (fun x hx => h1 x (List.mem_cons_of_mem _ hx)) (fun x hx => h2 x (List.mem_cons_of_mem _ hx)) h.2.2]
theorem Txt.inj {cs ds : List Int32} {cd : Int32} {vs : List Value} (hC : ∀ c ∈ cs, IsC c) (hD : ∀ c ∈ ds, IsC c) (T : Txt cs cd vs) (U : Txt ds cd vs) : cs = ds := by
  rcases T with ⟨rfl, rfl, q⟩ | ⟨rfl, rfl, q⟩ <;> rcases U with ⟨e, e', z⟩ | ⟨e, e', z⟩
  · exact lat_inj (fun c hc => ⟨(hC c hc).1, q c hc⟩) (fun c hc => ⟨(hD c hc).1, z c hc⟩) e'
  · exact absurd e (by decide)
  · exact absurd e (by decide)
  · exact wid_inj hC hD e'
theorem fld_uniq {Z : State} {h : Heap} {a : Addr} {C n d : String} {v w : Value} (F : Fld Z h a C n d v) (G : Fld Z h a C n d w) : v = w := by
  obtain ⟨c1, cf, k, i, f, h1, h2, -, -, -, -, h7⟩ := F
  obtain ⟨c2, cf', k', i', f', g1, g2, -, -, -, -, g7⟩ := G
  cases h1.symm.trans g1
  cases h2.symm.trans g2
  exact Option.some.inj (h7.symm.trans g7)
theorem arl_uniq {Z : State} {h : Heap} {a : Addr} {ty : FieldType} {vs ws : List Value} (A : Arl Z h a ty vs) (D : Arl Z h a ty ws) : vs = ws := by
  obtain ⟨c1, A1, rfl, -⟩ := A
  obtain ⟨c2, A2, rfl, -⟩ := D
  cases A1.1.symm.trans A2.1
  rfl
theorem StrAt.uniq {Z : State} {h : Heap} {a : Addr} {cs ds : List Int32} (S : StrAt Z h a cs) (T : StrAt Z h a ds) : cs = ds := by
  obtain ⟨t, cd, vs, X, Fv, Fc, A, Tx, hC, hn⟩ := S
  obtain ⟨u, ce, ws, X', Fv', Fc', A', Tx', hC', hn'⟩ := T
  cases fld_uniq Fv Fv'
  cases fld_uniq Fc Fc'
  cases arl_uniq A A'
  exact Txt.inj hC hC' Tx Tx'
theorem unb8 {x : Int32} (h : IsL x) : c16 (b8 x &&& 255) = x := by
  have e : b8 x &&& 255 = x := by
    rw [isL_iff] at h
    apply Int32.toInt_inj.mp
    rw [c_mask _ 255 8 (by decide) (by decide)]
    have := b8_mod x
    omega
  rw [e, c16_of h.isC]
end Jvm.OwnW
namespace Jvm.OwnW
open Sem ClassFile Op Lib Jvm.Stand Jvm.Free Jvm.LawKit Jvm.RoadKit Bundle
theorem i32_bounds (x : Int32) : -2147483648 ≤ x.toInt ∧ x.toInt < 2147483648 := ⟨Int32.le_toInt x, Int32.toInt_lt x⟩
theorem shl1' {n : Nat} (hn : 2 * n < 2 ^ 31) : Int32.ofNat n <<< ((1 : Int32) &&& 31) = Int32.ofNat (2 * n) := by
  apply Int32.toInt_inj.mp
  have h := c_ishl (Int32.ofNat n) 1 1 (by decide)
  rw [ofNat_toInt (i := n) (by omega)] at h
  rw [ofNat_toInt hn]
  have b := i32_bounds (Int32.ofNat n <<< ((1 : Int32) &&& 31))
  have e : ((2 ^ 1 : Nat) : Int) = 2 := rfl
  rw [e] at h
  omega
theorem shl1 {n : Nat} (hn : n ≤ 4000) : Int32.ofNat n <<< ((1 : Int32) &&& 31) = Int32.ofNat (2 * n) := shl1' (by omega)
theorem shr0 (x : Int32) : x >>> ((0 : Int32) &&& 31) = x := by
  apply Int32.toInt_inj.mp
  rw [c_ishr x 0 0 (by decide)]; simp
theorem shr1 {cs : List Int32} (hn : cs.length ≤ 4000) : Int32.ofNat (wid cs).length >>> ((1 : Int32) &&& 31) = Int32.ofNat cs.length := by
  apply Int32.toInt_inj.mp
  rw [c_ishr _ _ 1 (by decide), wid_length, ofNat_toInt (by omega), ofNat_toInt (by omega)]; omega
theorem fill_step2 {pre : List Value} {i r : Nat} {z u v : Value} (h : pre.length = 2 * i) : ((pre ++ List.replicate (2 * (r + 1)) z).set (2 * i) u).set (2 * i + 1) v = (pre ++ [u, v]) ++ List.replicate (2 * r) z := by
  rw [← h, List.set_append_right _ _ (Nat.le_refl _), List.set_append_right _ _ (by omega)]
  have e : 2 * (r + 1) = 2 * r + 1 + 1 := by omega
  rw [e]
  simp [List.replicate_succ]
theorem wid_cons (c : Int32) (cs : List Int32) : wid (c :: cs) = .int (b8 c) :: .int (b8 (c >>> 8)) :: wid cs := rfl
theorem wid_lo : ∀ {cs : List Int32} {i : Nat} {c : Int32}, cs[i]? = some c → (wid cs)[2 * i]? = some (.int (b8 c))
  | [], i, c, h => by simp at h
  | d :: cs, 0, c, h => by simp at h; subst h; rfl
  | d :: cs, i + 1, c, h => by
    have e : 2 * (i + 1) = 2 * i + 1 + 1 := by omega
    rw [wid_cons, e, List.getElem?_cons_succ, List.getElem?_cons_succ]
    exact wid_lo (by simpa using h)
theorem wid_hi : ∀ {cs : List Int32} {i : Nat} {c : Int32}, cs[i]? = some c → (wid cs)[2 * i + 1]? = some (.int (b8 (c >>> 8)))
  | [], i, c, h => by simp at h
  | d :: cs, 0, c, h => by simp at h; subst h; rfl
  | d :: cs, i + 1, c, h => by
    have e : 2 * (i + 1) + 1 = (2 * i + 1) + 1 + 1 := by omega
    rw [wid_cons, e, List.getElem?_cons_succ, List.getElem?_cons_succ]
    exact wid_hi (by simpa using h)
theorem unwide {x : Int32} (h : IsC x) : c16 ((b8 x &&& 255) <<< ((0 : Int32) &&& 31) ||| (b8 (x >>> 8) &&& 255) <<< ((8 : Int32) &&& 31)) = x := by
  have hx := isC_iff.mp h
  have e1 : (b8 x &&& 255).toInt = x.toInt % 256 := by
    rw [c_mask _ 255 8 (by decide) (by decide)]; have := b8_mod x; omega
  have e2 : (b8 (x >>> 8) &&& 255).toInt = x.toInt / 256 := by
    rw [c_mask _ 255 8 (by decide) (by decide)]; have := b8_mod (x >>> 8); rw [shr8] at this; omega
  have e3 := c_ishl (b8 x &&& 255) 0 0 (by decide)
  have e4 := c_ishl (b8 (x >>> 8) &&& 255) 8 8 (by decide)
  generalize hA : (b8 x &&& 255) <<< ((0 : Int32) &&& 31) = A at *
  generalize hB : (b8 (x >>> 8) &&& 255) <<< ((8 : Int32) &&& 31) = D at *
  rw [e1] at e3; rw [e2] at e4
  have bA := i32_bounds A; have bD := i32_bounds D
  have p0 : ((2 ^ 0 : Nat) : Int) = 1 := rfl
  have p8 : ((2 ^ 8 : Nat) : Int) = 256 := rfl
  rw [p0] at e3; rw [p8] at e4
  have a1 : A.toInt = x.toInt % 256 := by omega
  have a2 : D.toInt = x.toInt / 256 * 256 := by omega
  have e5 := c_or' A D 8 (by decide) 256 rfl (by omega) (by omega) (by omega)
  have bO := i32_bounds (A ||| D)
  have e6 : A ||| D = x := by apply Int32.toInt_inj.mp; omega
  rw [e6, c16_of h]
theorem codU {n : Nat} (h0 : 0 < n) (hn : n ≤ 4000) : b8 (XT.ushr (Int32.ofNat n - Int32.ofNat (2 * n)) 31) = 1 := by
  have e := c_isub (Int32.ofNat n) (Int32.ofNat (2 * n))
  rw [ofNat_toInt (i := n) (by omega), ofNat_toInt (i := 2 * n) (by omega)] at e
  have b := i32_bounds (Int32.ofNat n - Int32.ofNat (2 * n))
  have u := c_iushr (Int32.ofNat n - Int32.ofNat (2 * n)) 31 31 (by decide) (by decide)
  have p : ((2 ^ 31 : Nat) : Int) = 2147483648 := rfl
  rw [p] at u
  have v : (XT.ushr (Int32.ofNat n - Int32.ofNat (2 * n)) 31).toInt = 1 := by unfold XT.ushr; omega
  have w : XT.ushr (Int32.ofNat n - Int32.ofNat (2 * n)) 31 = 1 := by apply Int32.toInt_inj.mp; rw [v]; rfl
  rw [w]; rfl
end Jvm.OwnW
namespace Jvm.OwnW
open Sem ClassFile Op Lib Jvm.Stand Jvm.Free Jvm.LawKit Jvm.RoadKit Bundle
theorem no_inst {Z : State} {a0 : Array Value} {C S K : String} {q : Nat} (w : (Jvm.Cond.superclass C S).before a0 Z = true) (wr : (Jvm.Cond.noSuperclass S).before a0 Z = true) (wi : (Jvm.Cond.instantiable K q).before a0 Z = true) (hn : C ≠ K) (hs : S ≠ K) : ∃ c t, Z.vm.findClass C = some c ∧ Z.vm.findClass K = some t ∧ Z.vm.assignable c t = false := by
  obtain ⟨t, kt, g0, g2, g5, g7, -⟩ := Cond.instantiable_spec wi
  obtain ⟨c, h0⟩ := found_sup w
  obtain ⟨p, k, kp, h1, h2, h3, h4, h5, -, h7⟩ := Cond.superclass_spec h0 w
  obtain ⟨r, kr, r1, r2, r3, -, -⟩ := Cond.noSuperclass_spec wr
  cases h1.symm.trans r1
  have ne := ids_ne h0 g0 hn
  have ne2 := ids_ne r1 g0 hs
  have n3 : ∀ fuel, Z.vm.isSubclassAux fuel p t = false := fun fuel => by
    cases fuel with
    | zero => rfl
    | succ f => simp [Vm.isSubclassAux, ne2, r2, r3]
  have n4 : ∀ fuel, Z.vm.isSubclassAux fuel c t = false := fun fuel => by
    cases fuel with
    | zero => rfl
    | succ f => simp [Vm.isSubclassAux, ne, h2, h4, n3]
  simp only [Bool.or_eq_false_iff] at g7
  refine ⟨c, t, h0, g0, ?_⟩
  show Z.vm.assignableAux (255 + 1) c t = false
  simp [Vm.assignableAux, ne, h2, g2, h5, g5, g7.1, Vm.isSubclass, n4]
end Jvm.OwnW
namespace Jvm.OwnW
open Sem ClassFile Op Lib Jvm.Stand Jvm.Free Jvm.LawKit Jvm.RoadKit Bundle
theorem codT {cs : List Int32} {cd : Int32} {vs : List Value} (T : Txt cs cd vs) (h0 : 0 < cs.length) (hn : cs.length ≤ 4000) : b8 (XT.ushr (Int32.ofNat cs.length - Int32.ofNat vs.length) 31) = cd := by
  rcases T with ⟨rfl, rfl, -⟩ | ⟨rfl, rfl, -⟩
  · rw [lat_length, Int32.sub_self]; rfl
  · rw [wid_length]; exact codU h0 hn
end Jvm.OwnW
namespace Jvm.OwnW
open Sem ClassFile Op Lib Jvm.Stand Jvm.Free Jvm.LawKit Jvm.RoadKit Bundle
theorem nar_ref {v : Value} {n : String} (h : v.isRef = true) : narrow (.object n) v = v := by rcases ref_cases h with rfl | ⟨_, rfl⟩ <;> rfl
theorem fits_ref' {v : Value} {n : String} (h : v.isRef = true) : fits (.object n) v = true := by rcases ref_cases h with rfl | ⟨_, rfl⟩ <;> rfl
theorem catle {v : Value} {st : List Value} {A D C : Nat} (h : v.isRef = true) (g : Nat.ble ((List.map (fun v : Value => v.category) (.null :: st)).sum + A + D) C = true) : (List.map (fun v : Value => v.category) (v :: st)).sum + A + D ≤ C := by
  rcases ref_cases h with rfl | ⟨_, rfl⟩ <;> exact le g
theorem catle2 {v x : Value} {st : List Value} {A D C : Nat} (h : v.isRef = true) (g : Nat.ble ((List.map (fun v : Value => v.category) (x :: .null :: st)).sum + A + D) C = true) : (List.map (fun v : Value => v.category) (x :: v :: st)).sum + A + D ≤ C := by
  rcases ref_cases h with rfl | ⟨_, rfl⟩ <;> exact le g
theorem catle3 {v u x : Value} {st : List Value} {A D C : Nat} (h : v.isRef = true) (h' : u.isRef = true) (g : Nat.ble ((List.map (fun v : Value => v.category) (.null :: x :: .null :: st)).sum + A + D) C = true) : (List.map (fun v : Value => v.category) (u :: x :: v :: st)).sum + A + D ≤ C := by
  rcases ref_cases h with rfl | ⟨_, rfl⟩ <;> rcases ref_cases h' with rfl | ⟨_, rfl⟩ <;> exact le g
end Jvm.OwnW
namespace Jvm.OwnW
open Sem ClassFile Op Lib Jvm.Stand Jvm.Free Jvm.LawKit Jvm.RoadKit Bundle
section
variable {args : Array Value} {s : State}
theorem ex_ev {t : Term} {K : String} (h : (Jvm.Cond.exactly t K).value args s none s [] = some true) : ∃ a, t.eval args s none [] s = some (.ref a) ∧ Exa s s.heap a K := by
  obtain ⟨a, _, _, _, e, -⟩ := Cond.exactly_spec (Cond.before_iff.mpr h)
  exact ⟨a, e, Exa.start e h⟩
theorem arr_ev {t : Term} {ty : FieldType} (h : (Jvm.Cond.arrayOf t ty).value args s none s [] = some true) : ∃ a, t.eval args s none [] s = some (.ref a) := by
  simp only [Cond.value] at h
  cases hv : t.eval args s none [] s with
  | none => simp [hv] at h
  | some w => cases w <;> simp [hv] at h <;> exact ⟨_, rfl⟩
theorem eq_int {t : Term} {v : Int32} (h : (Jvm.Cond.eq t (.int v)).value args s none s [] = some true) : t.eval args s none [] s = some (.int v) := by
  simp only [Cond.value, Term.int_eval] at h
  cases hv : t.eval args s none [] s with
  | none => simp [hv] at h
  | some w => cases w <;> simp [hv] at h <;> simp [h]
theorem eq_refR {t u : Term} {a : Addr} (eu : u.eval args s none [] s = some (.ref a)) (h : (Jvm.Cond.eq t u).value args s none s [] = some true) : t.eval args s none [] s = some (.ref a) := by
  simp only [Cond.value, eu] at h
  cases hv : t.eval args s none [] s with
  | none => simp [hv] at h
  | some w => cases w <;> simp [hv] at h <;> simp [h]
theorem fld_ev {t : Term} {O f fd : String} {a : Addr} {v : Value} (ev : t.eval args s none [] s = some (.ref a)) (e : (Term.field t O f fd).eval args s none [] s = some v) : Fld s s.heap a O f fd v := by
  apply Fld.start
  rw [← e]; simp [Term.eval, ev]
theorem arl_ev {t : Term} {a : Addr} {ty : FieldType} {vs : List Value} (hf : Fit s) (ev : t.eval args s none [] s = some (.ref a)) (ha : (Jvm.Cond.arrayOf t ty).value args s none s [] = some true) (hl : (Jvm.Cond.eq (.length t) (.int (Int32.ofNat vs.length))).value args s none s [] = some true) (hn : vs.length < 2 ^ 31)
    (he : ∀ i v, vs[i]? = some v → (Term.elem t (.int (Int32.ofNat i))).eval args s none [] s = some v) : Arl s s.heap a ty vs := by
  obtain ⟨cl, A⟩ := Arr.start ev ha
  have hat : s.arrayAt? a = some cl := A.fin (Vm.Alike.refl _)
  have e1 := eq_int hl
  have sz : cl.slots.size = vs.length := by
    simp only [Term.eval, ev, hat, Option.bind_eq_bind, Option.bind_some, Option.pure_def] at e1
    split at e1
    · rename_i q
      simp only [Option.some.injEq, Value.int.injEq] at e1
      exact ofNat_inj q hn e1
    · cases e1
  have key : ∀ i v, vs[i]? = some v → cl.slots[i]? = some v := fun i v hv => by
    have hi := (List.getElem?_eq_some_iff.mp hv).1
    have e2 := he i v hv
    have q := ofNat_idx (i := i) (by omega)
    simp only [Term.eval, ev, hat, Option.bind_eq_bind, Option.bind_some, q.1, if_false, q.2] at e2
    exact e2
  refine ⟨cl, A, ?_, hn, fun v hv => ?_⟩
  · apply List.ext_getElem?
    intro i
    rw [Array.getElem?_toList]
    cases hv : vs[i]? with
    | none => rw [List.getElem?_eq_none_iff] at hv; rw [Array.getElem?_eq_none_iff]; omega
    | some v => exact key i v hv
  · obtain ⟨i, hv⟩ := List.mem_iff_getElem?.mp hv
    have hi := (List.getElem?_eq_some_iff.mp hv).1
    have q := ofNat_idx (i := i) (by omega)
    exact elem_fits (j := Int32.ofNat i) hf A (by rw [q.2]; intro z; rcases z with z | z; exact q.1 z; omega) (by rw [q.2]; exact key i v hv)
theorem str_ev {t : Term} {cs : List Int32} (hf : Fit s) (hx : (Jvm.Cond.exactly t "java/lang/String").value args s none s [] = some true) (hc : (Jvm.Cond.eq (.field t "java/lang/String" "coder" "B") (.int 0)).value args s none s [] = some true)
    (ha : (Jvm.Cond.arrayOf (.field t "java/lang/String" "value" "[B") .byte).value args s none s [] = some true) (hl : (Jvm.Cond.eq (.length (.field t "java/lang/String" "value" "[B")) (.int (Int32.ofNat cs.length))).value args s none s [] = some true) (hn : cs.length ≤ 4000) (hL : ∀ c ∈ cs, b8 c = c ∧ IsL c)
    (he : ∀ i c, cs[i]? = some c → (Jvm.Cond.eq (.elem (.field t "java/lang/String" "value" "[B") (.int (Int32.ofNat i))) (.int c)).value args s none s [] = some true) : ∃ a, t.eval args s none [] s = some (.ref a) ∧ StrAt s s.heap a cs := by
  obtain ⟨a, ea, X⟩ := ex_ev hx
  obtain ⟨b, eb⟩ := arr_ev ha
  have hlat : lat cs = ints cs := by
    unfold lat ints; exact List.map_congr_left fun c hc => by rw [(hL c hc).1]
  have A : Arl s s.heap b .byte (lat cs) := by
    rw [hlat]
    refine arl_ev hf eb ha (by rw [ints_length]; exact hl) (by rw [ints_length]; omega) fun i v hv => ?_
    obtain ⟨c, hc1, rfl⟩ : ∃ c, cs[i]? = some c ∧ v = .int c := by
      unfold ints at hv; rw [List.getElem?_map] at hv
      cases hq : cs[i]? with
      | none => rw [hq] at hv; cases hv
      | some c => rw [hq] at hv; exact ⟨c, rfl, (Option.some.inj hv).symm⟩
    exact eq_int (he i c hc1)
  exact ⟨a, ea, b, 0, lat cs, X, fld_ev ea eb, fld_ev ea (eq_int hc), A, Or.inl ⟨rfl, rfl, fun c hc => (hL c hc).2.2⟩, fun c hc => (hL c hc).2.isC, hn⟩
end
end Jvm.OwnW
namespace Jvm.Pilot.@@N@@
open Jvm Jvm.ClassFile Sem Op Lib Jvm.Free Jvm.Stand Jvm.LawKit Jvm.RoadKit Bundle Jvm.Pilot.@@N@@.Jvm.D Jvm.OwnW
set_option maxRecDepth 65536
set_option maxHeartbeats 4000000
theorem tw0 : (Jvm.Cond.fieldLink "com/example/lane8/lane8/protocol/ActionPatternTestPinLaw" (39 : Nat) "com/example/lane8/lane8/protocol/Action$Kind" "SEND" "Lcom/example/lane8/lane8/protocol/Action$Kind;") ∈ tables_1 := List.mem_of_getElem? (i := 0) rfl
theorem tw1 : (Jvm.Cond.initialized "com/example/lane8/lane8/protocol/Action$Kind") ∈ tables_1 := List.mem_of_getElem? (i := 1) rfl
theorem tw2 : (Jvm.Cond.laysStatic "com/example/lane8/lane8/protocol/Action$Kind" "SEND" "Lcom/example/lane8/lane8/protocol/Action$Kind;") ∈ tables_1 := List.mem_of_getElem? (i := 2) rfl
theorem tw3 : (Jvm.Cond.classLink "com/example/lane8/lane8/protocol/ActionPatternTestPinLaw" (42 : Nat) "com/example/lane8/lane8/protocol/Action") ∈ tables_1 := List.mem_of_getElem? (i := 3) rfl
theorem tw4 : (Jvm.Cond.instantiable "com/example/lane8/lane8/protocol/Action" (4 : Nat)) ∈ tables_1 := List.mem_of_getElem? (i := 4) rfl
theorem tw5 : (Jvm.Cond.initialized "com/example/lane8/lane8/protocol/Action") ∈ tables_1 := List.mem_of_getElem? (i := 5) rfl
theorem tw6 : (Jvm.Cond.methodLink "com/example/lane8/lane8/protocol/ActionPatternTestPinLaw" (25 : Nat) ({ cls := "com/example/lane8/lane8/protocol/ActionPatternTestPinLaw", name := "str", desc := "(I)Ljava/lang/String;" } : Jvm.MethodName)) ∈ tables_1 := List.mem_of_getElem? (i := 6) rfl
theorem tw7 : (Jvm.Cond.static ({ cls := "com/example/lane8/lane8/protocol/ActionPatternTestPinLaw", name := "str", desc := "(I)Ljava/lang/String;" } : Jvm.MethodName)) ∈ tables_1 := List.mem_of_getElem? (i := 7) rfl
theorem tw8 : (Jvm.Cond.initialized "com/example/lane8/lane8/protocol/ActionPatternTestPinLaw") ∈ tables_1 := List.mem_of_getElem? (i := 8) rfl
theorem tw9 : (Jvm.Cond.code ({ cls := "com/example/lane8/lane8/protocol/ActionPatternTestPinLaw", name := "str", desc := "(I)Ljava/lang/String;" } : Jvm.MethodName) method_5_code (2 : Nat) (Option.some (Jvm.ClassFile.FieldType.object "java/lang/String"))) ∈ tables_1 := List.mem_of_getElem? (i := 9) rfl
theorem tw10 : (Jvm.Cond.methodLink "com/example/lane8/lane8/protocol/ActionPatternTestPinLaw" (7 : Nat) ({ cls := "com/example/lane8/lane8/protocol/ActionPatternTestPinLaw", name := "len", desc := "(I)I" } : Jvm.MethodName)) ∈ tables_1 := List.mem_of_getElem? (i := 10) rfl
theorem tw11 : (Jvm.Cond.static ({ cls := "com/example/lane8/lane8/protocol/ActionPatternTestPinLaw", name := "len", desc := "(I)I" } : Jvm.MethodName)) ∈ tables_1 := List.mem_of_getElem? (i := 11) rfl
theorem tw12 : (Jvm.Cond.code ({ cls := "com/example/lane8/lane8/protocol/ActionPatternTestPinLaw", name := "len", desc := "(I)I" } : Jvm.MethodName) method_2_code (1 : Nat) (Option.some Jvm.ClassFile.FieldType.int)) ∈ tables_1 := List.mem_of_getElem? (i := 12) rfl
theorem tw13 : (Jvm.Cond.classLink "com/example/lane8/lane8/protocol/ActionPatternTestPinLaw" (13 : Nat) "java/lang/String") ∈ tables_1 := List.mem_of_getElem? (i := 13) rfl
theorem tw14 : (Jvm.Cond.instantiable "java/lang/String" (4 : Nat)) ∈ tables_1 := List.mem_of_getElem? (i := 14) rfl
theorem tw15 : (Jvm.Cond.initialized "java/lang/String") ∈ tables_1 := List.mem_of_getElem? (i := 15) rfl
theorem tw16 : (Jvm.Cond.arrayClass Jvm.ClassFile.FieldType.char) ∈ tables_1 := List.mem_of_getElem? (i := 16) rfl
theorem tw17 : (Jvm.Cond.methodLink "com/example/lane8/lane8/protocol/ActionPatternTestPinLaw" (15 : Nat) ({ cls := "java/lang/String", name := "<init>", desc := "([C)V" } : Jvm.MethodName)) ∈ tables_1 := List.mem_of_getElem? (i := 17) rfl
theorem tw18 : (Jvm.Cond.instanceMethod ({ cls := "java/lang/String", name := "<init>", desc := "([C)V" } : Jvm.MethodName)) ∈ tables_1 := List.mem_of_getElem? (i := 18) rfl
theorem tw19 : (Jvm.Cond.code ({ cls := "java/lang/String", name := "<init>", desc := "([C)V" } : Jvm.MethodName) jdk_42_method_3_code (2 : Nat) (Option.none : Option Jvm.ClassFile.FieldType)) ∈ tables_1 := List.mem_of_getElem? (i := 19) rfl
theorem tw20 : (Jvm.Cond.methodLink "java/lang/String" (27 : Nat) ({ cls := "java/lang/String", name := "<init>", desc := "([CIILjava/lang/Void;)V" } : Jvm.MethodName)) ∈ tables_1 := List.mem_of_getElem? (i := 20) rfl
theorem tw21 : (Jvm.Cond.instanceMethod ({ cls := "java/lang/String", name := "<init>", desc := "([CIILjava/lang/Void;)V" } : Jvm.MethodName)) ∈ tables_1 := List.mem_of_getElem? (i := 21) rfl
theorem tw23 : (Jvm.Cond.code ({ cls := "java/lang/String", name := "<init>", desc := "([CIILjava/lang/Void;)V" } : Jvm.MethodName) jdk_42_method_149_code (6 : Nat) (Option.none : Option Jvm.ClassFile.FieldType)) ∈ tables_1 := List.mem_of_getElem? (i := 23) rfl
theorem tw24 : (Jvm.Cond.methodLink "java/lang/String" (1 : Nat) ({ cls := "java/lang/Object", name := "<init>", desc := "()V" } : Jvm.MethodName)) ∈ tables_1 := List.mem_of_getElem? (i := 24) rfl
theorem tw25 : (Jvm.Cond.instanceMethod ({ cls := "java/lang/Object", name := "<init>", desc := "()V" } : Jvm.MethodName)) ∈ tables_1 := List.mem_of_getElem? (i := 25) rfl
theorem tw26 : (Jvm.Cond.code ({ cls := "java/lang/Object", name := "<init>", desc := "()V" } : Jvm.MethodName) object_method_1_code (1 : Nat) (Option.none : Option Jvm.ClassFile.FieldType)) ∈ tables_1 := List.mem_of_getElem? (i := 26) rfl
theorem tw27 : (Jvm.Cond.stringLink "java/lang/String" (7 : Nat) "") ∈ tables_1 := List.mem_of_getElem? (i := 27) rfl
theorem tw28 : (Jvm.Cond.arrayClass Jvm.ClassFile.FieldType.byte) ∈ tables_1 := List.mem_of_getElem? (i := 28) rfl
theorem tw29 : (Jvm.Cond.laysFinal "java/lang/String" "java/lang/String" "value" "[B") ∈ tables_1 := List.mem_of_getElem? (i := 29) rfl
theorem tw30 : (Jvm.Cond.laysFinal "java/lang/String" "java/lang/String" "coder" "B") ∈ tables_1 := List.mem_of_getElem? (i := 30) rfl
theorem tw33 : (Jvm.Cond.fieldLink "java/lang/String" (9 : Nat) "java/lang/String" "value" "[B") ∈ tables_1 := List.mem_of_getElem? (i := 33) rfl
theorem tw34 : (Jvm.Cond.fieldLink "java/lang/String" (15 : Nat) "java/lang/String" "coder" "B") ∈ tables_1 := List.mem_of_getElem? (i := 34) rfl
theorem tw35 : (Jvm.Cond.methodLink "com/example/lane8/lane8/protocol/ActionPatternTestPinLaw" (44 : Nat) ({ cls := "com/example/lane8/lane8/protocol/Action", name := "<init>", desc := "(Ljava/lang/String;Lcom/example/lane8/lane8/protocol/Action$Kind;Ljava/lang/String;Ljava/lang/String;)V" } : Jvm.MethodName)) ∈ tables_1 := List.mem_of_getElem? (i := 35) rfl
theorem tw36 : (Jvm.Cond.instanceMethod ({ cls := "com/example/lane8/lane8/protocol/Action", name := "<init>", desc := "(Ljava/lang/String;Lcom/example/lane8/lane8/protocol/Action$Kind;Ljava/lang/String;Ljava/lang/String;)V" } : Jvm.MethodName)) ∈ tables_1 := List.mem_of_getElem? (i := 36) rfl
theorem tw37 : (Jvm.Cond.code ({ cls := "com/example/lane8/lane8/protocol/Action", name := "<init>", desc := "(Ljava/lang/String;Lcom/example/lane8/lane8/protocol/Action$Kind;Ljava/lang/String;Ljava/lang/String;)V" } : Jvm.MethodName) prog_67_method_1_code (5 : Nat) (Option.none : Option Jvm.ClassFile.FieldType)) ∈ tables_1 := List.mem_of_getElem? (i := 37) rfl
theorem tw38 : (Jvm.Cond.methodLink "com/example/lane8/lane8/protocol/Action" (1 : Nat) ({ cls := "java/lang/Record", name := "<init>", desc := "()V" } : Jvm.MethodName)) ∈ tables_1 := List.mem_of_getElem? (i := 38) rfl
theorem tw39 : (Jvm.Cond.instanceMethod ({ cls := "java/lang/Record", name := "<init>", desc := "()V" } : Jvm.MethodName)) ∈ tables_1 := List.mem_of_getElem? (i := 39) rfl
theorem tw41 : (Jvm.Cond.initialized "java/lang/Record") ∈ tables_1 := List.mem_of_getElem? (i := 41) rfl
theorem tw42 : (Jvm.Cond.code ({ cls := "java/lang/Record", name := "<init>", desc := "()V" } : Jvm.MethodName) jdk_30_method_1_code (1 : Nat) (Option.none : Option Jvm.ClassFile.FieldType)) ∈ tables_1 := List.mem_of_getElem? (i := 42) rfl
theorem tw43 : (Jvm.Cond.methodLink "java/lang/Record" (1 : Nat) ({ cls := "java/lang/Object", name := "<init>", desc := "()V" } : Jvm.MethodName)) ∈ tables_1 := List.mem_of_getElem? (i := 43) rfl
theorem tw44 : (Jvm.Cond.fieldLink "com/example/lane8/lane8/protocol/Action" (7 : Nat) "com/example/lane8/lane8/protocol/Action" "role" "Ljava/lang/String;") ∈ tables_1 := List.mem_of_getElem? (i := 44) rfl
theorem tw45 : (Jvm.Cond.laysFinal "com/example/lane8/lane8/protocol/Action" "com/example/lane8/lane8/protocol/Action" "role" "Ljava/lang/String;") ∈ tables_1 := List.mem_of_getElem? (i := 45) rfl
theorem tw46 : (Jvm.Cond.fieldLink "com/example/lane8/lane8/protocol/Action" (13 : Nat) "com/example/lane8/lane8/protocol/Action" "kind" "Lcom/example/lane8/lane8/protocol/Action$Kind;") ∈ tables_1 := List.mem_of_getElem? (i := 46) rfl
theorem tw47 : (Jvm.Cond.laysFinal "com/example/lane8/lane8/protocol/Action" "com/example/lane8/lane8/protocol/Action" "kind" "Lcom/example/lane8/lane8/protocol/Action$Kind;") ∈ tables_1 := List.mem_of_getElem? (i := 47) rfl
theorem tw48 : (Jvm.Cond.fieldLink "com/example/lane8/lane8/protocol/Action" (17 : Nat) "com/example/lane8/lane8/protocol/Action" "type" "Ljava/lang/String;") ∈ tables_1 := List.mem_of_getElem? (i := 48) rfl
theorem tw49 : (Jvm.Cond.laysFinal "com/example/lane8/lane8/protocol/Action" "com/example/lane8/lane8/protocol/Action" "type" "Ljava/lang/String;") ∈ tables_1 := List.mem_of_getElem? (i := 49) rfl
theorem tw50 : (Jvm.Cond.fieldLink "com/example/lane8/lane8/protocol/Action" (20 : Nat) "com/example/lane8/lane8/protocol/Action" "peer" "Ljava/lang/String;") ∈ tables_1 := List.mem_of_getElem? (i := 50) rfl
theorem tw51 : (Jvm.Cond.laysFinal "com/example/lane8/lane8/protocol/Action" "com/example/lane8/lane8/protocol/Action" "peer" "Ljava/lang/String;") ∈ tables_1 := List.mem_of_getElem? (i := 51) rfl
theorem tw52 : (Jvm.Cond.classLink "com/example/lane8/lane8/protocol/ActionPatternTestPinLaw" (47 : Nat) "com/example/lane8/lane8/protocol/ActionPattern") ∈ tables_1 := List.mem_of_getElem? (i := 52) rfl
theorem tw53 : (Jvm.Cond.instantiable "com/example/lane8/lane8/protocol/ActionPattern" (4 : Nat)) ∈ tables_1 := List.mem_of_getElem? (i := 53) rfl
theorem tw54 : (Jvm.Cond.initialized "com/example/lane8/lane8/protocol/ActionPattern") ∈ tables_1 := List.mem_of_getElem? (i := 54) rfl
theorem tw55 : (Jvm.Cond.methodLink "com/example/lane8/lane8/protocol/ActionPatternTestPinLaw" (49 : Nat) ({ cls := "com/example/lane8/lane8/protocol/ActionPatternTestPinLaw", name := "pat", desc := "(II)Ljava/lang/String;" } : Jvm.MethodName)) ∈ tables_1 := List.mem_of_getElem? (i := 55) rfl
theorem tw56 : (Jvm.Cond.static ({ cls := "com/example/lane8/lane8/protocol/ActionPatternTestPinLaw", name := "pat", desc := "(II)Ljava/lang/String;" } : Jvm.MethodName)) ∈ tables_1 := List.mem_of_getElem? (i := 56) rfl
theorem tw57 : (Jvm.Cond.code ({ cls := "com/example/lane8/lane8/protocol/ActionPatternTestPinLaw", name := "pat", desc := "(II)Ljava/lang/String;" } : Jvm.MethodName) method_7_code (3 : Nat) (Option.some (Jvm.ClassFile.FieldType.object "java/lang/String"))) ∈ tables_1 := List.mem_of_getElem? (i := 57) rfl
theorem tw58 : (Jvm.Cond.methodLink "com/example/lane8/lane8/protocol/ActionPatternTestPinLaw" (53 : Nat) ({ cls := "com/example/lane8/lane8/protocol/ActionPattern", name := "<init>", desc := "(Ljava/lang/String;Lcom/example/lane8/lane8/protocol/Action$Kind;Ljava/lang/String;Ljava/lang/String;)V" } : Jvm.MethodName)) ∈ tables_1 := List.mem_of_getElem? (i := 58) rfl
theorem tw59 : (Jvm.Cond.instanceMethod ({ cls := "com/example/lane8/lane8/protocol/ActionPattern", name := "<init>", desc := "(Ljava/lang/String;Lcom/example/lane8/lane8/protocol/Action$Kind;Ljava/lang/String;Ljava/lang/String;)V" } : Jvm.MethodName)) ∈ tables_1 := List.mem_of_getElem? (i := 59) rfl
theorem tw60 : (Jvm.Cond.code ({ cls := "com/example/lane8/lane8/protocol/ActionPattern", name := "<init>", desc := "(Ljava/lang/String;Lcom/example/lane8/lane8/protocol/Action$Kind;Ljava/lang/String;Ljava/lang/String;)V" } : Jvm.MethodName) prog_69_method_1_code (5 : Nat) (Option.none : Option Jvm.ClassFile.FieldType)) ∈ tables_1 := List.mem_of_getElem? (i := 60) rfl
theorem tw61 : (Jvm.Cond.methodLink "com/example/lane8/lane8/protocol/ActionPattern" (1 : Nat) ({ cls := "java/lang/Record", name := "<init>", desc := "()V" } : Jvm.MethodName)) ∈ tables_1 := List.mem_of_getElem? (i := 61) rfl
theorem tw62 : (Jvm.Cond.fieldLink "com/example/lane8/lane8/protocol/ActionPattern" (7 : Nat) "com/example/lane8/lane8/protocol/ActionPattern" "role" "Ljava/lang/String;") ∈ tables_1 := List.mem_of_getElem? (i := 62) rfl
theorem tw63 : (Jvm.Cond.laysFinal "com/example/lane8/lane8/protocol/ActionPattern" "com/example/lane8/lane8/protocol/ActionPattern" "role" "Ljava/lang/String;") ∈ tables_1 := List.mem_of_getElem? (i := 63) rfl
theorem tw64 : (Jvm.Cond.fieldLink "com/example/lane8/lane8/protocol/ActionPattern" (13 : Nat) "com/example/lane8/lane8/protocol/ActionPattern" "kind" "Lcom/example/lane8/lane8/protocol/Action$Kind;") ∈ tables_1 := List.mem_of_getElem? (i := 64) rfl
theorem tw65 : (Jvm.Cond.laysFinal "com/example/lane8/lane8/protocol/ActionPattern" "com/example/lane8/lane8/protocol/ActionPattern" "kind" "Lcom/example/lane8/lane8/protocol/Action$Kind;") ∈ tables_1 := List.mem_of_getElem? (i := 65) rfl
theorem tw66 : (Jvm.Cond.fieldLink "com/example/lane8/lane8/protocol/ActionPattern" (17 : Nat) "com/example/lane8/lane8/protocol/ActionPattern" "type" "Ljava/lang/String;") ∈ tables_1 := List.mem_of_getElem? (i := 66) rfl
theorem tw67 : (Jvm.Cond.laysFinal "com/example/lane8/lane8/protocol/ActionPattern" "com/example/lane8/lane8/protocol/ActionPattern" "type" "Ljava/lang/String;") ∈ tables_1 := List.mem_of_getElem? (i := 67) rfl
theorem tw68 : (Jvm.Cond.fieldLink "com/example/lane8/lane8/protocol/ActionPattern" (20 : Nat) "com/example/lane8/lane8/protocol/ActionPattern" "peer" "Ljava/lang/String;") ∈ tables_1 := List.mem_of_getElem? (i := 68) rfl
theorem tw69 : (Jvm.Cond.laysFinal "com/example/lane8/lane8/protocol/ActionPattern" "com/example/lane8/lane8/protocol/ActionPattern" "peer" "Ljava/lang/String;") ∈ tables_1 := List.mem_of_getElem? (i := 69) rfl
theorem tw70 : (Jvm.Cond.methodLink "com/example/lane8/lane8/protocol/ActionPatternTestPinLaw" (54 : Nat) ({ cls := "com/example/lane8/lane8/protocol/ActionPatternTestPinLaw", name := "fits", desc := "(II)Z" } : Jvm.MethodName)) ∈ tables_1 := List.mem_of_getElem? (i := 70) rfl
theorem tw71 : (Jvm.Cond.static ({ cls := "com/example/lane8/lane8/protocol/ActionPatternTestPinLaw", name := "fits", desc := "(II)Z" } : Jvm.MethodName)) ∈ tables_1 := List.mem_of_getElem? (i := 71) rfl
theorem tw72 : (Jvm.Cond.code ({ cls := "com/example/lane8/lane8/protocol/ActionPatternTestPinLaw", name := "fits", desc := "(II)Z" } : Jvm.MethodName) method_8_code (3 : Nat) (Option.some Jvm.ClassFile.FieldType.boolean)) ∈ tables_1 := List.mem_of_getElem? (i := 72) rfl
theorem tw73 : (Jvm.Cond.methodLink "com/example/lane8/lane8/protocol/ActionPatternTestPinLaw" (29 : Nat) ({ cls := "com/example/lane8/lane8/protocol/ActionPatternTestPinLaw", name := "same", desc := "(II)Z" } : Jvm.MethodName)) ∈ tables_1 := List.mem_of_getElem? (i := 73) rfl
theorem tw74 : (Jvm.Cond.static ({ cls := "com/example/lane8/lane8/protocol/ActionPatternTestPinLaw", name := "same", desc := "(II)Z" } : Jvm.MethodName)) ∈ tables_1 := List.mem_of_getElem? (i := 74) rfl
theorem tw75 : (Jvm.Cond.code ({ cls := "com/example/lane8/lane8/protocol/ActionPatternTestPinLaw", name := "same", desc := "(II)Z" } : Jvm.MethodName) method_6_code (3 : Nat) (Option.some Jvm.ClassFile.FieldType.boolean)) ∈ tables_1 := List.mem_of_getElem? (i := 75) rfl
theorem tw76 : (Jvm.Cond.methodLink "com/example/lane8/lane8/protocol/ActionPatternTestPinLaw" (57 : Nat) ({ cls := "com/example/lane8/lane8/protocol/ActionPattern", name := "test", desc := "(Lcom/example/lane8/lane8/protocol/Action;)Z" } : Jvm.MethodName)) ∈ tables_1 := List.mem_of_getElem? (i := 76) rfl
theorem tw77 : (Jvm.Cond.declares ({ cls := "com/example/lane8/lane8/protocol/ActionPattern", name := "test", desc := "(Lcom/example/lane8/lane8/protocol/Action;)Z" } : Jvm.MethodName)) ∈ tables_1 := List.mem_of_getElem? (i := 77) rfl
theorem tw78 : (Jvm.Cond.instanceMethod ({ cls := "com/example/lane8/lane8/protocol/ActionPattern", name := "test", desc := "(Lcom/example/lane8/lane8/protocol/Action;)Z" } : Jvm.MethodName)) ∈ tables_1 := List.mem_of_getElem? (i := 78) rfl
theorem tw79 : (Jvm.Cond.selects "com/example/lane8/lane8/protocol/ActionPattern" ({ cls := "com/example/lane8/lane8/protocol/ActionPattern", name := "test", desc := "(Lcom/example/lane8/lane8/protocol/Action;)Z" } : Jvm.MethodName) ({ cls := "com/example/lane8/lane8/protocol/ActionPattern", name := "test", desc := "(Lcom/example/lane8/lane8/protocol/Action;)Z" } : Jvm.MethodName)) ∈ tables_1 := List.mem_of_getElem? (i := 79) rfl
theorem tw80 : (Jvm.Cond.code ({ cls := "com/example/lane8/lane8/protocol/ActionPattern", name := "test", desc := "(Lcom/example/lane8/lane8/protocol/Action;)Z" } : Jvm.MethodName) prog_69_method_3_code (2 : Nat) (Option.some Jvm.ClassFile.FieldType.boolean)) ∈ tables_1 := List.mem_of_getElem? (i := 80) rfl
theorem tw81 : (Jvm.Cond.methodLink "com/example/lane8/lane8/protocol/ActionPattern" (64 : Nat) ({ cls := "com/example/lane8/lane8/protocol/Action", name := "role", desc := "()Ljava/lang/String;" } : Jvm.MethodName)) ∈ tables_1 := List.mem_of_getElem? (i := 81) rfl
theorem tw82 : (Jvm.Cond.declares ({ cls := "com/example/lane8/lane8/protocol/Action", name := "role", desc := "()Ljava/lang/String;" } : Jvm.MethodName)) ∈ tables_1 := List.mem_of_getElem? (i := 82) rfl
theorem tw83 : (Jvm.Cond.instanceMethod ({ cls := "com/example/lane8/lane8/protocol/Action", name := "role", desc := "()Ljava/lang/String;" } : Jvm.MethodName)) ∈ tables_1 := List.mem_of_getElem? (i := 83) rfl
theorem tw84 : (Jvm.Cond.selects "com/example/lane8/lane8/protocol/Action" ({ cls := "com/example/lane8/lane8/protocol/Action", name := "role", desc := "()Ljava/lang/String;" } : Jvm.MethodName) ({ cls := "com/example/lane8/lane8/protocol/Action", name := "role", desc := "()Ljava/lang/String;" } : Jvm.MethodName)) ∈ tables_1 := List.mem_of_getElem? (i := 84) rfl
theorem tw85 : (Jvm.Cond.code ({ cls := "com/example/lane8/lane8/protocol/Action", name := "role", desc := "()Ljava/lang/String;" } : Jvm.MethodName) prog_67_method_5_code (1 : Nat) (Option.some (Jvm.ClassFile.FieldType.object "java/lang/String"))) ∈ tables_1 := List.mem_of_getElem? (i := 85) rfl
theorem tw86 : (Jvm.Cond.methodLink "com/example/lane8/lane8/protocol/ActionPattern" (68 : Nat) ({ cls := "com/example/lane8/lane8/protocol/ActionPattern", name := "matches", desc := "(Ljava/lang/String;Ljava/lang/String;)Z" } : Jvm.MethodName)) ∈ tables_1 := List.mem_of_getElem? (i := 86) rfl
theorem tw87 : (Jvm.Cond.static ({ cls := "com/example/lane8/lane8/protocol/ActionPattern", name := "matches", desc := "(Ljava/lang/String;Ljava/lang/String;)Z" } : Jvm.MethodName)) ∈ tables_1 := List.mem_of_getElem? (i := 87) rfl
theorem tw88 : (Jvm.Cond.code ({ cls := "com/example/lane8/lane8/protocol/ActionPattern", name := "matches", desc := "(Ljava/lang/String;Ljava/lang/String;)Z" } : Jvm.MethodName) prog_69_method_4_code (2 : Nat) (Option.some Jvm.ClassFile.FieldType.boolean)) ∈ tables_1 := List.mem_of_getElem? (i := 88) rfl
theorem tw89 : (Jvm.Cond.methodLink "com/example/lane8/lane8/protocol/ActionPattern" (43 : Nat) ({ cls := "java/lang/String", name := "equals", desc := "(Ljava/lang/Object;)Z" } : Jvm.MethodName)) ∈ tables_1 := List.mem_of_getElem? (i := 89) rfl
theorem tw90 : (Jvm.Cond.declares ({ cls := "java/lang/String", name := "equals", desc := "(Ljava/lang/Object;)Z" } : Jvm.MethodName)) ∈ tables_1 := List.mem_of_getElem? (i := 90) rfl
theorem tw91 : (Jvm.Cond.instanceMethod ({ cls := "java/lang/String", name := "equals", desc := "(Ljava/lang/Object;)Z" } : Jvm.MethodName)) ∈ tables_1 := List.mem_of_getElem? (i := 91) rfl
theorem tw92 : (Jvm.Cond.selects "java/lang/String" ({ cls := "java/lang/String", name := "equals", desc := "(Ljava/lang/Object;)Z" } : Jvm.MethodName) ({ cls := "java/lang/String", name := "equals", desc := "(Ljava/lang/Object;)Z" } : Jvm.MethodName)) ∈ tables_1 := List.mem_of_getElem? (i := 92) rfl
theorem tw93 : (Jvm.Cond.code ({ cls := "java/lang/String", name := "equals", desc := "(Ljava/lang/Object;)Z" } : Jvm.MethodName) jdk_42_method_66_code (3 : Nat) (Option.some Jvm.ClassFile.FieldType.boolean)) ∈ tables_1 := List.mem_of_getElem? (i := 93) rfl
theorem tw94 : (Jvm.Cond.classLink "java/lang/String" (10 : Nat) "java/lang/String") ∈ tables_1 := List.mem_of_getElem? (i := 94) rfl
theorem tw95 : (Jvm.Cond.fieldLink "java/lang/String" (38 : Nat) "java/lang/String" "COMPACT_STRINGS" "Z") ∈ tables_1 := List.mem_of_getElem? (i := 95) rfl
theorem tw96 : (Jvm.Cond.methodLink "java/lang/String" (541 : Nat) ({ cls := "java/lang/StringLatin1", name := "equals", desc := "([B[B)Z" } : Jvm.MethodName)) ∈ tables_1 := List.mem_of_getElem? (i := 96) rfl
theorem tw97 : (Jvm.Cond.static ({ cls := "java/lang/StringLatin1", name := "equals", desc := "([B[B)Z" } : Jvm.MethodName)) ∈ tables_1 := List.mem_of_getElem? (i := 97) rfl
theorem tw98 : (Jvm.Cond.initialized "java/lang/StringLatin1") ∈ tables_1 := List.mem_of_getElem? (i := 98) rfl
theorem tw99 : (Jvm.Cond.code ({ cls := "java/lang/StringLatin1", name := "equals", desc := "([B[B)Z" } : Jvm.MethodName) jdk_43_method_13_code (3 : Nat) (Option.some Jvm.ClassFile.FieldType.boolean)) ∈ tables_1 := List.mem_of_getElem? (i := 99) rfl
theorem tw100 : (Jvm.Cond.methodLink "com/example/lane8/lane8/protocol/ActionPattern" (72 : Nat) ({ cls := "com/example/lane8/lane8/protocol/Action", name := "kind", desc := "()Lcom/example/lane8/lane8/protocol/Action$Kind;" } : Jvm.MethodName)) ∈ tables_1 := List.mem_of_getElem? (i := 100) rfl
theorem tw101 : (Jvm.Cond.declares ({ cls := "com/example/lane8/lane8/protocol/Action", name := "kind", desc := "()Lcom/example/lane8/lane8/protocol/Action$Kind;" } : Jvm.MethodName)) ∈ tables_1 := List.mem_of_getElem? (i := 101) rfl
theorem tw102 : (Jvm.Cond.instanceMethod ({ cls := "com/example/lane8/lane8/protocol/Action", name := "kind", desc := "()Lcom/example/lane8/lane8/protocol/Action$Kind;" } : Jvm.MethodName)) ∈ tables_1 := List.mem_of_getElem? (i := 102) rfl
theorem tw103 : (Jvm.Cond.selects "com/example/lane8/lane8/protocol/Action" ({ cls := "com/example/lane8/lane8/protocol/Action", name := "kind", desc := "()Lcom/example/lane8/lane8/protocol/Action$Kind;" } : Jvm.MethodName) ({ cls := "com/example/lane8/lane8/protocol/Action", name := "kind", desc := "()Lcom/example/lane8/lane8/protocol/Action$Kind;" } : Jvm.MethodName)) ∈ tables_1 := List.mem_of_getElem? (i := 103) rfl
theorem tw104 : (Jvm.Cond.code ({ cls := "com/example/lane8/lane8/protocol/Action", name := "kind", desc := "()Lcom/example/lane8/lane8/protocol/Action$Kind;" } : Jvm.MethodName) prog_67_method_6_code (1 : Nat) (Option.some (Jvm.ClassFile.FieldType.object "com/example/lane8/lane8/protocol/Action$Kind"))) ∈ tables_1 := List.mem_of_getElem? (i := 104) rfl
theorem tw105 : (Jvm.Cond.methodLink "com/example/lane8/lane8/protocol/ActionPattern" (75 : Nat) ({ cls := "com/example/lane8/lane8/protocol/Action", name := "type", desc := "()Ljava/lang/String;" } : Jvm.MethodName)) ∈ tables_1 := List.mem_of_getElem? (i := 105) rfl
theorem tw106 : (Jvm.Cond.declares ({ cls := "com/example/lane8/lane8/protocol/Action", name := "type", desc := "()Ljava/lang/String;" } : Jvm.MethodName)) ∈ tables_1 := List.mem_of_getElem? (i := 106) rfl
theorem tw107 : (Jvm.Cond.instanceMethod ({ cls := "com/example/lane8/lane8/protocol/Action", name := "type", desc := "()Ljava/lang/String;" } : Jvm.MethodName)) ∈ tables_1 := List.mem_of_getElem? (i := 107) rfl
theorem tw108 : (Jvm.Cond.selects "com/example/lane8/lane8/protocol/Action" ({ cls := "com/example/lane8/lane8/protocol/Action", name := "type", desc := "()Ljava/lang/String;" } : Jvm.MethodName) ({ cls := "com/example/lane8/lane8/protocol/Action", name := "type", desc := "()Ljava/lang/String;" } : Jvm.MethodName)) ∈ tables_1 := List.mem_of_getElem? (i := 108) rfl
theorem tw109 : (Jvm.Cond.code ({ cls := "com/example/lane8/lane8/protocol/Action", name := "type", desc := "()Ljava/lang/String;" } : Jvm.MethodName) prog_67_method_7_code (1 : Nat) (Option.some (Jvm.ClassFile.FieldType.object "java/lang/String"))) ∈ tables_1 := List.mem_of_getElem? (i := 109) rfl
theorem tw110 : (Jvm.Cond.methodLink "com/example/lane8/lane8/protocol/ActionPattern" (77 : Nat) ({ cls := "com/example/lane8/lane8/protocol/Action", name := "peer", desc := "()Ljava/lang/String;" } : Jvm.MethodName)) ∈ tables_1 := List.mem_of_getElem? (i := 110) rfl
theorem tw111 : (Jvm.Cond.declares ({ cls := "com/example/lane8/lane8/protocol/Action", name := "peer", desc := "()Ljava/lang/String;" } : Jvm.MethodName)) ∈ tables_1 := List.mem_of_getElem? (i := 111) rfl
theorem tw112 : (Jvm.Cond.instanceMethod ({ cls := "com/example/lane8/lane8/protocol/Action", name := "peer", desc := "()Ljava/lang/String;" } : Jvm.MethodName)) ∈ tables_1 := List.mem_of_getElem? (i := 112) rfl
theorem tw113 : (Jvm.Cond.selects "com/example/lane8/lane8/protocol/Action" ({ cls := "com/example/lane8/lane8/protocol/Action", name := "peer", desc := "()Ljava/lang/String;" } : Jvm.MethodName) ({ cls := "com/example/lane8/lane8/protocol/Action", name := "peer", desc := "()Ljava/lang/String;" } : Jvm.MethodName)) ∈ tables_1 := List.mem_of_getElem? (i := 113) rfl
theorem tw114 : (Jvm.Cond.code ({ cls := "com/example/lane8/lane8/protocol/Action", name := "peer", desc := "()Ljava/lang/String;" } : Jvm.MethodName) prog_67_method_8_code (1 : Nat) (Option.some (Jvm.ClassFile.FieldType.object "java/lang/String"))) ∈ tables_1 := List.mem_of_getElem? (i := 114) rfl
theorem tw115 : (Jvm.Cond.methodLink "com/example/lane8/lane8/protocol/ActionPatternTestPinLaw" (18 : Nat) ({ cls := "com/example/lane8/lane8/protocol/ActionPatternTestPinLaw", name := "c0", desc := "(I)C" } : Jvm.MethodName)) ∈ tables_1 := List.mem_of_getElem? (i := 115) rfl
theorem tw116 : (Jvm.Cond.static ({ cls := "com/example/lane8/lane8/protocol/ActionPatternTestPinLaw", name := "c0", desc := "(I)C" } : Jvm.MethodName)) ∈ tables_1 := List.mem_of_getElem? (i := 116) rfl
theorem tw117 : (Jvm.Cond.code ({ cls := "com/example/lane8/lane8/protocol/ActionPatternTestPinLaw", name := "c0", desc := "(I)C" } : Jvm.MethodName) method_3_code (1 : Nat) (Option.some Jvm.ClassFile.FieldType.char)) ∈ tables_1 := List.mem_of_getElem? (i := 117) rfl
theorem tw118 : (Jvm.Cond.methodLink "java/lang/String" (177 : Nat) ({ cls := "java/lang/StringUTF16", name := "compress", desc := "([CII)[B" } : Jvm.MethodName)) ∈ tables_1 := List.mem_of_getElem? (i := 118) rfl
theorem tw119 : (Jvm.Cond.static ({ cls := "java/lang/StringUTF16", name := "compress", desc := "([CII)[B" } : Jvm.MethodName)) ∈ tables_1 := List.mem_of_getElem? (i := 119) rfl
theorem tw120 : (Jvm.Cond.initialized "java/lang/StringUTF16") ∈ tables_1 := List.mem_of_getElem? (i := 120) rfl
theorem tw121 : (Jvm.Cond.code ({ cls := "java/lang/StringUTF16", name := "compress", desc := "([CII)[B" } : Jvm.MethodName) jdk_52_method_16_code (6 : Nat) (Option.some (Jvm.ClassFile.FieldType.array Jvm.ClassFile.FieldType.byte))) ∈ tables_1 := List.mem_of_getElem? (i := 121) rfl
theorem tw122 : (Jvm.Cond.methodLink "java/lang/StringUTF16" (115 : Nat) ({ cls := "java/lang/StringUTF16", name := "compress", desc := "([CI[BII)I" } : Jvm.MethodName)) ∈ tables_1 := List.mem_of_getElem? (i := 122) rfl
theorem tw123 : (Jvm.Cond.static ({ cls := "java/lang/StringUTF16", name := "compress", desc := "([CI[BII)I" } : Jvm.MethodName)) ∈ tables_1 := List.mem_of_getElem? (i := 123) rfl
theorem tw124 : (Jvm.Cond.code ({ cls := "java/lang/StringUTF16", name := "compress", desc := "([CI[BII)I" } : Jvm.MethodName) jdk_52_method_21_code (7 : Nat) (Option.some Jvm.ClassFile.FieldType.int)) ∈ tables_1 := List.mem_of_getElem? (i := 124) rfl
theorem tw125 : (Jvm.Cond.methodLink "java/lang/String" (47 : Nat) ({ cls := "java/lang/StringUTF16", name := "coderFromArrayLen", desc := "([BI)B" } : Jvm.MethodName)) ∈ tables_1 := List.mem_of_getElem? (i := 125) rfl
theorem tw126 : (Jvm.Cond.static ({ cls := "java/lang/StringUTF16", name := "coderFromArrayLen", desc := "([BI)B" } : Jvm.MethodName)) ∈ tables_1 := List.mem_of_getElem? (i := 126) rfl
theorem tw127 : (Jvm.Cond.code ({ cls := "java/lang/StringUTF16", name := "coderFromArrayLen", desc := "([BI)B" } : Jvm.MethodName) jdk_52_method_15_code (2 : Nat) (Option.some Jvm.ClassFile.FieldType.byte)) ∈ tables_1 := List.mem_of_getElem? (i := 127) rfl
theorem tw128 : (Jvm.Cond.methodLink "com/example/lane8/lane8/protocol/ActionPatternTestPinLaw" (22 : Nat) ({ cls := "com/example/lane8/lane8/protocol/ActionPatternTestPinLaw", name := "c1", desc := "(I)C" } : Jvm.MethodName)) ∈ tables_1 := List.mem_of_getElem? (i := 128) rfl
theorem tw129 : (Jvm.Cond.static ({ cls := "com/example/lane8/lane8/protocol/ActionPatternTestPinLaw", name := "c1", desc := "(I)C" } : Jvm.MethodName)) ∈ tables_1 := List.mem_of_getElem? (i := 129) rfl
theorem tw130 : (Jvm.Cond.code ({ cls := "com/example/lane8/lane8/protocol/ActionPatternTestPinLaw", name := "c1", desc := "(I)C" } : Jvm.MethodName) method_4_code (1 : Nat) (Option.some Jvm.ClassFile.FieldType.char)) ∈ tables_1 := List.mem_of_getElem? (i := 130) rfl
theorem tw131 : (Jvm.Cond.fieldLink "com/example/lane8/lane8/protocol/ActionPatternTestPinLaw" (33 : Nat) "com/example/lane8/lane8/protocol/Action$Kind" "RECV" "Lcom/example/lane8/lane8/protocol/Action$Kind;") ∈ tables_1 := List.mem_of_getElem? (i := 131) rfl
theorem tw132 : (Jvm.Cond.laysStatic "com/example/lane8/lane8/protocol/Action$Kind" "RECV" "Lcom/example/lane8/lane8/protocol/Action$Kind;") ∈ tables_1 := List.mem_of_getElem? (i := 132) rfl
theorem db0_3 : Dec jdk_52_method_21_code 3 (.iload 5) 2 5 := ⟨by decide +kernel, rfl⟩
theorem db0_5 : Dec jdk_52_method_21_code 5 (.iload 4) 2 7 := ⟨by decide +kernel, rfl⟩
theorem db0_7 : DecJ jdk_52_method_21_code 7 (.if_icmp .ge 37) (37) 10 44 := ⟨by decide +kernel, rfl, by decide, by decide⟩
theorem db0_44 : Dec jdk_52_method_21_code 44 (.iload 4) 2 46 := ⟨by decide +kernel, rfl⟩
theorem db0_46 : Dec jdk_52_method_21_code 46 (.ireturn) 1 47 := ⟨by decide +kernel, rfl⟩
theorem db0_10 : Dec jdk_52_method_21_code 10 (.aload_n 0) 1 11 := ⟨by decide +kernel, rfl⟩
theorem db0_11 : Dec jdk_52_method_21_code 11 (.iload_n 1) 1 12 := ⟨by decide +kernel, rfl⟩
theorem db0_12 : Dec jdk_52_method_21_code 12 (.caload) 1 13 := ⟨by decide +kernel, rfl⟩
theorem db0_13 : Dec jdk_52_method_21_code 13 (.istore 6) 2 15 := ⟨by decide +kernel, rfl⟩
theorem db0_15 : Dec jdk_52_method_21_code 15 (.iload 6) 2 17 := ⟨by decide +kernel, rfl⟩
theorem db0_17 : Dec jdk_52_method_21_code 17 (.sipush 255) 3 20 := ⟨by decide +kernel, rfl⟩
theorem db0_20 : DecJ jdk_52_method_21_code 20 (.if_icmp .le 6) (6) 23 26 := ⟨by decide +kernel, rfl, by decide, by decide⟩
theorem db0_26 : Dec jdk_52_method_21_code 26 (.aload_n 2) 1 27 := ⟨by decide +kernel, rfl⟩
theorem db0_27 : Dec jdk_52_method_21_code 27 (.iload_n 3) 1 28 := ⟨by decide +kernel, rfl⟩
theorem db0_28 : Dec jdk_52_method_21_code 28 (.iload 6) 2 30 := ⟨by decide +kernel, rfl⟩
theorem db0_30 : Dec jdk_52_method_21_code 30 (.i2b) 1 31 := ⟨by decide +kernel, rfl⟩
theorem db0_31 : Dec jdk_52_method_21_code 31 (.bastore) 1 32 := ⟨by decide +kernel, rfl⟩
theorem db0_32 : Dec jdk_52_method_21_code 32 (.iinc 1 1) 3 35 := ⟨by decide +kernel, rfl⟩
theorem db0_35 : Dec jdk_52_method_21_code 35 (.iinc 3 1) 3 38 := ⟨by decide +kernel, rfl⟩
theorem db0_38 : Dec jdk_52_method_21_code 38 (.iinc 5 1) 3 41 := ⟨by decide +kernel, rfl⟩
theorem db0_41 : DecJ jdk_52_method_21_code 41 (.goto (-38)) (-38) 44 3 := ⟨by decide +kernel, rfl, by decide, by decide⟩
theorem db0_23 : Dec jdk_52_method_21_code 23 (.iload 5) 2 25 := ⟨by decide +kernel, rfl⟩
theorem db0_25 : Dec jdk_52_method_21_code 25 (.ireturn) 1 26 := ⟨by decide +kernel, rfl⟩
theorem db0_0 : Dec jdk_52_method_21_code 0 (.iconst 0) 1 1 := ⟨by decide +kernel, rfl⟩
theorem db0_1 : Dec jdk_52_method_21_code 1 (.istore 5) 2 3 := ⟨by decide +kernel, rfl⟩
theorem db1_0 : Dec jdk_52_method_15_code 0 (.iload_n 1) 1 1 := ⟨by decide +kernel, rfl⟩
theorem db1_1 : Dec jdk_52_method_15_code 1 (.aload_n 0) 1 2 := ⟨by decide +kernel, rfl⟩
theorem db1_2 : Dec jdk_52_method_15_code 2 (.arraylength) 1 3 := ⟨by decide +kernel, rfl⟩
theorem db1_3 : Dec jdk_52_method_15_code 3 (.isub) 1 4 := ⟨by decide +kernel, rfl⟩
theorem db1_4 : Dec jdk_52_method_15_code 4 (.bipush 31) 2 6 := ⟨by decide +kernel, rfl⟩
theorem db1_6 : Dec jdk_52_method_15_code 6 (.iushr) 1 7 := ⟨by decide +kernel, rfl⟩
theorem db1_7 : Dec jdk_52_method_15_code 7 (.i2b) 1 8 := ⟨by decide +kernel, rfl⟩
theorem db1_8 : Dec jdk_52_method_15_code 8 (.ireturn) 1 9 := ⟨by decide +kernel, rfl⟩
theorem db2_0 : Dec jdk_52_method_16_code 0 (.iload_n 2) 1 1 := ⟨by decide +kernel, rfl⟩
theorem db2_1 : Dec jdk_52_method_16_code 1 (.newarray .byte) 2 3 := ⟨by decide +kernel, rfl⟩
theorem db2_3 : Dec jdk_52_method_16_code 3 (.astore_n 3) 1 4 := ⟨by decide +kernel, rfl⟩
theorem db2_4 : Dec jdk_52_method_16_code 4 (.aload_n 0) 1 5 := ⟨by decide +kernel, rfl⟩
theorem db2_5 : Dec jdk_52_method_16_code 5 (.iload_n 1) 1 6 := ⟨by decide +kernel, rfl⟩
theorem db2_6 : Dec jdk_52_method_16_code 6 (.aload_n 3) 1 7 := ⟨by decide +kernel, rfl⟩
theorem db2_7 : Dec jdk_52_method_16_code 7 (.iconst 0) 1 8 := ⟨by decide +kernel, rfl⟩
theorem db2_8 : Dec jdk_52_method_16_code 8 (.iload_n 2) 1 9 := ⟨by decide +kernel, rfl⟩
theorem db2_9 : Dec jdk_52_method_16_code 9 (.invokestatic 115) 3 12 := ⟨by decide +kernel, rfl⟩
theorem db2_12 : Dec jdk_52_method_16_code 12 (.istore 4) 2 14 := ⟨by decide +kernel, rfl⟩
theorem db2_14 : Dec jdk_52_method_16_code 14 (.iload 4) 2 16 := ⟨by decide +kernel, rfl⟩
theorem db2_16 : Dec jdk_52_method_16_code 16 (.iload_n 2) 1 17 := ⟨by decide +kernel, rfl⟩
theorem db2_17 : DecJ jdk_52_method_16_code 17 (.if_icmp .eq 40) (40) 20 57 := ⟨by decide +kernel, rfl, by decide, by decide⟩
theorem db2_57 : Dec jdk_52_method_16_code 57 (.aload_n 3) 1 58 := ⟨by decide +kernel, rfl⟩
theorem db2_58 : Dec jdk_52_method_16_code 58 (.areturn) 1 59 := ⟨by decide +kernel, rfl⟩
theorem db3_0 : Dec jdk_42_method_149_code 0 (.aload_n 0) 1 1 := ⟨by decide +kernel, rfl⟩
theorem db3_1 : Dec jdk_42_method_149_code 1 (.invokespecial 1) 3 4 := ⟨by decide +kernel, rfl⟩
theorem db3_4 : Dec jdk_42_method_149_code 4 (.iload_n 3) 1 5 := ⟨by decide +kernel, rfl⟩
theorem db3_5 : DecJ jdk_42_method_149_code 5 (.ifCond .ne 22) (22) 8 27 := ⟨by decide +kernel, rfl, by decide, by decide⟩
theorem db3_27 : Dec jdk_42_method_149_code 27 (.getstatic 38) 3 30 := ⟨by decide +kernel, rfl⟩
theorem db3_30 : DecJ jdk_42_method_149_code 30 (.ifCond .eq 28) (28) 33 58 := ⟨by decide +kernel, rfl, by decide, by decide⟩
theorem db3_33 : Dec jdk_42_method_149_code 33 (.aload_n 1) 1 34 := ⟨by decide +kernel, rfl⟩
theorem db3_34 : Dec jdk_42_method_149_code 34 (.iload_n 2) 1 35 := ⟨by decide +kernel, rfl⟩
theorem db3_35 : Dec jdk_42_method_149_code 35 (.iload_n 3) 1 36 := ⟨by decide +kernel, rfl⟩
theorem db3_36 : Dec jdk_42_method_149_code 36 (.invokestatic 177) 3 39 := ⟨by decide +kernel, rfl⟩
theorem db3_39 : Dec jdk_42_method_149_code 39 (.astore 5) 2 41 := ⟨by decide +kernel, rfl⟩
theorem db3_41 : Dec jdk_42_method_149_code 41 (.aload_n 0) 1 42 := ⟨by decide +kernel, rfl⟩
theorem db3_42 : Dec jdk_42_method_149_code 42 (.aload 5) 2 44 := ⟨by decide +kernel, rfl⟩
theorem db3_44 : Dec jdk_42_method_149_code 44 (.iload_n 3) 1 45 := ⟨by decide +kernel, rfl⟩
theorem db3_45 : Dec jdk_42_method_149_code 45 (.invokestatic 47) 3 48 := ⟨by decide +kernel, rfl⟩
theorem db3_48 : Dec jdk_42_method_149_code 48 (.putfield 15) 3 51 := ⟨by decide +kernel, rfl⟩
theorem db3_51 : Dec jdk_42_method_149_code 51 (.aload_n 0) 1 52 := ⟨by decide +kernel, rfl⟩
theorem db3_52 : Dec jdk_42_method_149_code 52 (.aload 5) 2 54 := ⟨by decide +kernel, rfl⟩
theorem db3_54 : Dec jdk_42_method_149_code 54 (.putfield 9) 3 57 := ⟨by decide +kernel, rfl⟩
theorem db3_57 : Dec jdk_42_method_149_code 57 (.return_) 1 58 := ⟨by decide +kernel, rfl⟩
theorem db4_0 : Dec jdk_42_method_3_code 0 (.aload_n 0) 1 1 := ⟨by decide +kernel, rfl⟩
theorem db4_1 : Dec jdk_42_method_3_code 1 (.aload_n 1) 1 2 := ⟨by decide +kernel, rfl⟩
theorem db4_2 : Dec jdk_42_method_3_code 2 (.iconst 0) 1 3 := ⟨by decide +kernel, rfl⟩
theorem db4_3 : Dec jdk_42_method_3_code 3 (.aload_n 1) 1 4 := ⟨by decide +kernel, rfl⟩
theorem db4_4 : Dec jdk_42_method_3_code 4 (.arraylength) 1 5 := ⟨by decide +kernel, rfl⟩
theorem db4_5 : Dec jdk_42_method_3_code 5 (.aconst_null) 1 6 := ⟨by decide +kernel, rfl⟩
theorem db4_6 : Dec jdk_42_method_3_code 6 (.invokespecial 27) 3 9 := ⟨by decide +kernel, rfl⟩
theorem db4_9 : Dec jdk_42_method_3_code 9 (.return_) 1 10 := ⟨by decide +kernel, rfl⟩
theorem db5_9 : Dec jdk_43_method_13_code 9 (.iload_n 2) 1 10 := ⟨by decide +kernel, rfl⟩
theorem db5_10 : Dec jdk_43_method_13_code 10 (.aload_n 0) 1 11 := ⟨by decide +kernel, rfl⟩
theorem db5_11 : Dec jdk_43_method_13_code 11 (.arraylength) 1 12 := ⟨by decide +kernel, rfl⟩
theorem db5_12 : DecJ jdk_43_method_13_code 12 (.if_icmp .ge 20) (20) 15 32 := ⟨by decide +kernel, rfl, by decide, by decide⟩
theorem db5_32 : Dec jdk_43_method_13_code 32 (.iconst 1) 1 33 := ⟨by decide +kernel, rfl⟩
theorem db5_33 : Dec jdk_43_method_13_code 33 (.ireturn) 1 34 := ⟨by decide +kernel, rfl⟩
theorem db5_15 : Dec jdk_43_method_13_code 15 (.aload_n 0) 1 16 := ⟨by decide +kernel, rfl⟩
theorem db5_16 : Dec jdk_43_method_13_code 16 (.iload_n 2) 1 17 := ⟨by decide +kernel, rfl⟩
theorem db5_17 : Dec jdk_43_method_13_code 17 (.baload) 1 18 := ⟨by decide +kernel, rfl⟩
theorem db5_18 : Dec jdk_43_method_13_code 18 (.aload_n 1) 1 19 := ⟨by decide +kernel, rfl⟩
theorem db5_19 : Dec jdk_43_method_13_code 19 (.iload_n 2) 1 20 := ⟨by decide +kernel, rfl⟩
theorem db5_20 : Dec jdk_43_method_13_code 20 (.baload) 1 21 := ⟨by decide +kernel, rfl⟩
theorem db5_21 : DecJ jdk_43_method_13_code 21 (.if_icmp .eq 5) (5) 24 26 := ⟨by decide +kernel, rfl, by decide, by decide⟩
theorem db5_26 : Dec jdk_43_method_13_code 26 (.iinc 2 1) 3 29 := ⟨by decide +kernel, rfl⟩
theorem db5_29 : DecJ jdk_43_method_13_code 29 (.goto (-20)) (-20) 32 9 := ⟨by decide +kernel, rfl, by decide, by decide⟩
theorem db5_24 : Dec jdk_43_method_13_code 24 (.iconst 0) 1 25 := ⟨by decide +kernel, rfl⟩
theorem db5_25 : Dec jdk_43_method_13_code 25 (.ireturn) 1 26 := ⟨by decide +kernel, rfl⟩
theorem db5_0 : Dec jdk_43_method_13_code 0 (.aload_n 0) 1 1 := ⟨by decide +kernel, rfl⟩
theorem db5_1 : Dec jdk_43_method_13_code 1 (.arraylength) 1 2 := ⟨by decide +kernel, rfl⟩
theorem db5_2 : Dec jdk_43_method_13_code 2 (.aload_n 1) 1 3 := ⟨by decide +kernel, rfl⟩
theorem db5_3 : Dec jdk_43_method_13_code 3 (.arraylength) 1 4 := ⟨by decide +kernel, rfl⟩
theorem db5_4 : DecJ jdk_43_method_13_code 4 (.if_icmp .ne 30) (30) 7 34 := ⟨by decide +kernel, rfl, by decide, by decide⟩
theorem db5_34 : Dec jdk_43_method_13_code 34 (.iconst 0) 1 35 := ⟨by decide +kernel, rfl⟩
theorem db5_35 : Dec jdk_43_method_13_code 35 (.ireturn) 1 36 := ⟨by decide +kernel, rfl⟩
theorem db5_7 : Dec jdk_43_method_13_code 7 (.iconst 0) 1 8 := ⟨by decide +kernel, rfl⟩
theorem db5_8 : Dec jdk_43_method_13_code 8 (.istore_n 2) 1 9 := ⟨by decide +kernel, rfl⟩
theorem db6_0 : Dec jdk_42_method_66_code 0 (.aload_n 0) 1 1 := ⟨by decide +kernel, rfl⟩
theorem db6_1 : Dec jdk_42_method_66_code 1 (.aload_n 1) 1 2 := ⟨by decide +kernel, rfl⟩
theorem db6_2 : DecJ jdk_42_method_66_code 2 (.if_acmp .ne 5) (5) 5 7 := ⟨by decide +kernel, rfl, by decide, by decide⟩
theorem db6_5 : Dec jdk_42_method_66_code 5 (.iconst 1) 1 6 := ⟨by decide +kernel, rfl⟩
theorem db6_6 : Dec jdk_42_method_66_code 6 (.ireturn) 1 7 := ⟨by decide +kernel, rfl⟩
theorem db6_7 : Dec jdk_42_method_66_code 7 (.aload_n 1) 1 8 := ⟨by decide +kernel, rfl⟩
theorem db6_8 : Dec jdk_42_method_66_code 8 (.instanceof 10) 3 11 := ⟨by decide +kernel, rfl⟩
theorem db6_11 : DecJ jdk_42_method_66_code 11 (.ifCond .eq 43) (43) 14 54 := ⟨by decide +kernel, rfl, by decide, by decide⟩
theorem db6_14 : Dec jdk_42_method_66_code 14 (.aload_n 1) 1 15 := ⟨by decide +kernel, rfl⟩
theorem db6_15 : Dec jdk_42_method_66_code 15 (.checkcast 10) 3 18 := ⟨by decide +kernel, rfl⟩
theorem db6_18 : Dec jdk_42_method_66_code 18 (.astore_n 2) 1 19 := ⟨by decide +kernel, rfl⟩
theorem db6_19 : Dec jdk_42_method_66_code 19 (.getstatic 38) 3 22 := ⟨by decide +kernel, rfl⟩
theorem db6_22 : DecJ jdk_42_method_66_code 22 (.ifCond .eq 14) (14) 25 36 := ⟨by decide +kernel, rfl, by decide, by decide⟩
theorem db6_25 : Dec jdk_42_method_66_code 25 (.aload_n 0) 1 26 := ⟨by decide +kernel, rfl⟩
theorem db6_26 : Dec jdk_42_method_66_code 26 (.getfield 15) 3 29 := ⟨by decide +kernel, rfl⟩
theorem db6_29 : Dec jdk_42_method_66_code 29 (.aload_n 2) 1 30 := ⟨by decide +kernel, rfl⟩
theorem db6_30 : Dec jdk_42_method_66_code 30 (.getfield 15) 3 33 := ⟨by decide +kernel, rfl⟩
theorem db6_33 : DecJ jdk_42_method_66_code 33 (.if_icmp .ne 21) (21) 36 54 := ⟨by decide +kernel, rfl, by decide, by decide⟩
theorem db6_54 : Dec jdk_42_method_66_code 54 (.iconst 0) 1 55 := ⟨by decide +kernel, rfl⟩
theorem db6_55 : Dec jdk_42_method_66_code 55 (.ireturn) 1 56 := ⟨by decide +kernel, rfl⟩
theorem db6_36 : Dec jdk_42_method_66_code 36 (.aload_n 0) 1 37 := ⟨by decide +kernel, rfl⟩
theorem db6_37 : Dec jdk_42_method_66_code 37 (.getfield 9) 3 40 := ⟨by decide +kernel, rfl⟩
theorem db6_40 : Dec jdk_42_method_66_code 40 (.aload_n 2) 1 41 := ⟨by decide +kernel, rfl⟩
theorem db6_41 : Dec jdk_42_method_66_code 41 (.getfield 9) 3 44 := ⟨by decide +kernel, rfl⟩
theorem db6_44 : Dec jdk_42_method_66_code 44 (.invokestatic 541) 3 47 := ⟨by decide +kernel, rfl⟩
theorem db6_47 : DecJ jdk_42_method_66_code 47 (.ifCond .eq 7) (7) 50 54 := ⟨by decide +kernel, rfl, by decide, by decide⟩
theorem db6_50 : Dec jdk_42_method_66_code 50 (.iconst 1) 1 51 := ⟨by decide +kernel, rfl⟩
theorem db6_51 : DecJ jdk_42_method_66_code 51 (.goto 4) (4) 54 55 := ⟨by decide +kernel, rfl, by decide, by decide⟩
theorem db3_8 : Dec jdk_42_method_149_code 8 (.aload_n 0) 1 9 := ⟨by decide +kernel, rfl⟩
theorem db3_9 : Dec jdk_42_method_149_code 9 (.ldc 7) 2 11 := ⟨by decide +kernel, rfl⟩
theorem db3_11 : Dec jdk_42_method_149_code 11 (.getfield 9) 3 14 := ⟨by decide +kernel, rfl⟩
theorem db3_14 : Dec jdk_42_method_149_code 14 (.putfield 9) 3 17 := ⟨by decide +kernel, rfl⟩
theorem db3_17 : Dec jdk_42_method_149_code 17 (.aload_n 0) 1 18 := ⟨by decide +kernel, rfl⟩
theorem db3_18 : Dec jdk_42_method_149_code 18 (.ldc 7) 2 20 := ⟨by decide +kernel, rfl⟩
theorem db3_20 : Dec jdk_42_method_149_code 20 (.getfield 15) 3 23 := ⟨by decide +kernel, rfl⟩
theorem db3_23 : Dec jdk_42_method_149_code 23 (.putfield 15) 3 26 := ⟨by decide +kernel, rfl⟩
theorem db3_26 : Dec jdk_42_method_149_code 26 (.return_) 1 27 := ⟨by decide +kernel, rfl⟩
theorem db7_0 : Dec method_2_code 0 (.iload_n 0) 1 1 := ⟨by decide +kernel, rfl⟩
theorem db7_1 : Dec method_2_code 1 (.iconst 2) 1 2 := ⟨by decide +kernel, rfl⟩
theorem db7_2 : Dec method_2_code 2 (.iushr) 1 3 := ⟨by decide +kernel, rfl⟩
theorem db7_3 : Dec method_2_code 3 (.iconst 3) 1 4 := ⟨by decide +kernel, rfl⟩
theorem db7_4 : Dec method_2_code 4 (.iand) 1 5 := ⟨by decide +kernel, rfl⟩
theorem db7_5 : Dec method_2_code 5 (.iconst 3) 1 6 := ⟨by decide +kernel, rfl⟩
theorem db7_6 : Dec method_2_code 6 (.irem) 1 7 := ⟨by decide +kernel, rfl⟩
theorem db7_7 : Dec method_2_code 7 (.ireturn) 1 8 := ⟨by decide +kernel, rfl⟩
theorem db8_0 : Dec method_3_code 0 (.iload_n 0) 1 1 := ⟨by decide +kernel, rfl⟩
theorem db8_1 : Dec method_3_code 1 (.iconst 4) 1 2 := ⟨by decide +kernel, rfl⟩
theorem db8_2 : Dec method_3_code 2 (.iushr) 1 3 := ⟨by decide +kernel, rfl⟩
theorem db8_3 : Dec method_3_code 3 (.sipush 255) 3 6 := ⟨by decide +kernel, rfl⟩
theorem db8_6 : Dec method_3_code 6 (.iand) 1 7 := ⟨by decide +kernel, rfl⟩
theorem db8_7 : Dec method_3_code 7 (.i2c) 1 8 := ⟨by decide +kernel, rfl⟩
theorem db8_8 : Dec method_3_code 8 (.ireturn) 1 9 := ⟨by decide +kernel, rfl⟩
theorem db9_0 : Dec method_4_code 0 (.iload_n 0) 1 1 := ⟨by decide +kernel, rfl⟩
theorem db9_1 : Dec method_4_code 1 (.bipush 12) 2 3 := ⟨by decide +kernel, rfl⟩
theorem db9_3 : Dec method_4_code 3 (.iushr) 1 4 := ⟨by decide +kernel, rfl⟩
theorem db9_4 : Dec method_4_code 4 (.sipush 255) 3 7 := ⟨by decide +kernel, rfl⟩
theorem db9_7 : Dec method_4_code 7 (.iand) 1 8 := ⟨by decide +kernel, rfl⟩
theorem db9_8 : Dec method_4_code 8 (.i2c) 1 9 := ⟨by decide +kernel, rfl⟩
theorem db9_9 : Dec method_4_code 9 (.ireturn) 1 10 := ⟨by decide +kernel, rfl⟩
theorem db10_0 : Dec method_5_code 0 (.iload_n 0) 1 1 := ⟨by decide +kernel, rfl⟩
theorem db10_1 : Dec method_5_code 1 (.invokestatic 7) 3 4 := ⟨by decide +kernel, rfl⟩
theorem db10_4 : Dec method_5_code 4 (.istore_n 1) 1 5 := ⟨by decide +kernel, rfl⟩
theorem db10_5 : Dec method_5_code 5 (.iload_n 1) 1 6 := ⟨by decide +kernel, rfl⟩
theorem db10_6 : DecJ method_5_code 6 (.ifCond .ne 14) (14) 9 20 := ⟨by decide +kernel, rfl, by decide, by decide⟩
theorem db10_20 : Dec method_5_code 20 (.iload_n 1) 1 21 := ⟨by decide +kernel, rfl⟩
theorem db10_21 : Dec method_5_code 21 (.iconst 1) 1 22 := ⟨by decide +kernel, rfl⟩
theorem db10_22 : DecJ method_5_code 22 (.if_icmp .ne 21) (21) 25 43 := ⟨by decide +kernel, rfl, by decide, by decide⟩
theorem db10_43 : Dec method_5_code 43 (.new 13) 3 46 := ⟨by decide +kernel, rfl⟩
theorem db10_46 : Dec method_5_code 46 (.dup) 1 47 := ⟨by decide +kernel, rfl⟩
theorem db10_47 : Dec method_5_code 47 (.iconst 2) 1 48 := ⟨by decide +kernel, rfl⟩
theorem db10_48 : Dec method_5_code 48 (.newarray .char) 2 50 := ⟨by decide +kernel, rfl⟩
theorem db10_50 : Dec method_5_code 50 (.dup) 1 51 := ⟨by decide +kernel, rfl⟩
theorem db10_51 : Dec method_5_code 51 (.iconst 0) 1 52 := ⟨by decide +kernel, rfl⟩
theorem db10_52 : Dec method_5_code 52 (.iload_n 0) 1 53 := ⟨by decide +kernel, rfl⟩
theorem db10_53 : Dec method_5_code 53 (.invokestatic 18) 3 56 := ⟨by decide +kernel, rfl⟩
theorem db10_56 : Dec method_5_code 56 (.castore) 1 57 := ⟨by decide +kernel, rfl⟩
theorem db10_57 : Dec method_5_code 57 (.dup) 1 58 := ⟨by decide +kernel, rfl⟩
theorem db10_58 : Dec method_5_code 58 (.iconst 1) 1 59 := ⟨by decide +kernel, rfl⟩
theorem db10_59 : Dec method_5_code 59 (.iload_n 0) 1 60 := ⟨by decide +kernel, rfl⟩
theorem db10_60 : Dec method_5_code 60 (.invokestatic 22) 3 63 := ⟨by decide +kernel, rfl⟩
theorem db10_63 : Dec method_5_code 63 (.castore) 1 64 := ⟨by decide +kernel, rfl⟩
theorem db10_64 : Dec method_5_code 64 (.invokespecial 15) 3 67 := ⟨by decide +kernel, rfl⟩
theorem db10_67 : Dec method_5_code 67 (.areturn) 1 68 := ⟨by decide +kernel, rfl⟩
theorem db10_25 : Dec method_5_code 25 (.new 13) 3 28 := ⟨by decide +kernel, rfl⟩
theorem db10_28 : Dec method_5_code 28 (.dup) 1 29 := ⟨by decide +kernel, rfl⟩
theorem db10_29 : Dec method_5_code 29 (.iconst 1) 1 30 := ⟨by decide +kernel, rfl⟩
theorem db10_30 : Dec method_5_code 30 (.newarray .char) 2 32 := ⟨by decide +kernel, rfl⟩
theorem db10_32 : Dec method_5_code 32 (.dup) 1 33 := ⟨by decide +kernel, rfl⟩
theorem db10_33 : Dec method_5_code 33 (.iconst 0) 1 34 := ⟨by decide +kernel, rfl⟩
theorem db10_34 : Dec method_5_code 34 (.iload_n 0) 1 35 := ⟨by decide +kernel, rfl⟩
theorem db10_35 : Dec method_5_code 35 (.invokestatic 18) 3 38 := ⟨by decide +kernel, rfl⟩
theorem db10_38 : Dec method_5_code 38 (.castore) 1 39 := ⟨by decide +kernel, rfl⟩
theorem db10_39 : Dec method_5_code 39 (.invokespecial 15) 3 42 := ⟨by decide +kernel, rfl⟩
theorem db10_42 : Dec method_5_code 42 (.areturn) 1 43 := ⟨by decide +kernel, rfl⟩
theorem db10_9 : Dec method_5_code 9 (.new 13) 3 12 := ⟨by decide +kernel, rfl⟩
theorem db10_12 : Dec method_5_code 12 (.dup) 1 13 := ⟨by decide +kernel, rfl⟩
theorem db10_13 : Dec method_5_code 13 (.iconst 0) 1 14 := ⟨by decide +kernel, rfl⟩
theorem db10_14 : Dec method_5_code 14 (.newarray .char) 2 16 := ⟨by decide +kernel, rfl⟩
theorem db10_16 : Dec method_5_code 16 (.invokespecial 15) 3 19 := ⟨by decide +kernel, rfl⟩
theorem db10_19 : Dec method_5_code 19 (.areturn) 1 20 := ⟨by decide +kernel, rfl⟩
theorem db11_0 : Dec method_6_code 0 (.iload_n 0) 1 1 := ⟨by decide +kernel, rfl⟩
theorem db11_1 : Dec method_6_code 1 (.invokestatic 7) 3 4 := ⟨by decide +kernel, rfl⟩
theorem db11_4 : Dec method_6_code 4 (.istore_n 2) 1 5 := ⟨by decide +kernel, rfl⟩
theorem db11_5 : Dec method_6_code 5 (.iload_n 2) 1 6 := ⟨by decide +kernel, rfl⟩
theorem db11_6 : Dec method_6_code 6 (.iload_n 1) 1 7 := ⟨by decide +kernel, rfl⟩
theorem db11_7 : Dec method_6_code 7 (.invokestatic 7) 3 10 := ⟨by decide +kernel, rfl⟩
theorem db11_10 : DecJ method_6_code 10 (.if_icmp .eq 5) (5) 13 15 := ⟨by decide +kernel, rfl, by decide, by decide⟩
theorem db11_13 : Dec method_6_code 13 (.iconst 0) 1 14 := ⟨by decide +kernel, rfl⟩
theorem db11_14 : Dec method_6_code 14 (.ireturn) 1 15 := ⟨by decide +kernel, rfl⟩
theorem db11_51 : Dec method_6_code 51 (.iconst 1) 1 52 := ⟨by decide +kernel, rfl⟩
theorem db11_52 : Dec method_6_code 52 (.ireturn) 1 53 := ⟨by decide +kernel, rfl⟩
theorem db11_15 : Dec method_6_code 15 (.iload_n 2) 1 16 := ⟨by decide +kernel, rfl⟩
theorem db11_16 : Dec method_6_code 16 (.iconst 1) 1 17 := ⟨by decide +kernel, rfl⟩
theorem db11_17 : DecJ method_6_code 17 (.if_icmp .lt 16) (16) 20 33 := ⟨by decide +kernel, rfl, by decide, by decide⟩
theorem db11_33 : Dec method_6_code 33 (.iload_n 2) 1 34 := ⟨by decide +kernel, rfl⟩
theorem db11_34 : Dec method_6_code 34 (.iconst 2) 1 35 := ⟨by decide +kernel, rfl⟩
theorem db11_35 : DecJ method_6_code 35 (.if_icmp .lt 16) (16) 38 51 := ⟨by decide +kernel, rfl, by decide, by decide⟩
theorem db11_20 : Dec method_6_code 20 (.iload_n 0) 1 21 := ⟨by decide +kernel, rfl⟩
theorem db11_21 : Dec method_6_code 21 (.invokestatic 18) 3 24 := ⟨by decide +kernel, rfl⟩
theorem db11_24 : Dec method_6_code 24 (.iload_n 1) 1 25 := ⟨by decide +kernel, rfl⟩
theorem db11_25 : Dec method_6_code 25 (.invokestatic 18) 3 28 := ⟨by decide +kernel, rfl⟩
theorem db11_28 : DecJ method_6_code 28 (.if_icmp .eq 5) (5) 31 33 := ⟨by decide +kernel, rfl, by decide, by decide⟩
theorem db11_31 : Dec method_6_code 31 (.iconst 0) 1 32 := ⟨by decide +kernel, rfl⟩
theorem db11_32 : Dec method_6_code 32 (.ireturn) 1 33 := ⟨by decide +kernel, rfl⟩
theorem db11_38 : Dec method_6_code 38 (.iload_n 0) 1 39 := ⟨by decide +kernel, rfl⟩
theorem db11_39 : Dec method_6_code 39 (.invokestatic 22) 3 42 := ⟨by decide +kernel, rfl⟩
theorem db11_42 : Dec method_6_code 42 (.iload_n 1) 1 43 := ⟨by decide +kernel, rfl⟩
theorem db11_43 : Dec method_6_code 43 (.invokestatic 22) 3 46 := ⟨by decide +kernel, rfl⟩
theorem db11_46 : DecJ method_6_code 46 (.if_icmp .eq 5) (5) 49 51 := ⟨by decide +kernel, rfl, by decide, by decide⟩
theorem db11_49 : Dec method_6_code 49 (.iconst 0) 1 50 := ⟨by decide +kernel, rfl⟩
theorem db11_50 : Dec method_6_code 50 (.ireturn) 1 51 := ⟨by decide +kernel, rfl⟩
theorem db12_0 : Dec method_7_code 0 (.iload_n 0) 1 1 := ⟨by decide +kernel, rfl⟩
theorem db12_1 : Dec method_7_code 1 (.iconst 3) 1 2 := ⟨by decide +kernel, rfl⟩
theorem db12_2 : Dec method_7_code 2 (.iand) 1 3 := ⟨by decide +kernel, rfl⟩
theorem db12_3 : Dec method_7_code 3 (.istore_n 2) 1 4 := ⟨by decide +kernel, rfl⟩
theorem db12_4 : Dec method_7_code 4 (.iload_n 2) 1 5 := ⟨by decide +kernel, rfl⟩
theorem db12_5 : DecJ method_7_code 5 (.ifCond .ne 5) (5) 8 10 := ⟨by decide +kernel, rfl, by decide, by decide⟩
theorem db12_10 : Dec method_7_code 10 (.iload_n 2) 1 11 := ⟨by decide +kernel, rfl⟩
theorem db12_11 : Dec method_7_code 11 (.iconst 1) 1 12 := ⟨by decide +kernel, rfl⟩
theorem db12_12 : DecJ method_7_code 12 (.if_icmp .ne 8) (8) 15 20 := ⟨by decide +kernel, rfl, by decide, by decide⟩
theorem db12_20 : Dec method_7_code 20 (.iload_n 0) 1 21 := ⟨by decide +kernel, rfl⟩
theorem db12_21 : Dec method_7_code 21 (.invokestatic 25) 3 24 := ⟨by decide +kernel, rfl⟩
theorem db12_24 : Dec method_7_code 24 (.areturn) 1 25 := ⟨by decide +kernel, rfl⟩
theorem db12_15 : Dec method_7_code 15 (.iload_n 1) 1 16 := ⟨by decide +kernel, rfl⟩
theorem db12_16 : Dec method_7_code 16 (.invokestatic 25) 3 19 := ⟨by decide +kernel, rfl⟩
theorem db12_19 : Dec method_7_code 19 (.areturn) 1 20 := ⟨by decide +kernel, rfl⟩
theorem db12_8 : Dec method_7_code 8 (.aconst_null) 1 9 := ⟨by decide +kernel, rfl⟩
theorem db12_9 : Dec method_7_code 9 (.areturn) 1 10 := ⟨by decide +kernel, rfl⟩
theorem db13_0 : Dec method_8_code 0 (.iload_n 0) 1 1 := ⟨by decide +kernel, rfl⟩
theorem db13_1 : Dec method_8_code 1 (.iconst 3) 1 2 := ⟨by decide +kernel, rfl⟩
theorem db13_2 : Dec method_8_code 2 (.iand) 1 3 := ⟨by decide +kernel, rfl⟩
theorem db13_3 : Dec method_8_code 3 (.istore_n 2) 1 4 := ⟨by decide +kernel, rfl⟩
theorem db13_4 : Dec method_8_code 4 (.iload_n 2) 1 5 := ⟨by decide +kernel, rfl⟩
theorem db13_5 : Dec method_8_code 5 (.iconst 2) 1 6 := ⟨by decide +kernel, rfl⟩
theorem db13_6 : DecJ method_8_code 6 (.if_icmp .ge 5) (5) 9 11 := ⟨by decide +kernel, rfl, by decide, by decide⟩
theorem db13_11 : Dec method_8_code 11 (.iload_n 0) 1 12 := ⟨by decide +kernel, rfl⟩
theorem db13_12 : Dec method_8_code 12 (.iload_n 1) 1 13 := ⟨by decide +kernel, rfl⟩
theorem db13_13 : Dec method_8_code 13 (.invokestatic 29) 3 16 := ⟨by decide +kernel, rfl⟩
theorem db13_16 : Dec method_8_code 16 (.ireturn) 1 17 := ⟨by decide +kernel, rfl⟩
theorem db13_9 : Dec method_8_code 9 (.iconst 1) 1 10 := ⟨by decide +kernel, rfl⟩
theorem db13_10 : Dec method_8_code 10 (.ireturn) 1 11 := ⟨by decide +kernel, rfl⟩
theorem db14_0 : Dec prog_69_method_4_code 0 (.aload_n 0) 1 1 := ⟨by decide +kernel, rfl⟩
theorem db14_1 : DecJ prog_69_method_4_code 1 (.ifnull 11) (11) 4 12 := ⟨by decide +kernel, rfl, by decide, by decide⟩
theorem db14_12 : Dec prog_69_method_4_code 12 (.iconst 1) 1 13 := ⟨by decide +kernel, rfl⟩
theorem db14_13 : DecJ prog_69_method_4_code 13 (.goto 4) (4) 16 17 := ⟨by decide +kernel, rfl, by decide, by decide⟩
theorem db14_17 : Dec prog_69_method_4_code 17 (.ireturn) 1 18 := ⟨by decide +kernel, rfl⟩
theorem db14_4 : Dec prog_69_method_4_code 4 (.aload_n 0) 1 5 := ⟨by decide +kernel, rfl⟩
theorem db14_5 : Dec prog_69_method_4_code 5 (.aload_n 1) 1 6 := ⟨by decide +kernel, rfl⟩
theorem db14_6 : Dec prog_69_method_4_code 6 (.invokevirtual 43) 3 9 := ⟨by decide +kernel, rfl⟩
theorem db14_9 : DecJ prog_69_method_4_code 9 (.ifCond .eq 7) (7) 12 16 := ⟨by decide +kernel, rfl, by decide, by decide⟩
theorem db14_16 : Dec prog_69_method_4_code 16 (.iconst 0) 1 17 := ⟨by decide +kernel, rfl⟩
theorem db15_0 : Dec jdk_30_method_1_code 0 (.aload_n 0) 1 1 := ⟨by decide +kernel, rfl⟩
theorem db15_1 : Dec jdk_30_method_1_code 1 (.invokespecial 1) 3 4 := ⟨by decide +kernel, rfl⟩
theorem db15_4 : Dec jdk_30_method_1_code 4 (.return_) 1 5 := ⟨by decide +kernel, rfl⟩
theorem db16_0 : Dec prog_67_method_1_code 0 (.aload_n 0) 1 1 := ⟨by decide +kernel, rfl⟩
theorem db16_1 : Dec prog_67_method_1_code 1 (.invokespecial 1) 3 4 := ⟨by decide +kernel, rfl⟩
theorem db16_4 : Dec prog_67_method_1_code 4 (.aload_n 0) 1 5 := ⟨by decide +kernel, rfl⟩
theorem db16_5 : Dec prog_67_method_1_code 5 (.aload_n 1) 1 6 := ⟨by decide +kernel, rfl⟩
theorem db16_6 : Dec prog_67_method_1_code 6 (.putfield 7) 3 9 := ⟨by decide +kernel, rfl⟩
theorem db16_9 : Dec prog_67_method_1_code 9 (.aload_n 0) 1 10 := ⟨by decide +kernel, rfl⟩
theorem db16_10 : Dec prog_67_method_1_code 10 (.aload_n 2) 1 11 := ⟨by decide +kernel, rfl⟩
theorem db16_11 : Dec prog_67_method_1_code 11 (.putfield 13) 3 14 := ⟨by decide +kernel, rfl⟩
theorem db16_14 : Dec prog_67_method_1_code 14 (.aload_n 0) 1 15 := ⟨by decide +kernel, rfl⟩
theorem db16_15 : Dec prog_67_method_1_code 15 (.aload_n 3) 1 16 := ⟨by decide +kernel, rfl⟩
theorem db16_16 : Dec prog_67_method_1_code 16 (.putfield 17) 3 19 := ⟨by decide +kernel, rfl⟩
theorem db16_19 : Dec prog_67_method_1_code 19 (.aload_n 0) 1 20 := ⟨by decide +kernel, rfl⟩
theorem db16_20 : Dec prog_67_method_1_code 20 (.aload 4) 2 22 := ⟨by decide +kernel, rfl⟩
theorem db16_22 : Dec prog_67_method_1_code 22 (.putfield 20) 3 25 := ⟨by decide +kernel, rfl⟩
theorem db16_25 : Dec prog_67_method_1_code 25 (.return_) 1 26 := ⟨by decide +kernel, rfl⟩
theorem db17_0 : Dec prog_69_method_1_code 0 (.aload_n 0) 1 1 := ⟨by decide +kernel, rfl⟩
theorem db17_1 : Dec prog_69_method_1_code 1 (.invokespecial 1) 3 4 := ⟨by decide +kernel, rfl⟩
theorem db17_4 : Dec prog_69_method_1_code 4 (.aload_n 0) 1 5 := ⟨by decide +kernel, rfl⟩
theorem db17_5 : Dec prog_69_method_1_code 5 (.aload_n 1) 1 6 := ⟨by decide +kernel, rfl⟩
theorem db17_6 : Dec prog_69_method_1_code 6 (.putfield 7) 3 9 := ⟨by decide +kernel, rfl⟩
theorem db17_9 : Dec prog_69_method_1_code 9 (.aload_n 0) 1 10 := ⟨by decide +kernel, rfl⟩
theorem db17_10 : Dec prog_69_method_1_code 10 (.aload_n 2) 1 11 := ⟨by decide +kernel, rfl⟩
theorem db17_11 : Dec prog_69_method_1_code 11 (.putfield 13) 3 14 := ⟨by decide +kernel, rfl⟩
theorem db17_14 : Dec prog_69_method_1_code 14 (.aload_n 0) 1 15 := ⟨by decide +kernel, rfl⟩
theorem db17_15 : Dec prog_69_method_1_code 15 (.aload_n 3) 1 16 := ⟨by decide +kernel, rfl⟩
theorem db17_16 : Dec prog_69_method_1_code 16 (.putfield 17) 3 19 := ⟨by decide +kernel, rfl⟩
theorem db17_19 : Dec prog_69_method_1_code 19 (.aload_n 0) 1 20 := ⟨by decide +kernel, rfl⟩
theorem db17_20 : Dec prog_69_method_1_code 20 (.aload 4) 2 22 := ⟨by decide +kernel, rfl⟩
theorem db17_22 : Dec prog_69_method_1_code 22 (.putfield 20) 3 25 := ⟨by decide +kernel, rfl⟩
theorem db17_25 : Dec prog_69_method_1_code 25 (.return_) 1 26 := ⟨by decide +kernel, rfl⟩
theorem db18_0 : Dec prog_67_method_5_code 0 (.aload_n 0) 1 1 := ⟨by decide +kernel, rfl⟩
theorem db18_1 : Dec prog_67_method_5_code 1 (.getfield 7) 3 4 := ⟨by decide +kernel, rfl⟩
theorem db18_4 : Dec prog_67_method_5_code 4 (.areturn) 1 5 := ⟨by decide +kernel, rfl⟩
theorem db19_0 : Dec prog_67_method_6_code 0 (.aload_n 0) 1 1 := ⟨by decide +kernel, rfl⟩
theorem db19_1 : Dec prog_67_method_6_code 1 (.getfield 13) 3 4 := ⟨by decide +kernel, rfl⟩
theorem db19_4 : Dec prog_67_method_6_code 4 (.areturn) 1 5 := ⟨by decide +kernel, rfl⟩
theorem db20_0 : Dec prog_67_method_7_code 0 (.aload_n 0) 1 1 := ⟨by decide +kernel, rfl⟩
theorem db20_1 : Dec prog_67_method_7_code 1 (.getfield 17) 3 4 := ⟨by decide +kernel, rfl⟩
theorem db20_4 : Dec prog_67_method_7_code 4 (.areturn) 1 5 := ⟨by decide +kernel, rfl⟩
theorem db21_0 : Dec prog_67_method_8_code 0 (.aload_n 0) 1 1 := ⟨by decide +kernel, rfl⟩
theorem db21_1 : Dec prog_67_method_8_code 1 (.getfield 20) 3 4 := ⟨by decide +kernel, rfl⟩
theorem db21_4 : Dec prog_67_method_8_code 4 (.areturn) 1 5 := ⟨by decide +kernel, rfl⟩
theorem db22_57 : Dec prog_69_method_3_code 57 (.iconst 0) 1 58 := ⟨by decide +kernel, rfl⟩
theorem db22_58 : Dec prog_69_method_3_code 58 (.ireturn) 1 59 := ⟨by decide +kernel, rfl⟩
theorem db22_0 : Dec prog_69_method_3_code 0 (.aload_n 0) 1 1 := ⟨by decide +kernel, rfl⟩
theorem db22_1 : Dec prog_69_method_3_code 1 (.getfield 7) 3 4 := ⟨by decide +kernel, rfl⟩
theorem db22_4 : Dec prog_69_method_3_code 4 (.aload_n 1) 1 5 := ⟨by decide +kernel, rfl⟩
theorem db22_5 : Dec prog_69_method_3_code 5 (.invokevirtual 64) 3 8 := ⟨by decide +kernel, rfl⟩
theorem db22_8 : Dec prog_69_method_3_code 8 (.invokestatic 68) 3 11 := ⟨by decide +kernel, rfl⟩
theorem db22_11 : DecJ prog_69_method_3_code 11 (.ifCond .eq 46) (46) 14 57 := ⟨by decide +kernel, rfl, by decide, by decide⟩
theorem db22_14 : Dec prog_69_method_3_code 14 (.aload_n 0) 1 15 := ⟨by decide +kernel, rfl⟩
theorem db22_15 : Dec prog_69_method_3_code 15 (.getfield 13) 3 18 := ⟨by decide +kernel, rfl⟩
theorem db22_18 : Dec prog_69_method_3_code 18 (.aload_n 1) 1 19 := ⟨by decide +kernel, rfl⟩
theorem db22_19 : Dec prog_69_method_3_code 19 (.invokevirtual 72) 3 22 := ⟨by decide +kernel, rfl⟩
theorem db22_22 : DecJ prog_69_method_3_code 22 (.if_acmp .ne 35) (35) 25 57 := ⟨by decide +kernel, rfl, by decide, by decide⟩
theorem db22_25 : Dec prog_69_method_3_code 25 (.aload_n 0) 1 26 := ⟨by decide +kernel, rfl⟩
theorem db22_26 : Dec prog_69_method_3_code 26 (.getfield 17) 3 29 := ⟨by decide +kernel, rfl⟩
theorem db22_29 : Dec prog_69_method_3_code 29 (.aload_n 1) 1 30 := ⟨by decide +kernel, rfl⟩
theorem db22_30 : Dec prog_69_method_3_code 30 (.invokevirtual 75) 3 33 := ⟨by decide +kernel, rfl⟩
theorem db22_33 : Dec prog_69_method_3_code 33 (.invokestatic 68) 3 36 := ⟨by decide +kernel, rfl⟩
theorem db22_36 : DecJ prog_69_method_3_code 36 (.ifCond .eq 21) (21) 39 57 := ⟨by decide +kernel, rfl, by decide, by decide⟩
theorem db22_39 : Dec prog_69_method_3_code 39 (.aload_n 0) 1 40 := ⟨by decide +kernel, rfl⟩
theorem db22_40 : Dec prog_69_method_3_code 40 (.getfield 20) 3 43 := ⟨by decide +kernel, rfl⟩
theorem db22_43 : Dec prog_69_method_3_code 43 (.aload_n 1) 1 44 := ⟨by decide +kernel, rfl⟩
theorem db22_44 : Dec prog_69_method_3_code 44 (.invokevirtual 77) 3 47 := ⟨by decide +kernel, rfl⟩
theorem db22_47 : Dec prog_69_method_3_code 47 (.invokestatic 68) 3 50 := ⟨by decide +kernel, rfl⟩
theorem db22_50 : DecJ prog_69_method_3_code 50 (.ifCond .eq 7) (7) 53 57 := ⟨by decide +kernel, rfl, by decide, by decide⟩
theorem db22_53 : Dec prog_69_method_3_code 53 (.iconst 1) 1 54 := ⟨by decide +kernel, rfl⟩
theorem db22_54 : DecJ prog_69_method_3_code 54 (.goto 4) (4) 57 58 := ⟨by decide +kernel, rfl, by decide, by decide⟩
theorem dL_36 : Dec code 36 (.new 42) 3 39 := ⟨by decide +kernel, rfl⟩
theorem dL_39 : Dec code 39 (.dup) 1 40 := ⟨by decide +kernel, rfl⟩
theorem dL_40 : Dec code 40 (.iload_n 0) 1 41 := ⟨by decide +kernel, rfl⟩
theorem dL_41 : Dec code 41 (.invokestatic 25) 3 44 := ⟨by decide +kernel, rfl⟩
theorem dL_44 : Dec code 44 (.aload 6) 2 46 := ⟨by decide +kernel, rfl⟩
theorem dL_46 : Dec code 46 (.iload_n 1) 1 47 := ⟨by decide +kernel, rfl⟩
theorem dL_47 : Dec code 47 (.invokestatic 25) 3 50 := ⟨by decide +kernel, rfl⟩
theorem dL_50 : Dec code 50 (.iload_n 2) 1 51 := ⟨by decide +kernel, rfl⟩
theorem dL_51 : Dec code 51 (.invokestatic 25) 3 54 := ⟨by decide +kernel, rfl⟩
theorem dL_54 : Dec code 54 (.invokespecial 44) 3 57 := ⟨by decide +kernel, rfl⟩
theorem dL_57 : Dec code 57 (.astore 8) 2 59 := ⟨by decide +kernel, rfl⟩
theorem dL_59 : Dec code 59 (.new 47) 3 62 := ⟨by decide +kernel, rfl⟩
theorem dL_62 : Dec code 62 (.dup) 1 63 := ⟨by decide +kernel, rfl⟩
theorem dL_63 : Dec code 63 (.iload_n 3) 1 64 := ⟨by decide +kernel, rfl⟩
theorem dL_64 : Dec code 64 (.iload_n 0) 1 65 := ⟨by decide +kernel, rfl⟩
theorem dL_65 : Dec code 65 (.invokestatic 49) 3 68 := ⟨by decide +kernel, rfl⟩
theorem dL_68 : Dec code 68 (.aload 7) 2 70 := ⟨by decide +kernel, rfl⟩
theorem dL_70 : Dec code 70 (.iload 4) 2 72 := ⟨by decide +kernel, rfl⟩
theorem dL_72 : Dec code 72 (.iload_n 1) 1 73 := ⟨by decide +kernel, rfl⟩
theorem dL_73 : Dec code 73 (.invokestatic 49) 3 76 := ⟨by decide +kernel, rfl⟩
theorem dL_76 : Dec code 76 (.iload 5) 2 78 := ⟨by decide +kernel, rfl⟩
theorem dL_78 : Dec code 78 (.iload_n 2) 1 79 := ⟨by decide +kernel, rfl⟩
theorem dL_79 : Dec code 79 (.invokestatic 49) 3 82 := ⟨by decide +kernel, rfl⟩
theorem dL_82 : Dec code 82 (.invokespecial 53) 3 85 := ⟨by decide +kernel, rfl⟩
theorem dL_129 : Dec code 129 (.istore 10) 2 131 := ⟨by decide +kernel, rfl⟩
theorem dL_131 : Dec code 131 (.aload 9) 2 133 := ⟨by decide +kernel, rfl⟩
theorem dL_133 : Dec code 133 (.aload 8) 2 135 := ⟨by decide +kernel, rfl⟩
theorem dL_135 : Dec code 135 (.invokevirtual 57) 3 138 := ⟨by decide +kernel, rfl⟩
theorem dL_138 : Dec code 138 (.iload 10) 2 140 := ⟨by decide +kernel, rfl⟩
theorem dL_140 : DecJ code 140 (.if_icmp .ne 7) (7) 143 147 := ⟨by decide +kernel, rfl, by decide, by decide⟩
theorem dL_143 : Dec code 143 (.iconst 1) 1 144 := ⟨by decide +kernel, rfl⟩
theorem dL_144 : DecJ code 144 (.goto 4) (4) 147 148 := ⟨by decide +kernel, rfl, by decide, by decide⟩
theorem dL_148 : Dec code 148 (.ireturn) 1 149 := ⟨by decide +kernel, rfl⟩
theorem dL_128 : Dec code 128 (.iconst 0) 1 129 := ⟨by decide +kernel, rfl⟩
theorem dL_85 : Dec code 85 (.astore 9) 2 87 := ⟨by decide +kernel, rfl⟩
theorem dL_87 : Dec code 87 (.iload_n 3) 1 88 := ⟨by decide +kernel, rfl⟩
theorem dL_88 : Dec code 88 (.iload_n 0) 1 89 := ⟨by decide +kernel, rfl⟩
theorem dL_89 : Dec code 89 (.invokestatic 54) 3 92 := ⟨by decide +kernel, rfl⟩
theorem dL_92 : DecJ code 92 (.ifCond .eq 36) (36) 95 128 := ⟨by decide +kernel, rfl, by decide, by decide⟩
theorem dL_95 : Dec code 95 (.iload_n 3) 1 96 := ⟨by decide +kernel, rfl⟩
theorem dL_96 : Dec code 96 (.bipush 31) 2 98 := ⟨by decide +kernel, rfl⟩
theorem dL_98 : Dec code 98 (.iushr) 1 99 := ⟨by decide +kernel, rfl⟩
theorem dL_99 : Dec code 99 (.iload_n 0) 1 100 := ⟨by decide +kernel, rfl⟩
theorem dL_100 : Dec code 100 (.bipush 31) 2 102 := ⟨by decide +kernel, rfl⟩
theorem dL_102 : Dec code 102 (.iushr) 1 103 := ⟨by decide +kernel, rfl⟩
theorem dL_103 : DecJ code 103 (.if_icmp .ne 25) (25) 106 128 := ⟨by decide +kernel, rfl, by decide, by decide⟩
theorem dL_106 : Dec code 106 (.iload 4) 2 108 := ⟨by decide +kernel, rfl⟩
theorem dL_108 : Dec code 108 (.iload_n 1) 1 109 := ⟨by decide +kernel, rfl⟩
theorem dL_109 : Dec code 109 (.invokestatic 54) 3 112 := ⟨by decide +kernel, rfl⟩
theorem dL_112 : DecJ code 112 (.ifCond .eq 16) (16) 115 128 := ⟨by decide +kernel, rfl, by decide, by decide⟩
theorem dL_115 : Dec code 115 (.iload 5) 2 117 := ⟨by decide +kernel, rfl⟩
theorem dL_117 : Dec code 117 (.iload_n 2) 1 118 := ⟨by decide +kernel, rfl⟩
theorem dL_118 : Dec code 118 (.invokestatic 54) 3 121 := ⟨by decide +kernel, rfl⟩
theorem dL_121 : DecJ code 121 (.ifCond .eq 7) (7) 124 128 := ⟨by decide +kernel, rfl, by decide, by decide⟩
theorem dL_124 : Dec code 124 (.iconst 1) 1 125 := ⟨by decide +kernel, rfl⟩
theorem dL_125 : DecJ code 125 (.goto 4) (4) 128 129 := ⟨by decide +kernel, rfl, by decide, by decide⟩
theorem dL_0 : Dec code 0 (.iload_n 0) 1 1 := ⟨by decide +kernel, rfl⟩
theorem dL_1 : Dec code 1 (.bipush 31) 2 3 := ⟨by decide +kernel, rfl⟩
theorem dL_3 : Dec code 3 (.iushr) 1 4 := ⟨by decide +kernel, rfl⟩
theorem dL_4 : DecJ code 4 (.ifCond .eq 9) (9) 7 13 := ⟨by decide +kernel, rfl, by decide, by decide⟩
theorem dL_13 : Dec code 13 (.getstatic 39) 3 16 := ⟨by decide +kernel, rfl⟩
theorem dL_16 : Dec code 16 (.astore 6) 2 18 := ⟨by decide +kernel, rfl⟩
theorem dL_18 : Dec code 18 (.iload_n 3) 1 19 := ⟨by decide +kernel, rfl⟩
theorem dL_19 : Dec code 19 (.bipush 31) 2 21 := ⟨by decide +kernel, rfl⟩
theorem dL_21 : Dec code 21 (.iushr) 1 22 := ⟨by decide +kernel, rfl⟩
theorem dL_22 : DecJ code 22 (.ifCond .eq 9) (9) 25 31 := ⟨by decide +kernel, rfl, by decide, by decide⟩
theorem dL_31 : Dec code 31 (.getstatic 39) 3 34 := ⟨by decide +kernel, rfl⟩
theorem dL_34 : Dec code 34 (.astore 7) 2 36 := ⟨by decide +kernel, rfl⟩
theorem dL_25 : Dec code 25 (.getstatic 33) 3 28 := ⟨by decide +kernel, rfl⟩
theorem dL_28 : DecJ code 28 (.goto 6) (6) 31 34 := ⟨by decide +kernel, rfl, by decide, by decide⟩
theorem dL_7 : Dec code 7 (.getstatic 33) 3 10 := ⟨by decide +kernel, rfl⟩
theorem dL_10 : DecJ code 10 (.goto 6) (6) 13 16 := ⟨by decide +kernel, rfl, by decide, by decide⟩
def Base (Z : State) (a0 : Array Value) (EL : List (String × Nat)) : Prop := (∀ d ∈ tables_1, d.before a0 Z = true) ∧ EW Z a0 EL ∧ (∃ z, Sta Z Z.heap ST "COMPACT_STRINGS" "Z" (.int z) ∧ ¬ z = 0) ∧ (∃ v, Sta Z Z.heap "jdk/internal/util/Preconditions" "SIOOBE_FORMATTER" "Ljava/util/function/BiFunction;" v ∧ v.isRef = true) ∧ True
section
variable {l : Launch} {Z : State} {a0 : Array Value} {EL : List (String × Nat)} {nw : Bool}
def Qcmp5 (Z : State) (h : Heap) (d : Addr) (cs : List Int32) : Value → Heap → Prop := fun v h' => Keep h h' [d] ∧ h'.size = h.size ∧ ((v = .int (Int32.ofNat cs.length) ∧ (∀ c ∈ cs, ¬ (255 : Int32) < c) ∧ Arl Z h' d .byte (lat cs)) ∨ (∃ i c, i < cs.length ∧ v = .int (Int32.ofNat i) ∧ cs[i]? = some c ∧ (255 : Int32) < c))
theorem J_cmp5L {p : Program} {e : Env} {R : Room} {s : State} {m : MethodId} {args : Array Value} {below : List Frame} {meth : Method} {c : Code} {own mn : String} {w : Nat} {h : Heap} {b d : Addr} {cs : List Int32} (C : Cxt p m meth c Z a0 EL own mn jdk_52_method_21_code 7 (some .int) tables_1) (A : Arl Z h b .char (ints cs)) (nd : Z.heap.size ≤ d) (hbd : b ≠ d) :
    ∀ (r i : Nat) (hi : Heap) (x6 : Slot), okS x6 = true → i + r = cs.length → Keep h hi [d] → hi.size = h.size → Arl Z hi d .byte (lat (cs.take i) ++ List.replicate r (.int 0)) → (∀ c ∈ cs.take i, ¬ (255 : Int32) < c) →
      Goes p l e R s m args below meth c Z EL nw (rR (Qcmp5 Z h d cs)) [d] w hi 0 0 (mkF m 3 ⟨[.val (.ref b), .val (.int (Int32.ofNat i)), .val (.ref d), .val (.int (Int32.ofNat i)), .val (.int (Int32.ofNat cs.length)), .val (.int (Int32.ofNat i)), x6]⟩ []) := by
  have hN : cs.length < 2 ^ 31 := by have := A.len; rwa [ints_length] at this
  intro r
  induction r with
  | zero =>
    intro i hi x6 hx hir K sz AD hl
    obtain rfl : i = cs.length := by omega
    refine C.iload db0_3 rfl ?_
    refine C.iload db0_5 rfl ?_
    refine C.icmp_ge db0_7 (fun _ => ?_) (fun q => absurd q (fun q => by rw [ofNat_lt hN hN] at q; omega))
    refine C.iload db0_44 rfl ?_
    exact C.ireturn db0_46 rfl (Or.inl rfl) rfl ⟨_, rfl, K, sz, Or.inl ⟨rfl, by simpa using hl, by simpa using AD⟩⟩ (Nat.zero_le _) (Nat.zero_le _)
  | succ r ih =>
    intro i hi x6 hx hir K sz AD hl
    have hlt : i < cs.length := by omega
    have hch : cs[i]? = some cs[i] := List.getElem?_eq_getElem hlt
    generalize cs[i] = ch at hch
    have hI := ofNat_idx (i := i) (by omega)
    refine C.iload db0_3 rfl ?_
    refine C.iload db0_5 rfl ?_
    refine C.icmp_ge db0_7 (fun q => absurd ((ofNat_lt (by omega) hN).mpr hlt) q) (fun _ => ?_)
    refine C.aloadN db0_10 rfl rfl ?_
    refine C.iloadN db0_11 rfl ?_
    refine C.caload db0_12 (A.keep K (by simpa using hbd)) hI.1 hI.2 (ints_get hch) ?_
    refine C.istore db0_13 rfl hx ?_
    refine C.iload db0_15 rfl ?_
    refine C.sipush (255) db0_17 rfl ?_
    refine C.icmp_le db0_20 (fun q => ?_) (fun q => ?_)
    · refine C.aloadN db0_26 rfl rfl ?_
      refine C.iloadN db0_27 rfl ?_
      refine C.iload db0_28 rfl ?_
      refine C.i2b db0_30 ?_
      refine C.bastore db0_31 AD hI.1 hI.2 (by simp [lat]; omega) nd (Or.inl (List.mem_singleton.mpr rfl)) ?_
      intro h2 W2 A2
      refine C.iinc (1) db0_32 rfl rfl ?_
      refine C.iinc (1) db0_35 rfl rfl ?_
      refine C.iinc (1) db0_38 rfl rfl ?_
      refine C.goto db0_41 ?_
      rw [ofNat_succ]
      refine ih (i + 1) h2 _ rfl (by omega) (K.wr W2 (Or.inl (List.mem_singleton.mpr rfl))) (W2.size.trans sz) ?_ ?_
      · have e : lat (cs.take (i + 1)) = lat (cs.take i) ++ [.int (nar .byte (b8 ch))] := by
          rw [List.take_add_one, hch]; simp [lat, nar_b8, b8_b8]
        rw [e, ← fill_step (i := i) (by rw [lat_length, List.length_take]; omega)]; exact A2
      · rw [List.take_add_one, hch]
        intro c hc
        rcases List.mem_append.mp hc with z | z
        · exact hl c z
        · simp at z; subst z; exact q
    · refine C.iload db0_23 rfl ?_
      exact C.ireturn db0_25 rfl (Or.inl rfl) rfl ⟨_, rfl, K, sz, Or.inr ⟨i, ch, hlt, rfl, hch, q⟩⟩ (Nat.zero_le _) (Nat.zero_le _)
theorem J_cmp5 (B : Base Z a0 EL) {h : Heap} {b d : Addr} {cs : List Int32} (A : Arl Z h b .char (ints cs)) (AD : Arl Z h d .byte (List.replicate cs.length (.int 0))) (nd : Z.heap.size ≤ d) (hbd : b ≠ d) :
    Con l Z EL nw (⟨"java/lang/StringUTF16", "compress", "([CI[BII)I"⟩ : MethodName) jdk_52_method_21_code 7 (some .int) (RM 0 0 0 0) [d] #[.ref b, .int 0, .ref d, .int 0, .int (Int32.ofNat cs.length)] h (rR (Qcmp5 Z h d cs)) := by
  refine Con.of (plainFor_of_name (by decide +kernel)) B.1 B.2.1 ⟨[.val (.ref b), .val (.int 0), .val (.ref d), .val (.int 0), .val (.int (Int32.ofNat cs.length)), .unset, .unset]⟩ (fun m => rfl) ?_
  intro p e s m below meth c _ C
  refine C.iconst (0) db0_0 rfl ?_
  refine C.istore db0_1 rfl rfl ?_
  exact J_cmp5L C A nd hbd cs.length 0 h .unset rfl (by omega) (Keep.refl _ _) rfl (by simpa [lat] using AD) (by simp)
theorem J_codl (B : Base Z a0 EL) {h : Heap} {d : Addr} {vs : List Value} {n : Nat} {r : Int32} (A : Arl Z h d .byte vs) (hr : b8 (XT.ushr (Int32.ofNat n - Int32.ofNat vs.length) 31) = r) :
    Con l Z EL nw (⟨"java/lang/StringUTF16", "coderFromArrayLen", "([BI)B"⟩ : MethodName) jdk_52_method_15_code 2 (some .byte) (RM 0 0 0 0) [] #[.ref d, .int (Int32.ofNat n)] h (rR fun v h' => v = .int r ∧ h = h') := by
  refine Con.of (plainFor_of_name (by decide +kernel)) B.1 B.2.1 ⟨[.val (.ref d), .val (.int (Int32.ofNat n))]⟩ (fun m => rfl) ?_
  intro p e s m below meth c _ C
  refine C.iloadN db1_0 rfl ?_
  refine C.aloadN db1_1 rfl rfl ?_
  refine C.arraylength db1_2 A ?_
  refine C.isub db1_3 ?_
  refine C.bipush (31) db1_4 rfl ?_
  refine C.iushr db1_6 ?_
  refine C.i2b db1_7 ?_
  exact C.ireturn db1_8 rfl (Or.inr (Or.inr (Or.inl rfl))) (narrow_byte _) ⟨_, rfl, by rw [hr], rfl⟩ (Nat.zero_le _) (Nat.zero_le _)
theorem J_cmp3 (B : Base Z a0 EL) {h : Heap} {b : Addr} {cs : List Int32} (hL : ∀ c ∈ cs, ¬ (255 : Int32) < c) (hn : cs.length ≤ 4000) (A : Arl Z h b .char (ints cs)) :
    Con l Z EL nw (⟨"java/lang/StringUTF16", "compress", "([CII)[B"⟩ : MethodName) jdk_52_method_16_code 6 (some (.array .byte)) (RM 1 18 1 cs.length) [] #[.ref b, .int 0, .int (Int32.ofNat cs.length)] h (rR fun v h' => ∃ t, v = .ref t ∧ h.size ≤ t ∧ Ext h h' ∧ Arl Z h' t .byte (lat cs)) := by
  have hI := ofNat_idx (i := cs.length) (by omega)
  refine Con.of (plainFor_of_name (by decide +kernel)) B.1 B.2.1 ⟨[.val (.ref b), .val (.int 0), .val (.int (Int32.ofNat cs.length)), .unset, .unset, .unset]⟩ (fun m => rfl) ?_
  intro p e s m below meth c _ C
  refine Goes.old fun O => ?_
  refine C.iloadN db2_0 rfl ?_
  refine C.newarray db2_1 tw28 hI.1 hI.2 (by omega) (le rfl) (by show 0 + cs.length ≤ cs.length; omega) ?_
  intro h1 d g1 E1 l1 A1
  have hbd : @Ne Nat b d := adr_ne A.lt (Nat.le_of_eq g1.symm)
  refine C.astoreN db2_3 rfl rfl rfl ?_
  refine C.aloadN db2_4 rfl rfl ?_
  refine C.iloadN db2_5 rfl ?_
  refine C.aloadN db2_6 rfl rfl ?_
  refine C.iconst (0) db2_7 rfl ?_
  refine C.iloadN db2_8 rfl ?_
  refine C.s5R db2_9 tw122 tw123 tw120 tw124 (by decide) (by decide +kernel) rfl (by simp) (J_cmp5 B (A.ext E1) A1 (by rw [g1]; exact O.1) hbd) (le rfl) (le rfl) (le rfl) (by show 0 + cs.length + 0 ≤ cs.length; omega) ?_
  rintro v h2 ⟨K2, sz2, hv⟩
  have hv' : v = .int (Int32.ofNat cs.length) ∧ Arl Z h2 d .byte (lat cs) := by
    rcases hv with ⟨q1, -, q3⟩ | ⟨i, c, -, -, q4, q5⟩
    · exact ⟨q1, q3⟩
    · exact absurd q5 (hL c (List.mem_of_getElem? q4))
  obtain ⟨rfl, A2⟩ := hv'
  refine C.istore db2_12 rfl rfl ?_
  refine C.iload db2_14 rfl ?_
  refine C.iloadN db2_16 rfl ?_
  refine C.icmp_eq db2_17 (fun _ => ?_) (fun q => absurd rfl q)
  refine C.aloadN db2_57 rfl rfl ?_
  exact C.areturn db2_58 rfl rfl rfl rfl ⟨_, rfl, d, rfl, by omega, ext_of_keep E1 K2 (by simp; omega), A2⟩ (le rfl) (by show 0 + cs.length + 0 ≤ cs.length; omega)
theorem J_new4l (B : Base Z a0 EL) {h : Heap} {a b : Addr} {cs : List Int32} (hc : ∀ c ∈ cs, IsC c) (h0 : cs ≠ []) (hL : ∀ c ∈ cs, ¬ (255 : Int32) < c) (hn : cs.length ≤ 4000) (A : Arl Z h b .char (ints cs)) (na : Z.heap.size ≤ a) (E : Exa Z h a ST) (Fv : Fld Z h a ST "value" "[B" .null) (Fc : Fld Z h a ST "coder" "B" (.int 0)) :
    Con l Z EL nw (⟨"java/lang/String", "<init>", "([CIILjava/lang/Void;)V"⟩ : MethodName) jdk_42_method_149_code 6 none (RM 2 35 1 cs.length) [a] #[.ref a, .ref b, .int 0, .int (Int32.ofNat cs.length), .null] h (rV fun h' => Keep h h' [a] ∧ StrAt Z h' a cs) := by
  obtain ⟨z, Sz, hz⟩ := B.2.2.1
  refine Con.of (plainFor_of_name (by decide +kernel)) B.1 B.2.1 ⟨[.val (.ref a), .val (.ref b), .val (.int 0), .val (.int (Int32.ofNat cs.length)), .val .null, .unset]⟩ (fun m => rfl) ?_
  intro p e s m below meth c _ C
  refine C.aloadN db3_0 rfl rfl ?_
  refine C.initO db3_1 tw24 tw25 tw26 rfl (le rfl) (le rfl) ?_
  refine C.iloadN db3_4 rfl ?_
  refine C.if_ne db3_5 (fun _ => ?_) (fun q => absurd (ofNat_inj (j := 0) (by omega) (by omega) q) (fun q => h0 (List.length_eq_zero_iff.mp q)))
  refine C.getS db3_27 tw95 Sz ?_
  refine C.if_eq db3_30 (fun q => absurd q hz) (fun _ => ?_)
  refine C.aloadN db3_33 rfl rfl ?_
  refine C.iloadN db3_34 rfl ?_
  refine C.iloadN db3_35 rfl ?_
  refine C.s3R db3_36 tw118 tw119 tw120 tw121 (by decide) (by decide +kernel) rfl nof (J_cmp3 B hL hn A) (le rfl) (le rfl) (le rfl) (by show 0 + cs.length ≤ cs.length; omega) ?_
  rintro v h1 ⟨t, rfl, nt, E1, A1⟩
  refine C.astore db3_39 rfl rfl rfl ?_
  refine C.aloadN db3_41 rfl rfl ?_
  refine C.aload db3_42 rfl rfl ?_
  refine C.iloadN db3_44 rfl ?_
  refine C.s2R db3_45 tw125 tw126 tw120 tw127 (by decide) (by decide +kernel) rfl nof (J_codl B (n := cs.length) (r := 0) A1 (by rw [lat_length, Int32.sub_self]; rfl)) (le rfl) (le rfl) (le rfl) (by show 0 + cs.length + 0 ≤ cs.length; omega) ?_
  rintro v h2 ⟨rfl, rfl⟩
  refine C.putF (ty := .byte) db3_48 tw34 (Fc.ext E1) (E.ext E1) (Or.inr ⟨tw30, rfl, rfl⟩) tw14 (by decide +kernel) rfl rfl na (Or.inl (List.mem_singleton.mpr rfl)) ?_
  intro h3 W3
  have nvc : RoadKit.slotOf Z ST "value" "[B" ≠ RoadKit.slotOf Z ST "coder" "B" := slot_ne (C := ST) (a0 := a0) (Or.inr (C.wrd tw29)) (Or.inr (C.wrd tw30)) (by decide) (t := .array .byte) (t' := .byte) (by decide +kernel) (by decide +kernel)
  refine C.aloadN db3_51 rfl rfl ?_
  refine C.aload db3_52 rfl rfl ?_
  refine C.putF (ty := (.array .byte)) db3_54 tw33 ((Fv.ext E1).other W3 (Or.inr nvc)) ((E.ext E1).wr W3) (Or.inr ⟨tw29, rfl, rfl⟩) tw14 (by decide +kernel) rfl rfl na (Or.inl (List.mem_singleton.mpr rfl)) ?_
  intro h4 W4
  have ta : @Ne Nat t a := (adr_ne E.lt nt).symm
  refine C.return_ db3_57 rfl ⟨rfl, ((keep_ext E1 [a]).wr W3 (Or.inl (List.mem_singleton.mpr rfl))).wr W4 (Or.inl (List.mem_singleton.mpr rfl)), t, 0, lat cs, ?_, ?_, ?_, ?_, Or.inl ⟨rfl, rfl, hL⟩, hc, hn⟩ (le rfl) (by show 0 + cs.length + 0 ≤ cs.length; omega)
  · exact ((E.ext E1).wr W3).wr W4
  · exact ((Fv.ext E1).other W3 (Or.inr nvc)).same W4
  · exact ((Fc.ext E1).same W3).other W4 (Or.inr nvc.symm)
  · exact (A1.other W3 ta).other W4 ta
theorem J_new1l (B : Base Z a0 EL) {h : Heap} {a b : Addr} {cs : List Int32} (hc : ∀ c ∈ cs, IsC c) (h0 : cs ≠ []) (hL : ∀ c ∈ cs, ¬ (255 : Int32) < c) (hn : cs.length ≤ 4000) (A : Arl Z h b .char (ints cs)) (na : Z.heap.size ≤ a) (E : Exa Z h a ST) (Fv : Fld Z h a ST "value" "[B" .null) (Fc : Fld Z h a ST "coder" "B" (.int 0)) :
    Con l Z EL nw (⟨"java/lang/String", "<init>", "([C)V"⟩ : MethodName) jdk_42_method_3_code 2 none (RM 3 52 1 cs.length) [a] #[.ref a, .ref b] h (rV fun h' => Keep h h' [a] ∧ StrAt Z h' a cs) := by
  refine Con.of (plainFor_of_name (by decide +kernel)) B.1 B.2.1 ⟨[.val (.ref a), .val (.ref b)]⟩ (fun m => rfl) ?_
  intro p e s m below meth c _ C
  refine C.aloadN db4_0 rfl rfl ?_
  refine C.aloadN db4_1 rfl rfl ?_
  refine C.iconst (0) db4_2 rfl ?_
  refine C.aloadN db4_3 rfl rfl ?_
  refine C.arraylength db4_4 A ?_
  rw [ints_length]
  refine C.aconst_null db4_5 ?_
  refine C.c4 db4_6 rfl tw20 tw21 tw15 tw23 (by decide) (by decide +kernel) rfl (fun _ q => Or.inl q) (J_new4l B hc h0 hL hn A na E Fv Fc) (le rfl) (le rfl) (le rfl) (by show 0 + cs.length ≤ cs.length; omega) ?_
  rintro h1 ⟨K1, S1⟩
  exact C.return_ db4_9 rfl ⟨rfl, K1, S1⟩ (le rfl) (by show 0 + cs.length ≤ cs.length; omega)
theorem J_atoms (B : Base Z a0 EL) : ∀ a ∈ Bundle.stringAtoms, a.before a0 Z = true := fun d hd => B.1 d ((by decide +kernel : ∀ d ∈ Bundle.stringAtoms, d ∈ tables_1) d hd)
def Qleq (h : Heap) (vs ws : List Value) : Value → Heap → Prop := fun v h' => ((v = .int 1 ∧ vs = ws) ∨ (v = .int 0 ∧ vs ≠ ws)) ∧ h = h'
theorem J_leqL {p : Program} {e : Env} {R : Room} {s : State} {m : MethodId} {args : Array Value} {below : List Frame} {meth : Method} {c : Code} {own mn : String} {w : Nat} {h : Heap} {t u : Addr} {vs ws : List Value} (C : Cxt p m meth c Z a0 EL own mn jdk_43_method_13_code 3 (some .boolean) tables_1) (A : Arl Z h t .byte vs) (D : Arl Z h u .byte ws) (hl : vs.length = ws.length) :
    ∀ (r i : Nat), i + r = vs.length → vs.take i = ws.take i → Goes p l e R s m args below meth c Z EL nw (rR (Qleq h vs ws)) [] w h 0 0 (mkF m 9 ⟨[.val (.ref t), .val (.ref u), .val (.int (Int32.ofNat i))]⟩ []) := by
  have hN := A.len
  intro r
  induction r with
  | zero =>
    intro i hir ht
    obtain rfl : i = vs.length := by omega
    refine C.iloadN db5_9 rfl ?_
    refine C.aloadN db5_10 rfl rfl ?_
    refine C.arraylength db5_11 A ?_
    refine C.icmp_ge db5_12 (fun _ => ?_) (fun q => absurd q (fun q => by rw [ofNat_lt hN hN] at q; omega))
    refine C.iconst (1) db5_32 rfl ?_
    exact C.ireturn db5_33 rfl (Or.inr (Or.inl rfl)) rfl ⟨_, rfl, Or.inl ⟨rfl, by rw [List.take_length, hl, List.take_length] at ht; exact ht⟩, rfl⟩ (Nat.zero_le _) (Nat.zero_le _)
  | succ r ih =>
    intro i hir ht
    have hlt : i < vs.length := by omega
    have hI := ofNat_idx (i := i) (by omega)
    have hv : vs[i]? = some vs[i] := List.getElem?_eq_getElem hlt
    have hw : ws[i]? = some (ws[i]'(by omega)) := List.getElem?_eq_getElem (by omega)
    obtain ⟨x, hx⟩ := A.intAt (List.mem_of_getElem? hv)
    obtain ⟨y, hy⟩ := D.intAt (List.mem_of_getElem? hw)
    rw [hx] at hv
    rw [hy] at hw
    refine C.iloadN db5_9 rfl ?_
    refine C.aloadN db5_10 rfl rfl ?_
    refine C.arraylength db5_11 A ?_
    refine C.icmp_ge db5_12 (fun q => absurd ((ofNat_lt (by omega) hN).mpr hlt) q) (fun _ => ?_)
    refine C.aloadN db5_15 rfl rfl ?_
    refine C.iloadN db5_16 rfl ?_
    refine C.baload db5_17 A hI.1 hI.2 hv ?_
    refine C.aloadN db5_18 rfl rfl ?_
    refine C.iloadN db5_19 rfl ?_
    refine C.baload db5_20 D hI.1 hI.2 hw ?_
    refine C.icmp_eq db5_21 (fun q => ?_) (fun q => ?_)
    · refine C.iinc (1) db5_26 rfl rfl ?_
      refine C.goto db5_29 ?_
      rw [ofNat_succ]
      refine ih (i + 1) (by omega) ?_
      rw [List.take_add_one, List.take_add_one, ht, hv, hw, q]
    · refine C.iconst (0) db5_24 rfl ?_
      exact C.ireturn db5_25 rfl (Or.inr (Or.inl rfl)) rfl ⟨_, rfl, Or.inr ⟨rfl, fun z => q (by rw [z, hw] at hv; simpa using hv.symm)⟩, rfl⟩ (Nat.zero_le _) (Nat.zero_le _)
theorem J_leq (B : Base Z a0 EL) {h : Heap} {t u : Addr} {vs ws : List Value} (A : Arl Z h t .byte vs) (D : Arl Z h u .byte ws) : Con l Z EL nw (⟨"java/lang/StringLatin1", "equals", "([B[B)Z"⟩ : MethodName) jdk_43_method_13_code 3 (some .boolean) (RM 0 0 0 0) [] #[.ref t, .ref u] h (rR (Qleq h vs ws)) := by
  refine Con.of (plainFor_of_name (by decide +kernel)) B.1 B.2.1 ⟨[.val (.ref t), .val (.ref u), .unset]⟩ (fun m => rfl) ?_
  intro p e s m below meth c _ C
  refine C.aloadN db5_0 rfl rfl ?_
  refine C.arraylength db5_1 A ?_
  refine C.aloadN db5_2 rfl rfl ?_
  refine C.arraylength db5_3 D ?_
  refine C.icmp_ne db5_4 (fun q => ?_) (fun q => ?_)
  · refine C.iconst (0) db5_34 rfl ?_
    exact C.ireturn db5_35 rfl (Or.inr (Or.inl rfl)) rfl ⟨_, rfl, Or.inr ⟨rfl, fun z => q (by rw [z])⟩, rfl⟩ (le rfl) (le rfl)
  · refine C.iconst (0) db5_7 rfl ?_
    refine C.istoreN db5_8 rfl rfl ?_
    exact J_leqL C A D (ofNat_inj A.len D.len q) vs.length 0 (by omega) rfl
theorem J_eq (B : Base Z a0 EL) {h : Heap} {a b : Addr} {cs ds : List Int32} (S : StrAt Z h a cs) (T : StrAt Z h b ds) : Con l Z EL nw (⟨"java/lang/String", "equals", "(Ljava/lang/Object;)Z"⟩ : MethodName) jdk_42_method_66_code 3 (some .boolean) (RM 1 14 0 0) [] #[.ref a, .ref b] h (rR fun v h' => ((v = .int 1 ∧ cs = ds) ∨ (v = .int 0 ∧ cs ≠ ds)) ∧ h = h') := by
  obtain ⟨z, Sz, hz⟩ := B.2.2.1
  by_cases hab : a = b
  · subst hab
    have hcd : cs = ds := S.uniq T
    refine Con.of (plainFor_of_name (by decide +kernel)) B.1 B.2.1 ⟨[.val (.ref a), .val (.ref a), .unset]⟩ (fun m => rfl) ?_
    intro p e s m below meth c _ C
    refine C.aloadN db6_0 rfl rfl ?_
    refine C.aloadN db6_1 rfl rfl ?_
    refine C.acmp_ne db6_2 rfl rfl (fun q => absurd rfl q) (fun _ => ?_)
    refine C.iconst (1) db6_5 rfl ?_
    exact C.ireturn db6_6 rfl (Or.inr (Or.inl rfl)) rfl ⟨_, rfl, Or.inl ⟨rfl, hcd⟩, rfl⟩ (Nat.zero_le _) (Nat.zero_le _)
  obtain ⟨t, cd, vs, X, Fv, Fc, A, Tx, hC, hn⟩ := id S
  obtain ⟨u, ce, ws, X', Fv', Fc', A', Tx', hC', hn'⟩ := id T
  refine Con.of (plainFor_of_name (by decide +kernel)) B.1 B.2.1 ⟨[.val (.ref a), .val (.ref b), .unset]⟩ (fun m => rfl) ?_
  intro p e s m below meth c _ C
  refine C.aloadN db6_0 rfl rfl ?_
  refine C.aloadN db6_1 rfl rfl ?_
  refine C.acmp_ne db6_2 rfl rfl (fun q => ?_) (fun q => absurd (Value.ref.inj q) hab)
  refine C.aloadN db6_7 rfl rfl ?_
  refine C.instY db6_8 tw94 (Ins.self X') ?_
  refine C.if_eq db6_11 (fun q => absurd q (by decide)) (fun _ => ?_)
  refine C.aloadN db6_14 rfl rfl ?_
  refine C.checkcast db6_15 tw94 (Ins.self X') ?_
  refine C.astoreN db6_18 rfl rfl rfl ?_
  refine C.getS db6_19 tw95 Sz ?_
  refine C.if_eq db6_22 (fun q => absurd q hz) (fun _ => ?_)
  refine C.aloadN db6_25 rfl rfl ?_
  refine C.getF db6_26 tw34 Fc ?_
  refine C.aloadN db6_29 rfl rfl ?_
  refine C.getF db6_30 tw34 Fc' ?_
  refine C.icmp_ne db6_33 (fun q => ?_) (fun q => ?_)
  · refine C.iconst (0) db6_54 rfl ?_
    exact C.ireturn db6_55 rfl (Or.inr (Or.inl rfl)) rfl ⟨_, rfl, Or.inr ⟨rfl, fun z => q (by subst z; exact Tx.coder Tx')⟩, rfl⟩ (le rfl) (le rfl)
  · subst q
    refine C.aloadN db6_36 rfl rfl ?_
    refine C.getF db6_37 tw33 Fv ?_
    refine C.aloadN db6_40 rfl rfl ?_
    refine C.getF db6_41 tw33 Fv' ?_
    refine C.s2R db6_44 tw96 tw97 tw98 tw99 (by decide) (by decide +kernel) rfl nof (J_leq B A A') (le rfl) (le rfl) (le rfl) (le rfl) ?_
    rintro v _ ⟨hv, rfl⟩
    rcases hv with ⟨rfl, q⟩ | ⟨rfl, q⟩
    · refine C.if_eq db6_47 (fun z => absurd z (by decide)) (fun _ => ?_)
      refine C.iconst (1) db6_50 rfl ?_
      refine C.goto db6_51 ?_
      exact C.ireturn db6_55 rfl (Or.inr (Or.inl rfl)) rfl ⟨_, rfl, Or.inl ⟨rfl, Txt.inj hC hC' Tx (q ▸ Tx')⟩, rfl⟩ (le rfl) (le rfl)
    · refine C.if_eq db6_47 (fun _ => ?_) (fun z => absurd rfl z)
      refine C.iconst (0) db6_54 rfl ?_
      exact C.ireturn db6_55 rfl (Or.inr (Or.inl rfl)) rfl ⟨_, rfl, Or.inr ⟨rfl, fun z => q (by subst z; exact Tx.bytes Tx')⟩, rfl⟩ (le rfl) (le rfl)
theorem J_new4e (B : Base Z a0 EL) (hmem : ("java/lang/String", 7) ∈ EL) {h : Heap} {a b : Addr} (na : Z.heap.size ≤ a) (E : Exa Z h a ST) (Fv : Fld Z h a ST "value" "[B" .null) (Fc : Fld Z h a ST "coder" "B" (.int 0)) :
    Con l Z EL false (⟨"java/lang/String", "<init>", "([CIILjava/lang/Void;)V"⟩ : MethodName) jdk_42_method_149_code 6 none (RM 1 12 4 8) [a] #[.ref a, .ref b, .int 0, .int 0, .null] h (rV fun h' => Keep h h' [a] ∧ StrAt Z h' a []) := by
  refine Con.of (plainFor_of_name (by decide +kernel)) B.1 B.2.1 ⟨[.val (.ref a), .val (.ref b), .val (.int 0), .val (.int 0), .val .null, .unset]⟩ (fun m => rfl) ?_
  intro p e s m below meth c _ C
  have nvc : RoadKit.slotOf Z ST "value" "[B" ≠ RoadKit.slotOf Z ST "coder" "B" := slot_ne (C := ST) (a0 := a0) (Or.inr (C.wrd tw29)) (Or.inr (C.wrd tw30)) (by decide) (t := .array .byte) (t' := .byte) (by decide +kernel) (by decide +kernel)
  refine C.aloadN db3_0 rfl rfl ?_
  refine C.initO db3_1 tw24 tw25 tw26 rfl (le rfl) (le rfl) ?_
  refine C.iloadN db3_4 rfl ?_
  refine C.if_ne db3_5 (fun q => absurd rfl q) (fun _ => ?_)
  refine C.aloadN db3_8 rfl rfl ?_
  refine C.ldcS (vs := []) 0 db3_9 rfl tw27 (J_atoms B) hmem ⟨by decide, rfl⟩ (by decide) (le rfl) (le rfl) (le rfl) (le rfl) ?_
  intro h1 s1 b1 E1 X1 c1 v1 A1 n1
  refine C.getF db3_11 tw33 v1 ?_
  refine C.putF (ty := (.array .byte)) db3_14 tw33 (Fv.ext E1) (E.ext E1) (Or.inr ⟨tw29, rfl, rfl⟩) tw14 (by decide +kernel) rfl rfl na (Or.inl (List.mem_singleton.mpr rfl)) ?_
  intro h2 W2
  have n1' := n1 a (List.mem_singleton.mpr rfl)
  refine C.aloadN db3_17 rfl rfl ?_
  refine C.ldcS (vs := []) 0 db3_18 rfl tw27 (J_atoms B) hmem ⟨by decide, rfl⟩ (by decide) (le rfl) (le rfl) (le rfl) (le rfl) ?_
  intro h3 s3 b3 E3 X3 c3 v3 A3 n3
  refine C.getF db3_20 tw34 c3 ?_
  refine C.putF (ty := .byte) db3_23 tw34 (((Fc.ext E1).other W2 (Or.inr nvc.symm)).ext E3) (((E.ext E1).wr W2).ext E3) (Or.inr ⟨tw30, rfl, rfl⟩) tw14 (by decide +kernel) rfl rfl na (Or.inl (List.mem_singleton.mpr rfl)) ?_
  intro h4 W4
  have A4 : Arl Z h4 b1 .byte [] := ((A1.other W2 n1'.2.symm).ext E3).other W4 n1'.2.symm
  refine C.return_ db3_26 rfl ⟨rfl, (((keep_ext E1 [a]).wr W2 (Or.inl (List.mem_singleton.mpr rfl))).ext E3).wr W4 (Or.inl (List.mem_singleton.mpr rfl)), b1, 0, [], ?_, ?_, ?_, A4, Or.inl ⟨rfl, rfl, by simp⟩, by simp, by simp⟩ (le rfl) (le rfl)
  · exact (((E.ext E1).wr W2).ext E3).wr W4
  · exact (((Fv.ext E1).same W2).ext E3).other W4 (Or.inr nvc)
  · exact (((Fc.ext E1).other W2 (Or.inr nvc.symm)).ext E3).same W4
theorem J_new1e (B : Base Z a0 EL) (hmem : ("java/lang/String", 7) ∈ EL) {h : Heap} {a b : Addr} (A : Arl Z h b .char []) (na : Z.heap.size ≤ a) (E : Exa Z h a ST) (Fv : Fld Z h a ST "value" "[B" .null) (Fc : Fld Z h a ST "coder" "B" (.int 0)) :
    Con l Z EL false (⟨"java/lang/String", "<init>", "([C)V"⟩ : MethodName) jdk_42_method_3_code 2 none (RM 2 29 4 8) [a] #[.ref a, .ref b] h (rV fun h' => Keep h h' [a] ∧ StrAt Z h' a []) := by
  refine Con.of (plainFor_of_name (by decide +kernel)) B.1 B.2.1 ⟨[.val (.ref a), .val (.ref b)]⟩ (fun m => rfl) ?_
  intro p e s m below meth c _ C
  refine C.aloadN db4_0 rfl rfl ?_
  refine C.aloadN db4_1 rfl rfl ?_
  refine C.iconst (0) db4_2 rfl ?_
  refine C.aloadN db4_3 rfl rfl ?_
  refine C.arraylength db4_4 A ?_
  refine C.aconst_null db4_5 ?_
  refine C.c4 db4_6 rfl tw20 tw21 tw15 tw23 (by decide) (by decide +kernel) rfl (fun _ q => Or.inl q) (J_new4e B hmem (b := b) na E Fv Fc) (le rfl) (le rfl) (le rfl) (le rfl) ?_
  rintro h1 ⟨K1, S1⟩
  exact C.return_ db4_9 rfl ⟨rfl, K1, S1⟩ (le rfl) (le rfl)
def cA (x : Int32) : Int32 := c16 (XT.ushr x 4 &&& 255)
def cB (x : Int32) : Int32 := c16 (XT.ushr x 12 &&& 255)
theorem cA_L (x : Int32) : IsL (cA x) := by unfold cA; rw [isC_isL (isL_and _)]; exact isL_and _
theorem cB_L (x : Int32) : IsL (cB x) := by unfold cB; rw [isC_isL (isL_and _)]; exact isL_and _
def ln (x : Int32) : Int32 := (XT.ushr x 2 &&& 3) % 3
theorem ln3 (x : Int32) : ln x = 0 ∨ ln x = 1 ∨ ln x = 2 := by
  unfold ln
  have h := c_and (XT.ushr x 2) 3 (by decide)
  have q := (c_irem (XT.ushr x 2 &&& 3) 3 3 rfl).1 h.1
  generalize (XT.ushr x 2 &&& 3) % 3 = y at q
  have : y.toInt = 0 ∨ y.toInt = 1 ∨ y.toInt = 2 := by omega
  rcases this with q | q | q
  · exact Or.inl (Int32.toInt_inj.mp q)
  · exact Or.inr (Or.inl (Int32.toInt_inj.mp q))
  · exact Or.inr (Or.inr (Int32.toInt_inj.mp q))
def chs (x : Int32) : List Int32 := if ln x = 0 then [] else if ln x = 1 then [cA x] else [cA x, cB x]
theorem chsL1 (x : Int32) : ∀ c ∈ [cA x], IsL c := by intro c hc; simp at hc; subst hc; exact cA_L _
theorem chsL2 (x : Int32) : ∀ c ∈ [cA x, cB x], IsL c := by intro c hc; simp at hc; rcases hc with rfl | rfl; exact cA_L _; exact cB_L _
/-- the String that a pattern's field holds, or null -/
def PatAt (Z : State) (h : Heap) (v : Value) (p : Option (List Int32)) : Prop := (v = .null ∧ p = none) ∨ ∃ a cs, v = .ref a ∧ p = some cs ∧ StrAt Z h a cs
theorem PatAt.isRef {Z : State} {h : Heap} {v : Value} {p : Option (List Int32)} (P : PatAt Z h v p) : v.isRef = true := by rcases P with ⟨rfl, -⟩ | ⟨a, cs, rfl, -⟩ <;> rfl
theorem PatAt.ext {Z : State} {h h' : Heap} {v : Value} {p : Option (List Int32)} (P : PatAt Z h v p) (E : Ext h h') : PatAt Z h' v p := P.imp id fun ⟨a, cs, h1, h2, h3⟩ => ⟨a, cs, h1, h2, h3.ext E⟩
theorem PatAt.keep {Z : State} {h h' : Heap} {v : Value} {o : Addr} {p : Option (List Int32)} {cls : String} {a0 : Array Value} {kk : Nat} (P : PatAt Z h v p) (K : Keep h h' [o]) (E : Exa Z h o cls) (hn : cls ≠ OwnW.ST) (wi : (Jvm.Cond.instantiable cls kk).before a0 Z = true) : PatAt Z h' v p := P.imp id fun ⟨a, cs, h1, h2, h3⟩ => ⟨a, cs, h1, h2, h3.keep K E hn wi⟩
def pv (pm x : Int32) : Option (List Int32) := if pm &&& 3 = 0 then none else if pm &&& 3 = 1 then some (chs x) else some (chs pm)
def Fits (pm x : Int32) : Prop := pv pm x = none ∨ pv pm x = some (chs x)
theorem and3 (x : Int32) : x &&& 3 = 0 ∨ x &&& 3 = 1 ∨ x &&& 3 = 2 ∨ x &&& 3 = 3 := by
  have h := c_and x 3 (by decide)
  have e : (3 : Int32).toInt = 3 := rfl
  rw [e] at h
  generalize x &&& 3 = y at h
  have : y.toInt = 0 ∨ y.toInt = 1 ∨ y.toInt = 2 ∨ y.toInt = 3 := by omega
  rcases this with q | q | q | q
  · exact Or.inl (Int32.toInt_inj.mp q)
  · exact Or.inr (Or.inl (Int32.toInt_inj.mp q))
  · exact Or.inr (Or.inr (Or.inl (Int32.toInt_inj.mp q)))
  · exact Or.inr (Or.inr (Or.inr (Int32.toInt_inj.mp q)))
theorem top01 (x : Int32) : XT.ushr x 31 = 0 ∨ XT.ushr x 31 = 1 := by
  have u := c_iushr x 31 31 (by decide) (by decide)
  have p : ((2 ^ 31 : Nat) : Int) = 2147483648 := rfl
  rw [p] at u
  have b := i32_bounds x
  have v : (XT.ushr x 31).toInt = 0 ∨ (XT.ushr x 31).toInt = 1 := by unfold XT.ushr; omega
  exact v.imp (fun q => Int32.toInt_inj.mp q) (fun q => Int32.toInt_inj.mp q)
theorem P_len (B : Base Z a0 EL) {h : Heap} {x : Int32} : Con l Z EL nw (⟨"com/example/lane8/lane8/protocol/ActionPatternTestPinLaw", "len", "(I)I"⟩ : MethodName) method_2_code 1 (some .int) (RM 0 0 0 0) [] #[.int x] h (rR fun v h' => v = .int (ln x) ∧ h = h') := by
  refine Con.of (plainFor_of_name (by decide +kernel)) B.1 B.2.1 ⟨[.val (.int x)]⟩ (fun m => rfl) ?_
  intro p e s m below meth c _ C
  refine C.iloadN db7_0 rfl ?_
  refine C.iconst (2) db7_1 rfl ?_
  refine C.iushr db7_2 ?_
  refine C.iconst (3) db7_3 rfl ?_
  refine C.iand db7_4 ?_
  refine C.iconst (3) db7_5 rfl ?_
  refine C.irem db7_6 (by decide) ?_
  exact C.ireturn db7_7 rfl (Or.inl rfl) rfl ⟨_, rfl, rfl, rfl⟩ (le rfl) (le rfl)
theorem P_c0 (B : Base Z a0 EL) {h : Heap} {x : Int32} : Con l Z EL nw (⟨"com/example/lane8/lane8/protocol/ActionPatternTestPinLaw", "c0", "(I)C"⟩ : MethodName) method_3_code 1 (some .char) (RM 0 0 0 0) [] #[.int x] h (rR fun v h' => v = .int (cA x) ∧ h = h') := by
  refine Con.of (plainFor_of_name (by decide +kernel)) B.1 B.2.1 ⟨[.val (.int x)]⟩ (fun m => rfl) ?_
  intro p e s m below meth c _ C
  refine C.iloadN db8_0 rfl ?_
  refine C.iconst (4) db8_1 rfl ?_
  refine C.iushr db8_2 ?_
  refine C.sipush (255) db8_3 rfl ?_
  refine C.iand db8_6 ?_
  refine C.i2c db8_7 ?_
  exact C.ireturn db8_8 rfl (Or.inr (Or.inr (Or.inr (Or.inl rfl)))) (narrow_char (cA_L x).isC) ⟨_, rfl, rfl, rfl⟩ (le rfl) (le rfl)
theorem P_c1 (B : Base Z a0 EL) {h : Heap} {x : Int32} : Con l Z EL nw (⟨"com/example/lane8/lane8/protocol/ActionPatternTestPinLaw", "c1", "(I)C"⟩ : MethodName) method_4_code 1 (some .char) (RM 0 0 0 0) [] #[.int x] h (rR fun v h' => v = .int (cB x) ∧ h = h') := by
  refine Con.of (plainFor_of_name (by decide +kernel)) B.1 B.2.1 ⟨[.val (.int x)]⟩ (fun m => rfl) ?_
  intro p e s m below meth c _ C
  refine C.iloadN db9_0 rfl ?_
  refine C.bipush (12) db9_1 rfl ?_
  refine C.iushr db9_3 ?_
  refine C.sipush (255) db9_4 rfl ?_
  refine C.iand db9_7 ?_
  refine C.i2c db9_8 ?_
  exact C.ireturn db9_9 rfl (Or.inr (Or.inr (Or.inr (Or.inl rfl)))) (narrow_char (cB_L x).isC) ⟨_, rfl, rfl, rfl⟩ (le rfl) (le rfl)
theorem P_str (B : Base Z a0 EL) (hmem : ("java/lang/String", 7) ∈ EL) {h : Heap} {x : Int32} : Con l Z EL false (⟨"com/example/lane8/lane8/protocol/ActionPatternTestPinLaw", "str", "(I)Ljava/lang/String;"⟩ : MethodName) method_5_code 2 (some (.object ST)) (RM 4 66 6 12) [] #[.int x] h (rR fun v h' => ∃ a, v = .ref a ∧ Ext h h' ∧ StrAt Z h' a (chs x)) := by
  refine Con.of (plainFor_of_name (by decide +kernel)) B.1 B.2.1 ⟨[.val (.int x), .unset]⟩ (fun m => rfl) ?_
  intro p e s m below meth c _ C
  refine C.iloadN db10_0 rfl ?_
  refine C.s1R db10_1 tw10 tw11 tw8 tw12 (by decide) (by decide +kernel) rfl nof (P_len (nw := true) B) (le rfl) (le rfl) (le rfl) (le rfl) ?_
  rintro _ _ ⟨rfl, rfl⟩
  refine C.istoreN db10_4 rfl rfl ?_
  refine C.iloadN db10_5 rfl ?_
  refine C.if_ne db10_6 (fun q0 => ?_) (fun q0 => ?_)
  · refine C.iloadN db10_20 rfl ?_
    refine C.iconst (1) db10_21 rfl ?_
    refine C.icmp_ne db10_22 (fun q1 => ?_) (fun q1 => ?_)
    · have e : chs x = [cA x, cB x] := by simp [chs, q0, q1]
      refine Goes.old fun O => ?_
      refine C.new db10_43 tw13 tw14 tw15 (le rfl) (le rfl) ?_
      intro h1 a g1 E1 X1 D1
      have Fv := D1 (Or.inr (C.wrd tw29)) (ty := (.array .byte)) (by decide +kernel)
      have Fc := D1 (Or.inr (C.wrd tw30)) (ty := .byte) (by decide +kernel)
      have la := X1.lt
      refine C.dup db10_46 rfl ?_
      refine C.iconst (2) db10_47 rfl ?_
      refine C.newarray db10_48 tw16 (by decide) rfl (le rfl) (le rfl) (le rfl) ?_
      intro h2 b g2 E2 l2 A2
      have E9 : Ext h h2 := ext_trans E1 E2
      replace X1 := X1.ext E2
      replace Fv := Fv.ext E2
      replace Fc := Fc.ext E2
      have ab : @Ne Nat a b := adr_ne la (Nat.le_of_eq g2.symm)
      refine C.dup db10_50 rfl ?_
      refine C.iconst (0) db10_51 rfl ?_
      refine C.iloadN db10_52 rfl ?_
      refine C.s1R db10_53 tw115 tw116 tw8 tw117 (by decide) (by decide +kernel) rfl nof (P_c0 B) (le rfl) (le rfl) (le rfl) (le rfl) ?_
      rintro _ _ ⟨rfl, rfl⟩
      refine C.castore db10_56 A2 (by decide) rfl (le rfl) (by have := O.1; have := E1.1; omega) ?_
      intro h3 W3 A3
      replace X1 := X1.wr W3
      replace Fv := Fv.other W3 (Or.inl ab)
      replace Fc := Fc.other W3 (Or.inl ab)
      replace E9 := ext_of_wr E9 W3 (by have := E1.1; omega)
      rw [nar_char ((cA_L x).isC)] at A3
      clear A2
      have A2 := A3
      clear A3
      refine C.dup db10_57 rfl ?_
      refine C.iconst (1) db10_58 rfl ?_
      refine C.iloadN db10_59 rfl ?_
      refine C.s1R db10_60 tw128 tw129 tw8 tw130 (by decide) (by decide +kernel) rfl nof (P_c1 B) (le rfl) (le rfl) (le rfl) (le rfl) ?_
      rintro _ _ ⟨rfl, rfl⟩
      refine C.castore db10_63 A2 (by decide) rfl (le rfl) (by have := O.1; have := E1.1; omega) ?_
      intro h4 W4 A4
      replace X1 := X1.wr W4
      replace Fv := Fv.other W4 (Or.inl ab)
      replace Fc := Fc.other W4 (Or.inl ab)
      replace E9 := ext_of_wr E9 W4 (by have := E1.1; omega)
      rw [nar_char ((cB_L x).isC)] at A4
      clear A2
      have A2 := A4
      clear A4
      refine C.c1 db10_64 rfl tw17 tw18 tw15 tw19 (by decide) (by decide +kernel) rfl (by simp) (J_new1l B (cs := [cA x, cB x]) (fun c hc => (chsL2 x c hc).isC) (by simp) (fun c hc => (chsL2 x c hc).2) (le rfl) A2 (by have := O.1; omega) X1 Fv Fc) (le rfl) (le rfl) (le rfl) (le rfl) ?_
      rintro h9 ⟨K9, S9⟩
      replace E9 := ext_of_keep E9 K9 (by simp; omega)
      exact C.areturn db10_67 rfl rfl rfl rfl ⟨_, rfl, a, rfl, E9, by rw [e]; exact S9⟩ (le rfl) (le rfl)
    · have e : chs x = [cA x] := by simp [chs, q0, q1]
      refine Goes.old fun O => ?_
      refine C.new db10_25 tw13 tw14 tw15 (le rfl) (le rfl) ?_
      intro h1 a g1 E1 X1 D1
      have Fv := D1 (Or.inr (C.wrd tw29)) (ty := (.array .byte)) (by decide +kernel)
      have Fc := D1 (Or.inr (C.wrd tw30)) (ty := .byte) (by decide +kernel)
      have la := X1.lt
      refine C.dup db10_28 rfl ?_
      refine C.iconst (1) db10_29 rfl ?_
      refine C.newarray db10_30 tw16 (by decide) rfl (le rfl) (le rfl) (le rfl) ?_
      intro h2 b g2 E2 l2 A2
      have E9 : Ext h h2 := ext_trans E1 E2
      replace X1 := X1.ext E2
      replace Fv := Fv.ext E2
      replace Fc := Fc.ext E2
      have ab : @Ne Nat a b := adr_ne la (Nat.le_of_eq g2.symm)
      refine C.dup db10_32 rfl ?_
      refine C.iconst (0) db10_33 rfl ?_
      refine C.iloadN db10_34 rfl ?_
      refine C.s1R db10_35 tw115 tw116 tw8 tw117 (by decide) (by decide +kernel) rfl nof (P_c0 B) (le rfl) (le rfl) (le rfl) (le rfl) ?_
      rintro _ _ ⟨rfl, rfl⟩
      refine C.castore db10_38 A2 (by decide) rfl (le rfl) (by have := O.1; have := E1.1; omega) ?_
      intro h3 W3 A3
      replace X1 := X1.wr W3
      replace Fv := Fv.other W3 (Or.inl ab)
      replace Fc := Fc.other W3 (Or.inl ab)
      replace E9 := ext_of_wr E9 W3 (by have := E1.1; omega)
      rw [nar_char ((cA_L x).isC)] at A3
      clear A2
      have A2 := A3
      clear A3
      refine C.c1 db10_39 rfl tw17 tw18 tw15 tw19 (by decide) (by decide +kernel) rfl (by simp) (J_new1l B (cs := [cA x]) (fun c hc => (chsL1 x c hc).isC) (by simp) (fun c hc => (chsL1 x c hc).2) (le rfl) A2 (by have := O.1; omega) X1 Fv Fc) (le rfl) (le rfl) (le rfl) (le rfl) ?_
      rintro h9 ⟨K9, S9⟩
      replace E9 := ext_of_keep E9 K9 (by simp; omega)
      exact C.areturn db10_42 rfl rfl rfl rfl ⟨_, rfl, a, rfl, E9, by rw [e]; exact S9⟩ (le rfl) (le rfl)
  · have e : chs x = [] := by simp [chs, q0]
    refine Goes.old fun O => ?_
    refine C.new db10_9 tw13 tw14 tw15 (le rfl) (le rfl) ?_
    intro h1 a g1 E1 X1 D1
    have Fv := D1 (Or.inr (C.wrd tw29)) (ty := (.array .byte)) (by decide +kernel)
    have Fc := D1 (Or.inr (C.wrd tw30)) (ty := .byte) (by decide +kernel)
    have la := X1.lt
    refine C.dup db10_12 rfl ?_
    refine C.iconst (0) db10_13 rfl ?_
    refine C.newarray db10_14 tw16 (by decide) rfl (le rfl) (le rfl) (le rfl) ?_
    intro h2 b g2 E2 l2 A2
    have E9 : Ext h h2 := ext_trans E1 E2
    replace X1 := X1.ext E2
    replace Fv := Fv.ext E2
    replace Fc := Fc.ext E2
    have ab : @Ne Nat a b := adr_ne la (Nat.le_of_eq g2.symm)
    refine C.c1 db10_16 rfl tw17 tw18 tw15 tw19 (by decide) (by decide +kernel) rfl (by simp) (J_new1e B hmem A2 (by have := O.1; omega) X1 Fv Fc) (le rfl) (le rfl) (le rfl) (le rfl) ?_
    rintro h9 ⟨K9, S9⟩
    replace E9 := ext_of_keep E9 K9 (by simp; omega)
    exact C.areturn db10_19 rfl rfl rfl rfl ⟨_, rfl, a, rfl, E9, by rw [e]; exact S9⟩ (le rfl) (le rfl)
theorem P_same (B : Base Z a0 EL) {h : Heap} {x y : Int32} : Con l Z EL nw (⟨"com/example/lane8/lane8/protocol/ActionPatternTestPinLaw", "same", "(II)Z"⟩ : MethodName) method_6_code 3 (some .boolean) (RM 1 13 0 0) [] #[.int x, .int y] h (rR fun v h' => ((v = .int 1 ∧ chs x = chs y) ∨ (v = .int 0 ∧ chs x ≠ chs y)) ∧ h = h') := by
  refine Con.of (plainFor_of_name (by decide +kernel)) B.1 B.2.1 ⟨[.val (.int x), .val (.int y), .unset]⟩ (fun m => rfl) ?_
  intro p e s m below meth c _ C
  refine C.iloadN db11_0 rfl ?_
  refine C.s1R db11_1 tw10 tw11 tw8 tw12 (by decide) (by decide +kernel) rfl nof (P_len B) (le rfl) (le rfl) (le rfl) (le rfl) ?_
  rintro _ _ ⟨rfl, rfl⟩
  refine C.istoreN db11_4 rfl rfl ?_
  refine C.iloadN db11_5 rfl ?_
  refine C.iloadN db11_6 rfl ?_
  refine C.s1R db11_7 tw10 tw11 tw8 tw12 (by decide) (by decide +kernel) rfl nof (P_len B) (le rfl) (le rfl) (le rfl) (le rfl) ?_
  rintro _ _ ⟨rfl, rfl⟩
  refine C.icmp_eq db11_10 (fun qe => ?_) (fun qe => ?_)
  rotate_left
  · refine C.iconst (0) db11_13 rfl ?_
    refine C.ireturn db11_14 rfl (Or.inr (Or.inl rfl)) rfl ⟨_, rfl, Or.inr ⟨rfl, fun z => qe ?_⟩, rfl⟩ (le rfl) (le rfl)
    have z := congrArg List.length z
    rcases ln3 x with q | q | q <;> rcases ln3 y with q' | q' | q' <;> first | (rw [q, q']; done) | (simp [chs, q, q'] at z)
  have fin : ∀ w : Nat, chs x = chs y → Goes p l e (RM 1 13 0 0) s m #[.int x, .int y] below meth c Z EL nw (rR fun v h' => ((v = .int 1 ∧ chs x = chs y) ∨ (v = .int 0 ∧ chs x ≠ chs y)) ∧ h = h') [] w h 0 0 (mkF m 51 ⟨[.val (.int x), .val (.int y), .val (.int (ln x))]⟩ []) := by
    intro w hxy
    refine C.iconst (1) db11_51 rfl ?_
    exact C.ireturn db11_52 rfl (Or.inr (Or.inl rfl)) rfl ⟨_, rfl, Or.inl ⟨rfl, hxy⟩, rfl⟩ (le rfl) (le rfl)
  refine C.iloadN db11_15 rfl ?_
  refine C.iconst (1) db11_16 rfl ?_
  refine C.icmp_lt db11_17 (fun q0 => ?_) (fun q0 => ?_)
  · have n0 : ln x = 0 := by rcases ln3 x with q | q | q <;> first | exact q | (rw [q] at q0; exact absurd q0 (by decide))
    refine C.iloadN db11_33 rfl ?_
    refine C.iconst (2) db11_34 rfl ?_
    refine C.icmp_lt db11_35 (fun _ => ?_) (fun q1 => absurd (by rw [n0]; decide) q1)
    exact fin _ (by simp [chs, ← qe, n0])
  · refine C.iloadN db11_20 rfl ?_
    refine C.s1R db11_21 tw115 tw116 tw8 tw117 (by decide) (by decide +kernel) rfl nof (P_c0 B) (le rfl) (le rfl) (le rfl) (le rfl) ?_
    rintro _ _ ⟨rfl, rfl⟩
    refine C.iloadN db11_24 rfl ?_
    refine C.s1R db11_25 tw115 tw116 tw8 tw117 (by decide) (by decide +kernel) rfl nof (P_c0 B) (le rfl) (le rfl) (le rfl) (le rfl) ?_
    rintro _ _ ⟨rfl, rfl⟩
    refine C.icmp_eq db11_28 (fun e0 => ?_) (fun e0 => ?_)
    rotate_left
    · refine C.iconst (0) db11_31 rfl ?_
      refine C.ireturn db11_32 rfl (Or.inr (Or.inl rfl)) rfl ⟨_, rfl, Or.inr ⟨rfl, fun z => e0 ?_⟩, rfl⟩ (le rfl) (le rfl)
      rcases ln3 x with q | q | q
      · rw [q] at q0; exact absurd (by decide) q0
      · simp [chs, ← qe, q] at z; exact z
      · simp [chs, ← qe, q] at z; exact z.1
    refine C.iloadN db11_33 rfl ?_
    refine C.iconst (2) db11_34 rfl ?_
    refine C.icmp_lt db11_35 (fun q1 => ?_) (fun q1 => ?_)
    · have n1 : ln x = 1 := by rcases ln3 x with q | q | q <;> first | exact q | (rw [q] at q0; exact absurd (by decide) q0) | (rw [q] at q1; exact absurd q1 (by decide))
      exact fin _ (by simp [chs, ← qe, n1, e0])
    · have n2 : ln x = 2 := by rcases ln3 x with q | q | q <;> first | exact q | (rw [q] at q1; exact absurd (by decide) q1)
      refine C.iloadN db11_38 rfl ?_
      refine C.s1R db11_39 tw128 tw129 tw8 tw130 (by decide) (by decide +kernel) rfl nof (P_c1 B) (le rfl) (le rfl) (le rfl) (le rfl) ?_
      rintro _ _ ⟨rfl, rfl⟩
      refine C.iloadN db11_42 rfl ?_
      refine C.s1R db11_43 tw128 tw129 tw8 tw130 (by decide) (by decide +kernel) rfl nof (P_c1 B) (le rfl) (le rfl) (le rfl) (le rfl) ?_
      rintro _ _ ⟨rfl, rfl⟩
      refine C.icmp_eq db11_46 (fun e1 => ?_) (fun e1 => ?_)
      · exact fin _ (by simp [chs, ← qe, n2, e0, e1])
      · refine C.iconst (0) db11_49 rfl ?_
        refine C.ireturn db11_50 rfl (Or.inr (Or.inl rfl)) rfl ⟨_, rfl, Or.inr ⟨rfl, fun z => e1 ?_⟩, rfl⟩ (le rfl) (le rfl)
        simp [chs, ← qe, n2] at z; exact z.2
theorem P_pat (B : Base Z a0 EL) (hmem : ("java/lang/String", 7) ∈ EL) {h : Heap} {pm x : Int32} : Con l Z EL false (⟨"com/example/lane8/lane8/protocol/ActionPatternTestPinLaw", "pat", "(II)Ljava/lang/String;"⟩ : MethodName) method_7_code 3 (some (.object ST)) (RM 5 79 6 12) [] #[.int pm, .int x] h (rR fun v h' => Ext h h' ∧ PatAt Z h' v (pv pm x)) := by
  refine Con.of (plainFor_of_name (by decide +kernel)) B.1 B.2.1 ⟨[.val (.int pm), .val (.int x), .unset]⟩ (fun m => rfl) ?_
  intro p e s m below meth c _ C
  refine C.iloadN db12_0 rfl ?_
  refine C.iconst (3) db12_1 rfl ?_
  refine C.iand db12_2 ?_
  refine C.istoreN db12_3 rfl rfl ?_
  refine C.iloadN db12_4 rfl ?_
  refine C.if_ne db12_5 (fun q0 => ?_) (fun q0 => ?_)
  · refine C.iloadN db12_10 rfl ?_
    refine C.iconst (1) db12_11 rfl ?_
    refine C.icmp_ne db12_12 (fun q1 => ?_) (fun q1 => ?_)
    · refine C.iloadN db12_20 rfl ?_
      refine C.s1R db12_21 tw6 tw7 tw8 tw9 (by decide) (by decide +kernel) rfl nof (P_str B hmem) (le rfl) (le rfl) (le rfl) (le rfl) ?_
      rintro _ h1 ⟨a, rfl, E1, S1⟩
      exact C.areturn db12_24 rfl rfl rfl rfl ⟨_, rfl, E1, Or.inr ⟨a, _, rfl, by simp [pv, q0, q1], S1⟩⟩ (le rfl) (le rfl)
    · refine C.iloadN db12_15 rfl ?_
      refine C.s1R db12_16 tw6 tw7 tw8 tw9 (by decide) (by decide +kernel) rfl nof (P_str B hmem) (le rfl) (le rfl) (le rfl) (le rfl) ?_
      rintro _ h1 ⟨a, rfl, E1, S1⟩
      exact C.areturn db12_19 rfl rfl rfl rfl ⟨_, rfl, E1, Or.inr ⟨a, _, rfl, by simp [pv, q0, q1], S1⟩⟩ (le rfl) (le rfl)
  · refine C.aconst_null db12_8 ?_
    exact C.areturn db12_9 rfl rfl rfl rfl ⟨_, rfl, ext_refl _, Or.inl ⟨rfl, by simp [pv, q0]⟩⟩ (le rfl) (le rfl)
theorem P_fits (B : Base Z a0 EL) {h : Heap} {pm x : Int32} : Con l Z EL nw (⟨"com/example/lane8/lane8/protocol/ActionPatternTestPinLaw", "fits", "(II)Z"⟩ : MethodName) method_8_code 3 (some .boolean) (RM 2 27 0 0) [] #[.int pm, .int x] h (rR fun v h' => ((v = .int 1 ∧ Fits pm x) ∨ (v = .int 0 ∧ ¬ Fits pm x)) ∧ h = h') := by
  refine Con.of (plainFor_of_name (by decide +kernel)) B.1 B.2.1 ⟨[.val (.int pm), .val (.int x), .unset]⟩ (fun m => rfl) ?_
  intro p e s m below meth c _ C
  refine C.iloadN db13_0 rfl ?_
  refine C.iconst (3) db13_1 rfl ?_
  refine C.iand db13_2 ?_
  refine C.istoreN db13_3 rfl rfl ?_
  refine C.iloadN db13_4 rfl ?_
  refine C.iconst (2) db13_5 rfl ?_
  refine C.icmp_ge db13_6 (fun q => ?_) (fun q => ?_)
  · have e : pv pm x = some (chs pm) := by
      rcases and3 pm with z | z | z | z
      · rw [z] at q; exact absurd (by decide) q
      · rw [z] at q; exact absurd (by decide) q
      · simp [pv, z]
      · simp [pv, z]
    refine C.iloadN db13_11 rfl ?_
    refine C.iloadN db13_12 rfl ?_
    refine C.s2R db13_13 tw73 tw74 tw8 tw75 (by decide) (by decide +kernel) rfl nof (P_same B) (le rfl) (le rfl) (le rfl) (le rfl) ?_
    rintro v _ ⟨hv, rfl⟩
    rcases hv with ⟨rfl, z⟩ | ⟨rfl, z⟩
    · exact C.ireturn db13_16 rfl (Or.inr (Or.inl rfl)) rfl ⟨_, rfl, Or.inl ⟨rfl, Or.inr (by rw [e, z])⟩, rfl⟩ (le rfl) (le rfl)
    · exact C.ireturn db13_16 rfl (Or.inr (Or.inl rfl)) rfl ⟨_, rfl, Or.inr ⟨rfl, by unfold Fits; rw [e]; rintro (y | y); cases y; exact z (Option.some.inj y)⟩, rfl⟩ (le rfl) (le rfl)
  · refine C.iconst (1) db13_9 rfl ?_
    refine C.ireturn db13_10 rfl (Or.inr (Or.inl rfl)) rfl ⟨_, rfl, Or.inl ⟨rfl, ?_⟩, rfl⟩ (le rfl) (le rfl)
    rcases and3 pm with z | z | z | z
    · left; simp [pv, z]
    · right; simp [pv, z]
    · rw [z] at q; exact absurd q (by decide)
    · rw [z] at q; exact absurd q (by decide)
theorem P_mat (B : Base Z a0 EL) {h : Heap} {v : Value} {b : Addr} {pp : Option (List Int32)} {cs : List Int32} (P : PatAt Z h v pp) (S : StrAt Z h b cs) : Con l Z EL nw (⟨"com/example/lane8/lane8/protocol/ActionPattern", "matches", "(Ljava/lang/String;Ljava/lang/String;)Z"⟩ : MethodName) prog_69_method_4_code 2 (some .boolean) (RM 2 28 0 0) [] #[v, .ref b] h (rR fun w h' => ((w = .int 1 ∧ (pp = none ∨ pp = some cs)) ∨ (w = .int 0 ∧ ¬ (pp = none ∨ pp = some cs))) ∧ h = h') := by
  rcases P with ⟨rfl, rfl⟩ | ⟨a, ds, rfl, rfl, T⟩
  · refine Con.of (plainFor_of_name (by decide +kernel)) B.1 B.2.1 ⟨[.val .null, .val (.ref b)]⟩ (fun m => rfl) ?_
    intro p e s m below meth c _ C
    refine C.aloadN db14_0 rfl rfl ?_
    refine C.ifnullY db14_1 ?_
    refine C.iconst (1) db14_12 rfl ?_
    refine C.goto db14_13 ?_
    exact C.ireturn db14_17 rfl (Or.inr (Or.inl rfl)) rfl ⟨_, rfl, Or.inl ⟨rfl, Or.inl rfl⟩, rfl⟩ (le rfl) (le rfl)
  · refine Con.of (plainFor_of_name (by decide +kernel)) B.1 B.2.1 ⟨[.val (.ref a), .val (.ref b)]⟩ (fun m => rfl) ?_
    intro p e s m below meth c _ C
    refine C.aloadN db14_0 rfl rfl ?_
    refine C.ifnullN db14_1 ?_
    refine C.aloadN db14_4 rfl rfl ?_
    refine C.aloadN db14_5 rfl rfl ?_
    refine C.v1R db14_6 tw89 tw90 tw92 tw91 tw15 tw93 (by decide) (by decide +kernel) rfl nof T.exa (fun _ q => notFace_of_selects q) (J_eq B T S) (le rfl) (le rfl) (le rfl) (le rfl) ?_
    rintro w _ ⟨hw, rfl⟩
    rcases hw with ⟨rfl, z⟩ | ⟨rfl, z⟩
    · refine C.if_eq db14_9 (fun y => absurd y (by decide)) (fun _ => ?_)
      refine C.iconst (1) db14_12 rfl ?_
      refine C.goto db14_13 ?_
      exact C.ireturn db14_17 rfl (Or.inr (Or.inl rfl)) rfl ⟨_, rfl, Or.inl ⟨rfl, Or.inr (by rw [z])⟩, rfl⟩ (le rfl) (le rfl)
    · refine C.if_eq db14_9 (fun _ => ?_) (fun y => absurd rfl y)
      refine C.iconst (0) db14_16 rfl ?_
      exact C.ireturn db14_17 rfl (Or.inr (Or.inl rfl)) rfl ⟨_, rfl, Or.inr ⟨rfl, by rintro (y | y); cases y; exact z (Option.some.inj y)⟩, rfl⟩ (le rfl) (le rfl)
theorem P_rec (B : Base Z a0 EL) {h : Heap} {a : Addr} : Con l Z EL nw (⟨"java/lang/Record", "<init>", "()V"⟩ : MethodName) jdk_30_method_1_code 1 none (RM 1 12 0 0) [] #[.ref a] h (rV fun h' => h = h') := by
  refine Con.of (plainFor_of_name (by decide +kernel)) B.1 B.2.1 ⟨[.val (.ref a)]⟩ (fun m => rfl) ?_
  intro p e s m below meth c _ C
  refine C.aloadN db15_0 rfl rfl ?_
  refine C.initO db15_1 tw43 tw25 tw26 rfl (le rfl) (le rfl) ?_
  exact C.return_ db15_4 rfl ⟨rfl, rfl⟩ (le rfl) (le rfl)
theorem P_act (B : Base Z a0 EL) {h : Heap} {a r k t q : Addr} (na : Z.heap.size ≤ a) (X : Exa Z h a "com/example/lane8/lane8/protocol/Action") (F1 : Fld Z h a "com/example/lane8/lane8/protocol/Action" "role" "Ljava/lang/String;" .null) (F2 : Fld Z h a "com/example/lane8/lane8/protocol/Action" "kind" "Lcom/example/lane8/lane8/protocol/Action$Kind;" .null) (F3 : Fld Z h a "com/example/lane8/lane8/protocol/Action" "type" "Ljava/lang/String;" .null) (F4 : Fld Z h a "com/example/lane8/lane8/protocol/Action" "peer" "Ljava/lang/String;" .null) :
    Con l Z EL nw (⟨"com/example/lane8/lane8/protocol/Action", "<init>", "(Ljava/lang/String;Lcom/example/lane8/lane8/protocol/Action$Kind;Ljava/lang/String;Ljava/lang/String;)V"⟩ : MethodName) prog_67_method_1_code 5 none (RM 2 24 0 0) [] #[.ref a, .ref r, .ref k, .ref t, .ref q] h (rV fun h' => Keep h h' [a] ∧ Exa Z h' a "com/example/lane8/lane8/protocol/Action" ∧ Fld Z h' a "com/example/lane8/lane8/protocol/Action" "role" "Ljava/lang/String;" (.ref r) ∧ Fld Z h' a "com/example/lane8/lane8/protocol/Action" "kind" "Lcom/example/lane8/lane8/protocol/Action$Kind;" (.ref k) ∧ Fld Z h' a "com/example/lane8/lane8/protocol/Action" "type" "Ljava/lang/String;" (.ref t) ∧ Fld Z h' a "com/example/lane8/lane8/protocol/Action" "peer" "Ljava/lang/String;" (.ref q)) := by
  refine Con.of (plainFor_of_name (by decide +kernel)) B.1 B.2.1 ⟨[.val (.ref a), .val (.ref r), .val (.ref k), .val (.ref t), .val (.ref q)]⟩ (fun m => rfl) ?_
  intro p e s m below meth c _ C
  refine C.aloadN db16_0 rfl rfl ?_
  refine C.c0 db16_1 rfl tw38 tw39 tw41 tw42 (by decide) (by decide +kernel) rfl nof (P_rec B) (le rfl) (le rfl) (le rfl) (le rfl) ?_
  rintro _ rfl
  have K := Keep.refl h [a]
  refine C.aloadN db16_4 rfl rfl ?_
  refine C.aloadN db16_5 rfl rfl ?_
  refine C.putF (ty := (.object "java/lang/String")) db16_6 tw44 F1 X (Or.inr ⟨tw45, rfl, rfl⟩) tw4 (by decide +kernel) rfl rfl na (Or.inr (Or.inr ⟨by decide, by decide⟩)) ?_
  intro hp6 W6
  replace X := X.wr W6
  replace F1 := F1.same W6
  replace F2 := F2.other W6 (Or.inr (slot_ne (C := "com/example/lane8/lane8/protocol/Action") (a0 := a0) (Or.inr (C.wrd tw47)) (Or.inr (C.wrd tw45)) (by decide) (t := (.object "com/example/lane8/lane8/protocol/Action$Kind")) (t' := (.object "java/lang/String")) (by decide +kernel) (by decide +kernel)))
  replace F3 := F3.other W6 (Or.inr (slot_ne (C := "com/example/lane8/lane8/protocol/Action") (a0 := a0) (Or.inr (C.wrd tw49)) (Or.inr (C.wrd tw45)) (by decide) (t := (.object "java/lang/String")) (t' := (.object "java/lang/String")) (by decide +kernel) (by decide +kernel)))
  replace F4 := F4.other W6 (Or.inr (slot_ne (C := "com/example/lane8/lane8/protocol/Action") (a0 := a0) (Or.inr (C.wrd tw51)) (Or.inr (C.wrd tw45)) (by decide) (t := (.object "java/lang/String")) (t' := (.object "java/lang/String")) (by decide +kernel) (by decide +kernel)))
  replace K := K.wr W6 (Or.inl (List.mem_singleton.mpr rfl))
  refine C.aloadN db16_9 rfl rfl ?_
  refine C.aloadN db16_10 rfl rfl ?_
  refine C.putF (ty := (.object "com/example/lane8/lane8/protocol/Action$Kind")) db16_11 tw46 F2 X (Or.inr ⟨tw47, rfl, rfl⟩) tw4 (by decide +kernel) rfl rfl na (Or.inr (Or.inr ⟨by decide, by decide⟩)) ?_
  intro hp11 W11
  replace X := X.wr W11
  replace F1 := F1.other W11 (Or.inr (slot_ne (C := "com/example/lane8/lane8/protocol/Action") (a0 := a0) (Or.inr (C.wrd tw45)) (Or.inr (C.wrd tw47)) (by decide) (t := (.object "java/lang/String")) (t' := (.object "com/example/lane8/lane8/protocol/Action$Kind")) (by decide +kernel) (by decide +kernel)))
  replace F2 := F2.same W11
  replace F3 := F3.other W11 (Or.inr (slot_ne (C := "com/example/lane8/lane8/protocol/Action") (a0 := a0) (Or.inr (C.wrd tw49)) (Or.inr (C.wrd tw47)) (by decide) (t := (.object "java/lang/String")) (t' := (.object "com/example/lane8/lane8/protocol/Action$Kind")) (by decide +kernel) (by decide +kernel)))
  replace F4 := F4.other W11 (Or.inr (slot_ne (C := "com/example/lane8/lane8/protocol/Action") (a0 := a0) (Or.inr (C.wrd tw51)) (Or.inr (C.wrd tw47)) (by decide) (t := (.object "java/lang/String")) (t' := (.object "com/example/lane8/lane8/protocol/Action$Kind")) (by decide +kernel) (by decide +kernel)))
  replace K := K.wr W11 (Or.inl (List.mem_singleton.mpr rfl))
  refine C.aloadN db16_14 rfl rfl ?_
  refine C.aloadN db16_15 rfl rfl ?_
  refine C.putF (ty := (.object "java/lang/String")) db16_16 tw48 F3 X (Or.inr ⟨tw49, rfl, rfl⟩) tw4 (by decide +kernel) rfl rfl na (Or.inr (Or.inr ⟨by decide, by decide⟩)) ?_
  intro hp16 W16
  replace X := X.wr W16
  replace F1 := F1.other W16 (Or.inr (slot_ne (C := "com/example/lane8/lane8/protocol/Action") (a0 := a0) (Or.inr (C.wrd tw45)) (Or.inr (C.wrd tw49)) (by decide) (t := (.object "java/lang/String")) (t' := (.object "java/lang/String")) (by decide +kernel) (by decide +kernel)))
  replace F2 := F2.other W16 (Or.inr (slot_ne (C := "com/example/lane8/lane8/protocol/Action") (a0 := a0) (Or.inr (C.wrd tw47)) (Or.inr (C.wrd tw49)) (by decide) (t := (.object "com/example/lane8/lane8/protocol/Action$Kind")) (t' := (.object "java/lang/String")) (by decide +kernel) (by decide +kernel)))
  replace F3 := F3.same W16
  replace F4 := F4.other W16 (Or.inr (slot_ne (C := "com/example/lane8/lane8/protocol/Action") (a0 := a0) (Or.inr (C.wrd tw51)) (Or.inr (C.wrd tw49)) (by decide) (t := (.object "java/lang/String")) (t' := (.object "java/lang/String")) (by decide +kernel) (by decide +kernel)))
  replace K := K.wr W16 (Or.inl (List.mem_singleton.mpr rfl))
  refine C.aloadN db16_19 rfl rfl ?_
  refine C.aload db16_20 rfl rfl ?_
  refine C.putF (ty := (.object "java/lang/String")) db16_22 tw50 F4 X (Or.inr ⟨tw51, rfl, rfl⟩) tw4 (by decide +kernel) rfl rfl na (Or.inr (Or.inr ⟨by decide, by decide⟩)) ?_
  intro hp22 W22
  replace X := X.wr W22
  replace F1 := F1.other W22 (Or.inr (slot_ne (C := "com/example/lane8/lane8/protocol/Action") (a0 := a0) (Or.inr (C.wrd tw45)) (Or.inr (C.wrd tw51)) (by decide) (t := (.object "java/lang/String")) (t' := (.object "java/lang/String")) (by decide +kernel) (by decide +kernel)))
  replace F2 := F2.other W22 (Or.inr (slot_ne (C := "com/example/lane8/lane8/protocol/Action") (a0 := a0) (Or.inr (C.wrd tw47)) (Or.inr (C.wrd tw51)) (by decide) (t := (.object "com/example/lane8/lane8/protocol/Action$Kind")) (t' := (.object "java/lang/String")) (by decide +kernel) (by decide +kernel)))
  replace F3 := F3.other W22 (Or.inr (slot_ne (C := "com/example/lane8/lane8/protocol/Action") (a0 := a0) (Or.inr (C.wrd tw49)) (Or.inr (C.wrd tw51)) (by decide) (t := (.object "java/lang/String")) (t' := (.object "java/lang/String")) (by decide +kernel) (by decide +kernel)))
  replace F4 := F4.same W22
  replace K := K.wr W22 (Or.inl (List.mem_singleton.mpr rfl))
  exact C.return_ db16_25 rfl ⟨rfl, K, X, F1, F2, F3, F4⟩ (le rfl) (le rfl)
theorem P_apt (B : Base Z a0 EL) {h : Heap} {a k : Addr} {r t q : Value} (hr : r.isRef = true) (ht : t.isRef = true) (hq : q.isRef = true) (na : Z.heap.size ≤ a) (X : Exa Z h a "com/example/lane8/lane8/protocol/ActionPattern") (F1 : Fld Z h a "com/example/lane8/lane8/protocol/ActionPattern" "role" "Ljava/lang/String;" .null) (F2 : Fld Z h a "com/example/lane8/lane8/protocol/ActionPattern" "kind" "Lcom/example/lane8/lane8/protocol/Action$Kind;" .null) (F3 : Fld Z h a "com/example/lane8/lane8/protocol/ActionPattern" "type" "Ljava/lang/String;" .null) (F4 : Fld Z h a "com/example/lane8/lane8/protocol/ActionPattern" "peer" "Ljava/lang/String;" .null) :
    Con l Z EL nw (⟨"com/example/lane8/lane8/protocol/ActionPattern", "<init>", "(Ljava/lang/String;Lcom/example/lane8/lane8/protocol/Action$Kind;Ljava/lang/String;Ljava/lang/String;)V"⟩ : MethodName) prog_69_method_1_code 5 none (RM 2 24 0 0) [] #[.ref a, r, .ref k, t, q] h (rV fun h' => Keep h h' [a] ∧ Exa Z h' a "com/example/lane8/lane8/protocol/ActionPattern" ∧ Fld Z h' a "com/example/lane8/lane8/protocol/ActionPattern" "role" "Ljava/lang/String;" r ∧ Fld Z h' a "com/example/lane8/lane8/protocol/ActionPattern" "kind" "Lcom/example/lane8/lane8/protocol/Action$Kind;" (.ref k) ∧ Fld Z h' a "com/example/lane8/lane8/protocol/ActionPattern" "type" "Ljava/lang/String;" t ∧ Fld Z h' a "com/example/lane8/lane8/protocol/ActionPattern" "peer" "Ljava/lang/String;" q) := by
  refine Con.of (plainFor_of_name (by decide +kernel)) B.1 B.2.1 ⟨[.val (.ref a), .val r, .val (.ref k), .val t, .val q]⟩ (fun m => by rcases ref_cases hr with rfl | ⟨_, rfl⟩ <;> rcases ref_cases ht with rfl | ⟨_, rfl⟩ <;> rcases ref_cases hq with rfl | ⟨_, rfl⟩ <;> rfl) ?_
  intro p e s m below meth c _ C
  refine C.aloadN db17_0 rfl rfl ?_
  refine C.c0 db17_1 rfl tw61 tw39 tw41 tw42 (by decide) (by decide +kernel) rfl nof (P_rec B) (le rfl) (le rfl) (le rfl) (le rfl) ?_
  rintro _ rfl
  have K := Keep.refl h [a]
  refine C.aloadN db17_4 rfl rfl ?_
  refine C.aloadN db17_5 rfl hr ?_
  refine C.putF (ty := (.object "java/lang/String")) db17_6 tw62 F1 X (Or.inr ⟨tw63, rfl, rfl⟩) tw53 (by decide +kernel) (nar_ref hr) (fits_ref' hr) na (Or.inr (Or.inr ⟨by decide, by decide⟩)) ?_
  intro hp6 W6
  replace X := X.wr W6
  replace F1 := F1.same W6
  replace F2 := F2.other W6 (Or.inr (slot_ne (C := "com/example/lane8/lane8/protocol/ActionPattern") (a0 := a0) (Or.inr (C.wrd tw65)) (Or.inr (C.wrd tw63)) (by decide) (t := (.object "com/example/lane8/lane8/protocol/Action$Kind")) (t' := (.object "java/lang/String")) (by decide +kernel) (by decide +kernel)))
  replace F3 := F3.other W6 (Or.inr (slot_ne (C := "com/example/lane8/lane8/protocol/ActionPattern") (a0 := a0) (Or.inr (C.wrd tw67)) (Or.inr (C.wrd tw63)) (by decide) (t := (.object "java/lang/String")) (t' := (.object "java/lang/String")) (by decide +kernel) (by decide +kernel)))
  replace F4 := F4.other W6 (Or.inr (slot_ne (C := "com/example/lane8/lane8/protocol/ActionPattern") (a0 := a0) (Or.inr (C.wrd tw69)) (Or.inr (C.wrd tw63)) (by decide) (t := (.object "java/lang/String")) (t' := (.object "java/lang/String")) (by decide +kernel) (by decide +kernel)))
  replace K := K.wr W6 (Or.inl (List.mem_singleton.mpr rfl))
  refine C.aloadN db17_9 rfl rfl ?_
  refine C.aloadN db17_10 rfl rfl ?_
  refine C.putF (ty := (.object "com/example/lane8/lane8/protocol/Action$Kind")) db17_11 tw64 F2 X (Or.inr ⟨tw65, rfl, rfl⟩) tw53 (by decide +kernel) rfl rfl na (Or.inr (Or.inr ⟨by decide, by decide⟩)) ?_
  intro hp11 W11
  replace X := X.wr W11
  replace F1 := F1.other W11 (Or.inr (slot_ne (C := "com/example/lane8/lane8/protocol/ActionPattern") (a0 := a0) (Or.inr (C.wrd tw63)) (Or.inr (C.wrd tw65)) (by decide) (t := (.object "java/lang/String")) (t' := (.object "com/example/lane8/lane8/protocol/Action$Kind")) (by decide +kernel) (by decide +kernel)))
  replace F2 := F2.same W11
  replace F3 := F3.other W11 (Or.inr (slot_ne (C := "com/example/lane8/lane8/protocol/ActionPattern") (a0 := a0) (Or.inr (C.wrd tw67)) (Or.inr (C.wrd tw65)) (by decide) (t := (.object "java/lang/String")) (t' := (.object "com/example/lane8/lane8/protocol/Action$Kind")) (by decide +kernel) (by decide +kernel)))
  replace F4 := F4.other W11 (Or.inr (slot_ne (C := "com/example/lane8/lane8/protocol/ActionPattern") (a0 := a0) (Or.inr (C.wrd tw69)) (Or.inr (C.wrd tw65)) (by decide) (t := (.object "java/lang/String")) (t' := (.object "com/example/lane8/lane8/protocol/Action$Kind")) (by decide +kernel) (by decide +kernel)))
  replace K := K.wr W11 (Or.inl (List.mem_singleton.mpr rfl))
  refine C.aloadN db17_14 rfl rfl ?_
  refine C.aloadN db17_15 rfl ht ?_
  refine C.putF (ty := (.object "java/lang/String")) db17_16 tw66 F3 X (Or.inr ⟨tw67, rfl, rfl⟩) tw53 (by decide +kernel) (nar_ref ht) (fits_ref' ht) na (Or.inr (Or.inr ⟨by decide, by decide⟩)) ?_
  intro hp16 W16
  replace X := X.wr W16
  replace F1 := F1.other W16 (Or.inr (slot_ne (C := "com/example/lane8/lane8/protocol/ActionPattern") (a0 := a0) (Or.inr (C.wrd tw63)) (Or.inr (C.wrd tw67)) (by decide) (t := (.object "java/lang/String")) (t' := (.object "java/lang/String")) (by decide +kernel) (by decide +kernel)))
  replace F2 := F2.other W16 (Or.inr (slot_ne (C := "com/example/lane8/lane8/protocol/ActionPattern") (a0 := a0) (Or.inr (C.wrd tw65)) (Or.inr (C.wrd tw67)) (by decide) (t := (.object "com/example/lane8/lane8/protocol/Action$Kind")) (t' := (.object "java/lang/String")) (by decide +kernel) (by decide +kernel)))
  replace F3 := F3.same W16
  replace F4 := F4.other W16 (Or.inr (slot_ne (C := "com/example/lane8/lane8/protocol/ActionPattern") (a0 := a0) (Or.inr (C.wrd tw69)) (Or.inr (C.wrd tw67)) (by decide) (t := (.object "java/lang/String")) (t' := (.object "java/lang/String")) (by decide +kernel) (by decide +kernel)))
  replace K := K.wr W16 (Or.inl (List.mem_singleton.mpr rfl))
  refine C.aloadN db17_19 rfl rfl ?_
  refine C.aload db17_20 rfl hq ?_
  refine C.putF (ty := (.object "java/lang/String")) db17_22 tw68 F4 X (Or.inr ⟨tw69, rfl, rfl⟩) tw53 (by decide +kernel) (nar_ref hq) (fits_ref' hq) na (Or.inr (Or.inr ⟨by decide, by decide⟩)) ?_
  intro hp22 W22
  replace X := X.wr W22
  replace F1 := F1.other W22 (Or.inr (slot_ne (C := "com/example/lane8/lane8/protocol/ActionPattern") (a0 := a0) (Or.inr (C.wrd tw63)) (Or.inr (C.wrd tw69)) (by decide) (t := (.object "java/lang/String")) (t' := (.object "java/lang/String")) (by decide +kernel) (by decide +kernel)))
  replace F2 := F2.other W22 (Or.inr (slot_ne (C := "com/example/lane8/lane8/protocol/ActionPattern") (a0 := a0) (Or.inr (C.wrd tw65)) (Or.inr (C.wrd tw69)) (by decide) (t := (.object "com/example/lane8/lane8/protocol/Action$Kind")) (t' := (.object "java/lang/String")) (by decide +kernel) (by decide +kernel)))
  replace F3 := F3.other W22 (Or.inr (slot_ne (C := "com/example/lane8/lane8/protocol/ActionPattern") (a0 := a0) (Or.inr (C.wrd tw67)) (Or.inr (C.wrd tw69)) (by decide) (t := (.object "java/lang/String")) (t' := (.object "java/lang/String")) (by decide +kernel) (by decide +kernel)))
  replace F4 := F4.same W22
  replace K := K.wr W22 (Or.inl (List.mem_singleton.mpr rfl))
  exact C.return_ db17_25 rfl ⟨rfl, K, X, F1, F2, F3, F4⟩ (le rfl) (le rfl)
theorem P_role (B : Base Z a0 EL) {h : Heap} {a v : Addr} (F : Fld Z h a "com/example/lane8/lane8/protocol/Action" "role" "Ljava/lang/String;" (.ref v)) : Con l Z EL nw (⟨"com/example/lane8/lane8/protocol/Action", "role", "()Ljava/lang/String;"⟩ : MethodName) prog_67_method_5_code 1 (some (.object ST)) (RM 0 0 0 0) [] #[.ref a] h (rR fun w h' => w = .ref v ∧ h = h') := by
  refine Con.of (plainFor_of_name (by decide +kernel)) B.1 B.2.1 ⟨[.val (.ref a)]⟩ (fun m => rfl) ?_
  intro p e s m below meth c _ C
  refine C.aloadN db18_0 rfl rfl ?_
  refine C.getF db18_1 tw44 F ?_
  exact C.areturn db18_4 rfl rfl rfl rfl ⟨_, rfl, rfl, rfl⟩ (le rfl) (le rfl)
theorem P_kind (B : Base Z a0 EL) {h : Heap} {a v : Addr} (F : Fld Z h a "com/example/lane8/lane8/protocol/Action" "kind" "Lcom/example/lane8/lane8/protocol/Action$Kind;" (.ref v)) : Con l Z EL nw (⟨"com/example/lane8/lane8/protocol/Action", "kind", "()Lcom/example/lane8/lane8/protocol/Action$Kind;"⟩ : MethodName) prog_67_method_6_code 1 (some (.object "com/example/lane8/lane8/protocol/Action$Kind")) (RM 0 0 0 0) [] #[.ref a] h (rR fun w h' => w = .ref v ∧ h = h') := by
  refine Con.of (plainFor_of_name (by decide +kernel)) B.1 B.2.1 ⟨[.val (.ref a)]⟩ (fun m => rfl) ?_
  intro p e s m below meth c _ C
  refine C.aloadN db19_0 rfl rfl ?_
  refine C.getF db19_1 tw46 F ?_
  exact C.areturn db19_4 rfl rfl rfl rfl ⟨_, rfl, rfl, rfl⟩ (le rfl) (le rfl)
theorem P_type (B : Base Z a0 EL) {h : Heap} {a v : Addr} (F : Fld Z h a "com/example/lane8/lane8/protocol/Action" "type" "Ljava/lang/String;" (.ref v)) : Con l Z EL nw (⟨"com/example/lane8/lane8/protocol/Action", "type", "()Ljava/lang/String;"⟩ : MethodName) prog_67_method_7_code 1 (some (.object ST)) (RM 0 0 0 0) [] #[.ref a] h (rR fun w h' => w = .ref v ∧ h = h') := by
  refine Con.of (plainFor_of_name (by decide +kernel)) B.1 B.2.1 ⟨[.val (.ref a)]⟩ (fun m => rfl) ?_
  intro p e s m below meth c _ C
  refine C.aloadN db20_0 rfl rfl ?_
  refine C.getF db20_1 tw48 F ?_
  exact C.areturn db20_4 rfl rfl rfl rfl ⟨_, rfl, rfl, rfl⟩ (le rfl) (le rfl)
theorem P_peer (B : Base Z a0 EL) {h : Heap} {a v : Addr} (F : Fld Z h a "com/example/lane8/lane8/protocol/Action" "peer" "Ljava/lang/String;" (.ref v)) : Con l Z EL nw (⟨"com/example/lane8/lane8/protocol/Action", "peer", "()Ljava/lang/String;"⟩ : MethodName) prog_67_method_8_code 1 (some (.object ST)) (RM 0 0 0 0) [] #[.ref a] h (rR fun w h' => w = .ref v ∧ h = h') := by
  refine Con.of (plainFor_of_name (by decide +kernel)) B.1 B.2.1 ⟨[.val (.ref a)]⟩ (fun m => rfl) ?_
  intro p e s m below meth c _ C
  refine C.aloadN db21_0 rfl rfl ?_
  refine C.getF db21_1 tw50 F ?_
  exact C.areturn db21_4 rfl rfl rfl rfl ⟨_, rfl, rfl, rfl⟩ (le rfl) (le rfl)
theorem P_test (B : Base Z a0 EL) {h : Heap} {a b k1 k2 r t q : Addr} {v1 v2 v3 : Value} {p1 p2 p3 : Option (List Int32)} {c1 c2 c3 : List Int32} (Xb : Exa Z h b "com/example/lane8/lane8/protocol/Action")
    (G1 : Fld Z h a "com/example/lane8/lane8/protocol/ActionPattern" "role" "Ljava/lang/String;" v1) (G2 : Fld Z h a "com/example/lane8/lane8/protocol/ActionPattern" "kind" "Lcom/example/lane8/lane8/protocol/Action$Kind;" (.ref k1)) (G3 : Fld Z h a "com/example/lane8/lane8/protocol/ActionPattern" "type" "Ljava/lang/String;" v2) (G4 : Fld Z h a "com/example/lane8/lane8/protocol/ActionPattern" "peer" "Ljava/lang/String;" v3)
    (F1 : Fld Z h b "com/example/lane8/lane8/protocol/Action" "role" "Ljava/lang/String;" (.ref r)) (F2 : Fld Z h b "com/example/lane8/lane8/protocol/Action" "kind" "Lcom/example/lane8/lane8/protocol/Action$Kind;" (.ref k2)) (F3 : Fld Z h b "com/example/lane8/lane8/protocol/Action" "type" "Ljava/lang/String;" (.ref t)) (F4 : Fld Z h b "com/example/lane8/lane8/protocol/Action" "peer" "Ljava/lang/String;" (.ref q))
    (P1 : PatAt Z h v1 p1) (P2 : PatAt Z h v2 p2) (P3 : PatAt Z h v3 p3) (S1 : StrAt Z h r c1) (S2 : StrAt Z h t c2) (S3 : StrAt Z h q c3) :
    Con l Z EL nw (⟨"com/example/lane8/lane8/protocol/ActionPattern", "test", "(Lcom/example/lane8/lane8/protocol/Action;)Z"⟩ : MethodName) prog_69_method_3_code 2 (some .boolean) (RM 3 41 0 0) [] #[.ref a, .ref b] h (rR fun w h' => ((w = .int 1 ∧ (p1 = none ∨ p1 = some c1) ∧ k1 = k2 ∧ (p2 = none ∨ p2 = some c2) ∧ (p3 = none ∨ p3 = some c3)) ∨ (w = .int 0 ∧ ¬ ((p1 = none ∨ p1 = some c1) ∧ k1 = k2 ∧ (p2 = none ∨ p2 = some c2) ∧ (p3 = none ∨ p3 = some c3)))) ∧ h = h') := by
  refine Con.of (plainFor_of_name (by decide +kernel)) B.1 B.2.1 ⟨[.val (.ref a), .val (.ref b)]⟩ (fun m => rfl) ?_
  intro p e s m below meth c _ C
  have no : ∀ w : Nat, ¬ ((p1 = none ∨ p1 = some c1) ∧ k1 = k2 ∧ (p2 = none ∨ p2 = some c2) ∧ (p3 = none ∨ p3 = some c3)) → Goes p l e (RM 3 41 0 0) s m #[.ref a, .ref b] below meth c Z EL nw (rR fun w h' => ((w = .int 1 ∧ (p1 = none ∨ p1 = some c1) ∧ k1 = k2 ∧ (p2 = none ∨ p2 = some c2) ∧ (p3 = none ∨ p3 = some c3)) ∨ (w = .int 0 ∧ ¬ ((p1 = none ∨ p1 = some c1) ∧ k1 = k2 ∧ (p2 = none ∨ p2 = some c2) ∧ (p3 = none ∨ p3 = some c3)))) ∧ h = h') [] w h 0 0 (mkF m 57 ⟨[.val (.ref a), .val (.ref b)]⟩ []) := by
    intro w z
    refine C.iconst (0) db22_57 rfl ?_
    exact C.ireturn db22_58 rfl (Or.inr (Or.inl rfl)) rfl ⟨_, rfl, Or.inr ⟨rfl, z⟩, rfl⟩ (le rfl) (le rfl)
  refine C.aloadN db22_0 rfl rfl ?_
  refine C.getF db22_1 tw62 G1 ?_
  refine C.aloadN db22_4 rfl rfl ?_
  refine C.v0R db22_5 tw81 tw82 tw84 tw83 tw5 tw85 (by decide) (by decide +kernel) rfl nof Xb (fun _ q => notFace_of_selects q) (P_role B F1) (le rfl) (catle P1.isRef rfl) (le rfl) (le rfl) ?_
  rintro _ _ ⟨rfl, rfl⟩
  refine C.s2R db22_8 tw86 tw87 tw54 tw88 (by decide) (by decide +kernel) rfl nof (P_mat B P1 S1) (le rfl) (le rfl) (le rfl) (le rfl) ?_
  rintro w1 _ ⟨hw1, rfl⟩
  rcases hw1 with ⟨rfl, z1⟩ | ⟨rfl, z1⟩
  rotate_left
  · refine C.if_eq db22_11 (fun _ => no _ (fun y => z1 y.1)) (fun y => absurd rfl y)
  refine C.if_eq db22_11 (fun y => absurd y (by decide)) (fun _ => ?_)
  refine C.aloadN db22_14 rfl rfl ?_
  refine C.getF db22_15 tw64 G2 ?_
  refine C.aloadN db22_18 rfl rfl ?_
  refine C.v0R db22_19 tw100 tw101 tw103 tw102 tw5 tw104 (by decide) (by decide +kernel) rfl nof Xb (fun _ q => notFace_of_selects q) (P_kind B F2) (le rfl) (le rfl) (le rfl) (le rfl) ?_
  rintro _ _ ⟨rfl, rfl⟩
  refine C.acmp_ne db22_22 rfl rfl (fun y => no _ (fun z => y (by rw [z.2.1]))) (fun y => ?_)
  have zk : k1 = k2 := Value.ref.inj y
  refine C.aloadN db22_25 rfl rfl ?_
  refine C.getF db22_26 tw66 G3 ?_
  refine C.aloadN db22_29 rfl rfl ?_
  refine C.v0R db22_30 tw105 tw106 tw108 tw107 tw5 tw109 (by decide) (by decide +kernel) rfl nof Xb (fun _ q => notFace_of_selects q) (P_type B F3) (le rfl) (catle P2.isRef rfl) (le rfl) (le rfl) ?_
  rintro _ _ ⟨rfl, rfl⟩
  refine C.s2R db22_33 tw86 tw87 tw54 tw88 (by decide) (by decide +kernel) rfl nof (P_mat B P2 S2) (le rfl) (le rfl) (le rfl) (le rfl) ?_
  rintro w2 _ ⟨hw2, rfl⟩
  rcases hw2 with ⟨rfl, z2⟩ | ⟨rfl, z2⟩
  rotate_left
  · refine C.if_eq db22_36 (fun _ => no _ (fun y => z2 y.2.2.1)) (fun y => absurd rfl y)
  refine C.if_eq db22_36 (fun y => absurd y (by decide)) (fun _ => ?_)
  refine C.aloadN db22_39 rfl rfl ?_
  refine C.getF db22_40 tw68 G4 ?_
  refine C.aloadN db22_43 rfl rfl ?_
  refine C.v0R db22_44 tw110 tw111 tw113 tw112 tw5 tw114 (by decide) (by decide +kernel) rfl nof Xb (fun _ q => notFace_of_selects q) (P_peer B F4) (le rfl) (catle P3.isRef rfl) (le rfl) (le rfl) ?_
  rintro _ _ ⟨rfl, rfl⟩
  refine C.s2R db22_47 tw86 tw87 tw54 tw88 (by decide) (by decide +kernel) rfl nof (P_mat B P3 S3) (le rfl) (le rfl) (le rfl) (le rfl) ?_
  rintro w3 _ ⟨hw3, rfl⟩
  rcases hw3 with ⟨rfl, z3⟩ | ⟨rfl, z3⟩
  rotate_left
  · refine C.if_eq db22_50 (fun _ => no _ (fun y => z3 y.2.2.2)) (fun y => absurd rfl y)
  refine C.if_eq db22_50 (fun y => absurd y (by decide)) (fun _ => ?_)
  refine C.iconst (1) db22_53 rfl ?_
  refine C.goto db22_54 ?_
  exact C.ireturn db22_58 rfl (Or.inr (Or.inl rfl)) rfl ⟨_, rfl, Or.inl ⟨rfl, z1, zk, z2, z3⟩, rfl⟩ (le rfl) (le rfl)
theorem P_law (B : Base Z a0 consts_1) {x0 x1 x2 x3 x4 x5 : Int32} {rR' rS : Addr} (SR : Sta Z Z.heap "com/example/lane8/lane8/protocol/Action$Kind" "RECV" "Lcom/example/lane8/lane8/protocol/Action$Kind;" (.ref rR')) (SS : Sta Z Z.heap "com/example/lane8/lane8/protocol/Action$Kind" "SEND" "Lcom/example/lane8/lane8/protocol/Action$Kind;" (.ref rS)) (hne : rR' ≠ rS) : Con l Z consts_1 false x code maxLocals ret room_1 [] #[.int x0, .int x1, .int x2, .int x3, .int x4, .int x5] Z.heap (rR fun v _ => v = .int 1) := by
  have hmem : ("java/lang/String", 7) ∈ consts_1 := by decide
  refine Con.of (plainFor_of_name (by decide +kernel)) B.1 B.2.1 ⟨[.val (.int x0), .val (.int x1), .val (.int x2), .val (.int x3), .val (.int x4), .val (.int x5), .unset, .unset, .unset, .unset, .unset]⟩ (fun m => rfl) ?_
  intro p e s m below meth c _ C
  have tail : ∀ k1 k2 : Addr, (k2 = k1 ↔ XT.ushr x3 31 = XT.ushr x0 31) → Goes p l e room_1 s m #[.int x0, .int x1, .int x2, .int x3, .int x4, .int x5] below meth c Z consts_1 false (rR fun v _ => v = .int 1) [] Z.heap.size Z.heap 0 0 (mkF m 36 ⟨[.val (.int x0), .val (.int x1), .val (.int x2), .val (.int x3), .val (.int x4), .val (.int x5), .val (.ref k1), .val (.ref k2), .unset, .unset, .unset]⟩ []) := by
    intro k1 k2 hk
    refine C.new dL_36 tw3 tw4 tw5 (le rfl) (le rfl) ?_
    intro h1 b g1 E1 X1 D1
    have F1 := D1 (Or.inr (C.wrd tw45)) (ty := (.object "java/lang/String")) (by decide +kernel)
    have F2 := D1 (Or.inr (C.wrd tw47)) (ty := (.object "com/example/lane8/lane8/protocol/Action$Kind")) (by decide +kernel)
    have F3 := D1 (Or.inr (C.wrd tw49)) (ty := (.object "java/lang/String")) (by decide +kernel)
    have F4 := D1 (Or.inr (C.wrd tw51)) (ty := (.object "java/lang/String")) (by decide +kernel)
    refine C.dup dL_39 rfl ?_
    refine C.iloadN dL_40 rfl ?_
    refine C.s1R dL_41 tw6 tw7 tw8 tw9 (by decide) (by decide +kernel) rfl nof (P_str B hmem) (le rfl) (le rfl) (le rfl) (le rfl) ?_
    rintro _ h2 ⟨r, rfl, E2, S1⟩
    replace X1 := X1.ext E2
    replace F1 := F1.ext E2
    replace F2 := F2.ext E2
    replace F3 := F3.ext E2
    replace F4 := F4.ext E2
    refine C.aload dL_44 rfl rfl ?_
    refine C.iloadN dL_46 rfl ?_
    refine C.s1R dL_47 tw6 tw7 tw8 tw9 (by decide) (by decide +kernel) rfl nof (P_str B hmem) (le rfl) (le rfl) (le rfl) (le rfl) ?_
    rintro _ h3 ⟨t, rfl, E3, S2⟩
    replace X1 := X1.ext E3
    replace F1 := F1.ext E3
    replace F2 := F2.ext E3
    replace F3 := F3.ext E3
    replace F4 := F4.ext E3
    replace S1 := S1.ext E3
    refine C.iloadN dL_50 rfl ?_
    refine C.s1R dL_51 tw6 tw7 tw8 tw9 (by decide) (by decide +kernel) rfl nof (P_str B hmem) (le rfl) (le rfl) (le rfl) (le rfl) ?_
    rintro _ h4 ⟨q, rfl, E4, S3⟩
    replace X1 := X1.ext E4
    replace F1 := F1.ext E4
    replace F2 := F2.ext E4
    replace F3 := F3.ext E4
    replace F4 := F4.ext E4
    replace S1 := S1.ext E4
    replace S2 := S2.ext E4
    refine C.c4 dL_54 rfl tw35 tw36 tw5 tw37 (by decide) (by decide +kernel) rfl nof (P_act (nw := true) B (by omega) X1 F1 F2 F3 F4) (le rfl) (le rfl) (le rfl) (le rfl) ?_
    rintro h5 ⟨K5, X5, G1, G2, G3, G4⟩
    replace S1 := S1.keep K5 X1 (by decide) (C.wrd tw4)
    replace S2 := S2.keep K5 X1 (by decide) (C.wrd tw4)
    replace S3 := S3.keep K5 X1 (by decide) (C.wrd tw4)
    refine C.astore dL_57 rfl rfl rfl ?_
    refine Goes.old fun O => ?_
    refine C.new dL_59 tw52 tw53 tw54 (le rfl) (le rfl) ?_
    intro h6 a g6 E6 X6 D6
    have H1 := D6 (Or.inr (C.wrd tw63)) (ty := (.object "java/lang/String")) (by decide +kernel)
    have H2 := D6 (Or.inr (C.wrd tw65)) (ty := (.object "com/example/lane8/lane8/protocol/Action$Kind")) (by decide +kernel)
    have H3 := D6 (Or.inr (C.wrd tw67)) (ty := (.object "java/lang/String")) (by decide +kernel)
    have H4 := D6 (Or.inr (C.wrd tw69)) (ty := (.object "java/lang/String")) (by decide +kernel)
    have ba : b ∉ [a] := fun z => adr_ne X5.lt (Nat.le_of_eq g6.symm) (List.mem_singleton.mp z)
    replace X5 := X5.ext E6
    replace G1 := G1.ext E6
    replace G2 := G2.ext E6
    replace G3 := G3.ext E6
    replace G4 := G4.ext E6
    replace S1 := S1.ext E6
    replace S2 := S2.ext E6
    replace S3 := S3.ext E6
    refine C.dup dL_62 rfl ?_
    refine C.iloadN dL_63 rfl ?_
    refine C.iloadN dL_64 rfl ?_
    refine C.s2R dL_65 tw55 tw56 tw8 tw57 (by decide) (by decide +kernel) rfl nof (P_pat B hmem) (le rfl) (le rfl) (le rfl) (le rfl) ?_
    rintro v1 h7 ⟨E7, P1⟩
    replace X5 := X5.ext E7
    replace G1 := G1.ext E7
    replace G2 := G2.ext E7
    replace G3 := G3.ext E7
    replace G4 := G4.ext E7
    replace S1 := S1.ext E7
    replace S2 := S2.ext E7
    replace S3 := S3.ext E7
    replace X6 := X6.ext E7
    replace H1 := H1.ext E7
    replace H2 := H2.ext E7
    replace H3 := H3.ext E7
    replace H4 := H4.ext E7
    refine C.aload dL_68 rfl rfl ?_
    refine C.iload dL_70 rfl ?_
    refine C.iloadN dL_72 rfl ?_
    refine C.s2R dL_73 tw55 tw56 tw8 tw57 (by decide) (by decide +kernel) rfl nof (P_pat B hmem) (le rfl) (catle2 P1.isRef rfl) (le rfl) (le rfl) ?_
    rintro v2 h8 ⟨E8, P2⟩
    replace X5 := X5.ext E8
    replace G1 := G1.ext E8
    replace G2 := G2.ext E8
    replace G3 := G3.ext E8
    replace G4 := G4.ext E8
    replace S1 := S1.ext E8
    replace S2 := S2.ext E8
    replace S3 := S3.ext E8
    replace X6 := X6.ext E8
    replace H1 := H1.ext E8
    replace H2 := H2.ext E8
    replace H3 := H3.ext E8
    replace H4 := H4.ext E8
    replace P1 := P1.ext E8
    refine C.iload dL_76 rfl ?_
    refine C.iloadN dL_78 rfl ?_
    refine C.s2R dL_79 tw55 tw56 tw8 tw57 (by decide) (by decide +kernel) rfl nof (P_pat B hmem) (le rfl) (catle3 P1.isRef P2.isRef rfl) (le rfl) (le rfl) ?_
    rintro v3 h9 ⟨E9, P3⟩
    replace X5 := X5.ext E9
    replace G1 := G1.ext E9
    replace G2 := G2.ext E9
    replace G3 := G3.ext E9
    replace G4 := G4.ext E9
    replace S1 := S1.ext E9
    replace S2 := S2.ext E9
    replace S3 := S3.ext E9
    replace X6 := X6.ext E9
    replace H1 := H1.ext E9
    replace H2 := H2.ext E9
    replace H3 := H3.ext E9
    replace H4 := H4.ext E9
    replace P1 := P1.ext E9
    replace P2 := P2.ext E9
    refine C.c4 dL_82 rfl tw58 tw59 tw54 tw60 (by decide) (by decide +kernel) rfl nof (P_apt (nw := true) B P1.isRef P2.isRef P3.isRef (by have := O.1; omega) X6 H1 H2 H3 H4) (le rfl) (le rfl) (le rfl) (le rfl) ?_
    rintro h10 ⟨K10, X10, J1, J2, J3, J4⟩
    replace S1 := S1.keep K10 X6 (by decide) (C.wrd tw53)
    replace S2 := S2.keep K10 X6 (by decide) (C.wrd tw53)
    replace S3 := S3.keep K10 X6 (by decide) (C.wrd tw53)
    replace P1 := P1.keep K10 X6 (by decide) (C.wrd tw53)
    replace P2 := P2.keep K10 X6 (by decide) (C.wrd tw53)
    replace P3 := P3.keep K10 X6 (by decide) (C.wrd tw53)
    replace X5 := X5.keep K10
    replace G1 := G1.keep K10 ba
    replace G2 := G2.keep K10 ba
    replace G3 := G3.keep K10 ba
    replace G4 := G4.keep K10 ba
    have fin : ∀ (w : Nat) (ex : Int32), ((ex = 1 ∧ Fits x3 x0 ∧ k2 = k1 ∧ Fits x4 x1 ∧ Fits x5 x2) ∨ (ex = 0 ∧ ¬ (Fits x3 x0 ∧ k2 = k1 ∧ Fits x4 x1 ∧ Fits x5 x2))) → Goes p l e room_1 s m #[.int x0, .int x1, .int x2, .int x3, .int x4, .int x5] below meth c Z consts_1 false (rR fun v _ => v = .int 1) [a, b] w h10 38 80 (mkF m 129 ⟨[.val (.int x0), .val (.int x1), .val (.int x2), .val (.int x3), .val (.int x4), .val (.int x5), .val (.ref k1), .val (.ref k2), .val (.ref b), .val (.ref a), .unset]⟩ [.int ex]) := by
      intro w ex hex
      refine C.istore dL_129 rfl rfl ?_
      refine C.aload dL_131 rfl rfl ?_
      refine C.aload dL_133 rfl rfl ?_
      refine C.v1R dL_135 tw76 tw77 tw79 tw78 tw54 tw80 (by decide) (by decide +kernel) rfl nof X10 (fun _ q => notFace_of_selects q) (P_test B X5 J1 J2 J3 J4 G1 G2 G3 G4 P1 P2 P3 S1 S2 S3) (le rfl) (le rfl) (le rfl) (le rfl) ?_
      rintro w1 _ ⟨hw1, rfl⟩
      obtain rfl : w1 = .int ex := by
        rcases hw1 with ⟨rfl, z⟩ | ⟨rfl, z⟩ <;> rcases hex with ⟨rfl, y⟩ | ⟨rfl, y⟩
        · rfl
        · exact absurd z y
        · exact absurd y z
        · rfl
      refine C.iload dL_138 rfl ?_
      refine C.icmp_ne dL_140 (fun z => absurd rfl z) (fun _ => ?_)
      refine C.iconst (1) dL_143 rfl ?_
      refine C.goto dL_144 ?_
      exact C.ireturn dL_148 rfl (Or.inr (Or.inl rfl)) rfl ⟨_, rfl, rfl⟩ (le rfl) (le rfl)
    have no : ∀ (w : Nat), ¬ (Fits x3 x0 ∧ k2 = k1 ∧ Fits x4 x1 ∧ Fits x5 x2) → Goes p l e room_1 s m #[.int x0, .int x1, .int x2, .int x3, .int x4, .int x5] below meth c Z consts_1 false (rR fun v _ => v = .int 1) [a, b] w h10 38 80 (mkF m 128 ⟨[.val (.int x0), .val (.int x1), .val (.int x2), .val (.int x3), .val (.int x4), .val (.int x5), .val (.ref k1), .val (.ref k2), .val (.ref b), .val (.ref a), .unset]⟩ []) := by
      intro w z
      refine C.iconst (0) dL_128 rfl ?_
      exact fin _ _ (Or.inr ⟨rfl, z⟩)
    refine Goes.more (k' := 38) (n' := 80) (le rfl) (le rfl) ?_
    refine C.astore dL_85 rfl rfl rfl ?_
    refine C.iloadN dL_87 rfl ?_
    refine C.iloadN dL_88 rfl ?_
    refine C.s2R dL_89 tw70 tw71 tw8 tw72 (by decide) (by decide +kernel) rfl nof (P_fits B) (le rfl) (le rfl) (le rfl) (le rfl) ?_
    rintro w1 _ ⟨hw1, rfl⟩
    rcases hw1 with ⟨rfl, z1⟩ | ⟨rfl, z1⟩
    rotate_left
    · refine C.if_eq dL_92 (fun _ => no _ (fun y => z1 y.1)) (fun y => absurd rfl y)
    refine C.if_eq dL_92 (fun y => absurd y (by decide)) (fun _ => ?_)
    refine C.iloadN dL_95 rfl ?_
    refine C.bipush (31) dL_96 rfl ?_
    refine C.iushr dL_98 ?_
    refine C.iloadN dL_99 rfl ?_
    refine C.bipush (31) dL_100 rfl ?_
    refine C.iushr dL_102 ?_
    refine C.icmp_ne dL_103 (fun y => no _ (fun z => y (hk.mp z.2.1))) (fun y => ?_)
    refine C.iload dL_106 rfl ?_
    refine C.iloadN dL_108 rfl ?_
    refine C.s2R dL_109 tw70 tw71 tw8 tw72 (by decide) (by decide +kernel) rfl nof (P_fits B) (le rfl) (le rfl) (le rfl) (le rfl) ?_
    rintro w2 _ ⟨hw2, rfl⟩
    rcases hw2 with ⟨rfl, z2⟩ | ⟨rfl, z2⟩
    rotate_left
    · refine C.if_eq dL_112 (fun _ => no _ (fun y => z2 y.2.2.1)) (fun y => absurd rfl y)
    refine C.if_eq dL_112 (fun y => absurd y (by decide)) (fun _ => ?_)
    refine C.iload dL_115 rfl ?_
    refine C.iloadN dL_117 rfl ?_
    refine C.s2R dL_118 tw70 tw71 tw8 tw72 (by decide) (by decide +kernel) rfl nof (P_fits B) (le rfl) (le rfl) (le rfl) (le rfl) ?_
    rintro w3 _ ⟨hw3, rfl⟩
    rcases hw3 with ⟨rfl, z3⟩ | ⟨rfl, z3⟩
    rotate_left
    · refine C.if_eq dL_121 (fun _ => no _ (fun y => z3 y.2.2.2)) (fun y => absurd rfl y)
    refine C.if_eq dL_121 (fun y => absurd y (by decide)) (fun _ => ?_)
    refine C.iconst (1) dL_124 rfl ?_
    refine C.goto dL_125 ?_
    exact fin _ _ (Or.inl ⟨rfl, z1, hk.mpr y, z2, z3⟩)
  have t0 := top01 x0
  have t3 := top01 x3
  refine C.iloadN dL_0 rfl ?_
  refine C.bipush (31) dL_1 rfl ?_
  refine C.iushr dL_3 ?_
  refine C.if_eq dL_4 (fun q0 => ?_) (fun q0 => ?_)
  · refine C.getS dL_13 tw0 SS ?_
    refine C.astore dL_16 rfl rfl rfl ?_
    refine C.iloadN dL_18 rfl ?_
    refine C.bipush (31) dL_19 rfl ?_
    refine C.iushr dL_21 ?_
    refine C.if_eq dL_22 (fun q3 => ?_) (fun q3 => ?_)
    · refine C.getS dL_31 tw0 SS ?_
      refine C.astore dL_34 rfl rfl rfl ?_
      exact tail _ _ ⟨fun _ => by rw [q0, q3], fun _ => rfl⟩
    · refine C.getS dL_25 tw131 SR ?_
      refine C.goto dL_28 ?_
      refine C.astore dL_34 rfl rfl rfl ?_
      exact tail _ _ ⟨fun z => absurd z hne, fun z => absurd (z.trans q0) q3⟩
  · refine C.getS dL_7 tw131 SR ?_
    refine C.goto dL_10 ?_
    refine C.astore dL_16 rfl rfl rfl ?_
    refine C.iloadN dL_18 rfl ?_
    refine C.bipush (31) dL_19 rfl ?_
    refine C.iushr dL_21 ?_
    refine C.if_eq dL_22 (fun q3 => ?_) (fun q3 => ?_)
    · refine C.getS dL_31 tw0 SS ?_
      refine C.astore dL_34 rfl rfl rfl ?_
      exact tail _ _ ⟨fun z => absurd z.symm hne, fun z => absurd (z.symm.trans q3) q0⟩
    · refine C.getS dL_25 tw131 SR ?_
      refine C.goto dL_28 ?_
      refine C.astore dL_34 rfl rfl rfl ?_
      exact tail _ _ ⟨fun _ => by rw [t0.resolve_left q0, t3.resolve_left q3], fun _ => rfl⟩

theorem comes_1 {Post : Tables → Env → Array Value → State → Outcome → State → Prop} (hpost : ∀ tb e args s v u, (limb_1_1.after args s (.returned v) u = true ∧ limb_1_2.after args s (.returned v) u = true) → Jvm.D.FramedW s (.returned v) u (Jvm.fieldLocs frame_1_writes args s ++ Jvm.arrayLocs frame_1_arrays args s ++ Jvm.staticLocs frame_1_statics s) 56 1216 → Post tb e args s (.returned v) u) :
    ArmFor flags0 classFile x code maxLocals ret World_1 tables_1 room_1 Calls_1 rest_1 Pre_1 Post := by
  intro l hfl _ _ p e ha hc hk s m args below hf hA hF happ hP
  obtain ⟨hcalls, hrest, hpre⟩ := hP
  obtain ⟨-, -, -, hnamed, -, -, -, hat⟩ := (Spec.applies_iff hf).mp happ
  obtain ⟨hg0, hn⟩ := and_e (Cond.before_iff.mp (show (Jvm.Cond.and given_1 narrow_1).before args s = true from hpre))
  obtain ⟨hc0, hg1⟩ := and_e hg0
  obtain ⟨hc1, hg2⟩ := and_e hg1
  obtain ⟨hc2, hg3⟩ := and_e hg2
  obtain ⟨hc3, hg4⟩ := and_e hg3
  obtain ⟨hc4, hg5⟩ := and_e hg4
  obtain ⟨hc5, hg6⟩ := and_e hg5
  obtain ⟨w0, w1, w2, w3, w4, w5, rfl⟩ : ∃ w0 w1 w2 w3 w4 w5 : Value, args = #[w0, w1, w2, w3, w4, w5] := by
    have hs : args.size = 6 := by simpa [Cond.value, given_1] using hc0
    obtain ⟨L⟩ := args
    match L, hs with
    | [w0, w1, w2, w3, w4, w5], _ => exact ⟨w0, w1, w2, w3, w4, w5, rfl⟩
  have hw := fun d (hd : d ∈ tables_1) => atoms_spec (ws := Jvm.Cond.code x code maxLocals ret :: tables_1) hat d (List.mem_cons_of_mem _ hd)
  obtain ⟨hsets, hown0⟩ := atoms_of _ (rest_1_c_eq ▸ (show rest_1_c.before _ s = true from hrest))
  have hfit : Fit s := fun {y c} hc i hi => by
    obtain ⟨ha, rfl⟩ := Array.getElem?_eq_some_iff.mp hc
    have q := List.all_eq_true.mp ((Array.all_eq_true_iff_forall_mem.mp hF) _ (Array.getElem_mem ha)) i (List.mem_range.mpr hi)
    simpa [Array.getElem?_eq_getElem hi] using q
  obtain ⟨x0, ex0⟩ := is_v hc1
  obtain rfl : w0 = (.int x0) := Option.some.inj ex0
  obtain ⟨x1, ex1⟩ := is_v hc2
  obtain rfl : w1 = (.int x1) := Option.some.inj ex1
  obtain ⟨x2, ex2⟩ := is_v hc3
  obtain rfl : w2 = (.int x2) := Option.some.inj ex2
  obtain ⟨x3, ex3⟩ := is_v hc4
  obtain rfl : w3 = (.int x3) := Option.some.inj ex3
  obtain ⟨x4, ex4⟩ := is_v hc5
  obtain rfl : w4 = (.int x4) := Option.some.inj ex4
  obtain ⟨x5, ex5⟩ := is_v hg6
  obtain rfl : w5 = (.int x5) := Option.some.inj ex5
  obtain ⟨cz, ecz⟩ := is_v (Cond.before_iff.mp (hsets _ (List.mem_of_getElem? (i := 1) rfl)))
  have Scs : Sta s s.heap ST "COMPACT_STRINGS" "Z" (.int cz) := Sta.start ecz (Or.inl (hsets _ (List.mem_of_getElem? (i := 0) rfl)))
  have ncz : ¬ cz = 0 := gotF (Cond.eq_ints ecz (Term.int_eval (0))) (not_v (Cond.before_iff.mp (hsets _ (List.mem_of_getElem? (i := 2) rfl))))
  obtain ⟨sf, esf, rsf⟩ := isR_v (Cond.before_iff.mp (hsets _ (List.mem_of_getElem? (i := 8) rfl)))
  have Ssf : Sta s s.heap "jdk/internal/util/Preconditions" "SIOOBE_FORMATTER" "Ljava/util/function/BiFunction;" sf := Sta.start esf (Or.inl (hsets _ (List.mem_of_getElem? (i := 7) rfl)))
  obtain ⟨na0, hn⟩ := and_e hn
  obtain ⟨na1, hn⟩ := and_e hn
  obtain ⟨na2, hn⟩ := and_e hn
  have na3 := hn
  obtain ⟨r_SEND, ev_SEND, S_SEND, X_SEND⟩ := st_exact na0 (hw _ tw1) (hw _ tw2)
  obtain ⟨r_RECV, ev_RECV, S_RECV, X_RECV⟩ := st_exact na1 (hw _ tw1) (hw _ tw132)
  have O_RECV := st_field ev_RECV na2
  have O_SEND := st_field ev_SEND na3
  have hEW : EW s #[.int x0, .int x1, .int x2, .int x3, .int x4, .int x5] consts_1 := (EW.cons (hw _ tw27) (by decide) EW.nil)
  have hCH : CHv s consts_1 s.vm s.heap := CHv.start hEW (fun p hp => hcalls.1 p hp) (hsets _ (List.mem_of_getElem? (i := 2) rfl)) (hw _ tw28) (hw _ tw14)
  have B : Base s #[.int x0, .int x1, .int x2, .int x3, .int x4, .int x5] consts_1 := ⟨hw, hEW, ⟨cz, Scs, ncz⟩, ⟨sf, Ssf, rsf⟩, trivial⟩
  obtain ⟨n, o, q1, q2, q3, v, L, rfl, ⟨v, rfl, rfl⟩, N, hCR, hWH, -, hq⟩ := P_law (l := l) B S_RECV S_SEND (O_RECV.ne O_SEND (by decide)) tables_1 p e ha hc hk s m _ below hf ((Spec.applies_iff_loose hf).mp happ).1 ⟨rfl, State.Warmed39.refl s, rfl, hCH, fun _ q => (nomatch q), ext_refl _⟩ trivial
  exact ⟨n, _, q1, q2, q3, hpost _ _ _ _ _ _ ⟨Cond.after_iff.mpr rfl, Cond.after_iff.mpr (eq_i res_at (Term.int_eval (1)) rfl)⟩ ⟨hq.1, hq.2.1, hq.2.2.1, ((hq.2.2.2.sift fun y hy => Or.inr (N y hy)).mono (le rfl : room_1.cells ≤ 56) (le rfl : room_1.slots ≤ 1216))⟩⟩
theorem main_1_1 : Claimed_1_1 := comes_1 fun _ _ _ _ _ _ h hF => ⟨h.1, hF⟩
theorem main_1_2 : Claimed_1_2 := comes_1 fun _ _ _ _ _ _ h hF => ⟨h.2, hF⟩
end
end Jvm.Pilot.@@N@@
namespace Jvm.Pilot.@@N@@
open Jvm Jvm.ClassFile Sem Op Lib Jvm.Free Jvm.Stand Jvm.Pilot.@@N@@.Jvm.D
/-! MADE BY PROGRAM (witnessworld.py) out of the Statement's table words and the real class files: 25 classes; the members and pool entries that the words name. The judged class is class 1, her method 8. -/
namespace start1
open Jvm.ClassFile
def u (s : String) : CpInfo := .utf8 (stringToUtf16 s)
/-- a pool by its gaps: so many unusable entries, then the entry; so many at the end -/
def gap : Nat → List CpInfo → List CpInfo
  | 0, r => r
  | n + 1, r => .unusable :: gap n r
def poolList (es : List (Nat × CpInfo)) (last : Nat) : List CpInfo := es.foldr (fun e r => gap e.1 (e.2 :: r)) (gap last [])
def pool (es : List (Nat × CpInfo)) (last : Nat) : Array CpInfo := ⟨poolList es last⟩
def fileOf (pool : Array CpInfo) (this : Nat) (attrs : Array Attribute := #[]) (ms : Array MethodInfo := #[]) (fl : Nat := 33) (sup : Nat := 0) (ifs : Array Nat := #[]) (fds : Array FieldInfo := #[]) : ClassFile where
  minorVersion := 0
  majorVersion := 65
  constantPool := pool
  accessFlags := fl
  thisClass := this
  superClass := sup
  interfaces := ifs
  fields := fds
  methods := ms
  attributes := attrs
def plain (name : String) (sup : Option ClassId) : Class where
  name := name
  kind := .ordinary
  loader := none
  accessFlags := 33
  super := sup
  interfaces := #[]
  cf := none
  fields := #[]
  methods := #[]
  instanceTypes := #[]
  staticTypes := #[]
  resolved := #[]
  callSites := []
  init := .initialized
  statics := none
  mirror := none

def pool0 : Array CpInfo := pool [(5, u "<init>"), (0, u "()V"), (1, .class_ 10), (1, u "java/lang/Object")] 113

def k0c0 : Code := { maxStack := 0, maxLocals := 1, code := object_method_1_code, exceptionTable := #[], attributes := #[] }
def k0m0 : Method := { name := "<init>", desc := "()V", sig := { parameters := [], returnType := none }, accessFlags := 1, code := some k0c0 }
/-- java/lang/Object -/
def k0 : Class := { plain "java/lang/Object" none with
  accessFlags := 33
  interfaces := #[]
  cf := some (fileOf pool0 8 #[] #[{ accessFlags := 1, nameIndex := 5, descriptorIndex := 6, attributes := #[] }] 33 0 #[] #[])
  fields := #[]
  methods := #[k0m0]
  instanceTypes := #[]
  staticTypes := #[]
  resolved := Array.replicate 124 none
  statics := none }

def pool1 : Array CpInfo := pool [(2, .class_ 4), (1, u "java/lang/Object"), (0, u "<init>"), (0, u "()V"), (0, .methodref 8 9), (0, .class_ 10), (0, .nameAndType 11 12), (0, u "com/example/lane8/lane8/protocol/ActionPatternTestPinLaw"), (0, u "len"), (0, u "(I)I"), (0, .class_ 14), (0, u "java/lang/String"), (0, .methodref 13 16), (0, .nameAndType 5 17), (0, u "([C)V"), (0, .methodref 8 19), (0, .nameAndType 20 21), (0, u "c0"), (0, u "(I)C"), (0, .methodref 8 23), (0, .nameAndType 24 21), (0, u "c1"), (0, .methodref 8 26), (0, .nameAndType 27 28), (0, u "str"), (0, u "(I)Ljava/lang/String;"), (0, .methodref 8 30), (0, .nameAndType 31 32), (0, u "same"), (0, u "(II)Z"), (0, .fieldref 34 35), (0, .class_ 36), (0, .nameAndType 37 38), (0, u "com/example/lane8/lane8/protocol/Action$Kind"), (0, u "RECV"), (0, u "Lcom/example/lane8/lane8/protocol/Action$Kind;"), (0, .fieldref 34 40), (0, .nameAndType 41 38), (0, u "SEND"), (0, .class_ 43), (0, u "com/example/lane8/lane8/protocol/Action"), (0, .methodref 42 45), (0, .nameAndType 5 46), (0, u "(Ljava/lang/String;Lcom/example/lane8/lane8/protocol/Action$Kind;Ljava/lang/String;Ljava/lang/String;)V"), (0, .class_ 48), (0, u "com/example/lane8/lane8/protocol/ActionPattern"), (0, .methodref 8 50), (0, .nameAndType 51 52), (0, u "pat"), (0, u "(II)Ljava/lang/String;"), (0, .methodref 47 45), (0, .methodref 8 55), (0, .nameAndType 56 32), (0, u "fits"), (0, .methodref 47 58), (0, .nameAndType 59 60), (0, u "test"), (0, u "(Lcom/example/lane8/lane8/protocol/Action;)Z"), (3, u "law"), (0, u "(IIIIII)Z")] 4

def k1m0 : Method := { name := "<init>", desc := "()V", sig := { parameters := [], returnType := none }, accessFlags := 1, code := none }
def k1c1 : Code := { maxStack := 2, maxLocals := 1, code := method_2_code, exceptionTable := #[], attributes := #[] }
def k1m1 : Method := { name := "len", desc := "(I)I", sig := { parameters := [.int], returnType := some .int }, accessFlags := 10, code := some k1c1 }
def k1c2 : Code := { maxStack := 2, maxLocals := 1, code := method_3_code, exceptionTable := #[], attributes := #[] }
def k1m2 : Method := { name := "c0", desc := "(I)C", sig := { parameters := [.int], returnType := some .char }, accessFlags := 10, code := some k1c2 }
def k1c3 : Code := { maxStack := 2, maxLocals := 1, code := method_4_code, exceptionTable := #[], attributes := #[] }
def k1m3 : Method := { name := "c1", desc := "(I)C", sig := { parameters := [.int], returnType := some .char }, accessFlags := 10, code := some k1c3 }
def k1c4 : Code := { maxStack := 6, maxLocals := 2, code := method_5_code, exceptionTable := #[], attributes := #[] }
def k1m4 : Method := { name := "str", desc := "(I)Ljava/lang/String;", sig := { parameters := [.int], returnType := some (.object "java/lang/String") }, accessFlags := 10, code := some k1c4 }
def k1c5 : Code := { maxStack := 2, maxLocals := 3, code := method_6_code, exceptionTable := #[], attributes := #[] }
def k1m5 : Method := { name := "same", desc := "(II)Z", sig := { parameters := [.int, .int], returnType := some .boolean }, accessFlags := 10, code := some k1c5 }
def k1c6 : Code := { maxStack := 2, maxLocals := 3, code := method_7_code, exceptionTable := #[], attributes := #[] }
def k1m6 : Method := { name := "pat", desc := "(II)Ljava/lang/String;", sig := { parameters := [.int, .int], returnType := some (.object "java/lang/String") }, accessFlags := 10, code := some k1c6 }
def k1c7 : Code := { maxStack := 2, maxLocals := 3, code := method_8_code, exceptionTable := #[], attributes := #[] }
def k1m7 : Method := { name := "fits", desc := "(II)Z", sig := { parameters := [.int, .int], returnType := some .boolean }, accessFlags := 10, code := some k1c7 }
def k1c8 : Code := { maxStack := 7, maxLocals := 11, code := code, exceptionTable := #[], attributes := #[] }
def k1m8 : Method := { name := "law", desc := "(IIIIII)Z", sig := { parameters := [.int, .int, .int, .int, .int, .int], returnType := some .boolean }, accessFlags := 9, code := some k1c8 }
/-- com/example/lane8/lane8/protocol/ActionPatternTestPinLaw -/
def k1 : Class := { plain "com/example/lane8/lane8/protocol/ActionPatternTestPinLaw" (some 0) with
  accessFlags := 49
  interfaces := #[]
  cf := some (fileOf pool1 8 #[] #[{ accessFlags := 1, nameIndex := 5, descriptorIndex := 6, attributes := #[] }, { accessFlags := 10, nameIndex := 11, descriptorIndex := 12, attributes := #[] }, { accessFlags := 10, nameIndex := 20, descriptorIndex := 21, attributes := #[] }, { accessFlags := 10, nameIndex := 24, descriptorIndex := 21, attributes := #[] }, { accessFlags := 10, nameIndex := 27, descriptorIndex := 28, attributes := #[] }, { accessFlags := 10, nameIndex := 31, descriptorIndex := 32, attributes := #[] }, { accessFlags := 10, nameIndex := 51, descriptorIndex := 52, attributes := #[] }, { accessFlags := 10, nameIndex := 56, descriptorIndex := 32, attributes := #[] }, { accessFlags := 9, nameIndex := 64, descriptorIndex := 65, attributes := #[] }] 49 2 #[] #[])
  fields := #[]
  methods := #[k1m0, k1m1, k1m2, k1m3, k1m4, k1m5, k1m6, k1m7, k1m8]
  instanceTypes := #[]
  staticTypes := #[]
  resolved := Array.replicate 70 none
  statics := none }

def pool2 : Array CpInfo := pool [(1, .class_ 2), (0, u "java/lang/constant/Constable"), (0, .class_ 4), (0, u "java/lang/Object")] 6

/-- java/lang/constant/Constable -/
def k2 : Class := { plain "java/lang/constant/Constable" (some 0) with
  accessFlags := 1537
  interfaces := #[]
  cf := some (fileOf pool2 1 #[] #[] 1537 3 #[] #[])
  fields := #[]
  methods := #[]
  instanceTypes := #[]
  staticTypes := #[]
  resolved := Array.replicate 11 none
  statics := none }

def pool3 : Array CpInfo := pool [(1, .class_ 2), (0, u "java/lang/Comparable"), (0, .class_ 4), (0, u "java/lang/Object")] 7

/-- java/lang/Comparable -/
def k3 : Class := { plain "java/lang/Comparable" (some 0) with
  accessFlags := 1537
  interfaces := #[]
  cf := some (fileOf pool3 1 #[] #[] 1537 3 #[] #[])
  fields := #[]
  methods := #[]
  instanceTypes := #[]
  staticTypes := #[]
  resolved := Array.replicate 12 none
  statics := none }

def pool4 : Array CpInfo := pool [(1, .class_ 2), (0, u "java/io/Serializable"), (0, .class_ 4), (0, u "java/lang/Object")] 2

/-- java/io/Serializable -/
def k4 : Class := { plain "java/io/Serializable" (some 0) with
  accessFlags := 1537
  interfaces := #[]
  cf := some (fileOf pool4 1 #[] #[] 1537 3 #[] #[])
  fields := #[]
  methods := #[]
  instanceTypes := #[]
  staticTypes := #[]
  resolved := Array.replicate 7 none
  statics := none }

def pool5 : Array CpInfo := pool [(2, .class_ 4), (1, u "java/lang/Enum"), (0, u "name"), (0, u "Ljava/lang/String;"), (2, u "ordinal"), (0, u "I"), (1, .class_ 14), (1, u "java/lang/Object"), (4, u "hash"), (86, .class_ 108), (1, u "java/lang/Enum$EnumDesc"), (2, .class_ 112), (0, u "java/lang/constant/Constable"), (0, .class_ 114), (0, u "java/lang/Comparable"), (0, .class_ 116), (0, u "java/io/Serializable")] 87

/-- java/lang/Enum -/
def k5 : Class := { plain "java/lang/Enum" (some 0) with
  accessFlags := 1057
  interfaces := #[2, 3, 4]
  cf := some (fileOf pool5 2 #[.nestMembers #[106]] #[] 1057 12 #[111, 113, 115] #[{ accessFlags := 18, nameIndex := 5, descriptorIndex := 6, attributes := #[] }, { accessFlags := 18, nameIndex := 9, descriptorIndex := 10, attributes := #[] }, { accessFlags := 2, nameIndex := 19, descriptorIndex := 10, attributes := #[] }])
  fields := #[{ name := "name", type := (.object "java/lang/String"), accessFlags := 18, slot := 0, constantValue := 0 }, { name := "ordinal", type := .int, accessFlags := 18, slot := 1, constantValue := 0 }, { name := "hash", type := .int, accessFlags := 2, slot := 2, constantValue := 0 }]
  methods := #[]
  instanceTypes := #[(.object "java/lang/String"), .int, .int]
  staticTypes := #[]
  resolved := Array.replicate 204 none
  statics := none }

def pool6 : Array CpInfo := pool [(1, .class_ 2), (0, u "com/example/lane8/lane8/protocol/Action$Kind"), (2, u "SEND"), (0, u "Lcom/example/lane8/lane8/protocol/Action$Kind;"), (2, u "RECV"), (2, u "$VALUES"), (0, u "[Lcom/example/lane8/lane8/protocol/Action$Kind;"), (6, .class_ 22), (1, u "java/lang/Enum"), (8, u "preposition"), (0, u "Ljava/lang/String;"), (27, .class_ 61), (0, u "com/example/lane8/lane8/protocol/Action")] 2

/-- com/example/lane8/lane8/protocol/Action$Kind -/
def k6 : Class := { plain "com/example/lane8/lane8/protocol/Action$Kind" (some 5) with
  accessFlags := 16433
  interfaces := #[]
  cf := some (fileOf pool6 1 #[.nestHost 60] #[] 16433 20 #[] #[{ accessFlags := 16409, nameIndex := 5, descriptorIndex := 6, attributes := #[] }, { accessFlags := 16409, nameIndex := 9, descriptorIndex := 6, attributes := #[] }, { accessFlags := 18, nameIndex := 31, descriptorIndex := 32, attributes := #[] }, { accessFlags := 4122, nameIndex := 12, descriptorIndex := 13, attributes := #[] }])
  fields := #[{ name := "SEND", type := (.object "com/example/lane8/lane8/protocol/Action$Kind"), accessFlags := 16409, slot := 0, constantValue := 0 }, { name := "RECV", type := (.object "com/example/lane8/lane8/protocol/Action$Kind"), accessFlags := 16409, slot := 1, constantValue := 0 }, { name := "preposition", type := (.object "java/lang/String"), accessFlags := 18, slot := 3, constantValue := 0 }, { name := "$VALUES", type := (.array (.object "com/example/lane8/lane8/protocol/Action$Kind")), accessFlags := 4122, slot := 2, constantValue := 0 }]
  methods := #[]
  instanceTypes := #[(.object "java/lang/String"), .int, .int, (.object "java/lang/String")]
  staticTypes := #[(.object "com/example/lane8/lane8/protocol/Action$Kind"), (.object "com/example/lane8/lane8/protocol/Action$Kind"), (.array (.object "com/example/lane8/lane8/protocol/Action$Kind"))]
  resolved := Array.replicate 64 none
  statics := some 0 }

def pool7 : Array CpInfo := pool [(1, .methodref 2 3), (0, .class_ 4), (0, .nameAndType 5 6), (0, u "java/lang/Object"), (0, u "<init>"), (0, u "()V"), (0, .class_ 8), (0, u "java/lang/Record")] 13

def k7c0 : Code := { maxStack := 1, maxLocals := 1, code := jdk_30_method_1_code, exceptionTable := #[], attributes := #[] }
def k7m0 : Method := { name := "<init>", desc := "()V", sig := { parameters := [], returnType := none }, accessFlags := 4, code := some k7c0 }
/-- java/lang/Record -/
def k7 : Class := { plain "java/lang/Record" (some 0) with
  accessFlags := 1057
  interfaces := #[]
  cf := some (fileOf pool7 7 #[] #[{ accessFlags := 4, nameIndex := 5, descriptorIndex := 6, attributes := #[] }] 1057 2 #[] #[])
  fields := #[]
  methods := #[k7m0]
  instanceTypes := #[]
  staticTypes := #[]
  resolved := Array.replicate 22 none
  statics := none }

def pool8 : Array CpInfo := pool [(1, .methodref 2 3), (0, .class_ 4), (0, .nameAndType 5 6), (0, u "java/lang/Record"), (0, u "<init>"), (0, u "()V"), (0, .fieldref 8 9), (0, .class_ 10), (0, .nameAndType 11 12), (0, u "com/example/lane8/lane8/protocol/Action"), (0, u "role"), (0, u "Ljava/lang/String;"), (0, .fieldref 8 14), (0, .nameAndType 15 16), (0, u "kind"), (0, u "Lcom/example/lane8/lane8/protocol/Action$Kind;"), (0, .fieldref 8 18), (0, .nameAndType 19 12), (0, u "type"), (0, .fieldref 8 21), (0, .nameAndType 22 12), (0, u "peer"), (7, .class_ 32), (1, u "com/example/lane8/lane8/protocol/Action$Kind"), (13, u "(Ljava/lang/String;Lcom/example/lane8/lane8/protocol/Action$Kind;Ljava/lang/String;Ljava/lang/String;)V"), (4, u "()Ljava/lang/String;"), (2, u "()Lcom/example/lane8/lane8/protocol/Action$Kind;")] 33

def k8c0 : Code := { maxStack := 2, maxLocals := 5, code := prog_67_method_1_code, exceptionTable := #[], attributes := #[] }
def k8m0 : Method := { name := "<init>", desc := "(Ljava/lang/String;Lcom/example/lane8/lane8/protocol/Action$Kind;Ljava/lang/String;Ljava/lang/String;)V", sig := { parameters := [(.object "java/lang/String"), (.object "com/example/lane8/lane8/protocol/Action$Kind"), (.object "java/lang/String"), (.object "java/lang/String")], returnType := none }, accessFlags := 1, code := some k8c0 }
def k8c1 : Code := { maxStack := 1, maxLocals := 1, code := prog_67_method_5_code, exceptionTable := #[], attributes := #[] }
def k8m1 : Method := { name := "role", desc := "()Ljava/lang/String;", sig := { parameters := [], returnType := some (.object "java/lang/String") }, accessFlags := 1, code := some k8c1 }
def k8c2 : Code := { maxStack := 1, maxLocals := 1, code := prog_67_method_6_code, exceptionTable := #[], attributes := #[] }
def k8m2 : Method := { name := "kind", desc := "()Lcom/example/lane8/lane8/protocol/Action$Kind;", sig := { parameters := [], returnType := some (.object "com/example/lane8/lane8/protocol/Action$Kind") }, accessFlags := 1, code := some k8c2 }
def k8c3 : Code := { maxStack := 1, maxLocals := 1, code := prog_67_method_7_code, exceptionTable := #[], attributes := #[] }
def k8m3 : Method := { name := "type", desc := "()Ljava/lang/String;", sig := { parameters := [], returnType := some (.object "java/lang/String") }, accessFlags := 1, code := some k8c3 }
def k8c4 : Code := { maxStack := 1, maxLocals := 1, code := prog_67_method_8_code, exceptionTable := #[], attributes := #[] }
def k8m4 : Method := { name := "peer", desc := "()Ljava/lang/String;", sig := { parameters := [], returnType := some (.object "java/lang/String") }, accessFlags := 1, code := some k8c4 }
/-- com/example/lane8/lane8/protocol/Action -/
def k8 : Class := { plain "com/example/lane8/lane8/protocol/Action" (some 7) with
  accessFlags := 49
  interfaces := #[]
  cf := some (fileOf pool8 8 #[.nestMembers #[30]] #[{ accessFlags := 1, nameIndex := 5, descriptorIndex := 46, attributes := #[] }, { accessFlags := 1, nameIndex := 11, descriptorIndex := 51, attributes := #[] }, { accessFlags := 1, nameIndex := 15, descriptorIndex := 54, attributes := #[] }, { accessFlags := 1, nameIndex := 19, descriptorIndex := 51, attributes := #[] }, { accessFlags := 1, nameIndex := 22, descriptorIndex := 51, attributes := #[] }] 49 2 #[] #[{ accessFlags := 18, nameIndex := 11, descriptorIndex := 12, attributes := #[] }, { accessFlags := 18, nameIndex := 15, descriptorIndex := 16, attributes := #[] }, { accessFlags := 18, nameIndex := 19, descriptorIndex := 12, attributes := #[] }, { accessFlags := 18, nameIndex := 22, descriptorIndex := 12, attributes := #[] }])
  fields := #[{ name := "role", type := (.object "java/lang/String"), accessFlags := 18, slot := 0, constantValue := 0 }, { name := "kind", type := (.object "com/example/lane8/lane8/protocol/Action$Kind"), accessFlags := 18, slot := 1, constantValue := 0 }, { name := "type", type := (.object "java/lang/String"), accessFlags := 18, slot := 2, constantValue := 0 }, { name := "peer", type := (.object "java/lang/String"), accessFlags := 18, slot := 3, constantValue := 0 }]
  methods := #[k8m0, k8m1, k8m2, k8m3, k8m4]
  instanceTypes := #[(.object "java/lang/String"), (.object "com/example/lane8/lane8/protocol/Action$Kind"), (.object "java/lang/String"), (.object "java/lang/String")]
  staticTypes := #[]
  resolved := Array.replicate 88 none
  statics := none }

def pool9 : Array CpInfo := pool [(2, .class_ 4), (1, u "java/lang/CharSequence"), (42, .class_ 48), (0, u "java/lang/CharSequence$1CodePointIterator"), (10, .class_ 60), (0, u "java/lang/CharSequence$1CharIterator"), (5, .class_ 67), (0, u "java/lang/Object")] 63

/-- java/lang/CharSequence -/
def k9 : Class := { plain "java/lang/CharSequence" (some 0) with
  accessFlags := 1537
  interfaces := #[]
  cf := some (fileOf pool9 2 #[.nestMembers #[47, 59]] #[] 1537 66 #[] #[])
  fields := #[]
  methods := #[]
  instanceTypes := #[]
  staticTypes := #[]
  resolved := Array.replicate 131 none
  statics := none }

def pool10 : Array CpInfo := pool [(1, .class_ 2), (0, u "java/lang/constant/ConstantDesc"), (0, .class_ 4), (0, u "java/lang/Object")] 32

/-- java/lang/constant/ConstantDesc -/
def k10 : Class := { plain "java/lang/constant/ConstantDesc" (some 0) with
  accessFlags := 1537
  interfaces := #[]
  cf := some (fileOf pool10 1 #[] #[] 1537 3 #[] #[])
  fields := #[]
  methods := #[]
  instanceTypes := #[]
  staticTypes := #[]
  resolved := Array.replicate 37 none
  statics := none }

def pool11 : Array CpInfo := pool [(1, .methodref 2 3), (0, .class_ 4), (0, .nameAndType 5 6), (0, u "java/lang/Object"), (0, u "<init>"), (0, u "()V"), (0, .string 8), (0, u ""), (0, .fieldref 10 11), (0, .class_ 12), (0, .nameAndType 13 14), (0, u "java/lang/String"), (0, u "value"), (0, u "[B"), (0, .fieldref 10 16), (0, .nameAndType 17 18), (0, u "coder"), (0, u "B"), (2, u "hash"), (0, u "I"), (2, u "hashIsZero"), (0, u "Z"), (0, .methodref 10 28), (0, .nameAndType 5 29), (0, u "([CIILjava/lang/Void;)V"), (8, .fieldref 10 39), (0, .nameAndType 40 26), (0, u "COMPACT_STRINGS"), (1, .class_ 44), (1, u "java/lang/StringUTF16"), (0, u "compress"), (1, .methodref 42 48), (0, .nameAndType 49 50), (0, u "coderFromArrayLen"), (0, u "([BI)B"), (56, .class_ 109), (1, u "java/lang/StringLatin1"), (67, .methodref 42 178), (0, .nameAndType 45 179), (0, u "([CII)[B"), (361, .methodref 107 542), (0, .nameAndType 543 544), (0, u "equals"), (0, u "([B[B)Z"), (28, u "(Ljava/lang/Object;)Z"), (1, .class_ 576), (0, u "java/lang/CharSequence"), (22, u "CASE_INSENSITIVE_ORDER"), (0, u "Ljava/util/Comparator;"), (409, u "([C)V"), (90, u "serialPersistentFields"), (0, u "[Ljava/io/ObjectStreamField;"), (0, .class_ 1104), (0, u "java/lang/String$CaseInsensitiveComparator"), (1, .class_ 1107), (0, u "java/io/Serializable"), (0, .class_ 1109), (0, u "java/lang/Comparable"), (0, .class_ 1111), (0, u "java/lang/constant/Constable"), (0, .class_ 1113), (0, u "java/lang/constant/ConstantDesc"), (2, u "serialVersionUID"), (0, u "J"), (3, u "REPL"), (0, u "C"), (2, u "LATIN1"), (1, u "UTF16")] 323

def k11m0 : Method := { name := "<init>", desc := "()V", sig := { parameters := [], returnType := none }, accessFlags := 1, code := none }
def k11c1 : Code := { maxStack := 5, maxLocals := 2, code := jdk_42_method_3_code, exceptionTable := #[], attributes := #[] }
def k11m1 : Method := { name := "<init>", desc := "([C)V", sig := { parameters := [(.array .char)], returnType := none }, accessFlags := 1, code := some k11c1 }
def k11c2 : Code := { maxStack := 2, maxLocals := 3, code := jdk_42_method_66_code, exceptionTable := #[], attributes := #[] }
def k11m2 : Method := { name := "equals", desc := "(Ljava/lang/Object;)Z", sig := { parameters := [(.object "java/lang/Object")], returnType := some .boolean }, accessFlags := 1, code := some k11c2 }
def k11c3 : Code := { maxStack := 4, maxLocals := 6, code := jdk_42_method_149_code, exceptionTable := #[], attributes := #[] }
def k11m3 : Method := { name := "<init>", desc := "([CIILjava/lang/Void;)V", sig := { parameters := [(.array .char), .int, .int, (.object "java/lang/Void")], returnType := none }, accessFlags := 2, code := some k11c3 }
/-- java/lang/String -/
def k11 : Class := { plain "java/lang/String" (some 0) with
  accessFlags := 49
  interfaces := #[4, 3, 9, 2, 10]
  cf := some (fileOf pool11 10 #[.nestMembers #[1103]] #[{ accessFlags := 1, nameIndex := 5, descriptorIndex := 6, attributes := #[] }, { accessFlags := 1, nameIndex := 5, descriptorIndex := 1010, attributes := #[] }, { accessFlags := 1, nameIndex := 543, descriptorIndex := 573, attributes := #[] }, { accessFlags := 2, nameIndex := 5, descriptorIndex := 29, attributes := #[] }] 49 2 #[1106, 1108, 575, 1110, 1112] #[{ accessFlags := 18, nameIndex := 13, descriptorIndex := 14, attributes := #[] }, { accessFlags := 18, nameIndex := 17, descriptorIndex := 18, attributes := #[] }, { accessFlags := 2, nameIndex := 21, descriptorIndex := 22, attributes := #[] }, { accessFlags := 2, nameIndex := 25, descriptorIndex := 26, attributes := #[] }, { accessFlags := 26, nameIndex := 1116, descriptorIndex := 1117, attributes := #[] }, { accessFlags := 24, nameIndex := 40, descriptorIndex := 26, attributes := #[] }, { accessFlags := 26, nameIndex := 1101, descriptorIndex := 1102, attributes := #[] }, { accessFlags := 26, nameIndex := 1121, descriptorIndex := 1122, attributes := #[] }, { accessFlags := 25, nameIndex := 599, descriptorIndex := 600, attributes := #[] }, { accessFlags := 24, nameIndex := 1125, descriptorIndex := 18, attributes := #[] }, { accessFlags := 24, nameIndex := 1127, descriptorIndex := 18, attributes := #[] }])
  fields := #[{ name := "value", type := (.array .byte), accessFlags := 18, slot := 0, constantValue := 0 }, { name := "coder", type := .byte, accessFlags := 18, slot := 1, constantValue := 0 }, { name := "hash", type := .int, accessFlags := 2, slot := 2, constantValue := 0 }, { name := "hashIsZero", type := .boolean, accessFlags := 2, slot := 3, constantValue := 0 }, { name := "serialVersionUID", type := .long, accessFlags := 26, slot := 0, constantValue := 0 }, { name := "COMPACT_STRINGS", type := .boolean, accessFlags := 24, slot := 1, constantValue := 0 }, { name := "serialPersistentFields", type := (.array (.object "java/io/ObjectStreamField")), accessFlags := 26, slot := 2, constantValue := 0 }, { name := "REPL", type := .char, accessFlags := 26, slot := 3, constantValue := 0 }, { name := "CASE_INSENSITIVE_ORDER", type := (.object "java/util/Comparator"), accessFlags := 25, slot := 4, constantValue := 0 }, { name := "LATIN1", type := .byte, accessFlags := 24, slot := 5, constantValue := 0 }, { name := "UTF16", type := .byte, accessFlags := 24, slot := 6, constantValue := 0 }]
  methods := #[k11m0, k11m1, k11m2, k11m3]
  instanceTypes := #[(.array .byte), .byte, .int, .boolean]
  staticTypes := #[.long, .boolean, (.array (.object "java/io/ObjectStreamField")), .char, (.object "java/util/Comparator"), .byte, .byte]
  resolved := Array.replicate 1451 none
  statics := some 1 }

def pool12 : Array CpInfo := pool [(22, .class_ 24), (1, u "java/util/function/Predicate"), (2, .class_ 29), (1, u "java/lang/Object")] 71

/-- java/util/function/Predicate -/
def k12 : Class := { plain "java/util/function/Predicate" (some 0) with
  accessFlags := 1537
  interfaces := #[]
  cf := some (fileOf pool12 22 #[] #[] 1537 27 #[] #[])
  fields := #[]
  methods := #[]
  instanceTypes := #[]
  staticTypes := #[]
  resolved := Array.replicate 101 none
  statics := none }

def pool13 : Array CpInfo := pool [(1, .methodref 2 3), (0, .class_ 4), (0, .nameAndType 5 6), (0, u "java/lang/Record"), (0, u "<init>"), (0, u "()V"), (0, .fieldref 8 9), (0, .class_ 10), (0, .nameAndType 11 12), (0, u "com/example/lane8/lane8/protocol/ActionPattern"), (0, u "role"), (0, u "Ljava/lang/String;"), (0, .fieldref 8 14), (0, .nameAndType 15 16), (0, u "kind"), (0, u "Lcom/example/lane8/lane8/protocol/Action$Kind;"), (0, .fieldref 8 18), (0, .nameAndType 19 12), (0, u "type"), (0, .fieldref 8 21), (0, .nameAndType 22 12), (0, u "peer"), (1, .class_ 26), (1, u "java/lang/String"), (1, u "()Ljava/lang/String;"), (14, .methodref 24 44), (0, .nameAndType 45 46), (0, u "equals"), (0, u "(Ljava/lang/Object;)Z"), (16, u "(Ljava/lang/String;Lcom/example/lane8/lane8/protocol/Action$Kind;Ljava/lang/String;Ljava/lang/String;)V"), (0, .methodref 65 66), (0, .class_ 67), (0, .nameAndType 11 28), (0, u "com/example/lane8/lane8/protocol/Action"), (0, .methodref 8 69), (0, .nameAndType 70 71), (0, u "matches"), (0, u "(Ljava/lang/String;Ljava/lang/String;)Z"), (0, .methodref 65 73), (0, .nameAndType 15 74), (0, u "()Lcom/example/lane8/lane8/protocol/Action$Kind;"), (0, .methodref 65 76), (0, .nameAndType 19 28), (0, .methodref 65 78), (0, .nameAndType 22 28), (37, u "test"), (0, u "(Lcom/example/lane8/lane8/protocol/Action;)Z"), (11, .class_ 130), (0, u "java/util/function/Predicate"), (0, u "ANY")] 50

def k13c0 : Code := { maxStack := 2, maxLocals := 5, code := prog_69_method_1_code, exceptionTable := #[], attributes := #[] }
def k13m0 : Method := { name := "<init>", desc := "(Ljava/lang/String;Lcom/example/lane8/lane8/protocol/Action$Kind;Ljava/lang/String;Ljava/lang/String;)V", sig := { parameters := [(.object "java/lang/String"), (.object "com/example/lane8/lane8/protocol/Action$Kind"), (.object "java/lang/String"), (.object "java/lang/String")], returnType := none }, accessFlags := 1, code := some k13c0 }
def k13c1 : Code := { maxStack := 2, maxLocals := 2, code := prog_69_method_3_code, exceptionTable := #[], attributes := #[] }
def k13m1 : Method := { name := "test", desc := "(Lcom/example/lane8/lane8/protocol/Action;)Z", sig := { parameters := [(.object "com/example/lane8/lane8/protocol/Action")], returnType := some .boolean }, accessFlags := 1, code := some k13c1 }
def k13c2 : Code := { maxStack := 2, maxLocals := 2, code := prog_69_method_4_code, exceptionTable := #[], attributes := #[] }
def k13m2 : Method := { name := "matches", desc := "(Ljava/lang/String;Ljava/lang/String;)Z", sig := { parameters := [(.object "java/lang/String"), (.object "java/lang/String")], returnType := some .boolean }, accessFlags := 10, code := some k13c2 }
/-- com/example/lane8/lane8/protocol/ActionPattern -/
def k13 : Class := { plain "com/example/lane8/lane8/protocol/ActionPattern" (some 7) with
  accessFlags := 49
  interfaces := #[12]
  cf := some (fileOf pool13 8 #[] #[{ accessFlags := 1, nameIndex := 5, descriptorIndex := 63, attributes := #[] }, { accessFlags := 1, nameIndex := 116, descriptorIndex := 117, attributes := #[] }, { accessFlags := 10, nameIndex := 70, descriptorIndex := 71, attributes := #[] }] 49 2 #[129] #[{ accessFlags := 18, nameIndex := 11, descriptorIndex := 12, attributes := #[] }, { accessFlags := 18, nameIndex := 15, descriptorIndex := 16, attributes := #[] }, { accessFlags := 18, nameIndex := 19, descriptorIndex := 12, attributes := #[] }, { accessFlags := 18, nameIndex := 22, descriptorIndex := 12, attributes := #[] }, { accessFlags := 26, nameIndex := 131, descriptorIndex := 12, attributes := #[] }])
  fields := #[{ name := "role", type := (.object "java/lang/String"), accessFlags := 18, slot := 0, constantValue := 0 }, { name := "kind", type := (.object "com/example/lane8/lane8/protocol/Action$Kind"), accessFlags := 18, slot := 1, constantValue := 0 }, { name := "type", type := (.object "java/lang/String"), accessFlags := 18, slot := 2, constantValue := 0 }, { name := "peer", type := (.object "java/lang/String"), accessFlags := 18, slot := 3, constantValue := 0 }, { name := "ANY", type := (.object "java/lang/String"), accessFlags := 26, slot := 0, constantValue := 0 }]
  methods := #[k13m0, k13m1, k13m2]
  instanceTypes := #[(.object "java/lang/String"), (.object "com/example/lane8/lane8/protocol/Action$Kind"), (.object "java/lang/String"), (.object "java/lang/String")]
  staticTypes := #[(.object "java/lang/String")]
  resolved := Array.replicate 182 none
  statics := none }

def pool14 : Array CpInfo := pool [(4, .class_ 6), (1, u "java/lang/Object"), (0, u "<init>"), (0, u "()V"), (5, .class_ 16), (1, u "java/lang/StringLatin1"), (104, u "$assertionsDisabled"), (0, u "Z"), (98, .class_ 223), (1, u "java/lang/StringLatin1$LinesSpliterator"), (57, u "equals"), (0, u "([B[B)Z"), (107, .class_ 391), (0, u "java/lang/StringLatin1$CharsSpliterator")] 3

def k14m0 : Method := { name := "<init>", desc := "()V", sig := { parameters := [], returnType := none }, accessFlags := 0, code := none }
def k14c1 : Code := { maxStack := 3, maxLocals := 3, code := jdk_43_method_13_code, exceptionTable := #[], attributes := #[] }
def k14m1 : Method := { name := "equals", desc := "([B[B)Z", sig := { parameters := [(.array .byte), (.array .byte)], returnType := some .boolean }, accessFlags := 9, code := some k14c1 }
/-- java/lang/StringLatin1 -/
def k14 : Class := { plain "java/lang/StringLatin1" (some 0) with
  accessFlags := 48
  interfaces := #[]
  cf := some (fileOf pool14 14 #[.nestMembers #[390, 221]] #[{ accessFlags := 0, nameIndex := 7, descriptorIndex := 8, attributes := #[] }, { accessFlags := 9, nameIndex := 281, descriptorIndex := 282, attributes := #[] }] 48 4 #[] #[{ accessFlags := 4120, nameIndex := 121, descriptorIndex := 122, attributes := #[] }])
  fields := #[{ name := "$assertionsDisabled", type := .boolean, accessFlags := 4120, slot := 0, constantValue := 0 }]
  methods := #[k14m0, k14m1]
  instanceTypes := #[]
  staticTypes := #[.boolean]
  resolved := Array.replicate 395 none
  statics := none }

def pool15 : Array CpInfo := pool [(6, .class_ 8), (1, u "java/lang/Object"), (0, u "<init>"), (0, u "()V"), (1, .class_ 14), (1, u "java/lang/StringUTF16"), (31, u "$assertionsDisabled"), (0, u "Z"), (13, u "HI_BYTE_SHIFT"), (0, u "I"), (2, u "LO_BYTE_SHIFT"), (49, .methodref 12 116), (0, .nameAndType 117 118), (0, u "compress"), (0, u "([CI[BII)I"), (3, u "([CII)[B"), (138, u "coderFromArrayLen"), (0, u "([BI)B"), (106, .class_ 371), (1, u "java/lang/StringUTF16$LinesSpliterator"), (58, u "MAX_LENGTH"), (196, .class_ 628), (0, u "java/lang/StringUTF16$CodePointsSpliterator"), (0, .class_ 630), (0, u "java/lang/StringUTF16$CharsSpliterator")] 4

def k15m0 : Method := { name := "<init>", desc := "()V", sig := { parameters := [], returnType := none }, accessFlags := 0, code := none }
def k15c1 : Code := { maxStack := 2, maxLocals := 2, code := jdk_52_method_15_code, exceptionTable := #[], attributes := #[] }
def k15m1 : Method := { name := "coderFromArrayLen", desc := "([BI)B", sig := { parameters := [(.array .byte), .int], returnType := some .byte }, accessFlags := 8, code := some k15c1 }
def k15c2 : Code := { maxStack := 5, maxLocals := 6, code := jdk_52_method_16_code, exceptionTable := #[], attributes := #[] }
def k15m2 : Method := { name := "compress", desc := "([CII)[B", sig := { parameters := [(.array .char), .int, .int], returnType := some (.array .byte) }, accessFlags := 9, code := some k15c2 }
def k15c3 : Code := { maxStack := 3, maxLocals := 7, code := jdk_52_method_21_code, exceptionTable := #[], attributes := #[] }
def k15m3 : Method := { name := "compress", desc := "([CI[BII)I", sig := { parameters := [(.array .char), .int, (.array .byte), .int, .int], returnType := some .int }, accessFlags := 9, code := some k15c3 }
/-- java/lang/StringUTF16 -/
def k15 : Class := { plain "java/lang/StringUTF16" (some 0) with
  accessFlags := 48
  interfaces := #[]
  cf := some (fileOf pool15 12 #[.nestMembers #[627, 629, 369]] #[{ accessFlags := 0, nameIndex := 9, descriptorIndex := 10, attributes := #[] }, { accessFlags := 8, nameIndex := 261, descriptorIndex := 262, attributes := #[] }, { accessFlags := 9, nameIndex := 117, descriptorIndex := 122, attributes := #[] }, { accessFlags := 9, nameIndex := 117, descriptorIndex := 118, attributes := #[] }] 48 6 #[] #[{ accessFlags := 26, nameIndex := 61, descriptorIndex := 62, attributes := #[] }, { accessFlags := 26, nameIndex := 65, descriptorIndex := 62, attributes := #[] }, { accessFlags := 24, nameIndex := 430, descriptorIndex := 62, attributes := #[] }, { accessFlags := 4120, nameIndex := 46, descriptorIndex := 47, attributes := #[] }])
  fields := #[{ name := "HI_BYTE_SHIFT", type := .int, accessFlags := 26, slot := 0, constantValue := 0 }, { name := "LO_BYTE_SHIFT", type := .int, accessFlags := 26, slot := 1, constantValue := 0 }, { name := "MAX_LENGTH", type := .int, accessFlags := 24, slot := 2, constantValue := 0 }, { name := "$assertionsDisabled", type := .boolean, accessFlags := 4120, slot := 3, constantValue := 0 }]
  methods := #[k15m0, k15m1, k15m2, k15m3]
  instanceTypes := #[]
  staticTypes := #[.int, .int, .int, .boolean]
  resolved := Array.replicate 635 none
  statics := none }

def pool16 : Array CpInfo := pool [(2, .class_ 4), (1, u "java/lang/Object"), (0, u "<init>"), (0, u "()V"), (17, .class_ 26), (1, u "jdk/internal/util/Preconditions"), (28, .class_ 56), (0, u "jdk/internal/util/Preconditions$4"), (57, .class_ 115), (0, u "jdk/internal/util/Preconditions$1"), (7, u "SIOOBE_FORMATTER"), (0, u "Ljava/util/function/BiFunction;"), (0, .class_ 126), (0, u "jdk/internal/util/Preconditions$2"), (3, u "AIOOBE_FORMATTER"), (0, .class_ 132), (0, u "jdk/internal/util/Preconditions$3"), (3, u "IOOBE_FORMATTER")] 57

def k16m0 : Method := { name := "<init>", desc := "()V", sig := { parameters := [], returnType := none }, accessFlags := 1, code := none }
/-- jdk/internal/util/Preconditions -/
def k16 : Class := { plain "jdk/internal/util/Preconditions" (some 0) with
  accessFlags := 33
  interfaces := #[]
  cf := some (fileOf pool16 24 #[.nestMembers #[55, 131, 125, 114]] #[{ accessFlags := 1, nameIndex := 5, descriptorIndex := 6, attributes := #[] }] 33 2 #[] #[{ accessFlags := 25, nameIndex := 123, descriptorIndex := 124, attributes := #[] }, { accessFlags := 25, nameIndex := 130, descriptorIndex := 124, attributes := #[] }, { accessFlags := 25, nameIndex := 136, descriptorIndex := 124, attributes := #[] }])
  fields := #[{ name := "SIOOBE_FORMATTER", type := (.object "java/util/function/BiFunction"), accessFlags := 25, slot := 0, constantValue := 0 }, { name := "AIOOBE_FORMATTER", type := (.object "java/util/function/BiFunction"), accessFlags := 25, slot := 1, constantValue := 0 }, { name := "IOOBE_FORMATTER", type := (.object "java/util/function/BiFunction"), accessFlags := 25, slot := 2, constantValue := 0 }]
  methods := #[k16m0]
  instanceTypes := #[]
  staticTypes := #[(.object "java/util/function/BiFunction"), (.object "java/util/function/BiFunction"), (.object "java/util/function/BiFunction")]
  resolved := Array.replicate 194 none
  statics := some 2 }

def pool17 : Array CpInfo := pool [(9, u "<init>"), (6, .class_ 18), (1, u "java/lang/Object"), (0, u "()V"), (1, .class_ 23), (1, u "jdk/internal/util/ArraysSupport"), (0, u "LOG2_ARRAY_LONG_INDEX_SCALE"), (0, u "I"), (2, u "U"), (0, u "Ljdk/internal/misc/Unsafe;"), (8, u "BIG_ENDIAN"), (0, u "Z"), (8, u "LOG2_BYTE_BIT_SIZE"), (4, u "LOG2_ARRAY_INT_INDEX_SCALE"), (54, u "JLA"), (0, u "Ljdk/internal/access/JavaLangAccess;"), (11, u "LOG2_ARRAY_BOOLEAN_INDEX_SCALE"), (9, u "LOG2_ARRAY_BYTE_INDEX_SCALE"), (5, u "LOG2_ARRAY_CHAR_INDEX_SCALE"), (5, u "LOG2_ARRAY_SHORT_INDEX_SCALE"), (18, u "LOG2_ARRAY_FLOAT_INDEX_SCALE"), (24, u "LOG2_ARRAY_DOUBLE_INDEX_SCALE"), (89, u "T_BOOLEAN"), (2, u "T_CHAR"), (1, u "T_FLOAT"), (1, u "T_DOUBLE"), (1, u "T_BYTE"), (1, u "T_SHORT"), (1, u "T_INT"), (1, u "T_LONG"), (1, u "SOFT_MAX_ARRAY_LENGTH")] 83

def k17m0 : Method := { name := "<init>", desc := "()V", sig := { parameters := [], returnType := none }, accessFlags := 2, code := none }
/-- jdk/internal/util/ArraysSupport -/
def k17 : Class := { plain "jdk/internal/util/ArraysSupport" (some 0) with
  accessFlags := 33
  interfaces := #[]
  cf := some (fileOf pool17 21 #[] #[{ accessFlags := 2, nameIndex := 9, descriptorIndex := 19, attributes := #[] }] 33 16 #[] #[{ accessFlags := 24, nameIndex := 28, descriptorIndex := 29, attributes := #[] }, { accessFlags := 26, nameIndex := 38, descriptorIndex := 39, attributes := #[] }, { accessFlags := 25, nameIndex := 121, descriptorIndex := 25, attributes := #[] }, { accessFlags := 25, nameIndex := 131, descriptorIndex := 25, attributes := #[] }, { accessFlags := 25, nameIndex := 137, descriptorIndex := 25, attributes := #[] }, { accessFlags := 25, nameIndex := 143, descriptorIndex := 25, attributes := #[] }, { accessFlags := 25, nameIndex := 53, descriptorIndex := 25, attributes := #[] }, { accessFlags := 25, nameIndex := 24, descriptorIndex := 25, attributes := #[] }, { accessFlags := 25, nameIndex := 162, descriptorIndex := 25, attributes := #[] }, { accessFlags := 25, nameIndex := 187, descriptorIndex := 25, attributes := #[] }, { accessFlags := 26, nameIndex := 48, descriptorIndex := 25, attributes := #[] }, { accessFlags := 25, nameIndex := 277, descriptorIndex := 25, attributes := #[] }, { accessFlags := 25, nameIndex := 280, descriptorIndex := 25, attributes := #[] }, { accessFlags := 25, nameIndex := 282, descriptorIndex := 25, attributes := #[] }, { accessFlags := 25, nameIndex := 284, descriptorIndex := 25, attributes := #[] }, { accessFlags := 25, nameIndex := 286, descriptorIndex := 25, attributes := #[] }, { accessFlags := 25, nameIndex := 288, descriptorIndex := 25, attributes := #[] }, { accessFlags := 25, nameIndex := 290, descriptorIndex := 25, attributes := #[] }, { accessFlags := 25, nameIndex := 292, descriptorIndex := 25, attributes := #[] }, { accessFlags := 26, nameIndex := 108, descriptorIndex := 109, attributes := #[] }, { accessFlags := 25, nameIndex := 294, descriptorIndex := 25, attributes := #[] }])
  fields := #[{ name := "U", type := (.object "jdk/internal/misc/Unsafe"), accessFlags := 24, slot := 0, constantValue := 0 }, { name := "BIG_ENDIAN", type := .boolean, accessFlags := 26, slot := 1, constantValue := 0 }, { name := "LOG2_ARRAY_BOOLEAN_INDEX_SCALE", type := .int, accessFlags := 25, slot := 2, constantValue := 0 }, { name := "LOG2_ARRAY_BYTE_INDEX_SCALE", type := .int, accessFlags := 25, slot := 3, constantValue := 0 }, { name := "LOG2_ARRAY_CHAR_INDEX_SCALE", type := .int, accessFlags := 25, slot := 4, constantValue := 0 }, { name := "LOG2_ARRAY_SHORT_INDEX_SCALE", type := .int, accessFlags := 25, slot := 5, constantValue := 0 }, { name := "LOG2_ARRAY_INT_INDEX_SCALE", type := .int, accessFlags := 25, slot := 6, constantValue := 0 }, { name := "LOG2_ARRAY_LONG_INDEX_SCALE", type := .int, accessFlags := 25, slot := 7, constantValue := 0 }, { name := "LOG2_ARRAY_FLOAT_INDEX_SCALE", type := .int, accessFlags := 25, slot := 8, constantValue := 0 }, { name := "LOG2_ARRAY_DOUBLE_INDEX_SCALE", type := .int, accessFlags := 25, slot := 9, constantValue := 0 }, { name := "LOG2_BYTE_BIT_SIZE", type := .int, accessFlags := 26, slot := 10, constantValue := 0 }, { name := "T_BOOLEAN", type := .int, accessFlags := 25, slot := 11, constantValue := 0 }, { name := "T_CHAR", type := .int, accessFlags := 25, slot := 12, constantValue := 0 }, { name := "T_FLOAT", type := .int, accessFlags := 25, slot := 13, constantValue := 0 }, { name := "T_DOUBLE", type := .int, accessFlags := 25, slot := 14, constantValue := 0 }, { name := "T_BYTE", type := .int, accessFlags := 25, slot := 15, constantValue := 0 }, { name := "T_SHORT", type := .int, accessFlags := 25, slot := 16, constantValue := 0 }, { name := "T_INT", type := .int, accessFlags := 25, slot := 17, constantValue := 0 }, { name := "T_LONG", type := .int, accessFlags := 25, slot := 18, constantValue := 0 }, { name := "JLA", type := (.object "jdk/internal/access/JavaLangAccess"), accessFlags := 26, slot := 19, constantValue := 0 }, { name := "SOFT_MAX_ARRAY_LENGTH", type := .int, accessFlags := 25, slot := 20, constantValue := 0 }]
  methods := #[k17m0]
  instanceTypes := #[]
  staticTypes := #[(.object "jdk/internal/misc/Unsafe"), .boolean, .int, .int, .int, .int, .int, .int, .int, .int, .int, .int, .int, .int, .int, .int, .int, .int, .int, (.object "jdk/internal/access/JavaLangAccess"), .int]
  resolved := Array.replicate 378 none
  statics := none }

def pool18 : Array CpInfo := pool [(1, u "java/lang/Cloneable"), (0, .class_ 1), (0, u "java/lang/Object"), (0, .class_ 3)] 3

/-- java/lang/Cloneable -/
def k18 : Class := { plain "java/lang/Cloneable" (some 0) with
  accessFlags := 1537
  interfaces := #[]
  cf := some (fileOf pool18 2 #[] #[] 1537 4 #[] #[])
  fields := #[]
  methods := #[]
  instanceTypes := #[]
  staticTypes := #[]
  resolved := Array.replicate 8 none
  statics := none }

/-- the primitive byte -/
def k19 : Class := { plain "byte" none with kind := .primitive 'B', accessFlags := 0x411 }
/-- [B -/
def k20 : Class := { plain "[B" (some 0) with kind := .array 19 .byte, interfaces := #[18, 4], accessFlags := 1041 }

/-- the primitive char -/
def k21 : Class := { plain "char" none with kind := .primitive 'C', accessFlags := 0x411 }
/-- [C -/
def k22 : Class := { plain "[C" (some 0) with kind := .array 21 .char, interfaces := #[18, 4], accessFlags := 1041 }

/-- the primitive int -/
def k23 : Class := { plain "int" none with kind := .primitive 'I', accessFlags := 0x411 }
/-- [I -/
def k24 : Class := { plain "[I" (some 0) with kind := .array 23 .int, interfaces := #[18, 4], accessFlags := 1041 }

def heap : Heap := #[{ cls := 6, slots := #[.ref 3, .ref 4, .null], vm := .statics 6 },
  { cls := 11, slots := #[.long 0, .int 1, .null, .int 0, .null, .int 0, .int 0], vm := .statics 11 },
  { cls := 16, slots := #[.null, .null, .null], vm := .statics 16 },
  { cls := 6, slots := #[.null, .int 0, .int 0, .null], vm := .none },
  { cls := 6, slots := #[.null, .int 1, .int 0, .null], vm := .none }]
def classes : Array Class := #[k0, k1, k2, k3, k4, k5, k6, k7, k8, k9, k10, k11, k12, k13, k14, k15, k16, k17, k18, k19, k20, k21, k22, k23, k24]
def interned : List (Array UInt16 × Addr) := []
def slotsUsed : Nat := 21
def theMethod : MethodId := ⟨1, 8⟩
def args0 : Array Value := #[.int 5, .int 6, .int 7, .int 8, .int 9, .int 10]
def aboutOver (below : List Frame) : State where
  vm := { classes := classes, interned := interned.toArray }
  heap := heap
  slotsUsed := slotsUsed
  threads := #[{ frames := .invoking theMethod args0 :: below }]
def below0 : List Frame := [.native { method := ⟨0, 0⟩, args := #[] }]
def about1 : State := aboutOver below0
def p0 : Program := .bare "" "" ""
def e0 : Env := launch0.env 0 0 0
theorem w_frames : about1.frames = Frame.invoking theMethod args0 :: below0 := rfl
set_option maxRecDepth 65536 in
theorem w_args : argsFit about1.vm theMethod args0 = true := by decide +kernel
set_option maxRecDepth 65536 in
theorem w_heap : heapFits about1 = true := by decide +kernel
set_option maxRecDepth 65536 in
theorem w_runnable : about1.curStatus? = some .runnable := by decide +kernel
set_option maxRecDepth 65536 in
theorem w_alone : about1.alone = true := by decide +kernel
set_option maxRecDepth 65536 in
theorem w_named : about1.methodNamed? x = some theMethod := by decide +kernel
set_option maxRecDepth 65536 in
theorem w_hears : about1.hears theMethod below0 = true := by decide +kernel
set_option maxRecDepth 65536 in
theorem w_ripe : about1.ripe theMethod args0 below0 = true := by decide +kernel
theorem w_running : about1.status = .running := rfl
set_option maxRecDepth 65536 in
theorem w_room : about1.hasRoom e0.platform room_1 = true :=
  launch0.hasRoom_least _ room_1 (by decide +kernel) (by decide +kernel) (by decide +kernel) (by decide +kernel) (by decide +kernel) (by decide +kernel)
theorem allAtoms_all (ts : List Jvm.Cond) (a : Array Jvm.Value) (st : Jvm.State) : (allAtoms ts).before a st = ts.all (fun c => c.before a st) := by
  induction ts with
  | nil => rfl
  | cons c t ih =>
    show (Jvm.Cond.and c (allAtoms t)).before a st = _
    rw [Jvm.Cond.before_and, ih, List.all_cons]
def words1 : List Jvm.Cond := Jvm.Cond.code x code maxLocals ret :: tables_1
/-- a 'code' word, met by the world's own term for the bytes: nothing is compared byte by byte -/
theorem code_word {y : MethodName} {bytes : ByteArray} {mx : Nat} {rt : Option FieldType} {a : Array Value} {s : State} {m : MethodId} {meth : Method} {c : Code} (h1 : s.methodNamed? y = some m) (h2 : s.vm.method? m = some meth) (h3 : meth.code = some c) (h4 : c.code = bytes)
    (h5 : (c.maxLocals == mx && c.exceptionTable.isEmpty && decide (c.maxStack ≤ mostOperands) && decide (meth.sig.returnType = rt) && !meth.locks && decide (parseMethodDescriptor y.desc = some meth.sig)) = true) : (Jvm.Cond.code y bytes mx rt).before a s = true := by
  simp only [Bool.and_eq_true, beq_iff_eq, Bool.not_eq_true', decide_eq_true_eq] at h5
  obtain ⟨⟨⟨⟨⟨g1, g2⟩, g3⟩, g4⟩, g5⟩, g6⟩ := h5
  simp [Cond.before, Cond.holds, Cond.value, h1, h2, h3, h4, g1, g2, g3, g4, g5, g6]
def isCode : Jvm.Cond → Bool
  | .code _ _ _ _ => true
  | _ => false
theorem all_split {L : List Jvm.Cond} {P : Jvm.Cond → Bool} (h1 : L.all (fun c => isCode c || P c) = true) (h2 : ∀ c ∈ L.filter isCode, P c = true) : L.all P = true := by
  refine List.all_eq_true.mpr fun c hc => ?_
  have h := List.all_eq_true.mp h1 c hc
  rcases Bool.eq_false_or_eq_true (isCode c) with hi | hi
  · exact h2 c (List.mem_filter.mpr ⟨hc, hi⟩)
  · simpa [hi] using h
set_option maxRecDepth 65536 in
theorem w_c0 : (Jvm.Cond.code x code maxLocals ret).before args0 about1 = true := code_word (m := ⟨1, 8⟩) (meth := k1m8) (c := k1c8) (by decide +kernel) rfl rfl rfl (by decide +kernel)
set_option maxRecDepth 65536 in
theorem w_c1 : (Jvm.Cond.code ({ cls := "com/example/lane8/lane8/protocol/ActionPatternTestPinLaw", name := "str", desc := "(I)Ljava/lang/String;" } : Jvm.MethodName) method_5_code (2 : Nat) (Option.some (Jvm.ClassFile.FieldType.object "java/lang/String"))).before args0 about1 = true := code_word (m := ⟨1, 4⟩) (meth := k1m4) (c := k1c4) (by decide +kernel) rfl rfl rfl (by decide +kernel)
set_option maxRecDepth 65536 in
theorem w_c2 : (Jvm.Cond.code ({ cls := "com/example/lane8/lane8/protocol/ActionPatternTestPinLaw", name := "len", desc := "(I)I" } : Jvm.MethodName) method_2_code (1 : Nat) (Option.some Jvm.ClassFile.FieldType.int)).before args0 about1 = true := code_word (m := ⟨1, 1⟩) (meth := k1m1) (c := k1c1) (by decide +kernel) rfl rfl rfl (by decide +kernel)
set_option maxRecDepth 65536 in
theorem w_c3 : (Jvm.Cond.code ({ cls := "java/lang/String", name := "<init>", desc := "([C)V" } : Jvm.MethodName) jdk_42_method_3_code (2 : Nat) (Option.none : Option Jvm.ClassFile.FieldType)).before args0 about1 = true := code_word (m := ⟨11, 1⟩) (meth := k11m1) (c := k11c1) (by decide +kernel) rfl rfl rfl (by decide +kernel)
set_option maxRecDepth 65536 in
theorem w_c4 : (Jvm.Cond.code ({ cls := "java/lang/String", name := "<init>", desc := "([CIILjava/lang/Void;)V" } : Jvm.MethodName) jdk_42_method_149_code (6 : Nat) (Option.none : Option Jvm.ClassFile.FieldType)).before args0 about1 = true := code_word (m := ⟨11, 3⟩) (meth := k11m3) (c := k11c3) (by decide +kernel) rfl rfl rfl (by decide +kernel)
set_option maxRecDepth 65536 in
theorem w_c5 : (Jvm.Cond.code ({ cls := "java/lang/Object", name := "<init>", desc := "()V" } : Jvm.MethodName) object_method_1_code (1 : Nat) (Option.none : Option Jvm.ClassFile.FieldType)).before args0 about1 = true := code_word (m := ⟨0, 0⟩) (meth := k0m0) (c := k0c0) (by decide +kernel) rfl rfl rfl (by decide +kernel)
set_option maxRecDepth 65536 in
theorem w_c6 : (Jvm.Cond.code ({ cls := "com/example/lane8/lane8/protocol/Action", name := "<init>", desc := "(Ljava/lang/String;Lcom/example/lane8/lane8/protocol/Action$Kind;Ljava/lang/String;Ljava/lang/String;)V" } : Jvm.MethodName) prog_67_method_1_code (5 : Nat) (Option.none : Option Jvm.ClassFile.FieldType)).before args0 about1 = true := code_word (m := ⟨8, 0⟩) (meth := k8m0) (c := k8c0) (by decide +kernel) rfl rfl rfl (by decide +kernel)
set_option maxRecDepth 65536 in
theorem w_c7 : (Jvm.Cond.code ({ cls := "java/lang/Record", name := "<init>", desc := "()V" } : Jvm.MethodName) jdk_30_method_1_code (1 : Nat) (Option.none : Option Jvm.ClassFile.FieldType)).before args0 about1 = true := code_word (m := ⟨7, 0⟩) (meth := k7m0) (c := k7c0) (by decide +kernel) rfl rfl rfl (by decide +kernel)
set_option maxRecDepth 65536 in
theorem w_c8 : (Jvm.Cond.code ({ cls := "com/example/lane8/lane8/protocol/ActionPatternTestPinLaw", name := "pat", desc := "(II)Ljava/lang/String;" } : Jvm.MethodName) method_7_code (3 : Nat) (Option.some (Jvm.ClassFile.FieldType.object "java/lang/String"))).before args0 about1 = true := code_word (m := ⟨1, 6⟩) (meth := k1m6) (c := k1c6) (by decide +kernel) rfl rfl rfl (by decide +kernel)
set_option maxRecDepth 65536 in
theorem w_c9 : (Jvm.Cond.code ({ cls := "com/example/lane8/lane8/protocol/ActionPattern", name := "<init>", desc := "(Ljava/lang/String;Lcom/example/lane8/lane8/protocol/Action$Kind;Ljava/lang/String;Ljava/lang/String;)V" } : Jvm.MethodName) prog_69_method_1_code (5 : Nat) (Option.none : Option Jvm.ClassFile.FieldType)).before args0 about1 = true := code_word (m := ⟨13, 0⟩) (meth := k13m0) (c := k13c0) (by decide +kernel) rfl rfl rfl (by decide +kernel)
set_option maxRecDepth 65536 in
theorem w_c10 : (Jvm.Cond.code ({ cls := "com/example/lane8/lane8/protocol/ActionPatternTestPinLaw", name := "fits", desc := "(II)Z" } : Jvm.MethodName) method_8_code (3 : Nat) (Option.some Jvm.ClassFile.FieldType.boolean)).before args0 about1 = true := code_word (m := ⟨1, 7⟩) (meth := k1m7) (c := k1c7) (by decide +kernel) rfl rfl rfl (by decide +kernel)
set_option maxRecDepth 65536 in
theorem w_c11 : (Jvm.Cond.code ({ cls := "com/example/lane8/lane8/protocol/ActionPatternTestPinLaw", name := "same", desc := "(II)Z" } : Jvm.MethodName) method_6_code (3 : Nat) (Option.some Jvm.ClassFile.FieldType.boolean)).before args0 about1 = true := code_word (m := ⟨1, 5⟩) (meth := k1m5) (c := k1c5) (by decide +kernel) rfl rfl rfl (by decide +kernel)
set_option maxRecDepth 65536 in
theorem w_c12 : (Jvm.Cond.code ({ cls := "com/example/lane8/lane8/protocol/ActionPattern", name := "test", desc := "(Lcom/example/lane8/lane8/protocol/Action;)Z" } : Jvm.MethodName) prog_69_method_3_code (2 : Nat) (Option.some Jvm.ClassFile.FieldType.boolean)).before args0 about1 = true := code_word (m := ⟨13, 1⟩) (meth := k13m1) (c := k13c1) (by decide +kernel) rfl rfl rfl (by decide +kernel)
set_option maxRecDepth 65536 in
theorem w_c13 : (Jvm.Cond.code ({ cls := "com/example/lane8/lane8/protocol/Action", name := "role", desc := "()Ljava/lang/String;" } : Jvm.MethodName) prog_67_method_5_code (1 : Nat) (Option.some (Jvm.ClassFile.FieldType.object "java/lang/String"))).before args0 about1 = true := code_word (m := ⟨8, 1⟩) (meth := k8m1) (c := k8c1) (by decide +kernel) rfl rfl rfl (by decide +kernel)
set_option maxRecDepth 65536 in
theorem w_c14 : (Jvm.Cond.code ({ cls := "com/example/lane8/lane8/protocol/ActionPattern", name := "matches", desc := "(Ljava/lang/String;Ljava/lang/String;)Z" } : Jvm.MethodName) prog_69_method_4_code (2 : Nat) (Option.some Jvm.ClassFile.FieldType.boolean)).before args0 about1 = true := code_word (m := ⟨13, 2⟩) (meth := k13m2) (c := k13c2) (by decide +kernel) rfl rfl rfl (by decide +kernel)
set_option maxRecDepth 65536 in
theorem w_c15 : (Jvm.Cond.code ({ cls := "java/lang/String", name := "equals", desc := "(Ljava/lang/Object;)Z" } : Jvm.MethodName) jdk_42_method_66_code (3 : Nat) (Option.some Jvm.ClassFile.FieldType.boolean)).before args0 about1 = true := code_word (m := ⟨11, 2⟩) (meth := k11m2) (c := k11c2) (by decide +kernel) rfl rfl rfl (by decide +kernel)
set_option maxRecDepth 65536 in
theorem w_c16 : (Jvm.Cond.code ({ cls := "java/lang/StringLatin1", name := "equals", desc := "([B[B)Z" } : Jvm.MethodName) jdk_43_method_13_code (3 : Nat) (Option.some Jvm.ClassFile.FieldType.boolean)).before args0 about1 = true := code_word (m := ⟨14, 1⟩) (meth := k14m1) (c := k14c1) (by decide +kernel) rfl rfl rfl (by decide +kernel)
set_option maxRecDepth 65536 in
theorem w_c17 : (Jvm.Cond.code ({ cls := "com/example/lane8/lane8/protocol/Action", name := "kind", desc := "()Lcom/example/lane8/lane8/protocol/Action$Kind;" } : Jvm.MethodName) prog_67_method_6_code (1 : Nat) (Option.some (Jvm.ClassFile.FieldType.object "com/example/lane8/lane8/protocol/Action$Kind"))).before args0 about1 = true := code_word (m := ⟨8, 2⟩) (meth := k8m2) (c := k8c2) (by decide +kernel) rfl rfl rfl (by decide +kernel)
set_option maxRecDepth 65536 in
theorem w_c18 : (Jvm.Cond.code ({ cls := "com/example/lane8/lane8/protocol/Action", name := "type", desc := "()Ljava/lang/String;" } : Jvm.MethodName) prog_67_method_7_code (1 : Nat) (Option.some (Jvm.ClassFile.FieldType.object "java/lang/String"))).before args0 about1 = true := code_word (m := ⟨8, 3⟩) (meth := k8m3) (c := k8c3) (by decide +kernel) rfl rfl rfl (by decide +kernel)
set_option maxRecDepth 65536 in
theorem w_c19 : (Jvm.Cond.code ({ cls := "com/example/lane8/lane8/protocol/Action", name := "peer", desc := "()Ljava/lang/String;" } : Jvm.MethodName) prog_67_method_8_code (1 : Nat) (Option.some (Jvm.ClassFile.FieldType.object "java/lang/String"))).before args0 about1 = true := code_word (m := ⟨8, 4⟩) (meth := k8m4) (c := k8c4) (by decide +kernel) rfl rfl rfl (by decide +kernel)
set_option maxRecDepth 65536 in
theorem w_c20 : (Jvm.Cond.code ({ cls := "com/example/lane8/lane8/protocol/ActionPatternTestPinLaw", name := "c0", desc := "(I)C" } : Jvm.MethodName) method_3_code (1 : Nat) (Option.some Jvm.ClassFile.FieldType.char)).before args0 about1 = true := code_word (m := ⟨1, 2⟩) (meth := k1m2) (c := k1c2) (by decide +kernel) rfl rfl rfl (by decide +kernel)
set_option maxRecDepth 65536 in
theorem w_c21 : (Jvm.Cond.code ({ cls := "java/lang/StringUTF16", name := "compress", desc := "([CII)[B" } : Jvm.MethodName) jdk_52_method_16_code (6 : Nat) (Option.some (Jvm.ClassFile.FieldType.array Jvm.ClassFile.FieldType.byte))).before args0 about1 = true := code_word (m := ⟨15, 2⟩) (meth := k15m2) (c := k15c2) (by decide +kernel) rfl rfl rfl (by decide +kernel)
set_option maxRecDepth 65536 in
theorem w_c22 : (Jvm.Cond.code ({ cls := "java/lang/StringUTF16", name := "compress", desc := "([CI[BII)I" } : Jvm.MethodName) jdk_52_method_21_code (7 : Nat) (Option.some Jvm.ClassFile.FieldType.int)).before args0 about1 = true := code_word (m := ⟨15, 3⟩) (meth := k15m3) (c := k15c3) (by decide +kernel) rfl rfl rfl (by decide +kernel)
set_option maxRecDepth 65536 in
theorem w_c23 : (Jvm.Cond.code ({ cls := "java/lang/StringUTF16", name := "coderFromArrayLen", desc := "([BI)B" } : Jvm.MethodName) jdk_52_method_15_code (2 : Nat) (Option.some Jvm.ClassFile.FieldType.byte)).before args0 about1 = true := code_word (m := ⟨15, 1⟩) (meth := k15m1) (c := k15c1) (by decide +kernel) rfl rfl rfl (by decide +kernel)
set_option maxRecDepth 65536 in
theorem w_c24 : (Jvm.Cond.code ({ cls := "com/example/lane8/lane8/protocol/ActionPatternTestPinLaw", name := "c1", desc := "(I)C" } : Jvm.MethodName) method_4_code (1 : Nat) (Option.some Jvm.ClassFile.FieldType.char)).before args0 about1 = true := code_word (m := ⟨1, 3⟩) (meth := k1m3) (c := k1c3) (by decide +kernel) rfl rfl rfl (by decide +kernel)
def codes1 : List Jvm.Cond := [Jvm.Cond.code x code maxLocals ret, Jvm.Cond.code ({ cls := "com/example/lane8/lane8/protocol/ActionPatternTestPinLaw", name := "str", desc := "(I)Ljava/lang/String;" } : Jvm.MethodName) method_5_code (2 : Nat) (Option.some (Jvm.ClassFile.FieldType.object "java/lang/String")), Jvm.Cond.code ({ cls := "com/example/lane8/lane8/protocol/ActionPatternTestPinLaw", name := "len", desc := "(I)I" } : Jvm.MethodName) method_2_code (1 : Nat) (Option.some Jvm.ClassFile.FieldType.int), Jvm.Cond.code ({ cls := "java/lang/String", name := "<init>", desc := "([C)V" } : Jvm.MethodName) jdk_42_method_3_code (2 : Nat) (Option.none : Option Jvm.ClassFile.FieldType), Jvm.Cond.code ({ cls := "java/lang/String", name := "<init>", desc := "([CIILjava/lang/Void;)V" } : Jvm.MethodName) jdk_42_method_149_code (6 : Nat) (Option.none : Option Jvm.ClassFile.FieldType), Jvm.Cond.code ({ cls := "java/lang/Object", name := "<init>", desc := "()V" } : Jvm.MethodName) object_method_1_code (1 : Nat) (Option.none : Option Jvm.ClassFile.FieldType), Jvm.Cond.code ({ cls := "com/example/lane8/lane8/protocol/Action", name := "<init>", desc := "(Ljava/lang/String;Lcom/example/lane8/lane8/protocol/Action$Kind;Ljava/lang/String;Ljava/lang/String;)V" } : Jvm.MethodName) prog_67_method_1_code (5 : Nat) (Option.none : Option Jvm.ClassFile.FieldType), Jvm.Cond.code ({ cls := "java/lang/Record", name := "<init>", desc := "()V" } : Jvm.MethodName) jdk_30_method_1_code (1 : Nat) (Option.none : Option Jvm.ClassFile.FieldType), Jvm.Cond.code ({ cls := "com/example/lane8/lane8/protocol/ActionPatternTestPinLaw", name := "pat", desc := "(II)Ljava/lang/String;" } : Jvm.MethodName) method_7_code (3 : Nat) (Option.some (Jvm.ClassFile.FieldType.object "java/lang/String")), Jvm.Cond.code ({ cls := "com/example/lane8/lane8/protocol/ActionPattern", name := "<init>", desc := "(Ljava/lang/String;Lcom/example/lane8/lane8/protocol/Action$Kind;Ljava/lang/String;Ljava/lang/String;)V" } : Jvm.MethodName) prog_69_method_1_code (5 : Nat) (Option.none : Option Jvm.ClassFile.FieldType), Jvm.Cond.code ({ cls := "com/example/lane8/lane8/protocol/ActionPatternTestPinLaw", name := "fits", desc := "(II)Z" } : Jvm.MethodName) method_8_code (3 : Nat) (Option.some Jvm.ClassFile.FieldType.boolean), Jvm.Cond.code ({ cls := "com/example/lane8/lane8/protocol/ActionPatternTestPinLaw", name := "same", desc := "(II)Z" } : Jvm.MethodName) method_6_code (3 : Nat) (Option.some Jvm.ClassFile.FieldType.boolean), Jvm.Cond.code ({ cls := "com/example/lane8/lane8/protocol/ActionPattern", name := "test", desc := "(Lcom/example/lane8/lane8/protocol/Action;)Z" } : Jvm.MethodName) prog_69_method_3_code (2 : Nat) (Option.some Jvm.ClassFile.FieldType.boolean), Jvm.Cond.code ({ cls := "com/example/lane8/lane8/protocol/Action", name := "role", desc := "()Ljava/lang/String;" } : Jvm.MethodName) prog_67_method_5_code (1 : Nat) (Option.some (Jvm.ClassFile.FieldType.object "java/lang/String")), Jvm.Cond.code ({ cls := "com/example/lane8/lane8/protocol/ActionPattern", name := "matches", desc := "(Ljava/lang/String;Ljava/lang/String;)Z" } : Jvm.MethodName) prog_69_method_4_code (2 : Nat) (Option.some Jvm.ClassFile.FieldType.boolean), Jvm.Cond.code ({ cls := "java/lang/String", name := "equals", desc := "(Ljava/lang/Object;)Z" } : Jvm.MethodName) jdk_42_method_66_code (3 : Nat) (Option.some Jvm.ClassFile.FieldType.boolean), Jvm.Cond.code ({ cls := "java/lang/StringLatin1", name := "equals", desc := "([B[B)Z" } : Jvm.MethodName) jdk_43_method_13_code (3 : Nat) (Option.some Jvm.ClassFile.FieldType.boolean), Jvm.Cond.code ({ cls := "com/example/lane8/lane8/protocol/Action", name := "kind", desc := "()Lcom/example/lane8/lane8/protocol/Action$Kind;" } : Jvm.MethodName) prog_67_method_6_code (1 : Nat) (Option.some (Jvm.ClassFile.FieldType.object "com/example/lane8/lane8/protocol/Action$Kind")), Jvm.Cond.code ({ cls := "com/example/lane8/lane8/protocol/Action", name := "type", desc := "()Ljava/lang/String;" } : Jvm.MethodName) prog_67_method_7_code (1 : Nat) (Option.some (Jvm.ClassFile.FieldType.object "java/lang/String")), Jvm.Cond.code ({ cls := "com/example/lane8/lane8/protocol/Action", name := "peer", desc := "()Ljava/lang/String;" } : Jvm.MethodName) prog_67_method_8_code (1 : Nat) (Option.some (Jvm.ClassFile.FieldType.object "java/lang/String")), Jvm.Cond.code ({ cls := "com/example/lane8/lane8/protocol/ActionPatternTestPinLaw", name := "c0", desc := "(I)C" } : Jvm.MethodName) method_3_code (1 : Nat) (Option.some Jvm.ClassFile.FieldType.char), Jvm.Cond.code ({ cls := "java/lang/StringUTF16", name := "compress", desc := "([CII)[B" } : Jvm.MethodName) jdk_52_method_16_code (6 : Nat) (Option.some (Jvm.ClassFile.FieldType.array Jvm.ClassFile.FieldType.byte)), Jvm.Cond.code ({ cls := "java/lang/StringUTF16", name := "compress", desc := "([CI[BII)I" } : Jvm.MethodName) jdk_52_method_21_code (7 : Nat) (Option.some Jvm.ClassFile.FieldType.int), Jvm.Cond.code ({ cls := "java/lang/StringUTF16", name := "coderFromArrayLen", desc := "([BI)B" } : Jvm.MethodName) jdk_52_method_15_code (2 : Nat) (Option.some Jvm.ClassFile.FieldType.byte), Jvm.Cond.code ({ cls := "com/example/lane8/lane8/protocol/ActionPatternTestPinLaw", name := "c1", desc := "(I)C" } : Jvm.MethodName) method_4_code (1 : Nat) (Option.some Jvm.ClassFile.FieldType.char)]
set_option maxRecDepth 65536 in
theorem codes_eq : words1.filter isCode = codes1 := rfl
theorem w_codes : ∀ c ∈ words1.filter isCode, c.before args0 about1 = true := by
  rw [codes_eq]
  intro c hc
  simp only [codes1, List.mem_cons, List.not_mem_nil, or_false] at hc
  rcases hc with rfl | rfl | rfl | rfl | rfl | rfl | rfl | rfl | rfl | rfl | rfl | rfl | rfl | rfl | rfl | rfl | rfl | rfl | rfl | rfl | rfl | rfl | rfl | rfl | rfl
  · exact w_c0
  · exact w_c1
  · exact w_c2
  · exact w_c3
  · exact w_c4
  · exact w_c5
  · exact w_c6
  · exact w_c7
  · exact w_c8
  · exact w_c9
  · exact w_c10
  · exact w_c11
  · exact w_c12
  · exact w_c13
  · exact w_c14
  · exact w_c15
  · exact w_c16
  · exact w_c17
  · exact w_c18
  · exact w_c19
  · exact w_c20
  · exact w_c21
  · exact w_c22
  · exact w_c23
  · exact w_c24
set_option maxRecDepth 65536 in
theorem w_t1 : (words1.take 24).all (fun c => isCode c || c.before args0 about1) = true := by decide +kernel
set_option maxRecDepth 65536 in
theorem w_t2 : ((words1.drop 24).take 24).all (fun c => isCode c || c.before args0 about1) = true := by decide +kernel
set_option maxRecDepth 65536 in
theorem w_t3 : (((words1.drop 24).drop 24).take 24).all (fun c => isCode c || c.before args0 about1) = true := by decide +kernel
set_option maxRecDepth 65536 in
theorem w_t4 : ((((words1.drop 24).drop 24).drop 24).take 24).all (fun c => isCode c || c.before args0 about1) = true := by decide +kernel
set_option maxRecDepth 65536 in
theorem w_t5 : (((((words1.drop 24).drop 24).drop 24).drop 24).take 24).all (fun c => isCode c || c.before args0 about1) = true := by decide +kernel
set_option maxRecDepth 65536 in
theorem w_t6 : (((((words1.drop 24).drop 24).drop 24).drop 24).drop 24).all (fun c => isCode c || c.before args0 about1) = true := by decide +kernel
theorem w_tables : (allAtoms (Jvm.Cond.code x code maxLocals ret :: tables_1)).before args0 about1 = true := by
  rw [allAtoms_all]
  show words1.all (fun c => c.before args0 about1) = true
  refine all_split ?_ w_codes
  rw [← List.take_append_drop 24 words1, List.all_append, w_t1, ← List.take_append_drop 24 (words1.drop 24), List.all_append, w_t2, ← List.take_append_drop 24 ((words1.drop 24).drop 24), List.all_append, w_t3, ← List.take_append_drop 24 (((words1.drop 24).drop 24).drop 24), List.all_append, w_t4, ← List.take_append_drop 24 ((((words1.drop 24).drop 24).drop 24).drop 24), List.all_append, w_t5, w_t6]
  rfl
set_option maxRecDepth 65536 in
theorem w_rest : rest_1_c.before args0 about1 = true := by decide +kernel
set_option maxRecDepth 65536 in
theorem w_case : (Jvm.Cond.and given_1 narrow_1).before args0 about1 = true := by decide +kernel
set_option maxRecDepth 65536 in
theorem w_consts : constsHeld consts_1 about1 := Jvm.Lit.constsHeldB_iff.mp (by decide +kernel)
theorem w_applies : (headSpec (Jvm.Cond.code x code maxLocals ret :: tables_1) room_1).applies x e0.platform about1 = true :=
  (Spec.applies_iff w_frames).mpr ⟨w_running, w_runnable, w_alone, w_named, w_hears, w_ripe, w_room, w_tables⟩
theorem atStart : AtStart classFile x code maxLocals ret World_1 tables_1 room_1 Calls_1 rest_1 Pre_1 launch0 p0 e0 about1 theMethod args0 below0 :=
  ⟨lists_1, trivial, launch0.admits_env _ _ _, launch0.least_env, fairChoices_fair.cas, fairChoices_fair.clock, w_frames, w_args, w_heap, w_applies, ⟨w_consts, trivial⟩, w_rest, w_case⟩
end start1
theorem witness_1 : WitnessClaimed_1 := ⟨start1.p0, start1.e0, start1.about1, start1.theMethod, start1.args0, start1.below0, start1.atStart⟩
end Jvm.Pilot.@@N@@
